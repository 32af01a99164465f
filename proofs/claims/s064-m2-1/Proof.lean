import JvmDerived
import JvmDerived.Pilot.@@N@@Statement
import JvmDerived.Pilot.@@N@@Code
set_option linter.unusedVariables false
set_option linter.unusedSimpArgs false
@@BLOCK:NumsL.lean.txt@@
namespace Jvm.Pilot.@@N@@
open Jvm Jvm.ClassFile Sem Op Lib Jvm.Free Jvm.Stand Jvm.LawKit Jvm.RoadKit Bundle Jvm.Pilot.@@N@@.Jvm.D
namespace Own
open Jvm.FP Jvm.Free.Fl
/-- the datum with its exponent less by e -/
def sh (e : Int) : Core.Datum → Core.Datum
  | .nan => .nan
  | .inf s => .inf s
  | .fin s c q => .fin s c (q - e)
/-- d is the number i * 2 ^ e -/
def Dyd (i e : Int) (d : Core.Datum) : Prop := Core.Whole i (sh e d)
def Dy (i e : Int) (a : UInt64) : Prop := Dyd i e (Core.val64 a)
theorem sh_zero (d : Core.Datum) : sh 0 d = d := by cases d <;> simp [sh]
theorem dyd_whole {i : Int} {d : Core.Datum} : Dyd i 0 d ↔ Core.Whole i d := by unfold Dyd; rw [sh_zero]
theorem dy_of_int {i : Int} {a : UInt64} (h : Core.DInt i a) : Dy i 0 a := dyd_whole.mpr h
theorem dy_i2d (n : Int32) : Dy n.toInt 0 (FP.i2d n) := dy_of_int (Core.i2d_int n)
theorem dy_l2d {n : Int64} (h : n.toInt.natAbs ≤ 2 ^ 53) : Dy n.toInt 0 (FP.l2d n) := dy_of_int (Core.l2d_int h)
theorem Dyd.ne_nan {i e : Int} {d : Core.Datum} (h : Dyd i e d) : d ≠ .nan := by rintro rfl; exact h.elim
theorem Dy.noNaN {i e : Int} {a : UInt64} (h : Dy i e a) : NoNaN64 a := val64_no.mpr h.ne_nan
theorem Dy.fin {i e : Int} {a : UInt64} (h : Dy i e a) : Fin64 a := by
  refine fin64_core.mpr ?_
  unfold Dy at h
  revert h
  unfold Core.DFin
  cases Core.val64 a with
  | nan => exact fun h => h.elim
  | inf => exact fun h => h.elim
  | fin s c q => exact fun _ => ⟨s, c, q, rfl⟩
theorem sh_sum (e : Int) (x y : Core.Datum) : sh e (Core.exactSum x y) = Core.exactSum (sh e x) (sh e y) := by
  cases x with
  | nan => rfl
  | inf s =>
    cases y with
    | nan => rfl
    | inf t => by_cases h : s = t <;> simp only [Core.exactSum, sh, h, if_true, if_false]
    | fin t d r => rfl
  | fin s c q =>
    cases y with
    | nan => rfl
    | inf t => rfl
    | fin t d r =>
      have h1 : min (q - e) (r - e) = min q r - e := by omega
      have h2 : Core.sumUnits s c (q - e) t d (r - e) (min q r - e) = Core.sumUnits s c q t d r (min q r) := by
        unfold Core.sumUnits Core.inUnits
        rw [show q - e - (min q r - e) = q - min q r by omega, show r - e - (min q r - e) = r - min q r by omega]
      simp only [Core.exactSum, sh, h1, h2]
theorem sh_negate (e : Int) (x : Core.Datum) : sh e (Core.negate x) = Core.negate (sh e x) := by cases x <;> rfl
theorem sh_product (e f : Int) (x y : Core.Datum) : sh (e + f) (Core.exactProduct x y) = Core.exactProduct (sh e x) (sh f y) := by
  cases x with
  | nan => rfl
  | inf s =>
    cases y with
    | nan => rfl
    | inf t => rfl
    | fin t d r => by_cases h : d = 0 <;> simp only [Core.exactProduct, sh, h, if_true, if_false]
  | fin s c q =>
    cases y with
    | nan => rfl
    | inf t => by_cases h : c = 0 <;> simp only [Core.exactProduct, sh, h, if_true, if_false]
    | fin t d r => simp only [Core.exactProduct, sh]; rw [show q + r - (e + f) = q - e + (r - f) by omega]
theorem sh_order (e : Int) (x y : Core.Datum) : Core.order (sh e x) (sh e y) = Core.order x y := by
  cases x with
  | nan => rfl
  | inf s => cases y <;> rfl
  | fin s c q =>
    cases y with
    | nan => rfl
    | inf t => rfl
    | fin t d r =>
      have h1 : min (q - e) (r - e) = min q r - e := by omega
      simp only [Core.order, sh, h1, Core.inUnits]
      rw [show q - e - (min q r - e) = q - min q r by omega, show r - e - (min q r - e) = r - min q r by omega]
/-- finer units -/
theorem dyd_finer {i e : Int} {d : Core.Datum} (k : Nat) (h : Dyd i e d) : Dyd (i * ((2 ^ k : Nat) : Int)) (e - k) d := by
  cases d with
  | nan => exact h.elim
  | inf => exact h.elim
  | fin s c q =>
    have h0 : Core.signed s (c * 2 ^ (q - e).toNat) = i * ((2 ^ (-(q - e)).toNat : Nat) : Int) := h
    show Core.signed s (c * 2 ^ (q - (e - k)).toNat) = i * ((2 ^ k : Nat) : Int) * ((2 ^ (-(q - (e - k))).toNat : Nat) : Int)
    have p2 : ((2 ^ (q - e).toNat : Nat) : Int) ≠ 0 := by have := Nat.two_pow_pos (q - e).toNat; omega
    refine Int.eq_of_mul_eq_mul_right p2 ?_
    have ex : (-(q - e)).toNat + (q - (e - k)).toNat = k + (-(q - (e - k))).toNat + (q - e).toNat := by omega
    calc Core.signed s (c * 2 ^ (q - (e - k)).toNat) * ((2 ^ (q - e).toNat : Nat) : Int)
        = Core.signed s (c * 2 ^ (q - e).toNat) * ((2 ^ (q - (e - k)).toNat : Nat) : Int) := by
          rw [← Core.signed_mul, ← Core.signed_mul]; congr 1; ac_rfl
      _ = i * (((2 ^ ((-(q - e)).toNat + (q - (e - k)).toNat) : Nat)) : Int) := by rw [h0, Nat.pow_add, Int.natCast_mul, Int.mul_assoc]
      _ = i * ((2 ^ k : Nat) : Int) * ((2 ^ (-(q - (e - k))).toNat : Nat) : Int) * ((2 ^ (q - e).toNat : Nat) : Int) := by
          rw [ex, Nat.pow_add, Nat.pow_add, Int.natCast_mul, Int.natCast_mul]; ac_rfl
theorem Dy.finer {i e : Int} {a : UInt64} (k : Nat) (h : Dy i e a) : Dy (i * ((2 ^ k : Nat) : Int)) (e - k) a := dyd_finer k h
theorem Dy.to {i e i' e' : Int} {a : UInt64} (h : Dy i e a) (k : Nat) (h1 : e' = e - k) (h2 : i' = i * ((2 ^ k : Nat) : Int)) : Dy i' e' a := by subst h1 h2; exact h.finer k
/-- what is small enough rounds to itself -/
theorem dyd_ratio {s : Bool} {i e : Int} (hs : Core.signed s i.natAbs = i) (hi : i.natAbs < 2 ^ 53) (h1 : -1074 ≤ e) (h2 : e ≤ 971) : Dyd i e (Core.roundRatio Core.b64 s i.natAbs 1 e) := by
  obtain ⟨c', q', h3, h4⟩ := Core.round_exact Core.good_b64 s (c := i.natAbs) (q := e) hi h1 h2
  have e2 : Core.roundRatio Core.b64 s i.natAbs 1 e = .fin s c' q' := h3
  have hf : Core.fits Core.b64 (.fin s c' q') := h3 ▸ Core.round_fits Core.good_b64 _
  have hq : -1074 ≤ q' := hf.2.1
  rw [e2]
  show Core.signed s (c' * 2 ^ (q' - e).toNat) = i * ((2 ^ (-(q' - e)).toNat : Nat) : Int)
  have h5 : c' * 2 ^ (q' - -1074).toNat = i.natAbs * 2 ^ (e - -1074).toNat := h4
  have key : c' * 2 ^ (q' - e).toNat = i.natAbs * 2 ^ (-(q' - e)).toNat := by
    by_cases hle : e ≤ q'
    · have x1 : (q' - -1074).toNat = (q' - e).toNat + (e - -1074).toNat := by omega
      have x2 : (-(q' - e)).toNat = 0 := by omega
      rw [x1, Nat.pow_add, ← Nat.mul_assoc] at h5
      rw [x2, Nat.pow_zero, Nat.mul_one]
      exact Nat.eq_of_mul_eq_mul_right (Nat.two_pow_pos _) h5
    · have x1 : (e - -1074).toNat = (-(q' - e)).toNat + (q' - -1074).toNat := by omega
      have x2 : (q' - e).toNat = 0 := by omega
      rw [x1, Nat.pow_add, ← Nat.mul_assoc] at h5
      rw [x2, Nat.pow_zero, Nat.mul_one]
      exact Nat.eq_of_mul_eq_mul_right (Nat.two_pow_pos _) h5
  rw [key, Core.signed_mul, hs]
theorem signed_of_whole {i : Int} {s : Bool} {c : Nat} {q : Int} (h : Core.Whole i (.fin s c q)) : Core.signed s i.natAbs = i := by
  by_cases hi : i = 0
  · subst hi; exact Core.signed_zero s
  · rw [Core.whole_sign h hi]
    unfold Core.signed
    by_cases h : i < 0 <;> simp [h] <;> omega
theorem dyd_round {i e : Int} {d : Core.Datum} (hi : i.natAbs < 2 ^ 53) (h1 : -1074 ≤ e) (h2 : e ≤ 971) (h : Dyd i e d) : Dyd i e (Core.round Core.b64 d) := by
  cases d with
  | nan => exact h.elim
  | inf => exact h.elim
  | fin s c q =>
    have hw : Core.Whole i (.fin s c (q - e)) := h
    have hn := Core.whole_natAbs hw
    have e1 : Core.round Core.b64 (.fin s c q) = Core.roundRatio Core.b64 s i.natAbs 1 e := by
      refine Core.roundRatio_congr (by decide) (by decide) ?_
      rw [show (e - q).toNat = (-(q - e)).toNat by omega]; simpa using hn
    rw [e1]
    exact dyd_ratio (signed_of_whole hw) hi h1 h2
theorem dy_add {i j e : Int} {a b : UInt64} (ha : Dy i e a) (hb : Dy j e b) (hi : (i + j).natAbs < 2 ^ 53) (h1 : -1074 ≤ e) (h2 : e ≤ 971) : Dy (i + j) e (FP.dadd a b) := by
  show Dyd _ _ (Core.val64 (Core.dadd a b))
  rw [Core.val64_dadd]
  refine dyd_round hi h1 h2 ?_
  unfold Dyd
  rw [sh_sum]
  exact Core.whole_sum ha hb
theorem dy_sub {i j e : Int} {a b : UInt64} (ha : Dy i e a) (hb : Dy j e b) (hi : (i - j).natAbs < 2 ^ 53) (h1 : -1074 ≤ e) (h2 : e ≤ 971) : Dy (i - j) e (FP.dsub a b) := by
  show Dyd _ _ (Core.val64 (Core.dsub a b))
  rw [Core.val64_dsub]
  refine dyd_round hi h1 h2 ?_
  unfold Dyd
  rw [sh_sum, sh_negate]
  exact Core.whole_sum ha (Core.whole_negate hb)
theorem dy_mul {i j e f : Int} {a b : UInt64} (ha : Dy i e a) (hb : Dy j f b) (hi : (i * j).natAbs < 2 ^ 53) (h1 : -1074 ≤ e + f) (h2 : e + f ≤ 971) : Dy (i * j) (e + f) (FP.dmul a b) := by
  show Dyd _ _ (Core.val64 (Core.dmul a b))
  rw [Core.val64_dmul]
  refine dyd_round hi h1 h2 ?_
  unfold Dyd
  rw [sh_product]
  exact Core.whole_product ha hb
theorem dyd_quot {i j m e f : Int} {x y : Core.Datum} (hx : Dyd i e x) (hy : Dyd j f y) (hj : j ≠ 0) (hm : i = j * m) (hb : m.natAbs < 2 ^ 53) (h1 : -1074 ≤ e - f) (h2 : e - f ≤ 971) : Dyd m (e - f) (Core.quotient Core.b64 x y) := by
  cases x with
  | nan => exact hx.elim
  | inf => exact hx.elim
  | fin s c q =>
  cases y with
  | nan => exact hy.elim
  | inf => exact hy.elim
  | fin t d r =>
    have wx : Core.Whole i (.fin s c (q - e)) := hx
    have wy : Core.Whole j (.fin t d (r - f)) := hy
    have hd : d ≠ 0 := fun h => hj ((Core.whole_zero wy).mp h)
    have nx := Core.whole_natAbs wx
    have ny := Core.whole_natAbs wy
    have hn : i.natAbs = j.natAbs * m.natAbs := by rw [hm, Int.natAbs_mul]
    simp only [Core.quotient]
    rw [if_neg hd]
    have e1 : Core.roundRatio Core.b64 (s != t) c d (q - r) = Core.roundRatio Core.b64 (s != t) m.natAbs 1 (e - f) := by
      refine Core.roundRatio_congr (Nat.pos_of_ne_zero hd) (by decide) ?_
      rw [Nat.mul_one]
      refine Nat.eq_of_mul_eq_mul_right (Nat.mul_pos (Nat.two_pow_pos (q - e).toNat) (Nat.two_pow_pos (r - f).toNat)) ?_
      have ex : (-(q - e)).toNat + (q - r - (e - f)).toNat + (r - f).toNat = (-(r - f)).toNat + (e - f - (q - r)).toNat + (q - e).toNat := by omega
      calc c * 2 ^ (q - r - (e - f)).toNat * (2 ^ (q - e).toNat * 2 ^ (r - f).toNat)
          = (c * 2 ^ (q - e).toNat) * (2 ^ (q - r - (e - f)).toNat * 2 ^ (r - f).toNat) := by ac_rfl
        _ = j.natAbs * m.natAbs * 2 ^ ((-(q - e)).toNat + (q - r - (e - f)).toNat + (r - f).toNat) := by rw [nx, hn, Nat.pow_add, Nat.pow_add]; ac_rfl
        _ = m.natAbs * (j.natAbs * 2 ^ (-(r - f)).toNat) * (2 ^ (e - f - (q - r)).toNat * 2 ^ (q - e).toNat) := by rw [ex, Nat.pow_add, Nat.pow_add]; ac_rfl
        _ = m.natAbs * d * 2 ^ (e - f - (q - r)).toNat * (2 ^ (q - e).toNat * 2 ^ (r - f).toNat) := by rw [← ny]; ac_rfl
    rw [e1]
    refine dyd_ratio ?_ hb h1 h2
    have si := signed_of_whole wx
    have sj := signed_of_whole wy
    have hj0 : (j.natAbs : Int) ≠ 0 := by omega
    refine Int.eq_of_mul_eq_mul_left hj0 ?_
    rw [hn] at si
    have k1 : Core.signed s (j.natAbs * m.natAbs) = Core.signed t j.natAbs * m := by rw [si, sj, hm]
    cases s <;> cases t <;> simp only [Core.signed, bne_self_eq_false, Bool.false_bne, Bool.bne_false, Bool.false_eq_true, if_false, if_true, Int.natCast_mul, Int.neg_mul, Int.mul_neg, Int.neg_inj] at k1 ⊢ <;> omega
theorem dy_div {i j m e f : Int} {a b : UInt64} (ha : Dy i e a) (hb : Dy j f b) (hj : j ≠ 0) (hm : i = j * m) (hi : m.natAbs < 2 ^ 53) (h1 : -1074 ≤ e - f) (h2 : e - f ≤ 971) : Dy m (e - f) (FP.ddiv a b) := by
  show Dyd _ _ (Core.val64 (Core.ddiv a b))
  rw [Core.val64_ddiv]
  exact dyd_quot ha hb hj hm hi h1 h2
theorem dy_cmp {i j e : Int} {a b : UInt64} (ha : Dy i e a) (hb : Dy j e b) : FP.dcmp a b = some (compare i j) := by
  show Core.order (Core.val64 a) (Core.val64 b) = _
  rw [← sh_order e]
  exact Core.order_whole ha hb
theorem cmp_lt {i j : Int} (h : i < j) : compare i j = .lt := by simp [compare, compareOfLessAndEq, h]
theorem cmp_eq {i j : Int} (h : i = j) : compare i j = .eq := by simp [compare, compareOfLessAndEq, h]
theorem cmp_gt {i j : Int} (h : j < i) : compare i j = .gt := by simp only [compare, compareOfLessAndEq]; rw [if_neg (by omega), if_neg (by omega)]
theorem dy_lt {i j e : Int} {a b : UInt64} (ha : Dy i e a) (hb : Dy j e b) (h : i < j) : FP.dcmp a b = some .lt := by rw [dy_cmp ha hb, cmp_lt h]
theorem dy_eq {i j e : Int} {a b : UInt64} (ha : Dy i e a) (hb : Dy j e b) (h : i = j) : FP.dcmp a b = some .eq := by rw [dy_cmp ha hb, cmp_eq h]
theorem dy_gt {i j e : Int} {a b : UInt64} (ha : Dy i e a) (hb : Dy j e b) (h : j < i) : FP.dcmp a b = some .gt := by rw [dy_cmp ha hb, cmp_gt h]
theorem dy_zero (e : Int) : Dy 0 e FP.dconst0 := by
  show Dyd 0 e (Core.val64 Core.dconst0)
  rw [Core.val64_dconst0]
  show Core.signed false (0 * _) = 0 * _
  rw [Nat.zero_mul, Int.zero_mul]; rfl
theorem dy_one : Dy 1 0 FP.dconst1 := by
  show Dyd 1 0 (Core.val64 Core.dconst1)
  rw [Core.val64_dconst1]
  show Core.signed false (2 ^ 52 * 2 ^ ((-52 : Int) - 0).toNat) = 1 * ((2 ^ (-((-52 : Int) - 0)).toNat : Nat) : Int)
  decide +kernel
end Own
namespace Own
theorem irem_nn {x y : Int32} (hx : 0 ≤ x.toInt) (hy : 0 < y.toInt) : (x - x / y * y).toInt = x.toInt % y.toInt := by
  have hd : (x / y).toInt = x.toInt / y.toInt := by rw [Jvm.Kit.i32_div (by omega), Int.tdiv_eq_ediv_of_nonneg hx]
  have b1 := x.toInt_lt
  have b2 : x.toInt / y.toInt * y.toInt ≤ x.toInt := Int.ediv_mul_le _ (by omega)
  have b3 : 0 ≤ x.toInt / y.toInt * y.toInt := Int.mul_nonneg (Int.ediv_nonneg hx (by omega)) (by omega)
  have hm : (x / y * y).toInt = x.toInt / y.toInt * y.toInt := by rw [Jvm.Kit.i32_mul (by rw [hd]; omega) (by rw [hd]; omega), hd]
  rw [Jvm.Kit.i32_sub (by rw [hm]; omega) (by rw [hm]; omega), hm]
  have := Int.mul_ediv_add_emod x.toInt y.toInt
  rw [Int.mul_comm] at this
  omega
theorem irem_t {x y : Int32} (hy : 0 < y.toInt) : (x - x / y * y).toInt = x.toInt.tmod y.toInt := by
  have hd : (x / y).toInt = x.toInt.tdiv y.toInt := Jvm.Kit.i32_div (by omega)
  have b1 := x.toInt_lt
  have b0 := x.le_toInt
  have k : y.toInt * x.toInt.tdiv y.toInt + x.toInt.tmod y.toInt = x.toInt := Int.mul_tdiv_add_tmod _ _
  have k2 : (y.toInt * x.toInt.tdiv y.toInt).natAbs ≤ x.toInt.natAbs := by
    rw [Int.natAbs_mul, Int.natAbs_tdiv]; exact Nat.mul_div_le _ _
  have t3 : (x.toInt.tmod y.toInt).natAbs < y.toInt.natAbs := by
    rw [Int.natAbs_tmod]; exact Nat.mod_lt _ (by omega)
  have b4 := y.toInt_lt
  have hm : (x / y * y).toInt = y.toInt * x.toInt.tdiv y.toInt := by
    have q : (x / y).toInt * y.toInt = y.toInt * x.toInt.tdiv y.toInt := by rw [hd, Int.mul_comm]
    by_cases hz : -2 ^ 31 ≤ (x / y).toInt * y.toInt ∧ (x / y).toInt * y.toInt < 2 ^ 31
    · rw [Jvm.Kit.i32_mul hz.1 hz.2, q]
    · exfalso
      have e1 : x.toInt.natAbs ≤ 2 ^ 31 := by omega
      by_cases hs : 0 ≤ x.toInt
      · have t1 : 0 ≤ x.toInt.tmod y.toInt := Int.tmod_nonneg _ hs
        omega
      · omega
  rw [Jvm.Kit.i32_sub (by rw [hm]; omega) (by rw [hm]; omega), hm]
  omega
theorem hlt {x : Int32} (h : ifCond.holds .lt x = true) : x.toInt < 0 := by
  simpa [ifCond.holds, Int32.lt_iff_toInt_lt] using h
theorem hge {x : Int32} (h : ifCond.holds .lt x = false) : 0 ≤ x.toInt := by
  simpa [ifCond.holds, Int32.lt_iff_toInt_lt] using h
theorem cgt {x y : Int32} (h : if_icmp.holds .gt x y = true) : y.toInt < x.toInt := by
  simpa [if_icmp.holds, Int32.lt_iff_toInt_lt] using h
theorem cle {x y : Int32} (h : if_icmp.holds .gt x y = false) : x.toInt ≤ y.toInt := by
  simpa [if_icmp.holds, Int32.lt_iff_toInt_lt] using h
theorem one_shl (k : Int32) (h1 : 0 ≤ k.toInt) (h2 : k.toInt ≤ 30) : ((1 : Int32) <<< (k &&& 31)).toInt = ((2 ^ k.toInt.toNat : Nat) : Int) := by
  have all : ∀ j : Fin 31, ((1 : Int32) <<< (Int32.ofNat j.val &&& 31)).toInt = ((2 ^ j.val : Nat) : Int) := by decide
  have e : k = Int32.ofNat k.toInt.toNat := by
    apply Int32.toInt_inj.mp
    rw [Int32.toInt_ofNat_of_lt (by omega)]
    omega
  have := all ⟨k.toInt.toNat, by omega⟩
  simp only at this
  rw [← e] at this
  exact this
end Own
namespace Own
section Walks
variable {p : Program} {l : Launch} {e : Env} {R : Room} {s : State} {m : MethodId} {args : Array Value} {below : List Frame} {meth : Method} {c : Code} {T T' : State} {locs : List Loc} {cells slots : Nat} {Z : State} {a0 : Array Value} {h : Heap}
/-- from the frame g on top of T the run comes to a state that G holds of -/
def Goes (p : Program) (e : Env) (below : List Frame) (G : State → Prop) (T : State) (g : JFrame) : Prop := ∃ t, Steps p.tables e below (T.setTop g) t ∧ G t
theorem Goes.of {G : State → Prop} {g g' : JFrame} (f : ∀ t, Steps p.tables e below (T'.setTop g') t → Steps p.tables e below (T.setTop g) t) (k : Goes p e below G T' g') : Goes p e below G T g := by
  obtain ⟨t, h1, h2⟩ := k
  exact ⟨t, f t h1, h2⟩
theorem Goes.cast {G : State → Prop} {g g' : JFrame} (q : g = g') (k : Goes p e below G T g') : Goes p e below G T g := q ▸ k
/-- the method has returned, with what Q says -/
def Fini (s : State) (below : List Frame) (Q : Option Value → Heap → List Loc → Prop) (kc ks : Nat) (t : State) : Prop := t.status = .running ∧ ∃ v L, Ended t below (.returned v) ∧ Q v t.heap L ∧ FrameEnd s (.returned v) t L kc ks
/-- a contract: called with as on the heap h0, the method returns with what Q says, and takes the room rm -/
def Ct (l : Launch) (y : MethodName) (bytes : ByteArray) (maxL : Nat) (ret : Option FieldType) (rm : Room) (Z : State) (as : List Value) (h0 : Heap) (Q : Option Value → Heap → List Loc → Prop) : Prop :=
  ∀ ws : List Jvm.Cond, MetFree l y (head1 (Jvm.Cond.code y bytes maxL ret :: ws) rm) (fun a U => a = as.toArray ∧ Z.Warmed39 U.vm ∧ U.heap = h0) (fun _ _ _ _ _ => True) (fun _ U o U' => ∃ v L, o = .returned v ∧ Q v U'.heap L ∧ FrameEnd U o U' L rm.cells rm.slots)
theorem met {l : Launch} {y : MethodName} {bytes : ByteArray} {maxL : Nat} {ret : Option FieldType} {rm : Room} {Z : State} {as : List Value} {h0 : Heap} {Q : Option Value → Heap → List Loc → Prop} (hp : plainFor y = true)
    (walk : ∀ (p : Program) (e : Env) (s : State) (m : MethodId) (below : List Frame) (meth : Method) (c : Code) (T : State), p.tables.exec = Jvm.exec → c.code = bytes → c.maxLocals = maxL → s.vm.findClass y.cls = some m.cls → meth.sig.returnType = ret → meth.locks = false → meth.name = y.name → Z.Warmed39 s.vm →
      Stand p l e rm s m as.toArray below meth c T [] 0 0 → T.heap = h0 → Goes p e below (Fini s below Q rm.cells rm.slots) T (entryFrame m as.toArray maxL)) : Ct l y bytes maxL ret rm Z as h0 Q := by
  intro ws
  refine MetFree.of_bodySF hp hisR ?_
  intro p e s m args below meth c s₁ Bd hml0 hP hK
  obtain ⟨rfl, hZ, hh⟩ := hP
  have e0 : s₁.heap = h0 := by rw [← hh, Bd.state]; rfl
  obtain ⟨t, h1, h2, v, L, h3, h4, h5⟩ := walk p e s m below meth c s₁ Bd.exec Bd.bytes hml0 (findClass_of_methodNamed Bd.named) Bd.returns Bd.notSynchronized (name_of_methodNamed Bd.named Bd.method).1 hZ (Stand.of_body Bd) e0
  exact ⟨t, _, h1, h2, h3, v, L, rfl, h4, h5⟩
theorem retB (X : Stand p l e R s m args below meth c T locs cells slots) (hx : p.tables.exec = Jvm.exec) (hlk : meth.locks = false) {pc : Nat} {Ls : Array Slot} {z : Int32} {t : FieldType} {rest : List Value} (hret : meth.sig.returnType = some t) (ht : t = .boolean ∨ t = .byte ∨ t = .char ∨ t = .short) (hd : decode c.code pc = .ok (.ireturn, 1))
    {Q : Option Value → Heap → List Loc → Prop} {kc ks : Nat} (h1 : cells ≤ kc) (h2 : slots ≤ ks) (hQ : Q (some (.int (nar t z))) T.heap locs) : Goes p e below (Fini s below Q kc ks) T (mkF m pc Ls (.int z :: rest)) := by
  obtain ⟨fs, hr, hrun, hended, hW, hsame⟩ := X.leave (v := some (.int (nar t z))) (fun q => by rw [hret] at q; cases q) hlk
  exact ⟨_, retN X hx hret ht hd hr, hrun, _, _, hended, hQ, ⟨_, rfl⟩, hW, hsame.mono h1 h2⟩
theorem retI (X : Stand p l e R s m args below meth c T locs cells slots) (hx : p.tables.exec = Jvm.exec) (hlk : meth.locks = false) {pc : Nat} {Ls : Array Slot} {z : Int32} {rest : List Value} (hret : meth.sig.returnType = some .int) (hd : decode c.code pc = .ok (.ireturn, 1))
    {Q : Option Value → Heap → List Loc → Prop} {kc ks : Nat} (h1 : cells ≤ kc) (h2 : slots ≤ ks) (hQ : Q (some (.int z)) T.heap locs) : Goes p e below (Fini s below Q kc ks) T (mkF m pc Ls (.int z :: rest)) := by
  obtain ⟨fs, hr, hrun, hended, hW, hsame⟩ := X.leave (v := some (.int z)) (fun q => by rw [hret] at q; cases q) hlk
  refine ⟨_, ?_, hrun, _, _, hended, hQ, ⟨_, rfl⟩, hW, hsame.mono h1 h2⟩
  have hm' : T.vm.method? m = some meth := X.method'
  have hn : narrow .int (.int z) = .int z := rfl
  show Steps p.tables e below (T.setTop { method := m, pc := pc, locals := Ls, stack := _ :: rest, locked := none }) _
  jvm_step X.here [X.here.top, hx, hd, hm', hret, hn]
  first | (intro acts; rw [hr _ acts rfl rfl rfl]) | rw [hr _ _ rfl rfl rfl]
  exact Steps.refl _
theorem retJ (X : Stand p l e R s m args below meth c T locs cells slots) (hx : p.tables.exec = Jvm.exec) (hlk : meth.locks = false) {pc : Nat} {Ls : Array Slot} {z : Int64} (hret : meth.sig.returnType = some .long) (hd : decode c.code pc = .ok (.lreturn, 1))
    {Q : Option Value → Heap → List Loc → Prop} {kc ks : Nat} (h1 : cells ≤ kc) (h2 : slots ≤ ks) (hQ : Q (some (.long z)) T.heap locs) : Goes p e below (Fini s below Q kc ks) T (mkF m pc Ls [.long z]) := by
  obtain ⟨fs, hr, hrun, hended, hW, hsame⟩ := X.leave (v := some (.long z)) (fun q => by rw [hret] at q; cases q) hlk
  exact ⟨_, X.lreturnOut hx hret hd hr, hrun, _, _, hended, hQ, ⟨_, rfl⟩, hW, hsame.mono h1 h2⟩
theorem retD (X : Stand p l e R s m args below meth c T locs cells slots) (hx : p.tables.exec = Jvm.exec) (hlk : meth.locks = false) {pc : Nat} {Ls : Array Slot} {z : UInt64} (hret : meth.sig.returnType = some .double) (hd : decode c.code pc = .ok (.dreturn, 1))
    {Q : Option Value → Heap → List Loc → Prop} {kc ks : Nat} (h1 : cells ≤ kc) (h2 : slots ≤ ks) (hQ : Q (some (.double z)) T.heap locs) : Goes p e below (Fini s below Q kc ks) T (mkF m pc Ls [.double z]) := by
  obtain ⟨fs, hr, hrun, hended, hW, hsame⟩ := X.leave (v := some (.double z)) (fun q => by rw [hret] at q; cases q) hlk
  refine ⟨_, ?_, hrun, _, _, hended, hQ, ⟨_, rfl⟩, hW, hsame.mono h1 h2⟩
  have hm' : T.vm.method? m = some meth := X.method'
  show Steps p.tables e below (T.setTop { method := m, pc := pc, locals := Ls, stack := [.double z], locked := none }) _
  jvm_step X.here [X.here.top, hx, hd, hm', hret]
  first | (intro acts; rw [hr _ acts rfl rfl rfl]) | rw [hr _ _ rfl rfl rfl]
  exact Steps.refl _
theorem retV (X : Stand p l e R s m args below meth c T locs cells slots) (hx : p.tables.exec = Jvm.exec) (hlk : meth.locks = false) {pc : Nat} {Ls : Array Slot} {st : List Value} (hret : meth.sig.returnType = none) (hd : decode c.code pc = .ok (.return_, 1))
    {Q : Option Value → Heap → List Loc → Prop} {kc ks : Nat} (h1 : cells ≤ kc) (h2 : slots ≤ ks) (hQ : Q none T.heap locs) : Goes p e below (Fini s below Q kc ks) T (mkF m pc Ls st) := by
  obtain ⟨fs, hr, hrun, hended, hW, hsame⟩ := X.leave (v := none) (fun _ => rfl) hlk
  refine ⟨_, ?_, hrun, _, _, hended, hQ, ⟨_, rfl⟩, hW, hsame.mono h1 h2⟩
  have hm' : T.vm.method? m = some meth := X.method'
  show Steps p.tables e below (T.setTop { method := m, pc := pc, locals := Ls, stack := st, locked := none }) _
  jvm_step X.here [X.here.top, hx, hd, hm', hret]
  first | (intro acts; rw [hr _ acts rfl rfl rfl]) | rw [hr _ _ rfl rfl rfl]
  exact Steps.refl _
theorem retA (X : Stand p l e R s m args below meth c T locs cells slots) (hx : p.tables.exec = Jvm.exec) (hlk : meth.locks = false) {pc : Nat} {Ls : Array Slot} {z : Value} {t : FieldType} {rest : List Value} (hz : z.isRef = true) (hret : meth.sig.returnType = some t) (ht : t.isReference = true) (hd : decode c.code pc = .ok (.areturn, 1))
    {Q : Option Value → Heap → List Loc → Prop} {kc ks : Nat} (h1 : cells ≤ kc) (h2 : slots ≤ ks) (hQ : Q (some z) T.heap locs) : Goes p e below (Fini s below Q kc ks) T (mkF m pc Ls (z :: rest)) := by
  obtain ⟨fs, hr, hrun, hended, hW, hsame⟩ := X.leave (v := some z) (fun q => by rw [hret] at q; cases q) hlk
  refine ⟨_, ?_, hrun, _, _, hended, hQ, ⟨_, rfl⟩, hW, hsame.mono h1 h2⟩
  have hm' : T.vm.method? m = some meth := X.method'
  show Steps p.tables e below (T.setTop { method := m, pc := pc, locals := Ls, stack := z :: rest, locked := none }) _
  jvm_step X.here [X.here.top, hx, hd, hm', hret, hz, ht]
  first | (intro acts; rw [hr _ acts rfl rfl rfl]) | rw [hr _ _ rfl rfl rfl]
  exact Steps.refl _
/-- a static method by its contract -/
theorem callC (X : Stand p l e R s m args below meth c T locs cells slots) (hx : p.tables.exec = Jvm.exec) (hZ : Z.Warmed39 s.vm) {own : String} {index : Nat} {y : MethodName} {bytes : ByteArray} {maxL : Nat} {ret : Option FieldType}
    (hown : s.vm.findClass own = some m.cls) (w1 : (Jvm.Cond.methodLink own index y).before a0 Z = true) (w2 : (Jvm.Cond.static y).before a0 Z = true) (w3 : (Jvm.Cond.initialized y.cls).before a0 Z = true) (w4 : (Jvm.Cond.code y bytes maxL ret).before a0 Z = true)
    (hy : y.cls ≠ "java/lang/invoke/MethodHandle" ∧ y.cls ≠ "java/lang/invoke/VarHandle") {rm : Room} {as : List Value} {Q : Option Value → Heap → List Loc → Prop}
    (hM : Ct l y bytes maxL ret rm Z as h Q)
    (W : Nat) (hf : rm.frames + 1 ≤ R.frames) (hl : W + (maxL + 11) + rm.locals ≤ R.locals) (eT : T.heap = h) (hc : cells + rm.cells ≤ R.cells) (hs : slots + rm.slots ≤ R.slots)
    {g : JFrame} (hg : g.method = m) (hsize : g.locals.size = c.maxLocals) {rest : List Value} (hlen : ∀ sig, parseMethodDescriptor y.desc = some sig → as.length = sig.parameters.length)
    (hst : g.stack = as.reverse ++ rest) (hW : 2 * g.monitorRoom + (rest.map fun v => v.category).sum ≤ W) (hd : decode c.code g.pc = .ok (.invokestatic index, 3)) {G : State → Prop}
    (k : ∀ (v : Option Value) (T' : State) (L : List Loc), Stand p l e R s m args below meth c T' (locs ++ L) (cells + rm.cells) (slots + rm.slots) → Q v T'.heap L → Goes p e below G T' { g with pc := g.pc + 3, stack := v.toList ++ rest }) : Goes p e below G T g := by
  obtain ⟨v, vm1, ⟨U, lo, ce, sl⟩, -, X', ⟨L, hQ, l1, l2, l3⟩, st⟩ := Jvm.LawKit.callS X hx (y := y) hown (mvT hZ w1) (mvT hZ w2) (mvT hZ w3) (mvT hZ w4) hy (backOf (W := W) (hM []) hZ w4 w3 hf hl) (g := g) hg hsize (argsL := as) (rest := rest) hlen hst hW hd (fun _ _ => ⟨rfl, eT, hc, hs⟩)
  dsimp only [Pt.U, Pt.locs, Pt.cells, Pt.slots] at X' l1 l2 l3 st hQ
  subst l1 l2 l3
  exact Goes.of st (k v U L X' hQ)
theorem Goes.via {G : State → Prop} {g g' : JFrame} (f : Steps p.tables e below (T.setTop g) (T'.setTop g')) (k : Goes p e below G T' g') : Goes p e below G T g := by
  obtain ⟨t, h1, h2⟩ := k
  exact ⟨t, f.trans h1, h2⟩
/-- an instance method by its contract -/
theorem callV (X : Stand p l e R s m args below meth c T locs cells slots) (hx : p.tables.exec = Jvm.exec) (hZ : Z.Warmed39 s.vm) {own C : String} {index : Nat} {y z : MethodName} {bytes : ByteArray} {maxL : Nat} {ret : Option FieldType}
    (hown : s.vm.findClass own = some m.cls) (w1 : (Jvm.Cond.methodLink own index y).before a0 Z = true) (w2 : (Jvm.Cond.declares y).before a0 Z = true) (hnf : NotFace s y) (w3 : (Jvm.Cond.selects C y z).before a0 Z = true) (w4 : (Jvm.Cond.instanceMethod z).before a0 Z = true) (w5 : (Jvm.Cond.code z bytes maxL ret).before a0 Z = true) (w6 : (Jvm.Cond.initialized z.cls).before a0 Z = true)
    (hy : y.cls ≠ "java/lang/invoke/MethodHandle" ∧ y.cls ≠ "java/lang/invoke/VarHandle") {b : Addr} (E : Exa Z h b C) {rm : Room} {as : List Value} {Q : Option Value → Heap → List Loc → Prop}
    (hM : Ct l z bytes maxL ret rm Z (.ref b :: as) h Q)
    (W : Nat) (hf : rm.frames + 1 ≤ R.frames) (hl : W + (maxL + 11) + rm.locals ≤ R.locals) (eT : T.heap = h) (hc : cells + rm.cells ≤ R.cells) (hs : slots + rm.slots ≤ R.slots)
    {g : JFrame} (hg : g.method = m) (hsize : g.locals.size = c.maxLocals) {rest : List Value} (hlen : ∀ sig, parseMethodDescriptor y.desc = some sig → as.length = sig.parameters.length)
    (hst : g.stack = as.reverse ++ .ref b :: rest) (hW : 2 * g.monitorRoom + (rest.map fun v => v.category).sum ≤ W) (hd : decode c.code g.pc = .ok (.invokevirtual index, 3)) {G : State → Prop}
    (k : ∀ (v : Option Value) (T' : State) (L : List Loc), Stand p l e R s m args below meth c T' (locs ++ L) (cells + rm.cells) (slots + rm.slots) → Q v T'.heap L → Goes p e below G T' { g with pc := g.pc + 3, stack := v.toList ++ rest }) : Goes p e below G T g := by
  obtain ⟨cq, kq, qa, qb, qc⟩ := isOf hZ eT E
  obtain ⟨v, vm1, ⟨U, lo, ce, sl⟩, -, X', ⟨L, hQ, l1, l2, l3⟩, st⟩ := X.virtualBack hx (y := y) (z := z) hown (mvT hZ w1) (mvT hZ w2) hnf (mvT hZ w3) (mvT hZ w4) hy (backOf (W := W) (hM []) hZ w5 w6 hf hl) qa qc (g := g) hg hsize (Steps.refl _) (argsL := as) (rest := rest) hlen hst hW hd (fun _ _ => ⟨rfl, eT, hc, hs⟩)
  dsimp only [Pt.U, Pt.locs, Pt.cells, Pt.slots] at X' l1 l2 l3 st hQ
  subst l1 l2 l3
  exact Goes.via st (k v U L X' hQ)
/-- a static field is read -/
theorem goS (X : Stand p l e R s m args below meth c T locs cells slots) (hx : p.tables.exec = Jvm.exec) (hZ : Z.Warmed39 s.vm) {own R0 O n d : String} {index : Nat} (hown : s.vm.findClass own = some m.cls) (w : (Jvm.Cond.fieldLink own index R0 n d).before a0 Z = true) (via : Via Z R0 O n d)
    (eT : T.heap = h) {v : Value} (F : Sta Z h O n d v) {g : JFrame} (hg : g.method = m) (hd : decode c.code g.pc = .ok (.getstatic index, 3)) {G : State → Prop}
    (k : ∀ T', Stand p l e R s m args below meth c T' locs cells slots → T'.heap = h → Goes p e below G T' { g with pc := g.pc + 3, stack := v :: g.stack }) : Goes p e below G T g := by
  obtain ⟨T', X', e', st⟩ := getS (host := "") X hx hZ hown w via eT F hg hd
  exact Goes.of st (k T' X' e')
end Walks
end Own
open Own
section Law
open Jvm.FP Jvm.Free.Fl
theorem own_c (x : UInt64) (q i e : Int) (h : Core.val64 x = .fin false (2 ^ 52) q) (hq : q - e = -52) (hi : i = 1) : Dy i e x := by
  show Dyd i e (Core.val64 x)
  rw [h]
  show Core.signed false (2 ^ 52 * 2 ^ (q - e).toNat) = i * ((2 ^ (-(q - e)).toNat : Nat) : Int)
  rw [hq, hi]
  decide +kernel
/-- 8, 64, 512 and 4096 -/
theorem own_8 : Dy 1 3 (4620693217682128896 : UInt64) := own_c _ (-49) 1 3 (by decide +kernel) (by decide) rfl
theorem own_64 : Dy 1 6 (4634204016564240384 : UInt64) := own_c _ (-46) 1 6 (by decide +kernel) (by decide) rfl
theorem own_512 : Dy 1 9 (4647714815446351872 : UInt64) := own_c _ (-43) 1 9 (by decide +kernel) (by decide) rfl
theorem own_4096 : Dy 1 12 (4661225614328463360 : UInt64) := own_c _ (-40) 1 12 (by decide +kernel) (by decide) rfl
/-- what a product of bounded numbers is bounded by -/
theorem own_mulb {a b : Int} {A B : Nat} (ha : a.natAbs ≤ A) (hb : b.natAbs ≤ B) : (a * b).natAbs ≤ A * B := by
  rw [Int.natAbs_mul]; exact Nat.mul_le_mul ha hb
variable {a b k : Int} {x y z : UInt64}
/-- w2 * tf -/
theorem own_s1 (hx : Dy a (-3) x) (hz : Dy k (-6) z) (ba : a.natAbs ≤ 1048576) (bk : k.natAbs ≤ 64) : Dy (k * a) (-9) (FP.dmul z x) :=
  dy_mul hz hx (Nat.lt_of_le_of_lt (own_mulb bk ba) (by decide)) (by decide) (by decide)
/-- 1 - w2 -/
theorem own_s2 (hz : Dy k (-6) z) (k0 : 0 ≤ k) (bk : k ≤ 64) : Dy (64 - k) (-6) (FP.dsub FP.dconst1 z) := by
  have one := dy_one.to (i' := 64) (e' := -6) 6 (by decide) (by decide)
  exact dy_sub one hz (by omega) (by decide) (by decide)
/-- (1 - w2) * matching -/
theorem own_s3 (hy : Dy b (-3) y) (hz : Dy k (-6) z) (bb : b.natAbs ≤ 1048576) (k0 : 0 ≤ k) (bk : k ≤ 64) : Dy ((64 - k) * b) (-9) (FP.dmul (FP.dsub FP.dconst1 z) y) :=
  dy_mul (own_s2 hz k0 bk) hy (Nat.lt_of_le_of_lt (own_mulb (A := 64) (by omega) bb) (by decide)) (by decide) (by decide)
theorem own_sum (hx : Dy a (-3) x) (hy : Dy b (-3) y) (hz : Dy k (-6) z) (ba : a.natAbs ≤ 1048576) (bb : b.natAbs ≤ 1048576) (k0 : 0 ≤ k) (bk : k ≤ 64) : Dy (k * a + (64 - k) * b) (-9) (FP.dadd (FP.dmul z x) (FP.dmul (FP.dsub FP.dconst1 z) y)) := by
  have b1 := own_mulb (a := k) (b := a) (A := 64) (by omega) ba
  have b2 := own_mulb (a := 64 - k) (b := b) (A := 64) (by omega) bb
  exact dy_add (own_s1 hx hz ba (by omega)) (own_s3 hy hz bb k0 bk) (by omega) (by decide) (by decide)
/-- w2 + (1 - w2) * matching -/
theorem own_p1 (hy : Dy b (-3) y) (hz : Dy k (-6) z) (bb : b.natAbs ≤ 1048576) (k0 : 0 ≤ k) (bk : k ≤ 64) : Dy (8 * k + (64 - k) * b) (-9) (FP.dadd z (FP.dmul (FP.dsub FP.dconst1 z) y)) := by
  have b2 := own_mulb (a := 64 - k) (b := b) (A := 64) (by omega) bb
  have z9 := hz.to (i' := 8 * k) (e' := -9) 3 (by decide) (by rw [Int.mul_comm]; rfl)
  exact dy_add z9 (own_s3 hy hz bb k0 bk) (by omega) (by decide) (by decide)
theorem own_prod (hx : Dy a (-3) x) (hy : Dy b (-3) y) (hz : Dy k (-6) z) (ba : a.natAbs ≤ 1048576) (bb : b.natAbs ≤ 1048576) (k0 : 0 ≤ k) (bk : k ≤ 64) : Dy (a * (8 * k + (64 - k) * b)) (-12) (FP.dmul x (FP.dadd z (FP.dmul (FP.dsub FP.dconst1 z) y))) := by
  have b2 := own_mulb (a := 64 - k) (b := b) (A := 64) (by omega) bb
  have b3 := own_mulb (a := a) (b := 8 * k + (64 - k) * b) (A := 1048576) (B := 67109376) ba (by omega)
  exact dy_mul hx (own_p1 hy hz bb k0 bk) (Nat.lt_of_le_of_lt b3 (by decide)) (by decide) (by decide)
/-- the law's own numbers -/
theorem own_rem20 {p a : Int32} (h : p - p / 1048576 * 1048576 = a) : a.toInt.natAbs ≤ 1048576 := by
  have e := irem_t (x := p) (y := 1048576) (by decide)
  rw [h] at e
  rw [e, Int.natAbs_tmod]
  exact Nat.le_of_lt (Nat.mod_lt _ (by decide))
theorem own_rem65 {r k : Int32} (h : (r &&& 2147483647) - (r &&& 2147483647) / 65 * 65 = k) : 0 ≤ k.toInt ∧ k.toInt ≤ 64 := by
  have e1 : (r &&& 2147483647).toInt = r.toInt % 2 ^ 31 := Jvm.Kit.i32_mask r 2147483647 (k := 31) (by decide) (by decide)
  have e2 := irem_nn (x := r &&& 2147483647) (y := 65) (by omega) (by decide)
  rw [h, show (65 : Int32).toInt = 65 by decide] at e2
  omega
theorem own_div8 (a : Int32) : Dy a.toInt (-3) (FP.ddiv (FP.i2d a) (4620693217682128896 : UInt64)) := by
  have b1 := a.toInt_lt
  have b2 := a.le_toInt
  exact dy_div (dy_i2d a) own_8 (m := a.toInt) (by decide) (by omega) (by omega) (by decide) (by decide)
theorem own_div64 (a : Int32) : Dy a.toInt (-6) (FP.ddiv (FP.i2d a) (4634204016564240384 : UInt64)) := by
  have b1 := a.toInt_lt
  have b2 := a.le_toInt
  exact dy_div (dy_i2d a) own_64 (m := a.toInt) (by decide) (by omega) (by omega) (by decide) (by decide)
theorem own_divS {n : Int64} (h : n.toInt.natAbs < 2 ^ 53) : Dy n.toInt (-9) (FP.ddiv (FP.l2d n) (4647714815446351872 : UInt64)) :=
  dy_div (dy_l2d (by omega)) own_512 (m := n.toInt) (by decide) (by omega) h (by decide) (by decide)
theorem own_divP {n : Int64} (h : n.toInt.natAbs < 2 ^ 53) : Dy n.toInt (-12) (FP.ddiv (FP.l2d n) (4661225614328463360 : UInt64)) :=
  dy_div (dy_l2d (by omega)) own_4096 (m := n.toInt) (by decide) (by omega) h (by decide) (by decide)
theorem own_w (a : Int32) : (Int32.toInt64 a).toInt = a.toInt := Jvm.Kit.i64_of_i32 a
theorem own_mul64 {x y : Int64} {A B : Nat} (hx : x.toInt.natAbs ≤ A) (hy : y.toInt.natAbs ≤ B) (h : A * B < 2 ^ 62) : (x * y).toInt = x.toInt * y.toInt := by
  have := own_mulb hx hy
  exact Jvm.Kit.i64_mul (by omega) (by omega)
theorem own_64k {k : Int32} (k0 : 0 ≤ k.toInt) (bk : k.toInt ≤ 64) : ((64 : Int64) - Int32.toInt64 k).toInt = 64 - k.toInt := by
  have e : (64 : Int64).toInt = 64 := by decide
  rw [Jvm.Kit.i64_sub (by rw [own_w, e]; omega) (by rw [own_w, e]; omega), own_w, e]
theorem own_numS {a b k : Int32} {n : Int64} (ba : a.toInt.natAbs ≤ 1048576) (bb : b.toInt.natAbs ≤ 1048576) (k0 : 0 ≤ k.toInt) (bk : k.toInt ≤ 64) (hn : Int32.toInt64 k * Int32.toInt64 a + ((64 : Int64) - Int32.toInt64 k) * Int32.toInt64 b = n) : n.toInt = k.toInt * a.toInt + (64 - k.toInt) * b.toInt ∧ n.toInt.natAbs < 2 ^ 53 := by
  have b1 := own_mulb (a := k.toInt) (b := a.toInt) (A := 64) (by omega) ba
  have b2 := own_mulb (a := 64 - k.toInt) (b := b.toInt) (A := 64) (by omega) bb
  have e1 : (Int32.toInt64 k * Int32.toInt64 a).toInt = k.toInt * a.toInt := by
    rw [own_mul64 (A := 64) (B := 1048576) (by rw [own_w]; omega) (by rw [own_w]; exact ba) (by decide), own_w, own_w]
  have e2 : (((64 : Int64) - Int32.toInt64 k) * Int32.toInt64 b).toInt = (64 - k.toInt) * b.toInt := by
    rw [own_mul64 (A := 64) (B := 1048576) (by rw [own_64k k0 bk]; omega) (by rw [own_w]; exact bb) (by decide), own_w, own_64k k0 bk]
  have e3 := Jvm.Kit.i64_add (x := Int32.toInt64 k * Int32.toInt64 a) (y := ((64 : Int64) - Int32.toInt64 k) * Int32.toInt64 b) (by rw [e1, e2]; omega) (by rw [e1, e2]; omega)
  rw [hn, e1, e2] at e3
  exact ⟨e3, by rw [e3]; omega⟩
theorem own_numP {a b k : Int32} {n : Int64} (ba : a.toInt.natAbs ≤ 1048576) (bb : b.toInt.natAbs ≤ 1048576) (k0 : 0 ≤ k.toInt) (bk : k.toInt ≤ 64) (hn : Int32.toInt64 a * ((8 : Int64) * Int32.toInt64 k + ((64 : Int64) - Int32.toInt64 k) * Int32.toInt64 b) = n) : n.toInt = a.toInt * (8 * k.toInt + (64 - k.toInt) * b.toInt) ∧ n.toInt.natAbs < 2 ^ 53 := by
  have b2 := own_mulb (a := 64 - k.toInt) (b := b.toInt) (A := 64) (by omega) bb
  have b3 := own_mulb (a := a.toInt) (b := 8 * k.toInt + (64 - k.toInt) * b.toInt) (A := 1048576) (B := 67109376) ba (by omega)
  have e8 : (8 : Int64).toInt = 8 := by decide
  have e1 : ((8 : Int64) * Int32.toInt64 k).toInt = 8 * k.toInt := by
    rw [own_mul64 (A := 8) (B := 64) (by rw [e8]; decide) (by rw [own_w]; omega) (by decide), own_w, e8]
  have e2 : (((64 : Int64) - Int32.toInt64 k) * Int32.toInt64 b).toInt = (64 - k.toInt) * b.toInt := by
    rw [own_mul64 (A := 64) (B := 1048576) (by rw [own_64k k0 bk]; omega) (by rw [own_w]; exact bb) (by decide), own_w, own_64k k0 bk]
  have e3 := Jvm.Kit.i64_add (x := (8 : Int64) * Int32.toInt64 k) (y := ((64 : Int64) - Int32.toInt64 k) * Int32.toInt64 b) (by rw [e1, e2]; omega) (by rw [e1, e2]; omega)
  rw [e1, e2] at e3
  have e4 := own_mul64 (x := Int32.toInt64 a) (y := (8 : Int64) * Int32.toInt64 k + ((64 : Int64) - Int32.toInt64 k) * Int32.toInt64 b) (A := 1048576) (B := 67109376) (by rw [own_w]; exact ba) (by rw [e3]; omega) (by decide)
  rw [hn, e3, own_w] at e4
  exact ⟨e4, by rw [e4]; omega⟩
end Law
theorem d1_0 : decode prog_28_method_4_code 0 = .ok (.aload_n 0, 1) := by decide +kernel
theorem d1_1 : decode prog_28_method_4_code 1 = .ok (.getstatic 3, 3) := by decide +kernel
theorem d1_4 : decode prog_28_method_4_code 4 = .ok (.if_acmp .ne 19, 3) := by decide +kernel
theorem d1_7 : decode prog_28_method_4_code 7 = .ok (.dload 5, 2) := by decide +kernel
theorem d1_9 : decode prog_28_method_4_code 9 = .ok (.dload_n 1, 1) := by decide +kernel
theorem d1_10 : decode prog_28_method_4_code 10 = .ok (.dmul, 1) := by decide +kernel
theorem d1_11 : decode prog_28_method_4_code 11 = .ok (.dconst 1, 1) := by decide +kernel
theorem d1_12 : decode prog_28_method_4_code 12 = .ok (.dload 5, 2) := by decide +kernel
theorem d1_14 : decode prog_28_method_4_code 14 = .ok (.dsub, 1) := by decide +kernel
theorem d1_15 : decode prog_28_method_4_code 15 = .ok (.dload_n 3, 1) := by decide +kernel
theorem d1_16 : decode prog_28_method_4_code 16 = .ok (.dmul, 1) := by decide +kernel
theorem d1_17 : decode prog_28_method_4_code 17 = .ok (.dadd, 1) := by decide +kernel
theorem d1_18 : decode prog_28_method_4_code 18 = .ok (.dstore 7, 2) := by decide +kernel
theorem d1_20 : decode prog_28_method_4_code 20 = .ok (.goto 16, 3) := by decide +kernel
theorem d1_36 : decode prog_28_method_4_code 36 = .ok (.dload 7, 2) := by decide +kernel
theorem d1_38 : decode prog_28_method_4_code 38 = .ok (.dreturn, 1) := by decide +kernel
theorem d1_23 : decode prog_28_method_4_code 23 = .ok (.dload_n 1, 1) := by decide +kernel
theorem d1_24 : decode prog_28_method_4_code 24 = .ok (.dload 5, 2) := by decide +kernel
theorem d1_26 : decode prog_28_method_4_code 26 = .ok (.dconst 1, 1) := by decide +kernel
theorem d1_27 : decode prog_28_method_4_code 27 = .ok (.dload 5, 2) := by decide +kernel
theorem d1_29 : decode prog_28_method_4_code 29 = .ok (.dsub, 1) := by decide +kernel
theorem d1_30 : decode prog_28_method_4_code 30 = .ok (.dload_n 3, 1) := by decide +kernel
theorem d1_31 : decode prog_28_method_4_code 31 = .ok (.dmul, 1) := by decide +kernel
theorem d1_32 : decode prog_28_method_4_code 32 = .ok (.dadd, 1) := by decide +kernel
theorem d1_33 : decode prog_28_method_4_code 33 = .ok (.dmul, 1) := by decide +kernel
theorem d1_34 : decode prog_28_method_4_code 34 = .ok (.dstore 7, 2) := by decide +kernel
theorem pd_0 : parseMethodDescriptor "(DDD)D" = some ⟨[.double, .double, .double], some .double⟩ := by decide +kernel
theorem ef_1 (m : MethodId) (x0 : Addr) (x1 : UInt64) (x2 : UInt64) (x3 : UInt64) : entryFrame m #[(.ref x0), (.double x1), (.double x2), (.double x3)] 9 = mkF m 0 #[.val (.ref x0), .val (.double x1), .second, .val (.double x2), .second, .val (.double x3), .second, .unset, .unset] [] := by first | (simp [entryFrame, mkF, argsToLocals, Value.category]; done) | rfl
theorem pn_1 : plainFor (⟨"com/example/concordance/concordance/search/ContextMatching$Combination", "of", "(DDD)D"⟩ : MethodName) = true := plainFor_of_name (by first | (simp [plainName, overriddenIn]; done) | decide +kernel)
set_option maxRecDepth 65536 in
set_option maxHeartbeats 40000000 in
theorem rm1 (l : Launch) (Z : State) (a0 : Array Value) (hw : ∀ d ∈ tables_1, d.before a0 Z = true) (aS : Addr) (x1 : UInt64) (x2 : UInt64) (x3 : UInt64) (a b k : Int) (h0 : Heap) (n0 : Nat) (Z0 : n0 ≤ h0.size) (SS : Sta Z h0 "com/example/concordance/concordance/search/ContextMatching$Combination" "SUM" "Lcom/example/concordance/concordance/search/ContextMatching$Combination;" (.ref aS)) (D1 : Dy a (-3) x1) (D2 : Dy b (-3) x2) (D3 : Dy k (-6) x3) (ba : a.natAbs ≤ 1048576) (bb : b.natAbs ≤ 1048576) (k0 : 0 ≤ k) (bk : k ≤ 64) :
    Ct l (⟨"com/example/concordance/concordance/search/ContextMatching$Combination", "of", "(DDD)D"⟩ : MethodName) prog_28_method_4_code 9 (some .double) ({ frames := 0, cells := 0, slots := 0, locals := 0 } : Room) Z [(.ref aS), (.double x1), (.double x2), (.double x3)] h0 (fun v h L => (∃ z, v = some (.double z) ∧ Dy (k * a + (64 - k) * b) (-9) z) ∧ Fr n0 L ∧ h = h0) := by
  refine met pn_1 ?_
  intro p e s m below meth c T0 hx hby hml hown hret hlk hnm hZ X0 e0
  have N0 := Fr.nil n0
  have hown : s.vm.findClass "com/example/concordance/concordance/search/ContextMatching$Combination" = some m.cls := hown
  refine Goes.cast (ef_1 m aS x1 x2 x3) ?_
  show Goes p e below _ T0 (mkF m 0 #[.val (.ref aS), .val (.double x1), .second, .val (.double x2), .second, .val (.double x3), .second, .unset, .unset] [])
  refine Goes.of (fun _ kont => XS.aloadN X0.here hx rfl (Jvm.hb hby d1_0) rfl rfl kont) ?_
  show Goes p e below _ T0 (mkF m 1 #[.val (.ref aS), .val (.double x1), .second, .val (.double x2), .second, .val (.double x3), .second, .unset, .unset] [(.ref aS)])
  refine goS X0 hx hZ hown (hw _ (List.mem_of_getElem? (i := 12) rfl)) Via.refl e0 SS (g := (mkF m 1 #[.val (.ref aS), .val (.double x1), .second, .val (.double x2), .second, .val (.double x3), .second, .unset, .unset] [(.ref aS)])) rfl (Jvm.hb hby d1_1) ?_
  intro T1 X1 e1
  show Goes p e below _ T1 (mkF m 4 #[.val (.ref aS), .val (.double x1), .second, .val (.double x2), .second, .val (.double x3), .second, .unset, .unset] [(.ref aS), (.ref aS)])
  refine Goes.of (fun _ kont => XT.acmpNo X1.here hx rfl (Jvm.hb hby d1_4) rfl rfl rfl (by simp [Jvm.Free.XT.acmp]) kont) ?_
  show Goes p e below _ T1 (mkF m 7 #[.val (.ref aS), .val (.double x1), .second, .val (.double x2), .second, .val (.double x3), .second, .unset, .unset] [])
  refine Goes.of (fun _ kont => XS.dload X1.here hx rfl (Jvm.hb hby d1_7) rfl kont) ?_
  show Goes p e below _ T1 (mkF m 9 #[.val (.ref aS), .val (.double x1), .second, .val (.double x2), .second, .val (.double x3), .second, .unset, .unset] [(.double x3)])
  refine Goes.of (fun _ kont => XS.dloadN X1.here hx rfl (Jvm.hb hby d1_9) rfl kont) ?_
  show Goes p e below _ T1 (mkF m 10 #[.val (.ref aS), .val (.double x1), .second, .val (.double x2), .second, .val (.double x3), .second, .unset, .unset] [(.double x1), (.double x3)])
  refine Goes.of (fun _ kont => XS.dmulS X1.here hx rfl (Jvm.hb hby d1_10) rfl (own_s1 D1 D3 ba (by omega)).noNaN rfl kont) ?_
  show Goes p e below _ T1 (mkF m 11 #[.val (.ref aS), .val (.double x1), .second, .val (.double x2), .second, .val (.double x3), .second, .unset, .unset] [(.double (FP.dmul x3 x1))])
  refine Goes.of (fun _ kont => XS.dconst1 X1.here hx rfl (Jvm.hb hby d1_11) rfl kont) ?_
  show Goes p e below _ T1 (mkF m 12 #[.val (.ref aS), .val (.double x1), .second, .val (.double x2), .second, .val (.double x3), .second, .unset, .unset] [(.double FP.dconst1), (.double (FP.dmul x3 x1))])
  refine Goes.of (fun _ kont => XS.dload X1.here hx rfl (Jvm.hb hby d1_12) rfl kont) ?_
  show Goes p e below _ T1 (mkF m 14 #[.val (.ref aS), .val (.double x1), .second, .val (.double x2), .second, .val (.double x3), .second, .unset, .unset] [(.double x3), (.double FP.dconst1), (.double (FP.dmul x3 x1))])
  refine Goes.of (fun _ kont => XS.dsubS X1.here hx rfl (Jvm.hb hby d1_14) rfl (own_s2 D3 k0 bk).noNaN rfl kont) ?_
  show Goes p e below _ T1 (mkF m 15 #[.val (.ref aS), .val (.double x1), .second, .val (.double x2), .second, .val (.double x3), .second, .unset, .unset] [(.double (FP.dsub FP.dconst1 x3)), (.double (FP.dmul x3 x1))])
  refine Goes.of (fun _ kont => XS.dloadN X1.here hx rfl (Jvm.hb hby d1_15) rfl kont) ?_
  show Goes p e below _ T1 (mkF m 16 #[.val (.ref aS), .val (.double x1), .second, .val (.double x2), .second, .val (.double x3), .second, .unset, .unset] [(.double x2), (.double (FP.dsub FP.dconst1 x3)), (.double (FP.dmul x3 x1))])
  refine Goes.of (fun _ kont => XS.dmulS X1.here hx rfl (Jvm.hb hby d1_16) rfl (own_s3 D2 D3 bb k0 bk).noNaN rfl kont) ?_
  show Goes p e below _ T1 (mkF m 17 #[.val (.ref aS), .val (.double x1), .second, .val (.double x2), .second, .val (.double x3), .second, .unset, .unset] [(.double (FP.dmul (FP.dsub FP.dconst1 x3) x2)), (.double (FP.dmul x3 x1))])
  refine Goes.of (fun _ kont => XS.daddS X1.here hx rfl (Jvm.hb hby d1_17) rfl (own_sum D1 D2 D3 ba bb k0 bk).noNaN rfl kont) ?_
  show Goes p e below _ T1 (mkF m 18 #[.val (.ref aS), .val (.double x1), .second, .val (.double x2), .second, .val (.double x3), .second, .unset, .unset] [(.double (FP.dadd (FP.dmul x3 x1) (FP.dmul (FP.dsub FP.dconst1 x3) x2)))])
  refine Goes.of (fun _ kont => XS.dstore X1.here hx rfl (Jvm.hb hby d1_18) rfl (l' := #[.val (.ref aS), .val (.double x1), .second, .val (.double x2), .second, .val (.double x3), .second, .val (.double (FP.dadd (FP.dmul x3 x1) (FP.dmul (FP.dsub FP.dconst1 x3) x2))), .second]) rfl kont) ?_
  show Goes p e below _ T1 (mkF m 20 #[.val (.ref aS), .val (.double x1), .second, .val (.double x2), .second, .val (.double x3), .second, .val (.double (FP.dadd (FP.dmul x3 x1) (FP.dmul (FP.dsub FP.dconst1 x3) x2))), .second] [])
  refine Goes.of (fun _ kont => XS.goto X1.here hx rfl (pc0 := 20) (pc' := 36) rfl (Jvm.hb hby d1_20) (by decide) (by decide) kont) ?_
  show Goes p e below _ T1 (mkF m 36 #[.val (.ref aS), .val (.double x1), .second, .val (.double x2), .second, .val (.double x3), .second, .val (.double (FP.dadd (FP.dmul x3 x1) (FP.dmul (FP.dsub FP.dconst1 x3) x2))), .second] [])
  refine Goes.of (fun _ kont => XS.dload X1.here hx rfl (Jvm.hb hby d1_36) rfl kont) ?_
  show Goes p e below _ T1 (mkF m 38 #[.val (.ref aS), .val (.double x1), .second, .val (.double x2), .second, .val (.double x3), .second, .val (.double (FP.dadd (FP.dmul x3 x1) (FP.dmul (FP.dsub FP.dconst1 x3) x2))), .second] [(.double (FP.dadd (FP.dmul x3 x1) (FP.dmul (FP.dsub FP.dconst1 x3) x2)))])
  exact retD X1 hx hlk hret (Jvm.hb hby d1_38) (by decide) (by decide) ⟨⟨_, rfl, own_sum D1 D2 D3 ba bb k0 bk⟩, N0, e1⟩
theorem pn_2 : plainFor (⟨"com/example/concordance/concordance/search/ContextMatching$Combination", "of", "(DDD)D"⟩ : MethodName) = true := plainFor_of_name (by first | (simp [plainName, overriddenIn]; done) | decide +kernel)
set_option maxRecDepth 65536 in
set_option maxHeartbeats 40000000 in
theorem rm2 (l : Launch) (Z : State) (a0 : Array Value) (hw : ∀ d ∈ tables_1, d.before a0 Z = true) (r : Addr) (x1 : UInt64) (x2 : UInt64) (x3 : UInt64) (aS : Addr) (a b k : Int) (h0 : Heap) (n0 : Nat) (Z0 : n0 ≤ h0.size) (SS : Sta Z h0 "com/example/concordance/concordance/search/ContextMatching$Combination" "SUM" "Lcom/example/concordance/concordance/search/ContextMatching$Combination;" (.ref aS)) (hne : r ≠ aS) (D1 : Dy a (-3) x1) (D2 : Dy b (-3) x2) (D3 : Dy k (-6) x3) (ba : a.natAbs ≤ 1048576) (bb : b.natAbs ≤ 1048576) (k0 : 0 ≤ k) (bk : k ≤ 64) :
    Ct l (⟨"com/example/concordance/concordance/search/ContextMatching$Combination", "of", "(DDD)D"⟩ : MethodName) prog_28_method_4_code 9 (some .double) ({ frames := 0, cells := 0, slots := 0, locals := 0 } : Room) Z [(.ref r), (.double x1), (.double x2), (.double x3)] h0 (fun v h L => (∃ z, v = some (.double z) ∧ Dy (a * (8 * k + (64 - k) * b)) (-12) z) ∧ Fr n0 L ∧ h = h0) := by
  refine met pn_2 ?_
  intro p e s m below meth c T0 hx hby hml hown hret hlk hnm hZ X0 e0
  have N0 := Fr.nil n0
  have hown : s.vm.findClass "com/example/concordance/concordance/search/ContextMatching$Combination" = some m.cls := hown
  refine Goes.cast (ef_1 m r x1 x2 x3) ?_
  show Goes p e below _ T0 (mkF m 0 #[.val (.ref r), .val (.double x1), .second, .val (.double x2), .second, .val (.double x3), .second, .unset, .unset] [])
  refine Goes.of (fun _ kont => XS.aloadN X0.here hx rfl (Jvm.hb hby d1_0) rfl rfl kont) ?_
  show Goes p e below _ T0 (mkF m 1 #[.val (.ref r), .val (.double x1), .second, .val (.double x2), .second, .val (.double x3), .second, .unset, .unset] [(.ref r)])
  refine goS X0 hx hZ hown (hw _ (List.mem_of_getElem? (i := 12) rfl)) Via.refl e0 SS (g := (mkF m 1 #[.val (.ref r), .val (.double x1), .second, .val (.double x2), .second, .val (.double x3), .second, .unset, .unset] [(.ref r)])) rfl (Jvm.hb hby d1_1) ?_
  intro T1 X1 e1
  show Goes p e below _ T1 (mkF m 4 #[.val (.ref r), .val (.double x1), .second, .val (.double x2), .second, .val (.double x3), .second, .unset, .unset] [(.ref aS), (.ref r)])
  refine Goes.of (fun _ kont => XT.acmpYes X1.here hx rfl (pc0 := 4) (pc' := 23) rfl (Jvm.hb hby d1_4) rfl rfl rfl (by simp [Jvm.Free.XT.acmp, hne]) (by decide) (by decide) kont) ?_
  show Goes p e below _ T1 (mkF m 23 #[.val (.ref r), .val (.double x1), .second, .val (.double x2), .second, .val (.double x3), .second, .unset, .unset] [])
  refine Goes.of (fun _ kont => XS.dloadN X1.here hx rfl (Jvm.hb hby d1_23) rfl kont) ?_
  show Goes p e below _ T1 (mkF m 24 #[.val (.ref r), .val (.double x1), .second, .val (.double x2), .second, .val (.double x3), .second, .unset, .unset] [(.double x1)])
  refine Goes.of (fun _ kont => XS.dload X1.here hx rfl (Jvm.hb hby d1_24) rfl kont) ?_
  show Goes p e below _ T1 (mkF m 26 #[.val (.ref r), .val (.double x1), .second, .val (.double x2), .second, .val (.double x3), .second, .unset, .unset] [(.double x3), (.double x1)])
  refine Goes.of (fun _ kont => XS.dconst1 X1.here hx rfl (Jvm.hb hby d1_26) rfl kont) ?_
  show Goes p e below _ T1 (mkF m 27 #[.val (.ref r), .val (.double x1), .second, .val (.double x2), .second, .val (.double x3), .second, .unset, .unset] [(.double FP.dconst1), (.double x3), (.double x1)])
  refine Goes.of (fun _ kont => XS.dload X1.here hx rfl (Jvm.hb hby d1_27) rfl kont) ?_
  show Goes p e below _ T1 (mkF m 29 #[.val (.ref r), .val (.double x1), .second, .val (.double x2), .second, .val (.double x3), .second, .unset, .unset] [(.double x3), (.double FP.dconst1), (.double x3), (.double x1)])
  refine Goes.of (fun _ kont => XS.dsubS X1.here hx rfl (Jvm.hb hby d1_29) rfl (own_s2 D3 k0 bk).noNaN rfl kont) ?_
  show Goes p e below _ T1 (mkF m 30 #[.val (.ref r), .val (.double x1), .second, .val (.double x2), .second, .val (.double x3), .second, .unset, .unset] [(.double (FP.dsub FP.dconst1 x3)), (.double x3), (.double x1)])
  refine Goes.of (fun _ kont => XS.dloadN X1.here hx rfl (Jvm.hb hby d1_30) rfl kont) ?_
  show Goes p e below _ T1 (mkF m 31 #[.val (.ref r), .val (.double x1), .second, .val (.double x2), .second, .val (.double x3), .second, .unset, .unset] [(.double x2), (.double (FP.dsub FP.dconst1 x3)), (.double x3), (.double x1)])
  refine Goes.of (fun _ kont => XS.dmulS X1.here hx rfl (Jvm.hb hby d1_31) rfl (own_s3 D2 D3 bb k0 bk).noNaN rfl kont) ?_
  show Goes p e below _ T1 (mkF m 32 #[.val (.ref r), .val (.double x1), .second, .val (.double x2), .second, .val (.double x3), .second, .unset, .unset] [(.double (FP.dmul (FP.dsub FP.dconst1 x3) x2)), (.double x3), (.double x1)])
  refine Goes.of (fun _ kont => XS.daddS X1.here hx rfl (Jvm.hb hby d1_32) rfl (own_p1 D2 D3 bb k0 bk).noNaN rfl kont) ?_
  show Goes p e below _ T1 (mkF m 33 #[.val (.ref r), .val (.double x1), .second, .val (.double x2), .second, .val (.double x3), .second, .unset, .unset] [(.double (FP.dadd x3 (FP.dmul (FP.dsub FP.dconst1 x3) x2))), (.double x1)])
  refine Goes.of (fun _ kont => XS.dmulS X1.here hx rfl (Jvm.hb hby d1_33) rfl (own_prod D1 D2 D3 ba bb k0 bk).noNaN rfl kont) ?_
  show Goes p e below _ T1 (mkF m 34 #[.val (.ref r), .val (.double x1), .second, .val (.double x2), .second, .val (.double x3), .second, .unset, .unset] [(.double (FP.dmul x1 (FP.dadd x3 (FP.dmul (FP.dsub FP.dconst1 x3) x2))))])
  refine Goes.of (fun _ kont => XS.dstore X1.here hx rfl (Jvm.hb hby d1_34) rfl (l' := #[.val (.ref r), .val (.double x1), .second, .val (.double x2), .second, .val (.double x3), .second, .val (.double (FP.dmul x1 (FP.dadd x3 (FP.dmul (FP.dsub FP.dconst1 x3) x2)))), .second]) rfl kont) ?_
  show Goes p e below _ T1 (mkF m 36 #[.val (.ref r), .val (.double x1), .second, .val (.double x2), .second, .val (.double x3), .second, .val (.double (FP.dmul x1 (FP.dadd x3 (FP.dmul (FP.dsub FP.dconst1 x3) x2)))), .second] [])
  refine Goes.of (fun _ kont => XS.dload X1.here hx rfl (Jvm.hb hby d1_36) rfl kont) ?_
  show Goes p e below _ T1 (mkF m 38 #[.val (.ref r), .val (.double x1), .second, .val (.double x2), .second, .val (.double x3), .second, .val (.double (FP.dmul x1 (FP.dadd x3 (FP.dmul (FP.dsub FP.dconst1 x3) x2)))), .second] [(.double (FP.dmul x1 (FP.dadd x3 (FP.dmul (FP.dsub FP.dconst1 x3) x2))))])
  exact retD X1 hx hlk hret (Jvm.hb hby d1_38) (by decide) (by decide) ⟨⟨_, rfl, own_prod D1 D2 D3 ba bb k0 bk⟩, N0, e1⟩
theorem ef_0 (m : MethodId) (x0 : Int32) (x1 : Int32) (x2 : Int32) (x3 : Int32) : entryFrame m #[(.int x0), (.int x1), (.int x2), (.int x3)] maxLocals = mkF m 0 #[.val (.int x0), .val (.int x1), .val (.int x2), .val (.int x3), .unset, .unset, .unset, .unset, .unset, .unset, .unset, .unset, .unset, .unset, .unset, .unset, .unset, .unset, .unset, .unset, .unset] [] := by first | (simp [entryFrame, mkF, argsToLocals, Value.category, maxLocals]; done) | rfl
theorem pn_0 : plainFor (⟨"com/example/concordance/concordance/search/CombinationOfPinLaw", "law", "(IIII)Z"⟩ : MethodName) = true := plainFor_of_name (by first | (simp [plainName, overriddenIn]; done) | decide +kernel)
set_option maxRecDepth 65536 in
set_option maxHeartbeats 40000000 in
theorem rm0 (l : Launch) (Z : State) (a0 : Array Value) (hw : ∀ d ∈ tables_1, d.before a0 Z = true) (p1 : Int32) (p2 : Int32) (p3 : Int32) (p4 : Int32) (aS aP : Addr) (h0 : Heap) (n0 : Nat) (Z0 : n0 ≤ h0.size) (SS : Sta Z h0 "com/example/concordance/concordance/search/ContextMatching$Combination" "SUM" "Lcom/example/concordance/concordance/search/ContextMatching$Combination;" (.ref aS)) (SP : Sta Z h0 "com/example/concordance/concordance/search/ContextMatching$Combination" "PRODUCT" "Lcom/example/concordance/concordance/search/ContextMatching$Combination;" (.ref aP)) (ES : Exa Z h0 aS "com/example/concordance/concordance/search/ContextMatching$Combination") (EP : Exa Z h0 aP "com/example/concordance/concordance/search/ContextMatching$Combination") (hne : aP ≠ aS) :
    Ct l x code maxLocals ret room_1 Z [(.int p1), (.int p2), (.int p3), (.int p4)] h0 (fun v h L => v = some (.int 1) ∧ Fr n0 L) := by
  refine met pn_0 ?_
  intro p e s m below meth c T0 hx hby hml hown hret hlk hnm hZ X0 e0
  have N0 := Fr.nil n0
  have hret : meth.sig.returnType = some .boolean := hret
  have hml : c.maxLocals = 21 := hml
  have hown : s.vm.findClass "com/example/concordance/concordance/search/CombinationOfPinLaw" = some m.cls := hown
  refine Goes.cast (ef_0 m p1 p2 p3 p4) ?_
  show Goes p e below _ T0 (mkF m 0 #[.val (.int p1), .val (.int p2), .val (.int p3), .val (.int p4), .unset, .unset, .unset, .unset, .unset, .unset, .unset, .unset, .unset, .unset, .unset, .unset, .unset, .unset, .unset, .unset, .unset] [])
  refine Goes.of (fun _ kont => XS.iloadN X0.here hx rfl (Jvm.hb hby at_0) rfl kont) ?_
  show Goes p e below _ T0 (mkF m 1 #[.val (.int p1), .val (.int p2), .val (.int p3), .val (.int p4), .unset, .unset, .unset, .unset, .unset, .unset, .unset, .unset, .unset, .unset, .unset, .unset, .unset, .unset, .unset, .unset, .unset] [(.int p1)])
  refine Goes.of (fun _ kont => XS.iconst X0.here hx rfl (Jvm.hb hby at_1) kont) ?_
  show Goes p e below _ T0 (mkF m 2 #[.val (.int p1), .val (.int p2), .val (.int p3), .val (.int p4), .unset, .unset, .unset, .unset, .unset, .unset, .unset, .unset, .unset, .unset, .unset, .unset, .unset, .unset, .unset, .unset, .unset] [(.int (1 : Int32)), (.int p1)])
  refine Goes.of (fun _ kont => XS.iand X0.here hx rfl (Jvm.hb hby at_2) rfl kont) ?_
  show Goes p e below _ T0 (mkF m 3 #[.val (.int p1), .val (.int p2), .val (.int p3), .val (.int p4), .unset, .unset, .unset, .unset, .unset, .unset, .unset, .unset, .unset, .unset, .unset, .unset, .unset, .unset, .unset, .unset, .unset] [(.int (p1 &&& (1 : Int32)))])
  cases c3 : ifCond.holds .eq (p1 &&& (1 : Int32))
  · refine Goes.of (fun _ kont => XS.ifNo X0.here hx rfl (Jvm.hb hby at_3) rfl c3 kont) ?_
    show Goes p e below _ T0 (mkF m 6 #[.val (.int p1), .val (.int p2), .val (.int p3), .val (.int p4), .unset, .unset, .unset, .unset, .unset, .unset, .unset, .unset, .unset, .unset, .unset, .unset, .unset, .unset, .unset, .unset, .unset] [])
    refine Goes.of (fun _ kont => XS.iconst X0.here hx rfl (Jvm.hb hby at_6) kont) ?_
    show Goes p e below _ T0 (mkF m 7 #[.val (.int p1), .val (.int p2), .val (.int p3), .val (.int p4), .unset, .unset, .unset, .unset, .unset, .unset, .unset, .unset, .unset, .unset, .unset, .unset, .unset, .unset, .unset, .unset, .unset] [(.int (1 : Int32))])
    refine Goes.of (fun _ kont => XS.goto X0.here hx rfl (pc0 := 7) (pc' := 11) rfl (Jvm.hb hby at_7) (by decide) (by decide) kont) ?_
    show Goes p e below _ T0 (mkF m 11 #[.val (.int p1), .val (.int p2), .val (.int p3), .val (.int p4), .unset, .unset, .unset, .unset, .unset, .unset, .unset, .unset, .unset, .unset, .unset, .unset, .unset, .unset, .unset, .unset, .unset] [(.int (1 : Int32))])
    refine Goes.of (fun _ kont => XS.istore X0.here hx rfl (Jvm.hb hby at_11) rfl (l' := #[.val (.int p1), .val (.int p2), .val (.int p3), .val (.int p4), .val (.int (1 : Int32)), .unset, .unset, .unset, .unset, .unset, .unset, .unset, .unset, .unset, .unset, .unset, .unset, .unset, .unset, .unset, .unset]) rfl kont) ?_
    show Goes p e below _ T0 (mkF m 13 #[.val (.int p1), .val (.int p2), .val (.int p3), .val (.int p4), .val (.int (1 : Int32)), .unset, .unset, .unset, .unset, .unset, .unset, .unset, .unset, .unset, .unset, .unset, .unset, .unset, .unset, .unset, .unset] [])
    refine Goes.of (fun _ kont => XS.iloadN X0.here hx rfl (Jvm.hb hby at_13) rfl kont) ?_
    show Goes p e below _ T0 (mkF m 14 #[.val (.int p1), .val (.int p2), .val (.int p3), .val (.int p4), .val (.int (1 : Int32)), .unset, .unset, .unset, .unset, .unset, .unset, .unset, .unset, .unset, .unset, .unset, .unset, .unset, .unset, .unset, .unset] [(.int p2)])
    refine Goes.of (X0.ldcInt hx hown (mvT hZ (hw _ (List.mem_of_getElem? (i := 0) rfl))) (g := (mkF m 14 #[.val (.int p1), .val (.int p2), .val (.int p3), .val (.int p4), .val (.int (1 : Int32)), .unset, .unset, .unset, .unset, .unset, .unset, .unset, .unset, .unset, .unset, .unset, .unset, .unset, .unset, .unset, .unset] [(.int p2)])) rfl (Jvm.hb hby at_14)) ?_
    show Goes p e below _ T0 (mkF m 16 #[.val (.int p1), .val (.int p2), .val (.int p3), .val (.int p4), .val (.int (1 : Int32)), .unset, .unset, .unset, .unset, .unset, .unset, .unset, .unset, .unset, .unset, .unset, .unset, .unset, .unset, .unset, .unset] [(.int (1048576 : Int32)), (.int p2)])
    refine Goes.of (fun _ kont => XS.irem X0.here hx rfl (Jvm.hb hby at_16) rfl (by decide) kont) ?_
    show Goes p e below _ T0 (mkF m 17 #[.val (.int p1), .val (.int p2), .val (.int p3), .val (.int p4), .val (.int (1 : Int32)), .unset, .unset, .unset, .unset, .unset, .unset, .unset, .unset, .unset, .unset, .unset, .unset, .unset, .unset, .unset, .unset] [(.int (p2 - p2 / (1048576 : Int32) * (1048576 : Int32)))])
    generalize ha : (p2 - p2 / (1048576 : Int32) * (1048576 : Int32)) = a
    show Goes p e below _ T0 (mkF m 17 #[.val (.int p1), .val (.int p2), .val (.int p3), .val (.int p4), .val (.int (1 : Int32)), .unset, .unset, .unset, .unset, .unset, .unset, .unset, .unset, .unset, .unset, .unset, .unset, .unset, .unset, .unset, .unset] [(.int a)])
    refine Goes.of (fun _ kont => XS.istore X0.here hx rfl (Jvm.hb hby at_17) rfl (l' := #[.val (.int p1), .val (.int p2), .val (.int p3), .val (.int p4), .val (.int (1 : Int32)), .val (.int a), .unset, .unset, .unset, .unset, .unset, .unset, .unset, .unset, .unset, .unset, .unset, .unset, .unset, .unset, .unset]) rfl kont) ?_
    show Goes p e below _ T0 (mkF m 19 #[.val (.int p1), .val (.int p2), .val (.int p3), .val (.int p4), .val (.int (1 : Int32)), .val (.int a), .unset, .unset, .unset, .unset, .unset, .unset, .unset, .unset, .unset, .unset, .unset, .unset, .unset, .unset, .unset] [])
    refine Goes.of (fun _ kont => XS.iloadN X0.here hx rfl (Jvm.hb hby at_19) rfl kont) ?_
    show Goes p e below _ T0 (mkF m 20 #[.val (.int p1), .val (.int p2), .val (.int p3), .val (.int p4), .val (.int (1 : Int32)), .val (.int a), .unset, .unset, .unset, .unset, .unset, .unset, .unset, .unset, .unset, .unset, .unset, .unset, .unset, .unset, .unset] [(.int p3)])
    refine Goes.of (X0.ldcInt hx hown (mvT hZ (hw _ (List.mem_of_getElem? (i := 0) rfl))) (g := (mkF m 20 #[.val (.int p1), .val (.int p2), .val (.int p3), .val (.int p4), .val (.int (1 : Int32)), .val (.int a), .unset, .unset, .unset, .unset, .unset, .unset, .unset, .unset, .unset, .unset, .unset, .unset, .unset, .unset, .unset] [(.int p3)])) rfl (Jvm.hb hby at_20)) ?_
    show Goes p e below _ T0 (mkF m 22 #[.val (.int p1), .val (.int p2), .val (.int p3), .val (.int p4), .val (.int (1 : Int32)), .val (.int a), .unset, .unset, .unset, .unset, .unset, .unset, .unset, .unset, .unset, .unset, .unset, .unset, .unset, .unset, .unset] [(.int (1048576 : Int32)), (.int p3)])
    refine Goes.of (fun _ kont => XS.irem X0.here hx rfl (Jvm.hb hby at_22) rfl (by decide) kont) ?_
    show Goes p e below _ T0 (mkF m 23 #[.val (.int p1), .val (.int p2), .val (.int p3), .val (.int p4), .val (.int (1 : Int32)), .val (.int a), .unset, .unset, .unset, .unset, .unset, .unset, .unset, .unset, .unset, .unset, .unset, .unset, .unset, .unset, .unset] [(.int (p3 - p3 / (1048576 : Int32) * (1048576 : Int32)))])
    generalize hb : (p3 - p3 / (1048576 : Int32) * (1048576 : Int32)) = b
    show Goes p e below _ T0 (mkF m 23 #[.val (.int p1), .val (.int p2), .val (.int p3), .val (.int p4), .val (.int (1 : Int32)), .val (.int a), .unset, .unset, .unset, .unset, .unset, .unset, .unset, .unset, .unset, .unset, .unset, .unset, .unset, .unset, .unset] [(.int b)])
    refine Goes.of (fun _ kont => XS.istore X0.here hx rfl (Jvm.hb hby at_23) rfl (l' := #[.val (.int p1), .val (.int p2), .val (.int p3), .val (.int p4), .val (.int (1 : Int32)), .val (.int a), .val (.int b), .unset, .unset, .unset, .unset, .unset, .unset, .unset, .unset, .unset, .unset, .unset, .unset, .unset, .unset]) rfl kont) ?_
    show Goes p e below _ T0 (mkF m 25 #[.val (.int p1), .val (.int p2), .val (.int p3), .val (.int p4), .val (.int (1 : Int32)), .val (.int a), .val (.int b), .unset, .unset, .unset, .unset, .unset, .unset, .unset, .unset, .unset, .unset, .unset, .unset, .unset, .unset] [])
    refine Goes.of (fun _ kont => XS.iloadN X0.here hx rfl (Jvm.hb hby at_25) rfl kont) ?_
    show Goes p e below _ T0 (mkF m 26 #[.val (.int p1), .val (.int p2), .val (.int p3), .val (.int p4), .val (.int (1 : Int32)), .val (.int a), .val (.int b), .unset, .unset, .unset, .unset, .unset, .unset, .unset, .unset, .unset, .unset, .unset, .unset, .unset, .unset] [(.int p4)])
    refine Goes.of (X0.ldcInt hx hown (mvT hZ (hw _ (List.mem_of_getElem? (i := 1) rfl))) (g := (mkF m 26 #[.val (.int p1), .val (.int p2), .val (.int p3), .val (.int p4), .val (.int (1 : Int32)), .val (.int a), .val (.int b), .unset, .unset, .unset, .unset, .unset, .unset, .unset, .unset, .unset, .unset, .unset, .unset, .unset, .unset] [(.int p4)])) rfl (Jvm.hb hby at_26)) ?_
    show Goes p e below _ T0 (mkF m 28 #[.val (.int p1), .val (.int p2), .val (.int p3), .val (.int p4), .val (.int (1 : Int32)), .val (.int a), .val (.int b), .unset, .unset, .unset, .unset, .unset, .unset, .unset, .unset, .unset, .unset, .unset, .unset, .unset, .unset] [(.int (2147483647 : Int32)), (.int p4)])
    refine Goes.of (fun _ kont => XS.iand X0.here hx rfl (Jvm.hb hby at_28) rfl kont) ?_
    show Goes p e below _ T0 (mkF m 29 #[.val (.int p1), .val (.int p2), .val (.int p3), .val (.int p4), .val (.int (1 : Int32)), .val (.int a), .val (.int b), .unset, .unset, .unset, .unset, .unset, .unset, .unset, .unset, .unset, .unset, .unset, .unset, .unset, .unset] [(.int (p4 &&& (2147483647 : Int32)))])
    refine Goes.of (fun _ kont => XS.bipush X0.here hx rfl (Jvm.hb hby at_29) kont) ?_
    show Goes p e below _ T0 (mkF m 31 #[.val (.int p1), .val (.int p2), .val (.int p3), .val (.int p4), .val (.int (1 : Int32)), .val (.int a), .val (.int b), .unset, .unset, .unset, .unset, .unset, .unset, .unset, .unset, .unset, .unset, .unset, .unset, .unset, .unset] [(.int (65 : Int32)), (.int (p4 &&& (2147483647 : Int32)))])
    refine Goes.of (fun _ kont => XS.irem X0.here hx rfl (Jvm.hb hby at_31) rfl (by decide) kont) ?_
    show Goes p e below _ T0 (mkF m 32 #[.val (.int p1), .val (.int p2), .val (.int p3), .val (.int p4), .val (.int (1 : Int32)), .val (.int a), .val (.int b), .unset, .unset, .unset, .unset, .unset, .unset, .unset, .unset, .unset, .unset, .unset, .unset, .unset, .unset] [(.int ((p4 &&& (2147483647 : Int32)) - (p4 &&& (2147483647 : Int32)) / (65 : Int32) * (65 : Int32)))])
    generalize hk : ((p4 &&& (2147483647 : Int32)) - (p4 &&& (2147483647 : Int32)) / (65 : Int32) * (65 : Int32)) = k
    show Goes p e below _ T0 (mkF m 32 #[.val (.int p1), .val (.int p2), .val (.int p3), .val (.int p4), .val (.int (1 : Int32)), .val (.int a), .val (.int b), .unset, .unset, .unset, .unset, .unset, .unset, .unset, .unset, .unset, .unset, .unset, .unset, .unset, .unset] [(.int k)])
    have ba := own_rem20 ha
    have bb := own_rem20 hb
    obtain ⟨k0, bk⟩ := own_rem65 hk
    refine Goes.of (fun _ kont => XS.istore X0.here hx rfl (Jvm.hb hby at_32) rfl (l' := #[.val (.int p1), .val (.int p2), .val (.int p3), .val (.int p4), .val (.int (1 : Int32)), .val (.int a), .val (.int b), .val (.int k), .unset, .unset, .unset, .unset, .unset, .unset, .unset, .unset, .unset, .unset, .unset, .unset, .unset]) rfl kont) ?_
    show Goes p e below _ T0 (mkF m 34 #[.val (.int p1), .val (.int p2), .val (.int p3), .val (.int p4), .val (.int (1 : Int32)), .val (.int a), .val (.int b), .val (.int k), .unset, .unset, .unset, .unset, .unset, .unset, .unset, .unset, .unset, .unset, .unset, .unset, .unset] [])
    refine Goes.of (fun _ kont => XS.iload X0.here hx rfl (Jvm.hb hby at_34) rfl kont) ?_
    show Goes p e below _ T0 (mkF m 36 #[.val (.int p1), .val (.int p2), .val (.int p3), .val (.int p4), .val (.int (1 : Int32)), .val (.int a), .val (.int b), .val (.int k), .unset, .unset, .unset, .unset, .unset, .unset, .unset, .unset, .unset, .unset, .unset, .unset, .unset] [(.int a)])
    refine Goes.of (fun _ kont => XS.i2dS X0.here hx rfl (Jvm.hb hby at_36) rfl rfl kont) ?_
    show Goes p e below _ T0 (mkF m 37 #[.val (.int p1), .val (.int p2), .val (.int p3), .val (.int p4), .val (.int (1 : Int32)), .val (.int a), .val (.int b), .val (.int k), .unset, .unset, .unset, .unset, .unset, .unset, .unset, .unset, .unset, .unset, .unset, .unset, .unset] [(.double (FP.i2d a))])
    refine Goes.of (X0.ldc2DoubleC hx hown (mvT hZ (hw _ (List.mem_of_getElem? (i := 2) rfl))) (g := (mkF m 37 #[.val (.int p1), .val (.int p2), .val (.int p3), .val (.int p4), .val (.int (1 : Int32)), .val (.int a), .val (.int b), .val (.int k), .unset, .unset, .unset, .unset, .unset, .unset, .unset, .unset, .unset, .unset, .unset, .unset, .unset] [(.double (FP.i2d a))])) rfl (Jvm.hb hby at_37)) ?_
    show Goes p e below _ T0 (mkF m 40 #[.val (.int p1), .val (.int p2), .val (.int p3), .val (.int p4), .val (.int (1 : Int32)), .val (.int a), .val (.int b), .val (.int k), .unset, .unset, .unset, .unset, .unset, .unset, .unset, .unset, .unset, .unset, .unset, .unset, .unset] [(.double (4620693217682128896 : UInt64)), (.double (FP.i2d a))])
    have Dx1 := own_div8 a
    refine Goes.of (fun _ kont => XS.ddivS X0.here hx rfl (Jvm.hb hby at_40) rfl Dx1.noNaN rfl kont) ?_
    show Goes p e below _ T0 (mkF m 41 #[.val (.int p1), .val (.int p2), .val (.int p3), .val (.int p4), .val (.int (1 : Int32)), .val (.int a), .val (.int b), .val (.int k), .unset, .unset, .unset, .unset, .unset, .unset, .unset, .unset, .unset, .unset, .unset, .unset, .unset] [(.double (FP.ddiv (FP.i2d a) (4620693217682128896 : UInt64)))])
    generalize hx1 : (FP.ddiv (FP.i2d a) (4620693217682128896 : UInt64)) = x1
    show Goes p e below _ T0 (mkF m 41 #[.val (.int p1), .val (.int p2), .val (.int p3), .val (.int p4), .val (.int (1 : Int32)), .val (.int a), .val (.int b), .val (.int k), .unset, .unset, .unset, .unset, .unset, .unset, .unset, .unset, .unset, .unset, .unset, .unset, .unset] [(.double x1)])
    rw [hx1] at Dx1
    refine Goes.of (fun _ kont => XS.dstore X0.here hx rfl (Jvm.hb hby at_41) rfl (l' := #[.val (.int p1), .val (.int p2), .val (.int p3), .val (.int p4), .val (.int (1 : Int32)), .val (.int a), .val (.int b), .val (.int k), .val (.double x1), .second, .unset, .unset, .unset, .unset, .unset, .unset, .unset, .unset, .unset, .unset, .unset]) rfl kont) ?_
    show Goes p e below _ T0 (mkF m 43 #[.val (.int p1), .val (.int p2), .val (.int p3), .val (.int p4), .val (.int (1 : Int32)), .val (.int a), .val (.int b), .val (.int k), .val (.double x1), .second, .unset, .unset, .unset, .unset, .unset, .unset, .unset, .unset, .unset, .unset, .unset] [])
    refine Goes.of (fun _ kont => XS.iload X0.here hx rfl (Jvm.hb hby at_43) rfl kont) ?_
    show Goes p e below _ T0 (mkF m 45 #[.val (.int p1), .val (.int p2), .val (.int p3), .val (.int p4), .val (.int (1 : Int32)), .val (.int a), .val (.int b), .val (.int k), .val (.double x1), .second, .unset, .unset, .unset, .unset, .unset, .unset, .unset, .unset, .unset, .unset, .unset] [(.int b)])
    refine Goes.of (fun _ kont => XS.i2dS X0.here hx rfl (Jvm.hb hby at_45) rfl rfl kont) ?_
    show Goes p e below _ T0 (mkF m 46 #[.val (.int p1), .val (.int p2), .val (.int p3), .val (.int p4), .val (.int (1 : Int32)), .val (.int a), .val (.int b), .val (.int k), .val (.double x1), .second, .unset, .unset, .unset, .unset, .unset, .unset, .unset, .unset, .unset, .unset, .unset] [(.double (FP.i2d b))])
    refine Goes.of (X0.ldc2DoubleC hx hown (mvT hZ (hw _ (List.mem_of_getElem? (i := 2) rfl))) (g := (mkF m 46 #[.val (.int p1), .val (.int p2), .val (.int p3), .val (.int p4), .val (.int (1 : Int32)), .val (.int a), .val (.int b), .val (.int k), .val (.double x1), .second, .unset, .unset, .unset, .unset, .unset, .unset, .unset, .unset, .unset, .unset, .unset] [(.double (FP.i2d b))])) rfl (Jvm.hb hby at_46)) ?_
    show Goes p e below _ T0 (mkF m 49 #[.val (.int p1), .val (.int p2), .val (.int p3), .val (.int p4), .val (.int (1 : Int32)), .val (.int a), .val (.int b), .val (.int k), .val (.double x1), .second, .unset, .unset, .unset, .unset, .unset, .unset, .unset, .unset, .unset, .unset, .unset] [(.double (4620693217682128896 : UInt64)), (.double (FP.i2d b))])
    have Dx2 := own_div8 b
    refine Goes.of (fun _ kont => XS.ddivS X0.here hx rfl (Jvm.hb hby at_49) rfl Dx2.noNaN rfl kont) ?_
    show Goes p e below _ T0 (mkF m 50 #[.val (.int p1), .val (.int p2), .val (.int p3), .val (.int p4), .val (.int (1 : Int32)), .val (.int a), .val (.int b), .val (.int k), .val (.double x1), .second, .unset, .unset, .unset, .unset, .unset, .unset, .unset, .unset, .unset, .unset, .unset] [(.double (FP.ddiv (FP.i2d b) (4620693217682128896 : UInt64)))])
    generalize hx2 : (FP.ddiv (FP.i2d b) (4620693217682128896 : UInt64)) = x2
    show Goes p e below _ T0 (mkF m 50 #[.val (.int p1), .val (.int p2), .val (.int p3), .val (.int p4), .val (.int (1 : Int32)), .val (.int a), .val (.int b), .val (.int k), .val (.double x1), .second, .unset, .unset, .unset, .unset, .unset, .unset, .unset, .unset, .unset, .unset, .unset] [(.double x2)])
    rw [hx2] at Dx2
    refine Goes.of (fun _ kont => XS.dstore X0.here hx rfl (Jvm.hb hby at_50) rfl (l' := #[.val (.int p1), .val (.int p2), .val (.int p3), .val (.int p4), .val (.int (1 : Int32)), .val (.int a), .val (.int b), .val (.int k), .val (.double x1), .second, .val (.double x2), .second, .unset, .unset, .unset, .unset, .unset, .unset, .unset, .unset, .unset]) rfl kont) ?_
    show Goes p e below _ T0 (mkF m 52 #[.val (.int p1), .val (.int p2), .val (.int p3), .val (.int p4), .val (.int (1 : Int32)), .val (.int a), .val (.int b), .val (.int k), .val (.double x1), .second, .val (.double x2), .second, .unset, .unset, .unset, .unset, .unset, .unset, .unset, .unset, .unset] [])
    refine Goes.of (fun _ kont => XS.iload X0.here hx rfl (Jvm.hb hby at_52) rfl kont) ?_
    show Goes p e below _ T0 (mkF m 54 #[.val (.int p1), .val (.int p2), .val (.int p3), .val (.int p4), .val (.int (1 : Int32)), .val (.int a), .val (.int b), .val (.int k), .val (.double x1), .second, .val (.double x2), .second, .unset, .unset, .unset, .unset, .unset, .unset, .unset, .unset, .unset] [(.int k)])
    refine Goes.of (fun _ kont => XS.i2dS X0.here hx rfl (Jvm.hb hby at_54) rfl rfl kont) ?_
    show Goes p e below _ T0 (mkF m 55 #[.val (.int p1), .val (.int p2), .val (.int p3), .val (.int p4), .val (.int (1 : Int32)), .val (.int a), .val (.int b), .val (.int k), .val (.double x1), .second, .val (.double x2), .second, .unset, .unset, .unset, .unset, .unset, .unset, .unset, .unset, .unset] [(.double (FP.i2d k))])
    refine Goes.of (X0.ldc2DoubleC hx hown (mvT hZ (hw _ (List.mem_of_getElem? (i := 3) rfl))) (g := (mkF m 55 #[.val (.int p1), .val (.int p2), .val (.int p3), .val (.int p4), .val (.int (1 : Int32)), .val (.int a), .val (.int b), .val (.int k), .val (.double x1), .second, .val (.double x2), .second, .unset, .unset, .unset, .unset, .unset, .unset, .unset, .unset, .unset] [(.double (FP.i2d k))])) rfl (Jvm.hb hby at_55)) ?_
    show Goes p e below _ T0 (mkF m 58 #[.val (.int p1), .val (.int p2), .val (.int p3), .val (.int p4), .val (.int (1 : Int32)), .val (.int a), .val (.int b), .val (.int k), .val (.double x1), .second, .val (.double x2), .second, .unset, .unset, .unset, .unset, .unset, .unset, .unset, .unset, .unset] [(.double (4634204016564240384 : UInt64)), (.double (FP.i2d k))])
    have Dx3 := own_div64 k
    refine Goes.of (fun _ kont => XS.ddivS X0.here hx rfl (Jvm.hb hby at_58) rfl Dx3.noNaN rfl kont) ?_
    show Goes p e below _ T0 (mkF m 59 #[.val (.int p1), .val (.int p2), .val (.int p3), .val (.int p4), .val (.int (1 : Int32)), .val (.int a), .val (.int b), .val (.int k), .val (.double x1), .second, .val (.double x2), .second, .unset, .unset, .unset, .unset, .unset, .unset, .unset, .unset, .unset] [(.double (FP.ddiv (FP.i2d k) (4634204016564240384 : UInt64)))])
    generalize hx3 : (FP.ddiv (FP.i2d k) (4634204016564240384 : UInt64)) = x3
    show Goes p e below _ T0 (mkF m 59 #[.val (.int p1), .val (.int p2), .val (.int p3), .val (.int p4), .val (.int (1 : Int32)), .val (.int a), .val (.int b), .val (.int k), .val (.double x1), .second, .val (.double x2), .second, .unset, .unset, .unset, .unset, .unset, .unset, .unset, .unset, .unset] [(.double x3)])
    rw [hx3] at Dx3
    refine Goes.of (fun _ kont => XS.dstore X0.here hx rfl (Jvm.hb hby at_59) rfl (l' := #[.val (.int p1), .val (.int p2), .val (.int p3), .val (.int p4), .val (.int (1 : Int32)), .val (.int a), .val (.int b), .val (.int k), .val (.double x1), .second, .val (.double x2), .second, .val (.double x3), .second, .unset, .unset, .unset, .unset, .unset, .unset, .unset]) rfl kont) ?_
    show Goes p e below _ T0 (mkF m 61 #[.val (.int p1), .val (.int p2), .val (.int p3), .val (.int p4), .val (.int (1 : Int32)), .val (.int a), .val (.int b), .val (.int k), .val (.double x1), .second, .val (.double x2), .second, .val (.double x3), .second, .unset, .unset, .unset, .unset, .unset, .unset, .unset] [])
    refine Goes.of (fun _ kont => XS.iload X0.here hx rfl (Jvm.hb hby at_61) rfl kont) ?_
    show Goes p e below _ T0 (mkF m 63 #[.val (.int p1), .val (.int p2), .val (.int p3), .val (.int p4), .val (.int (1 : Int32)), .val (.int a), .val (.int b), .val (.int k), .val (.double x1), .second, .val (.double x2), .second, .val (.double x3), .second, .unset, .unset, .unset, .unset, .unset, .unset, .unset] [(.int (1 : Int32))])
    refine Goes.of (fun _ kont => XS.ifNo X0.here hx rfl (Jvm.hb hby at_63) rfl (by decide) kont) ?_
    show Goes p e below _ T0 (mkF m 66 #[.val (.int p1), .val (.int p2), .val (.int p3), .val (.int p4), .val (.int (1 : Int32)), .val (.int a), .val (.int b), .val (.int k), .val (.double x1), .second, .val (.double x2), .second, .val (.double x3), .second, .unset, .unset, .unset, .unset, .unset, .unset, .unset] [])
    refine goS X0 hx hZ hown (hw _ (List.mem_of_getElem? (i := 15) rfl)) Via.refl e0 SP (g := (mkF m 66 #[.val (.int p1), .val (.int p2), .val (.int p3), .val (.int p4), .val (.int (1 : Int32)), .val (.int a), .val (.int b), .val (.int k), .val (.double x1), .second, .val (.double x2), .second, .val (.double x3), .second, .unset, .unset, .unset, .unset, .unset, .unset, .unset] [])) rfl (Jvm.hb hby at_66) ?_
    intro T1 X1 e1
    show Goes p e below _ T1 (mkF m 69 #[.val (.int p1), .val (.int p2), .val (.int p3), .val (.int p4), .val (.int (1 : Int32)), .val (.int a), .val (.int b), .val (.int k), .val (.double x1), .second, .val (.double x2), .second, .val (.double x3), .second, .unset, .unset, .unset, .unset, .unset, .unset, .unset] [(.ref aP)])
    refine Goes.of (fun _ kont => XS.goto X1.here hx rfl (pc0 := 69) (pc' := 75) rfl (Jvm.hb hby at_69) (by decide) (by decide) kont) ?_
    show Goes p e below _ T1 (mkF m 75 #[.val (.int p1), .val (.int p2), .val (.int p3), .val (.int p4), .val (.int (1 : Int32)), .val (.int a), .val (.int b), .val (.int k), .val (.double x1), .second, .val (.double x2), .second, .val (.double x3), .second, .unset, .unset, .unset, .unset, .unset, .unset, .unset] [(.ref aP)])
    refine Goes.of (fun _ kont => XS.astore X1.here hx rfl (Jvm.hb hby at_75) rfl rfl (l' := #[.val (.int p1), .val (.int p2), .val (.int p3), .val (.int p4), .val (.int (1 : Int32)), .val (.int a), .val (.int b), .val (.int k), .val (.double x1), .second, .val (.double x2), .second, .val (.double x3), .second, .val (.ref aP), .unset, .unset, .unset, .unset, .unset, .unset]) rfl kont) ?_
    show Goes p e below _ T1 (mkF m 77 #[.val (.int p1), .val (.int p2), .val (.int p3), .val (.int p4), .val (.int (1 : Int32)), .val (.int a), .val (.int b), .val (.int k), .val (.double x1), .second, .val (.double x2), .second, .val (.double x3), .second, .val (.ref aP), .unset, .unset, .unset, .unset, .unset, .unset] [])
    refine Goes.of (fun _ kont => XS.aload X1.here hx rfl (Jvm.hb hby at_77) rfl rfl kont) ?_
    show Goes p e below _ T1 (mkF m 79 #[.val (.int p1), .val (.int p2), .val (.int p3), .val (.int p4), .val (.int (1 : Int32)), .val (.int a), .val (.int b), .val (.int k), .val (.double x1), .second, .val (.double x2), .second, .val (.double x3), .second, .val (.ref aP), .unset, .unset, .unset, .unset, .unset, .unset] [(.ref aP)])
    refine Goes.of (fun _ kont => XS.dload X1.here hx rfl (Jvm.hb hby at_79) rfl kont) ?_
    show Goes p e below _ T1 (mkF m 81 #[.val (.int p1), .val (.int p2), .val (.int p3), .val (.int p4), .val (.int (1 : Int32)), .val (.int a), .val (.int b), .val (.int k), .val (.double x1), .second, .val (.double x2), .second, .val (.double x3), .second, .val (.ref aP), .unset, .unset, .unset, .unset, .unset, .unset] [(.double x1), (.ref aP)])
    refine Goes.of (fun _ kont => XS.dload X1.here hx rfl (Jvm.hb hby at_81) rfl kont) ?_
    show Goes p e below _ T1 (mkF m 83 #[.val (.int p1), .val (.int p2), .val (.int p3), .val (.int p4), .val (.int (1 : Int32)), .val (.int a), .val (.int b), .val (.int k), .val (.double x1), .second, .val (.double x2), .second, .val (.double x3), .second, .val (.ref aP), .unset, .unset, .unset, .unset, .unset, .unset] [(.double x2), (.double x1), (.ref aP)])
    refine Goes.of (fun _ kont => XS.dload X1.here hx rfl (Jvm.hb hby at_83) rfl kont) ?_
    show Goes p e below _ T1 (mkF m 85 #[.val (.int p1), .val (.int p2), .val (.int p3), .val (.int p4), .val (.int (1 : Int32)), .val (.int a), .val (.int b), .val (.int k), .val (.double x1), .second, .val (.double x2), .second, .val (.double x3), .second, .val (.ref aP), .unset, .unset, .unset, .unset, .unset, .unset] [(.double x3), (.double x2), (.double x1), (.ref aP)])
    refine callV X1 hx hZ (y := (⟨"com/example/concordance/concordance/search/ContextMatching$Combination", "of", "(DDD)D"⟩ : MethodName)) (z := (⟨"com/example/concordance/concordance/search/ContextMatching$Combination", "of", "(DDD)D"⟩ : MethodName)) hown (hw _ (List.mem_of_getElem? (i := 7) rfl)) (hw _ (List.mem_of_getElem? (i := 8) rfl)) (notFace_of_selects (args := #[]) (mvT hZ (hw _ (List.mem_of_getElem? (i := 10) rfl)))) (hw _ (List.mem_of_getElem? (i := 10) rfl)) (hw _ (List.mem_of_getElem? (i := 9) rfl)) (hw _ (List.mem_of_getElem? (i := 11) rfl)) (hw _ (List.mem_of_getElem? (i := 5) rfl)) (by decide) (b := aP) EP (as := [(.double x1), (.double x2), (.double x3)]) (rm2 l Z a0 hw aP x1 x2 x3 aS a.toInt b.toInt k.toInt h0 n0 Z0 SS hne Dx1 Dx2 Dx3 ba bb k0 bk) 0 (by decide) (by decide) e1 (by decide) (by decide) (g := mkF m 85 #[.val (.int p1), .val (.int p2), .val (.int p3), .val (.int p4), .val (.int (1 : Int32)), .val (.int a), .val (.int b), .val (.int k), .val (.double x1), .second, .val (.double x2), .second, .val (.double x3), .second, .val (.ref aP), .unset, .unset, .unset, .unset, .unset, .unset] [(.double x3), (.double x2), (.double x1), (.ref aP)]) rfl (by rw [hml]; rfl) (rest := []) (lenOf pd_0 rfl) rfl (by show 2 * 0 + _ ≤ _; exact Nat.le_of_eq rfl) (Jvm.hb hby at_85) ?_
    rintro _ T2 L2 X2 ⟨⟨z2, rfl, Dz2⟩, N2, e2⟩
    show Goes p e below _ T2 (mkF m 88 #[.val (.int p1), .val (.int p2), .val (.int p3), .val (.int p4), .val (.int (1 : Int32)), .val (.int a), .val (.int b), .val (.int k), .val (.double x1), .second, .val (.double x2), .second, .val (.double x3), .second, .val (.ref aP), .unset, .unset, .unset, .unset, .unset, .unset] [(.double z2)])
    refine Goes.of (fun _ kont => XS.dstore X2.here hx rfl (Jvm.hb hby at_88) rfl (l' := #[.val (.int p1), .val (.int p2), .val (.int p3), .val (.int p4), .val (.int (1 : Int32)), .val (.int a), .val (.int b), .val (.int k), .val (.double x1), .second, .val (.double x2), .second, .val (.double x3), .second, .val (.ref aP), .val (.double z2), .second, .unset, .unset, .unset, .unset]) rfl kont) ?_
    show Goes p e below _ T2 (mkF m 90 #[.val (.int p1), .val (.int p2), .val (.int p3), .val (.int p4), .val (.int (1 : Int32)), .val (.int a), .val (.int b), .val (.int k), .val (.double x1), .second, .val (.double x2), .second, .val (.double x3), .second, .val (.ref aP), .val (.double z2), .second, .unset, .unset, .unset, .unset] [])
    refine Goes.of (fun _ kont => XS.iload X2.here hx rfl (Jvm.hb hby at_90) rfl kont) ?_
    show Goes p e below _ T2 (mkF m 92 #[.val (.int p1), .val (.int p2), .val (.int p3), .val (.int p4), .val (.int (1 : Int32)), .val (.int a), .val (.int b), .val (.int k), .val (.double x1), .second, .val (.double x2), .second, .val (.double x3), .second, .val (.ref aP), .val (.double z2), .second, .unset, .unset, .unset, .unset] [(.int (1 : Int32))])
    refine Goes.of (fun _ kont => XS.ifNo X2.here hx rfl (Jvm.hb hby at_92) rfl (by decide) kont) ?_
    show Goes p e below _ T2 (mkF m 95 #[.val (.int p1), .val (.int p2), .val (.int p3), .val (.int p4), .val (.int (1 : Int32)), .val (.int a), .val (.int b), .val (.int k), .val (.double x1), .second, .val (.double x2), .second, .val (.double x3), .second, .val (.ref aP), .val (.double z2), .second, .unset, .unset, .unset, .unset] [])
    refine Goes.of (fun _ kont => XS.iload X2.here hx rfl (Jvm.hb hby at_95) rfl kont) ?_
    show Goes p e below _ T2 (mkF m 97 #[.val (.int p1), .val (.int p2), .val (.int p3), .val (.int p4), .val (.int (1 : Int32)), .val (.int a), .val (.int b), .val (.int k), .val (.double x1), .second, .val (.double x2), .second, .val (.double x3), .second, .val (.ref aP), .val (.double z2), .second, .unset, .unset, .unset, .unset] [(.int a)])
    refine Goes.of (fun _ kont => XT.i2l X2.here hx rfl (Jvm.hb hby at_97) rfl kont) ?_
    show Goes p e below _ T2 (mkF m 98 #[.val (.int p1), .val (.int p2), .val (.int p3), .val (.int p4), .val (.int (1 : Int32)), .val (.int a), .val (.int b), .val (.int k), .val (.double x1), .second, .val (.double x2), .second, .val (.double x3), .second, .val (.ref aP), .val (.double z2), .second, .unset, .unset, .unset, .unset] [(.long (Int32.toInt64 a))])
    refine Goes.of (X2.ldc2Long hx hown (mvT hZ (hw _ (List.mem_of_getElem? (i := 17) rfl))) (g := (mkF m 98 #[.val (.int p1), .val (.int p2), .val (.int p3), .val (.int p4), .val (.int (1 : Int32)), .val (.int a), .val (.int b), .val (.int k), .val (.double x1), .second, .val (.double x2), .second, .val (.double x3), .second, .val (.ref aP), .val (.double z2), .second, .unset, .unset, .unset, .unset] [(.long (Int32.toInt64 a))])) rfl (Jvm.hb hby at_98)) ?_
    show Goes p e below _ T2 (mkF m 101 #[.val (.int p1), .val (.int p2), .val (.int p3), .val (.int p4), .val (.int (1 : Int32)), .val (.int a), .val (.int b), .val (.int k), .val (.double x1), .second, .val (.double x2), .second, .val (.double x3), .second, .val (.ref aP), .val (.double z2), .second, .unset, .unset, .unset, .unset] [(.long (8 : Int64)), (.long (Int32.toInt64 a))])
    refine Goes.of (fun _ kont => XS.iload X2.here hx rfl (Jvm.hb hby at_101) rfl kont) ?_
    show Goes p e below _ T2 (mkF m 103 #[.val (.int p1), .val (.int p2), .val (.int p3), .val (.int p4), .val (.int (1 : Int32)), .val (.int a), .val (.int b), .val (.int k), .val (.double x1), .second, .val (.double x2), .second, .val (.double x3), .second, .val (.ref aP), .val (.double z2), .second, .unset, .unset, .unset, .unset] [(.int k), (.long (8 : Int64)), (.long (Int32.toInt64 a))])
    refine Goes.of (fun _ kont => XT.i2l X2.here hx rfl (Jvm.hb hby at_103) rfl kont) ?_
    show Goes p e below _ T2 (mkF m 104 #[.val (.int p1), .val (.int p2), .val (.int p3), .val (.int p4), .val (.int (1 : Int32)), .val (.int a), .val (.int b), .val (.int k), .val (.double x1), .second, .val (.double x2), .second, .val (.double x3), .second, .val (.ref aP), .val (.double z2), .second, .unset, .unset, .unset, .unset] [(.long (Int32.toInt64 k)), (.long (8 : Int64)), (.long (Int32.toInt64 a))])
    refine Goes.of (fun _ kont => XT.lmul X2.here hx rfl (Jvm.hb hby at_104) rfl kont) ?_
    show Goes p e below _ T2 (mkF m 105 #[.val (.int p1), .val (.int p2), .val (.int p3), .val (.int p4), .val (.int (1 : Int32)), .val (.int a), .val (.int b), .val (.int k), .val (.double x1), .second, .val (.double x2), .second, .val (.double x3), .second, .val (.ref aP), .val (.double z2), .second, .unset, .unset, .unset, .unset] [(.long ((8 : Int64) * (Int32.toInt64 k))), (.long (Int32.toInt64 a))])
    refine Goes.of (X2.ldc2Long hx hown (mvT hZ (hw _ (List.mem_of_getElem? (i := 13) rfl))) (g := (mkF m 105 #[.val (.int p1), .val (.int p2), .val (.int p3), .val (.int p4), .val (.int (1 : Int32)), .val (.int a), .val (.int b), .val (.int k), .val (.double x1), .second, .val (.double x2), .second, .val (.double x3), .second, .val (.ref aP), .val (.double z2), .second, .unset, .unset, .unset, .unset] [(.long ((8 : Int64) * (Int32.toInt64 k))), (.long (Int32.toInt64 a))])) rfl (Jvm.hb hby at_105)) ?_
    show Goes p e below _ T2 (mkF m 108 #[.val (.int p1), .val (.int p2), .val (.int p3), .val (.int p4), .val (.int (1 : Int32)), .val (.int a), .val (.int b), .val (.int k), .val (.double x1), .second, .val (.double x2), .second, .val (.double x3), .second, .val (.ref aP), .val (.double z2), .second, .unset, .unset, .unset, .unset] [(.long (64 : Int64)), (.long ((8 : Int64) * (Int32.toInt64 k))), (.long (Int32.toInt64 a))])
    refine Goes.of (fun _ kont => XS.iload X2.here hx rfl (Jvm.hb hby at_108) rfl kont) ?_
    show Goes p e below _ T2 (mkF m 110 #[.val (.int p1), .val (.int p2), .val (.int p3), .val (.int p4), .val (.int (1 : Int32)), .val (.int a), .val (.int b), .val (.int k), .val (.double x1), .second, .val (.double x2), .second, .val (.double x3), .second, .val (.ref aP), .val (.double z2), .second, .unset, .unset, .unset, .unset] [(.int k), (.long (64 : Int64)), (.long ((8 : Int64) * (Int32.toInt64 k))), (.long (Int32.toInt64 a))])
    refine Goes.of (fun _ kont => XT.i2l X2.here hx rfl (Jvm.hb hby at_110) rfl kont) ?_
    show Goes p e below _ T2 (mkF m 111 #[.val (.int p1), .val (.int p2), .val (.int p3), .val (.int p4), .val (.int (1 : Int32)), .val (.int a), .val (.int b), .val (.int k), .val (.double x1), .second, .val (.double x2), .second, .val (.double x3), .second, .val (.ref aP), .val (.double z2), .second, .unset, .unset, .unset, .unset] [(.long (Int32.toInt64 k)), (.long (64 : Int64)), (.long ((8 : Int64) * (Int32.toInt64 k))), (.long (Int32.toInt64 a))])
    refine Goes.of (fun _ kont => XT.lsub X2.here hx rfl (Jvm.hb hby at_111) rfl kont) ?_
    show Goes p e below _ T2 (mkF m 112 #[.val (.int p1), .val (.int p2), .val (.int p3), .val (.int p4), .val (.int (1 : Int32)), .val (.int a), .val (.int b), .val (.int k), .val (.double x1), .second, .val (.double x2), .second, .val (.double x3), .second, .val (.ref aP), .val (.double z2), .second, .unset, .unset, .unset, .unset] [(.long ((64 : Int64) - (Int32.toInt64 k))), (.long ((8 : Int64) * (Int32.toInt64 k))), (.long (Int32.toInt64 a))])
    refine Goes.of (fun _ kont => XS.iload X2.here hx rfl (Jvm.hb hby at_112) rfl kont) ?_
    show Goes p e below _ T2 (mkF m 114 #[.val (.int p1), .val (.int p2), .val (.int p3), .val (.int p4), .val (.int (1 : Int32)), .val (.int a), .val (.int b), .val (.int k), .val (.double x1), .second, .val (.double x2), .second, .val (.double x3), .second, .val (.ref aP), .val (.double z2), .second, .unset, .unset, .unset, .unset] [(.int b), (.long ((64 : Int64) - (Int32.toInt64 k))), (.long ((8 : Int64) * (Int32.toInt64 k))), (.long (Int32.toInt64 a))])
    refine Goes.of (fun _ kont => XT.i2l X2.here hx rfl (Jvm.hb hby at_114) rfl kont) ?_
    show Goes p e below _ T2 (mkF m 115 #[.val (.int p1), .val (.int p2), .val (.int p3), .val (.int p4), .val (.int (1 : Int32)), .val (.int a), .val (.int b), .val (.int k), .val (.double x1), .second, .val (.double x2), .second, .val (.double x3), .second, .val (.ref aP), .val (.double z2), .second, .unset, .unset, .unset, .unset] [(.long (Int32.toInt64 b)), (.long ((64 : Int64) - (Int32.toInt64 k))), (.long ((8 : Int64) * (Int32.toInt64 k))), (.long (Int32.toInt64 a))])
    refine Goes.of (fun _ kont => XT.lmul X2.here hx rfl (Jvm.hb hby at_115) rfl kont) ?_
    show Goes p e below _ T2 (mkF m 116 #[.val (.int p1), .val (.int p2), .val (.int p3), .val (.int p4), .val (.int (1 : Int32)), .val (.int a), .val (.int b), .val (.int k), .val (.double x1), .second, .val (.double x2), .second, .val (.double x3), .second, .val (.ref aP), .val (.double z2), .second, .unset, .unset, .unset, .unset] [(.long (((64 : Int64) - (Int32.toInt64 k)) * (Int32.toInt64 b))), (.long ((8 : Int64) * (Int32.toInt64 k))), (.long (Int32.toInt64 a))])
    refine Goes.of (fun _ kont => XT.ladd X2.here hx rfl (Jvm.hb hby at_116) rfl kont) ?_
    show Goes p e below _ T2 (mkF m 117 #[.val (.int p1), .val (.int p2), .val (.int p3), .val (.int p4), .val (.int (1 : Int32)), .val (.int a), .val (.int b), .val (.int k), .val (.double x1), .second, .val (.double x2), .second, .val (.double x3), .second, .val (.ref aP), .val (.double z2), .second, .unset, .unset, .unset, .unset] [(.long (((8 : Int64) * (Int32.toInt64 k)) + (((64 : Int64) - (Int32.toInt64 k)) * (Int32.toInt64 b)))), (.long (Int32.toInt64 a))])
    refine Goes.of (fun _ kont => XT.lmul X2.here hx rfl (Jvm.hb hby at_117) rfl kont) ?_
    show Goes p e below _ T2 (mkF m 118 #[.val (.int p1), .val (.int p2), .val (.int p3), .val (.int p4), .val (.int (1 : Int32)), .val (.int a), .val (.int b), .val (.int k), .val (.double x1), .second, .val (.double x2), .second, .val (.double x3), .second, .val (.ref aP), .val (.double z2), .second, .unset, .unset, .unset, .unset] [(.long ((Int32.toInt64 a) * (((8 : Int64) * (Int32.toInt64 k)) + (((64 : Int64) - (Int32.toInt64 k)) * (Int32.toInt64 b)))))])
    generalize hnn : ((Int32.toInt64 a) * (((8 : Int64) * (Int32.toInt64 k)) + (((64 : Int64) - (Int32.toInt64 k)) * (Int32.toInt64 b)))) = nn
    show Goes p e below _ T2 (mkF m 118 #[.val (.int p1), .val (.int p2), .val (.int p3), .val (.int p4), .val (.int (1 : Int32)), .val (.int a), .val (.int b), .val (.int k), .val (.double x1), .second, .val (.double x2), .second, .val (.double x3), .second, .val (.ref aP), .val (.double z2), .second, .unset, .unset, .unset, .unset] [(.long nn)])
    obtain ⟨en, bn⟩ := own_numP ba bb k0 bk hnn
    refine Goes.of (fun _ kont => XT.lstore X2.here hx rfl (Jvm.hb hby at_118) rfl (l' := #[.val (.int p1), .val (.int p2), .val (.int p3), .val (.int p4), .val (.int (1 : Int32)), .val (.int a), .val (.int b), .val (.int k), .val (.double x1), .second, .val (.double x2), .second, .val (.double x3), .second, .val (.ref aP), .val (.double z2), .second, .unset, .unset, .val (.long nn), .second]) rfl kont) ?_
    show Goes p e below _ T2 (mkF m 120 #[.val (.int p1), .val (.int p2), .val (.int p3), .val (.int p4), .val (.int (1 : Int32)), .val (.int a), .val (.int b), .val (.int k), .val (.double x1), .second, .val (.double x2), .second, .val (.double x3), .second, .val (.ref aP), .val (.double z2), .second, .unset, .unset, .val (.long nn), .second] [])
    refine Goes.of (fun _ kont => XT.lload X2.here hx rfl (Jvm.hb hby at_120) rfl kont) ?_
    show Goes p e below _ T2 (mkF m 122 #[.val (.int p1), .val (.int p2), .val (.int p3), .val (.int p4), .val (.int (1 : Int32)), .val (.int a), .val (.int b), .val (.int k), .val (.double x1), .second, .val (.double x2), .second, .val (.double x3), .second, .val (.ref aP), .val (.double z2), .second, .unset, .unset, .val (.long nn), .second] [(.long nn)])
    refine Goes.of (fun _ kont => XS.l2dS X2.here hx rfl (Jvm.hb hby at_122) rfl rfl kont) ?_
    show Goes p e below _ T2 (mkF m 123 #[.val (.int p1), .val (.int p2), .val (.int p3), .val (.int p4), .val (.int (1 : Int32)), .val (.int a), .val (.int b), .val (.int k), .val (.double x1), .second, .val (.double x2), .second, .val (.double x3), .second, .val (.ref aP), .val (.double z2), .second, .unset, .unset, .val (.long nn), .second] [(.double (FP.l2d nn))])
    refine Goes.of (X2.ldc2DoubleC hx hown (mvT hZ (hw _ (List.mem_of_getElem? (i := 18) rfl))) (g := (mkF m 123 #[.val (.int p1), .val (.int p2), .val (.int p3), .val (.int p4), .val (.int (1 : Int32)), .val (.int a), .val (.int b), .val (.int k), .val (.double x1), .second, .val (.double x2), .second, .val (.double x3), .second, .val (.ref aP), .val (.double z2), .second, .unset, .unset, .val (.long nn), .second] [(.double (FP.l2d nn))])) rfl (Jvm.hb hby at_123)) ?_
    show Goes p e below _ T2 (mkF m 126 #[.val (.int p1), .val (.int p2), .val (.int p3), .val (.int p4), .val (.int (1 : Int32)), .val (.int a), .val (.int b), .val (.int k), .val (.double x1), .second, .val (.double x2), .second, .val (.double x3), .second, .val (.ref aP), .val (.double z2), .second, .unset, .unset, .val (.long nn), .second] [(.double (4661225614328463360 : UInt64)), (.double (FP.l2d nn))])
    have Dq := own_divP bn
    refine Goes.of (fun _ kont => XS.ddivS X2.here hx rfl (Jvm.hb hby at_126) rfl Dq.noNaN rfl kont) ?_
    show Goes p e below _ T2 (mkF m 127 #[.val (.int p1), .val (.int p2), .val (.int p3), .val (.int p4), .val (.int (1 : Int32)), .val (.int a), .val (.int b), .val (.int k), .val (.double x1), .second, .val (.double x2), .second, .val (.double x3), .second, .val (.ref aP), .val (.double z2), .second, .unset, .unset, .val (.long nn), .second] [(.double (FP.ddiv (FP.l2d nn) (4661225614328463360 : UInt64)))])
    generalize hqq : (FP.ddiv (FP.l2d nn) (4661225614328463360 : UInt64)) = qq
    show Goes p e below _ T2 (mkF m 127 #[.val (.int p1), .val (.int p2), .val (.int p3), .val (.int p4), .val (.int (1 : Int32)), .val (.int a), .val (.int b), .val (.int k), .val (.double x1), .second, .val (.double x2), .second, .val (.double x3), .second, .val (.ref aP), .val (.double z2), .second, .unset, .unset, .val (.long nn), .second] [(.double qq)])
    rw [hqq, en] at Dq
    refine Goes.of (fun _ kont => XS.dstore X2.here hx rfl (Jvm.hb hby at_127) rfl (l' := #[.val (.int p1), .val (.int p2), .val (.int p3), .val (.int p4), .val (.int (1 : Int32)), .val (.int a), .val (.int b), .val (.int k), .val (.double x1), .second, .val (.double x2), .second, .val (.double x3), .second, .val (.ref aP), .val (.double z2), .second, .val (.double qq), .second, .val (.long nn), .second]) rfl kont) ?_
    show Goes p e below _ T2 (mkF m 129 #[.val (.int p1), .val (.int p2), .val (.int p3), .val (.int p4), .val (.int (1 : Int32)), .val (.int a), .val (.int b), .val (.int k), .val (.double x1), .second, .val (.double x2), .second, .val (.double x3), .second, .val (.ref aP), .val (.double z2), .second, .val (.double qq), .second, .val (.long nn), .second] [])
    refine Goes.of (fun _ kont => XS.goto X2.here hx rfl (pc0 := 129) (pc' := 162) rfl (Jvm.hb hby at_129) (by decide) (by decide) kont) ?_
    show Goes p e below _ T2 (mkF m 162 #[.val (.int p1), .val (.int p2), .val (.int p3), .val (.int p4), .val (.int (1 : Int32)), .val (.int a), .val (.int b), .val (.int k), .val (.double x1), .second, .val (.double x2), .second, .val (.double x3), .second, .val (.ref aP), .val (.double z2), .second, .val (.double qq), .second, .val (.long nn), .second] [])
    refine Goes.of (fun _ kont => XS.dload X2.here hx rfl (Jvm.hb hby at_162) rfl kont) ?_
    show Goes p e below _ T2 (mkF m 164 #[.val (.int p1), .val (.int p2), .val (.int p3), .val (.int p4), .val (.int (1 : Int32)), .val (.int a), .val (.int b), .val (.int k), .val (.double x1), .second, .val (.double x2), .second, .val (.double x3), .second, .val (.ref aP), .val (.double z2), .second, .val (.double qq), .second, .val (.long nn), .second] [(.double z2)])
    refine Goes.of (fun _ kont => XS.dload X2.here hx rfl (Jvm.hb hby at_164) rfl kont) ?_
    show Goes p e below _ T2 (mkF m 166 #[.val (.int p1), .val (.int p2), .val (.int p3), .val (.int p4), .val (.int (1 : Int32)), .val (.int a), .val (.int b), .val (.int k), .val (.double x1), .second, .val (.double x2), .second, .val (.double x3), .second, .val (.ref aP), .val (.double z2), .second, .val (.double qq), .second, .val (.long nn), .second] [(.double qq), (.double z2)])
    refine Goes.of (fun _ kont => XS.dcmpS X2.here hx rfl (Jvm.hb hby at_166) rfl rfl kont) ?_
    show Goes p e below _ T2 (mkF m 167 #[.val (.int p1), .val (.int p2), .val (.int p3), .val (.int p4), .val (.int (1 : Int32)), .val (.int a), .val (.int b), .val (.int k), .val (.double x1), .second, .val (.double x2), .second, .val (.double x3), .second, .val (.ref aP), .val (.double z2), .second, .val (.double qq), .second, .val (.long nn), .second] [(.int (cmpValue (FP.dcmp z2 qq) .l))])
    refine Goes.of (fun _ kont => XS.ifNo X2.here hx rfl (Jvm.hb hby at_167) rfl (by rw [dy_eq Dz2 Dq rfl]; decide) kont) ?_
    show Goes p e below _ T2 (mkF m 170 #[.val (.int p1), .val (.int p2), .val (.int p3), .val (.int p4), .val (.int (1 : Int32)), .val (.int a), .val (.int b), .val (.int k), .val (.double x1), .second, .val (.double x2), .second, .val (.double x3), .second, .val (.ref aP), .val (.double z2), .second, .val (.double qq), .second, .val (.long nn), .second] [])
    refine Goes.of (fun _ kont => XS.iconst X2.here hx rfl (Jvm.hb hby at_170) kont) ?_
    show Goes p e below _ T2 (mkF m 171 #[.val (.int p1), .val (.int p2), .val (.int p3), .val (.int p4), .val (.int (1 : Int32)), .val (.int a), .val (.int b), .val (.int k), .val (.double x1), .second, .val (.double x2), .second, .val (.double x3), .second, .val (.ref aP), .val (.double z2), .second, .val (.double qq), .second, .val (.long nn), .second] [(.int (1 : Int32))])
    refine Goes.of (fun _ kont => XS.goto X2.here hx rfl (pc0 := 171) (pc' := 175) rfl (Jvm.hb hby at_171) (by decide) (by decide) kont) ?_
    show Goes p e below _ T2 (mkF m 175 #[.val (.int p1), .val (.int p2), .val (.int p3), .val (.int p4), .val (.int (1 : Int32)), .val (.int a), .val (.int b), .val (.int k), .val (.double x1), .second, .val (.double x2), .second, .val (.double x3), .second, .val (.ref aP), .val (.double z2), .second, .val (.double qq), .second, .val (.long nn), .second] [(.int (1 : Int32))])
    exact retB X2 hx hlk (t := .boolean) hret (by simp) (Jvm.hb hby at_175) (by decide) (by decide) ⟨rfl, Fr.app N0 N2⟩
  · refine Goes.of (fun _ kont => XS.ifYes X0.here hx rfl (pc0 := 3) (pc' := 10) rfl (Jvm.hb hby at_3) rfl c3 (by decide) (by decide) kont) ?_
    show Goes p e below _ T0 (mkF m 10 #[.val (.int p1), .val (.int p2), .val (.int p3), .val (.int p4), .unset, .unset, .unset, .unset, .unset, .unset, .unset, .unset, .unset, .unset, .unset, .unset, .unset, .unset, .unset, .unset, .unset] [])
    refine Goes.of (fun _ kont => XS.iconst X0.here hx rfl (Jvm.hb hby at_10) kont) ?_
    show Goes p e below _ T0 (mkF m 11 #[.val (.int p1), .val (.int p2), .val (.int p3), .val (.int p4), .unset, .unset, .unset, .unset, .unset, .unset, .unset, .unset, .unset, .unset, .unset, .unset, .unset, .unset, .unset, .unset, .unset] [(.int (0 : Int32))])
    refine Goes.of (fun _ kont => XS.istore X0.here hx rfl (Jvm.hb hby at_11) rfl (l' := #[.val (.int p1), .val (.int p2), .val (.int p3), .val (.int p4), .val (.int (0 : Int32)), .unset, .unset, .unset, .unset, .unset, .unset, .unset, .unset, .unset, .unset, .unset, .unset, .unset, .unset, .unset, .unset]) rfl kont) ?_
    show Goes p e below _ T0 (mkF m 13 #[.val (.int p1), .val (.int p2), .val (.int p3), .val (.int p4), .val (.int (0 : Int32)), .unset, .unset, .unset, .unset, .unset, .unset, .unset, .unset, .unset, .unset, .unset, .unset, .unset, .unset, .unset, .unset] [])
    refine Goes.of (fun _ kont => XS.iloadN X0.here hx rfl (Jvm.hb hby at_13) rfl kont) ?_
    show Goes p e below _ T0 (mkF m 14 #[.val (.int p1), .val (.int p2), .val (.int p3), .val (.int p4), .val (.int (0 : Int32)), .unset, .unset, .unset, .unset, .unset, .unset, .unset, .unset, .unset, .unset, .unset, .unset, .unset, .unset, .unset, .unset] [(.int p2)])
    refine Goes.of (X0.ldcInt hx hown (mvT hZ (hw _ (List.mem_of_getElem? (i := 0) rfl))) (g := (mkF m 14 #[.val (.int p1), .val (.int p2), .val (.int p3), .val (.int p4), .val (.int (0 : Int32)), .unset, .unset, .unset, .unset, .unset, .unset, .unset, .unset, .unset, .unset, .unset, .unset, .unset, .unset, .unset, .unset] [(.int p2)])) rfl (Jvm.hb hby at_14)) ?_
    show Goes p e below _ T0 (mkF m 16 #[.val (.int p1), .val (.int p2), .val (.int p3), .val (.int p4), .val (.int (0 : Int32)), .unset, .unset, .unset, .unset, .unset, .unset, .unset, .unset, .unset, .unset, .unset, .unset, .unset, .unset, .unset, .unset] [(.int (1048576 : Int32)), (.int p2)])
    refine Goes.of (fun _ kont => XS.irem X0.here hx rfl (Jvm.hb hby at_16) rfl (by decide) kont) ?_
    show Goes p e below _ T0 (mkF m 17 #[.val (.int p1), .val (.int p2), .val (.int p3), .val (.int p4), .val (.int (0 : Int32)), .unset, .unset, .unset, .unset, .unset, .unset, .unset, .unset, .unset, .unset, .unset, .unset, .unset, .unset, .unset, .unset] [(.int (p2 - p2 / (1048576 : Int32) * (1048576 : Int32)))])
    generalize ha : (p2 - p2 / (1048576 : Int32) * (1048576 : Int32)) = a
    show Goes p e below _ T0 (mkF m 17 #[.val (.int p1), .val (.int p2), .val (.int p3), .val (.int p4), .val (.int (0 : Int32)), .unset, .unset, .unset, .unset, .unset, .unset, .unset, .unset, .unset, .unset, .unset, .unset, .unset, .unset, .unset, .unset] [(.int a)])
    refine Goes.of (fun _ kont => XS.istore X0.here hx rfl (Jvm.hb hby at_17) rfl (l' := #[.val (.int p1), .val (.int p2), .val (.int p3), .val (.int p4), .val (.int (0 : Int32)), .val (.int a), .unset, .unset, .unset, .unset, .unset, .unset, .unset, .unset, .unset, .unset, .unset, .unset, .unset, .unset, .unset]) rfl kont) ?_
    show Goes p e below _ T0 (mkF m 19 #[.val (.int p1), .val (.int p2), .val (.int p3), .val (.int p4), .val (.int (0 : Int32)), .val (.int a), .unset, .unset, .unset, .unset, .unset, .unset, .unset, .unset, .unset, .unset, .unset, .unset, .unset, .unset, .unset] [])
    refine Goes.of (fun _ kont => XS.iloadN X0.here hx rfl (Jvm.hb hby at_19) rfl kont) ?_
    show Goes p e below _ T0 (mkF m 20 #[.val (.int p1), .val (.int p2), .val (.int p3), .val (.int p4), .val (.int (0 : Int32)), .val (.int a), .unset, .unset, .unset, .unset, .unset, .unset, .unset, .unset, .unset, .unset, .unset, .unset, .unset, .unset, .unset] [(.int p3)])
    refine Goes.of (X0.ldcInt hx hown (mvT hZ (hw _ (List.mem_of_getElem? (i := 0) rfl))) (g := (mkF m 20 #[.val (.int p1), .val (.int p2), .val (.int p3), .val (.int p4), .val (.int (0 : Int32)), .val (.int a), .unset, .unset, .unset, .unset, .unset, .unset, .unset, .unset, .unset, .unset, .unset, .unset, .unset, .unset, .unset] [(.int p3)])) rfl (Jvm.hb hby at_20)) ?_
    show Goes p e below _ T0 (mkF m 22 #[.val (.int p1), .val (.int p2), .val (.int p3), .val (.int p4), .val (.int (0 : Int32)), .val (.int a), .unset, .unset, .unset, .unset, .unset, .unset, .unset, .unset, .unset, .unset, .unset, .unset, .unset, .unset, .unset] [(.int (1048576 : Int32)), (.int p3)])
    refine Goes.of (fun _ kont => XS.irem X0.here hx rfl (Jvm.hb hby at_22) rfl (by decide) kont) ?_
    show Goes p e below _ T0 (mkF m 23 #[.val (.int p1), .val (.int p2), .val (.int p3), .val (.int p4), .val (.int (0 : Int32)), .val (.int a), .unset, .unset, .unset, .unset, .unset, .unset, .unset, .unset, .unset, .unset, .unset, .unset, .unset, .unset, .unset] [(.int (p3 - p3 / (1048576 : Int32) * (1048576 : Int32)))])
    generalize hb : (p3 - p3 / (1048576 : Int32) * (1048576 : Int32)) = b
    show Goes p e below _ T0 (mkF m 23 #[.val (.int p1), .val (.int p2), .val (.int p3), .val (.int p4), .val (.int (0 : Int32)), .val (.int a), .unset, .unset, .unset, .unset, .unset, .unset, .unset, .unset, .unset, .unset, .unset, .unset, .unset, .unset, .unset] [(.int b)])
    refine Goes.of (fun _ kont => XS.istore X0.here hx rfl (Jvm.hb hby at_23) rfl (l' := #[.val (.int p1), .val (.int p2), .val (.int p3), .val (.int p4), .val (.int (0 : Int32)), .val (.int a), .val (.int b), .unset, .unset, .unset, .unset, .unset, .unset, .unset, .unset, .unset, .unset, .unset, .unset, .unset, .unset]) rfl kont) ?_
    show Goes p e below _ T0 (mkF m 25 #[.val (.int p1), .val (.int p2), .val (.int p3), .val (.int p4), .val (.int (0 : Int32)), .val (.int a), .val (.int b), .unset, .unset, .unset, .unset, .unset, .unset, .unset, .unset, .unset, .unset, .unset, .unset, .unset, .unset] [])
    refine Goes.of (fun _ kont => XS.iloadN X0.here hx rfl (Jvm.hb hby at_25) rfl kont) ?_
    show Goes p e below _ T0 (mkF m 26 #[.val (.int p1), .val (.int p2), .val (.int p3), .val (.int p4), .val (.int (0 : Int32)), .val (.int a), .val (.int b), .unset, .unset, .unset, .unset, .unset, .unset, .unset, .unset, .unset, .unset, .unset, .unset, .unset, .unset] [(.int p4)])
    refine Goes.of (X0.ldcInt hx hown (mvT hZ (hw _ (List.mem_of_getElem? (i := 1) rfl))) (g := (mkF m 26 #[.val (.int p1), .val (.int p2), .val (.int p3), .val (.int p4), .val (.int (0 : Int32)), .val (.int a), .val (.int b), .unset, .unset, .unset, .unset, .unset, .unset, .unset, .unset, .unset, .unset, .unset, .unset, .unset, .unset] [(.int p4)])) rfl (Jvm.hb hby at_26)) ?_
    show Goes p e below _ T0 (mkF m 28 #[.val (.int p1), .val (.int p2), .val (.int p3), .val (.int p4), .val (.int (0 : Int32)), .val (.int a), .val (.int b), .unset, .unset, .unset, .unset, .unset, .unset, .unset, .unset, .unset, .unset, .unset, .unset, .unset, .unset] [(.int (2147483647 : Int32)), (.int p4)])
    refine Goes.of (fun _ kont => XS.iand X0.here hx rfl (Jvm.hb hby at_28) rfl kont) ?_
    show Goes p e below _ T0 (mkF m 29 #[.val (.int p1), .val (.int p2), .val (.int p3), .val (.int p4), .val (.int (0 : Int32)), .val (.int a), .val (.int b), .unset, .unset, .unset, .unset, .unset, .unset, .unset, .unset, .unset, .unset, .unset, .unset, .unset, .unset] [(.int (p4 &&& (2147483647 : Int32)))])
    refine Goes.of (fun _ kont => XS.bipush X0.here hx rfl (Jvm.hb hby at_29) kont) ?_
    show Goes p e below _ T0 (mkF m 31 #[.val (.int p1), .val (.int p2), .val (.int p3), .val (.int p4), .val (.int (0 : Int32)), .val (.int a), .val (.int b), .unset, .unset, .unset, .unset, .unset, .unset, .unset, .unset, .unset, .unset, .unset, .unset, .unset, .unset] [(.int (65 : Int32)), (.int (p4 &&& (2147483647 : Int32)))])
    refine Goes.of (fun _ kont => XS.irem X0.here hx rfl (Jvm.hb hby at_31) rfl (by decide) kont) ?_
    show Goes p e below _ T0 (mkF m 32 #[.val (.int p1), .val (.int p2), .val (.int p3), .val (.int p4), .val (.int (0 : Int32)), .val (.int a), .val (.int b), .unset, .unset, .unset, .unset, .unset, .unset, .unset, .unset, .unset, .unset, .unset, .unset, .unset, .unset] [(.int ((p4 &&& (2147483647 : Int32)) - (p4 &&& (2147483647 : Int32)) / (65 : Int32) * (65 : Int32)))])
    generalize hk : ((p4 &&& (2147483647 : Int32)) - (p4 &&& (2147483647 : Int32)) / (65 : Int32) * (65 : Int32)) = k
    show Goes p e below _ T0 (mkF m 32 #[.val (.int p1), .val (.int p2), .val (.int p3), .val (.int p4), .val (.int (0 : Int32)), .val (.int a), .val (.int b), .unset, .unset, .unset, .unset, .unset, .unset, .unset, .unset, .unset, .unset, .unset, .unset, .unset, .unset] [(.int k)])
    have ba := own_rem20 ha
    have bb := own_rem20 hb
    obtain ⟨k0, bk⟩ := own_rem65 hk
    refine Goes.of (fun _ kont => XS.istore X0.here hx rfl (Jvm.hb hby at_32) rfl (l' := #[.val (.int p1), .val (.int p2), .val (.int p3), .val (.int p4), .val (.int (0 : Int32)), .val (.int a), .val (.int b), .val (.int k), .unset, .unset, .unset, .unset, .unset, .unset, .unset, .unset, .unset, .unset, .unset, .unset, .unset]) rfl kont) ?_
    show Goes p e below _ T0 (mkF m 34 #[.val (.int p1), .val (.int p2), .val (.int p3), .val (.int p4), .val (.int (0 : Int32)), .val (.int a), .val (.int b), .val (.int k), .unset, .unset, .unset, .unset, .unset, .unset, .unset, .unset, .unset, .unset, .unset, .unset, .unset] [])
    refine Goes.of (fun _ kont => XS.iload X0.here hx rfl (Jvm.hb hby at_34) rfl kont) ?_
    show Goes p e below _ T0 (mkF m 36 #[.val (.int p1), .val (.int p2), .val (.int p3), .val (.int p4), .val (.int (0 : Int32)), .val (.int a), .val (.int b), .val (.int k), .unset, .unset, .unset, .unset, .unset, .unset, .unset, .unset, .unset, .unset, .unset, .unset, .unset] [(.int a)])
    refine Goes.of (fun _ kont => XS.i2dS X0.here hx rfl (Jvm.hb hby at_36) rfl rfl kont) ?_
    show Goes p e below _ T0 (mkF m 37 #[.val (.int p1), .val (.int p2), .val (.int p3), .val (.int p4), .val (.int (0 : Int32)), .val (.int a), .val (.int b), .val (.int k), .unset, .unset, .unset, .unset, .unset, .unset, .unset, .unset, .unset, .unset, .unset, .unset, .unset] [(.double (FP.i2d a))])
    refine Goes.of (X0.ldc2DoubleC hx hown (mvT hZ (hw _ (List.mem_of_getElem? (i := 2) rfl))) (g := (mkF m 37 #[.val (.int p1), .val (.int p2), .val (.int p3), .val (.int p4), .val (.int (0 : Int32)), .val (.int a), .val (.int b), .val (.int k), .unset, .unset, .unset, .unset, .unset, .unset, .unset, .unset, .unset, .unset, .unset, .unset, .unset] [(.double (FP.i2d a))])) rfl (Jvm.hb hby at_37)) ?_
    show Goes p e below _ T0 (mkF m 40 #[.val (.int p1), .val (.int p2), .val (.int p3), .val (.int p4), .val (.int (0 : Int32)), .val (.int a), .val (.int b), .val (.int k), .unset, .unset, .unset, .unset, .unset, .unset, .unset, .unset, .unset, .unset, .unset, .unset, .unset] [(.double (4620693217682128896 : UInt64)), (.double (FP.i2d a))])
    have Dx1 := own_div8 a
    refine Goes.of (fun _ kont => XS.ddivS X0.here hx rfl (Jvm.hb hby at_40) rfl Dx1.noNaN rfl kont) ?_
    show Goes p e below _ T0 (mkF m 41 #[.val (.int p1), .val (.int p2), .val (.int p3), .val (.int p4), .val (.int (0 : Int32)), .val (.int a), .val (.int b), .val (.int k), .unset, .unset, .unset, .unset, .unset, .unset, .unset, .unset, .unset, .unset, .unset, .unset, .unset] [(.double (FP.ddiv (FP.i2d a) (4620693217682128896 : UInt64)))])
    generalize hx1 : (FP.ddiv (FP.i2d a) (4620693217682128896 : UInt64)) = x1
    show Goes p e below _ T0 (mkF m 41 #[.val (.int p1), .val (.int p2), .val (.int p3), .val (.int p4), .val (.int (0 : Int32)), .val (.int a), .val (.int b), .val (.int k), .unset, .unset, .unset, .unset, .unset, .unset, .unset, .unset, .unset, .unset, .unset, .unset, .unset] [(.double x1)])
    rw [hx1] at Dx1
    refine Goes.of (fun _ kont => XS.dstore X0.here hx rfl (Jvm.hb hby at_41) rfl (l' := #[.val (.int p1), .val (.int p2), .val (.int p3), .val (.int p4), .val (.int (0 : Int32)), .val (.int a), .val (.int b), .val (.int k), .val (.double x1), .second, .unset, .unset, .unset, .unset, .unset, .unset, .unset, .unset, .unset, .unset, .unset]) rfl kont) ?_
    show Goes p e below _ T0 (mkF m 43 #[.val (.int p1), .val (.int p2), .val (.int p3), .val (.int p4), .val (.int (0 : Int32)), .val (.int a), .val (.int b), .val (.int k), .val (.double x1), .second, .unset, .unset, .unset, .unset, .unset, .unset, .unset, .unset, .unset, .unset, .unset] [])
    refine Goes.of (fun _ kont => XS.iload X0.here hx rfl (Jvm.hb hby at_43) rfl kont) ?_
    show Goes p e below _ T0 (mkF m 45 #[.val (.int p1), .val (.int p2), .val (.int p3), .val (.int p4), .val (.int (0 : Int32)), .val (.int a), .val (.int b), .val (.int k), .val (.double x1), .second, .unset, .unset, .unset, .unset, .unset, .unset, .unset, .unset, .unset, .unset, .unset] [(.int b)])
    refine Goes.of (fun _ kont => XS.i2dS X0.here hx rfl (Jvm.hb hby at_45) rfl rfl kont) ?_
    show Goes p e below _ T0 (mkF m 46 #[.val (.int p1), .val (.int p2), .val (.int p3), .val (.int p4), .val (.int (0 : Int32)), .val (.int a), .val (.int b), .val (.int k), .val (.double x1), .second, .unset, .unset, .unset, .unset, .unset, .unset, .unset, .unset, .unset, .unset, .unset] [(.double (FP.i2d b))])
    refine Goes.of (X0.ldc2DoubleC hx hown (mvT hZ (hw _ (List.mem_of_getElem? (i := 2) rfl))) (g := (mkF m 46 #[.val (.int p1), .val (.int p2), .val (.int p3), .val (.int p4), .val (.int (0 : Int32)), .val (.int a), .val (.int b), .val (.int k), .val (.double x1), .second, .unset, .unset, .unset, .unset, .unset, .unset, .unset, .unset, .unset, .unset, .unset] [(.double (FP.i2d b))])) rfl (Jvm.hb hby at_46)) ?_
    show Goes p e below _ T0 (mkF m 49 #[.val (.int p1), .val (.int p2), .val (.int p3), .val (.int p4), .val (.int (0 : Int32)), .val (.int a), .val (.int b), .val (.int k), .val (.double x1), .second, .unset, .unset, .unset, .unset, .unset, .unset, .unset, .unset, .unset, .unset, .unset] [(.double (4620693217682128896 : UInt64)), (.double (FP.i2d b))])
    have Dx2 := own_div8 b
    refine Goes.of (fun _ kont => XS.ddivS X0.here hx rfl (Jvm.hb hby at_49) rfl Dx2.noNaN rfl kont) ?_
    show Goes p e below _ T0 (mkF m 50 #[.val (.int p1), .val (.int p2), .val (.int p3), .val (.int p4), .val (.int (0 : Int32)), .val (.int a), .val (.int b), .val (.int k), .val (.double x1), .second, .unset, .unset, .unset, .unset, .unset, .unset, .unset, .unset, .unset, .unset, .unset] [(.double (FP.ddiv (FP.i2d b) (4620693217682128896 : UInt64)))])
    generalize hx2 : (FP.ddiv (FP.i2d b) (4620693217682128896 : UInt64)) = x2
    show Goes p e below _ T0 (mkF m 50 #[.val (.int p1), .val (.int p2), .val (.int p3), .val (.int p4), .val (.int (0 : Int32)), .val (.int a), .val (.int b), .val (.int k), .val (.double x1), .second, .unset, .unset, .unset, .unset, .unset, .unset, .unset, .unset, .unset, .unset, .unset] [(.double x2)])
    rw [hx2] at Dx2
    refine Goes.of (fun _ kont => XS.dstore X0.here hx rfl (Jvm.hb hby at_50) rfl (l' := #[.val (.int p1), .val (.int p2), .val (.int p3), .val (.int p4), .val (.int (0 : Int32)), .val (.int a), .val (.int b), .val (.int k), .val (.double x1), .second, .val (.double x2), .second, .unset, .unset, .unset, .unset, .unset, .unset, .unset, .unset, .unset]) rfl kont) ?_
    show Goes p e below _ T0 (mkF m 52 #[.val (.int p1), .val (.int p2), .val (.int p3), .val (.int p4), .val (.int (0 : Int32)), .val (.int a), .val (.int b), .val (.int k), .val (.double x1), .second, .val (.double x2), .second, .unset, .unset, .unset, .unset, .unset, .unset, .unset, .unset, .unset] [])
    refine Goes.of (fun _ kont => XS.iload X0.here hx rfl (Jvm.hb hby at_52) rfl kont) ?_
    show Goes p e below _ T0 (mkF m 54 #[.val (.int p1), .val (.int p2), .val (.int p3), .val (.int p4), .val (.int (0 : Int32)), .val (.int a), .val (.int b), .val (.int k), .val (.double x1), .second, .val (.double x2), .second, .unset, .unset, .unset, .unset, .unset, .unset, .unset, .unset, .unset] [(.int k)])
    refine Goes.of (fun _ kont => XS.i2dS X0.here hx rfl (Jvm.hb hby at_54) rfl rfl kont) ?_
    show Goes p e below _ T0 (mkF m 55 #[.val (.int p1), .val (.int p2), .val (.int p3), .val (.int p4), .val (.int (0 : Int32)), .val (.int a), .val (.int b), .val (.int k), .val (.double x1), .second, .val (.double x2), .second, .unset, .unset, .unset, .unset, .unset, .unset, .unset, .unset, .unset] [(.double (FP.i2d k))])
    refine Goes.of (X0.ldc2DoubleC hx hown (mvT hZ (hw _ (List.mem_of_getElem? (i := 3) rfl))) (g := (mkF m 55 #[.val (.int p1), .val (.int p2), .val (.int p3), .val (.int p4), .val (.int (0 : Int32)), .val (.int a), .val (.int b), .val (.int k), .val (.double x1), .second, .val (.double x2), .second, .unset, .unset, .unset, .unset, .unset, .unset, .unset, .unset, .unset] [(.double (FP.i2d k))])) rfl (Jvm.hb hby at_55)) ?_
    show Goes p e below _ T0 (mkF m 58 #[.val (.int p1), .val (.int p2), .val (.int p3), .val (.int p4), .val (.int (0 : Int32)), .val (.int a), .val (.int b), .val (.int k), .val (.double x1), .second, .val (.double x2), .second, .unset, .unset, .unset, .unset, .unset, .unset, .unset, .unset, .unset] [(.double (4634204016564240384 : UInt64)), (.double (FP.i2d k))])
    have Dx3 := own_div64 k
    refine Goes.of (fun _ kont => XS.ddivS X0.here hx rfl (Jvm.hb hby at_58) rfl Dx3.noNaN rfl kont) ?_
    show Goes p e below _ T0 (mkF m 59 #[.val (.int p1), .val (.int p2), .val (.int p3), .val (.int p4), .val (.int (0 : Int32)), .val (.int a), .val (.int b), .val (.int k), .val (.double x1), .second, .val (.double x2), .second, .unset, .unset, .unset, .unset, .unset, .unset, .unset, .unset, .unset] [(.double (FP.ddiv (FP.i2d k) (4634204016564240384 : UInt64)))])
    generalize hx3 : (FP.ddiv (FP.i2d k) (4634204016564240384 : UInt64)) = x3
    show Goes p e below _ T0 (mkF m 59 #[.val (.int p1), .val (.int p2), .val (.int p3), .val (.int p4), .val (.int (0 : Int32)), .val (.int a), .val (.int b), .val (.int k), .val (.double x1), .second, .val (.double x2), .second, .unset, .unset, .unset, .unset, .unset, .unset, .unset, .unset, .unset] [(.double x3)])
    rw [hx3] at Dx3
    refine Goes.of (fun _ kont => XS.dstore X0.here hx rfl (Jvm.hb hby at_59) rfl (l' := #[.val (.int p1), .val (.int p2), .val (.int p3), .val (.int p4), .val (.int (0 : Int32)), .val (.int a), .val (.int b), .val (.int k), .val (.double x1), .second, .val (.double x2), .second, .val (.double x3), .second, .unset, .unset, .unset, .unset, .unset, .unset, .unset]) rfl kont) ?_
    show Goes p e below _ T0 (mkF m 61 #[.val (.int p1), .val (.int p2), .val (.int p3), .val (.int p4), .val (.int (0 : Int32)), .val (.int a), .val (.int b), .val (.int k), .val (.double x1), .second, .val (.double x2), .second, .val (.double x3), .second, .unset, .unset, .unset, .unset, .unset, .unset, .unset] [])
    refine Goes.of (fun _ kont => XS.iload X0.here hx rfl (Jvm.hb hby at_61) rfl kont) ?_
    show Goes p e below _ T0 (mkF m 63 #[.val (.int p1), .val (.int p2), .val (.int p3), .val (.int p4), .val (.int (0 : Int32)), .val (.int a), .val (.int b), .val (.int k), .val (.double x1), .second, .val (.double x2), .second, .val (.double x3), .second, .unset, .unset, .unset, .unset, .unset, .unset, .unset] [(.int (0 : Int32))])
    refine Goes.of (fun _ kont => XS.ifYes X0.here hx rfl (pc0 := 63) (pc' := 72) rfl (Jvm.hb hby at_63) rfl (by decide) (by decide) (by decide) kont) ?_
    show Goes p e below _ T0 (mkF m 72 #[.val (.int p1), .val (.int p2), .val (.int p3), .val (.int p4), .val (.int (0 : Int32)), .val (.int a), .val (.int b), .val (.int k), .val (.double x1), .second, .val (.double x2), .second, .val (.double x3), .second, .unset, .unset, .unset, .unset, .unset, .unset, .unset] [])
    refine goS X0 hx hZ hown (hw _ (List.mem_of_getElem? (i := 4) rfl)) Via.refl e0 SS (g := (mkF m 72 #[.val (.int p1), .val (.int p2), .val (.int p3), .val (.int p4), .val (.int (0 : Int32)), .val (.int a), .val (.int b), .val (.int k), .val (.double x1), .second, .val (.double x2), .second, .val (.double x3), .second, .unset, .unset, .unset, .unset, .unset, .unset, .unset] [])) rfl (Jvm.hb hby at_72) ?_
    intro T3 X3 e3
    show Goes p e below _ T3 (mkF m 75 #[.val (.int p1), .val (.int p2), .val (.int p3), .val (.int p4), .val (.int (0 : Int32)), .val (.int a), .val (.int b), .val (.int k), .val (.double x1), .second, .val (.double x2), .second, .val (.double x3), .second, .unset, .unset, .unset, .unset, .unset, .unset, .unset] [(.ref aS)])
    refine Goes.of (fun _ kont => XS.astore X3.here hx rfl (Jvm.hb hby at_75) rfl rfl (l' := #[.val (.int p1), .val (.int p2), .val (.int p3), .val (.int p4), .val (.int (0 : Int32)), .val (.int a), .val (.int b), .val (.int k), .val (.double x1), .second, .val (.double x2), .second, .val (.double x3), .second, .val (.ref aS), .unset, .unset, .unset, .unset, .unset, .unset]) rfl kont) ?_
    show Goes p e below _ T3 (mkF m 77 #[.val (.int p1), .val (.int p2), .val (.int p3), .val (.int p4), .val (.int (0 : Int32)), .val (.int a), .val (.int b), .val (.int k), .val (.double x1), .second, .val (.double x2), .second, .val (.double x3), .second, .val (.ref aS), .unset, .unset, .unset, .unset, .unset, .unset] [])
    refine Goes.of (fun _ kont => XS.aload X3.here hx rfl (Jvm.hb hby at_77) rfl rfl kont) ?_
    show Goes p e below _ T3 (mkF m 79 #[.val (.int p1), .val (.int p2), .val (.int p3), .val (.int p4), .val (.int (0 : Int32)), .val (.int a), .val (.int b), .val (.int k), .val (.double x1), .second, .val (.double x2), .second, .val (.double x3), .second, .val (.ref aS), .unset, .unset, .unset, .unset, .unset, .unset] [(.ref aS)])
    refine Goes.of (fun _ kont => XS.dload X3.here hx rfl (Jvm.hb hby at_79) rfl kont) ?_
    show Goes p e below _ T3 (mkF m 81 #[.val (.int p1), .val (.int p2), .val (.int p3), .val (.int p4), .val (.int (0 : Int32)), .val (.int a), .val (.int b), .val (.int k), .val (.double x1), .second, .val (.double x2), .second, .val (.double x3), .second, .val (.ref aS), .unset, .unset, .unset, .unset, .unset, .unset] [(.double x1), (.ref aS)])
    refine Goes.of (fun _ kont => XS.dload X3.here hx rfl (Jvm.hb hby at_81) rfl kont) ?_
    show Goes p e below _ T3 (mkF m 83 #[.val (.int p1), .val (.int p2), .val (.int p3), .val (.int p4), .val (.int (0 : Int32)), .val (.int a), .val (.int b), .val (.int k), .val (.double x1), .second, .val (.double x2), .second, .val (.double x3), .second, .val (.ref aS), .unset, .unset, .unset, .unset, .unset, .unset] [(.double x2), (.double x1), (.ref aS)])
    refine Goes.of (fun _ kont => XS.dload X3.here hx rfl (Jvm.hb hby at_83) rfl kont) ?_
    show Goes p e below _ T3 (mkF m 85 #[.val (.int p1), .val (.int p2), .val (.int p3), .val (.int p4), .val (.int (0 : Int32)), .val (.int a), .val (.int b), .val (.int k), .val (.double x1), .second, .val (.double x2), .second, .val (.double x3), .second, .val (.ref aS), .unset, .unset, .unset, .unset, .unset, .unset] [(.double x3), (.double x2), (.double x1), (.ref aS)])
    refine callV X3 hx hZ (y := (⟨"com/example/concordance/concordance/search/ContextMatching$Combination", "of", "(DDD)D"⟩ : MethodName)) (z := (⟨"com/example/concordance/concordance/search/ContextMatching$Combination", "of", "(DDD)D"⟩ : MethodName)) hown (hw _ (List.mem_of_getElem? (i := 7) rfl)) (hw _ (List.mem_of_getElem? (i := 8) rfl)) (notFace_of_selects (args := #[]) (mvT hZ (hw _ (List.mem_of_getElem? (i := 10) rfl)))) (hw _ (List.mem_of_getElem? (i := 10) rfl)) (hw _ (List.mem_of_getElem? (i := 9) rfl)) (hw _ (List.mem_of_getElem? (i := 11) rfl)) (hw _ (List.mem_of_getElem? (i := 5) rfl)) (by decide) (b := aS) ES (as := [(.double x1), (.double x2), (.double x3)]) (rm1 l Z a0 hw aS x1 x2 x3 a.toInt b.toInt k.toInt h0 n0 Z0 SS Dx1 Dx2 Dx3 ba bb k0 bk) 0 (by decide) (by decide) e3 (by decide) (by decide) (g := mkF m 85 #[.val (.int p1), .val (.int p2), .val (.int p3), .val (.int p4), .val (.int (0 : Int32)), .val (.int a), .val (.int b), .val (.int k), .val (.double x1), .second, .val (.double x2), .second, .val (.double x3), .second, .val (.ref aS), .unset, .unset, .unset, .unset, .unset, .unset] [(.double x3), (.double x2), (.double x1), (.ref aS)]) rfl (by rw [hml]; rfl) (rest := []) (lenOf pd_0 rfl) rfl (by show 2 * 0 + _ ≤ _; exact Nat.le_of_eq rfl) (Jvm.hb hby at_85) ?_
    rintro _ T4 L4 X4 ⟨⟨z4, rfl, Dz4⟩, N4, e4⟩
    show Goes p e below _ T4 (mkF m 88 #[.val (.int p1), .val (.int p2), .val (.int p3), .val (.int p4), .val (.int (0 : Int32)), .val (.int a), .val (.int b), .val (.int k), .val (.double x1), .second, .val (.double x2), .second, .val (.double x3), .second, .val (.ref aS), .unset, .unset, .unset, .unset, .unset, .unset] [(.double z4)])
    refine Goes.of (fun _ kont => XS.dstore X4.here hx rfl (Jvm.hb hby at_88) rfl (l' := #[.val (.int p1), .val (.int p2), .val (.int p3), .val (.int p4), .val (.int (0 : Int32)), .val (.int a), .val (.int b), .val (.int k), .val (.double x1), .second, .val (.double x2), .second, .val (.double x3), .second, .val (.ref aS), .val (.double z4), .second, .unset, .unset, .unset, .unset]) rfl kont) ?_
    show Goes p e below _ T4 (mkF m 90 #[.val (.int p1), .val (.int p2), .val (.int p3), .val (.int p4), .val (.int (0 : Int32)), .val (.int a), .val (.int b), .val (.int k), .val (.double x1), .second, .val (.double x2), .second, .val (.double x3), .second, .val (.ref aS), .val (.double z4), .second, .unset, .unset, .unset, .unset] [])
    refine Goes.of (fun _ kont => XS.iload X4.here hx rfl (Jvm.hb hby at_90) rfl kont) ?_
    show Goes p e below _ T4 (mkF m 92 #[.val (.int p1), .val (.int p2), .val (.int p3), .val (.int p4), .val (.int (0 : Int32)), .val (.int a), .val (.int b), .val (.int k), .val (.double x1), .second, .val (.double x2), .second, .val (.double x3), .second, .val (.ref aS), .val (.double z4), .second, .unset, .unset, .unset, .unset] [(.int (0 : Int32))])
    refine Goes.of (fun _ kont => XS.ifYes X4.here hx rfl (pc0 := 92) (pc' := 132) rfl (Jvm.hb hby at_92) rfl (by decide) (by decide) (by decide) kont) ?_
    show Goes p e below _ T4 (mkF m 132 #[.val (.int p1), .val (.int p2), .val (.int p3), .val (.int p4), .val (.int (0 : Int32)), .val (.int a), .val (.int b), .val (.int k), .val (.double x1), .second, .val (.double x2), .second, .val (.double x3), .second, .val (.ref aS), .val (.double z4), .second, .unset, .unset, .unset, .unset] [])
    refine Goes.of (fun _ kont => XS.iload X4.here hx rfl (Jvm.hb hby at_132) rfl kont) ?_
    show Goes p e below _ T4 (mkF m 134 #[.val (.int p1), .val (.int p2), .val (.int p3), .val (.int p4), .val (.int (0 : Int32)), .val (.int a), .val (.int b), .val (.int k), .val (.double x1), .second, .val (.double x2), .second, .val (.double x3), .second, .val (.ref aS), .val (.double z4), .second, .unset, .unset, .unset, .unset] [(.int k)])
    refine Goes.of (fun _ kont => XT.i2l X4.here hx rfl (Jvm.hb hby at_134) rfl kont) ?_
    show Goes p e below _ T4 (mkF m 135 #[.val (.int p1), .val (.int p2), .val (.int p3), .val (.int p4), .val (.int (0 : Int32)), .val (.int a), .val (.int b), .val (.int k), .val (.double x1), .second, .val (.double x2), .second, .val (.double x3), .second, .val (.ref aS), .val (.double z4), .second, .unset, .unset, .unset, .unset] [(.long (Int32.toInt64 k))])
    refine Goes.of (fun _ kont => XS.iload X4.here hx rfl (Jvm.hb hby at_135) rfl kont) ?_
    show Goes p e below _ T4 (mkF m 137 #[.val (.int p1), .val (.int p2), .val (.int p3), .val (.int p4), .val (.int (0 : Int32)), .val (.int a), .val (.int b), .val (.int k), .val (.double x1), .second, .val (.double x2), .second, .val (.double x3), .second, .val (.ref aS), .val (.double z4), .second, .unset, .unset, .unset, .unset] [(.int a), (.long (Int32.toInt64 k))])
    refine Goes.of (fun _ kont => XT.i2l X4.here hx rfl (Jvm.hb hby at_137) rfl kont) ?_
    show Goes p e below _ T4 (mkF m 138 #[.val (.int p1), .val (.int p2), .val (.int p3), .val (.int p4), .val (.int (0 : Int32)), .val (.int a), .val (.int b), .val (.int k), .val (.double x1), .second, .val (.double x2), .second, .val (.double x3), .second, .val (.ref aS), .val (.double z4), .second, .unset, .unset, .unset, .unset] [(.long (Int32.toInt64 a)), (.long (Int32.toInt64 k))])
    refine Goes.of (fun _ kont => XT.lmul X4.here hx rfl (Jvm.hb hby at_138) rfl kont) ?_
    show Goes p e below _ T4 (mkF m 139 #[.val (.int p1), .val (.int p2), .val (.int p3), .val (.int p4), .val (.int (0 : Int32)), .val (.int a), .val (.int b), .val (.int k), .val (.double x1), .second, .val (.double x2), .second, .val (.double x3), .second, .val (.ref aS), .val (.double z4), .second, .unset, .unset, .unset, .unset] [(.long ((Int32.toInt64 k) * (Int32.toInt64 a)))])
    refine Goes.of (X4.ldc2Long hx hown (mvT hZ (hw _ (List.mem_of_getElem? (i := 13) rfl))) (g := (mkF m 139 #[.val (.int p1), .val (.int p2), .val (.int p3), .val (.int p4), .val (.int (0 : Int32)), .val (.int a), .val (.int b), .val (.int k), .val (.double x1), .second, .val (.double x2), .second, .val (.double x3), .second, .val (.ref aS), .val (.double z4), .second, .unset, .unset, .unset, .unset] [(.long ((Int32.toInt64 k) * (Int32.toInt64 a)))])) rfl (Jvm.hb hby at_139)) ?_
    show Goes p e below _ T4 (mkF m 142 #[.val (.int p1), .val (.int p2), .val (.int p3), .val (.int p4), .val (.int (0 : Int32)), .val (.int a), .val (.int b), .val (.int k), .val (.double x1), .second, .val (.double x2), .second, .val (.double x3), .second, .val (.ref aS), .val (.double z4), .second, .unset, .unset, .unset, .unset] [(.long (64 : Int64)), (.long ((Int32.toInt64 k) * (Int32.toInt64 a)))])
    refine Goes.of (fun _ kont => XS.iload X4.here hx rfl (Jvm.hb hby at_142) rfl kont) ?_
    show Goes p e below _ T4 (mkF m 144 #[.val (.int p1), .val (.int p2), .val (.int p3), .val (.int p4), .val (.int (0 : Int32)), .val (.int a), .val (.int b), .val (.int k), .val (.double x1), .second, .val (.double x2), .second, .val (.double x3), .second, .val (.ref aS), .val (.double z4), .second, .unset, .unset, .unset, .unset] [(.int k), (.long (64 : Int64)), (.long ((Int32.toInt64 k) * (Int32.toInt64 a)))])
    refine Goes.of (fun _ kont => XT.i2l X4.here hx rfl (Jvm.hb hby at_144) rfl kont) ?_
    show Goes p e below _ T4 (mkF m 145 #[.val (.int p1), .val (.int p2), .val (.int p3), .val (.int p4), .val (.int (0 : Int32)), .val (.int a), .val (.int b), .val (.int k), .val (.double x1), .second, .val (.double x2), .second, .val (.double x3), .second, .val (.ref aS), .val (.double z4), .second, .unset, .unset, .unset, .unset] [(.long (Int32.toInt64 k)), (.long (64 : Int64)), (.long ((Int32.toInt64 k) * (Int32.toInt64 a)))])
    refine Goes.of (fun _ kont => XT.lsub X4.here hx rfl (Jvm.hb hby at_145) rfl kont) ?_
    show Goes p e below _ T4 (mkF m 146 #[.val (.int p1), .val (.int p2), .val (.int p3), .val (.int p4), .val (.int (0 : Int32)), .val (.int a), .val (.int b), .val (.int k), .val (.double x1), .second, .val (.double x2), .second, .val (.double x3), .second, .val (.ref aS), .val (.double z4), .second, .unset, .unset, .unset, .unset] [(.long ((64 : Int64) - (Int32.toInt64 k))), (.long ((Int32.toInt64 k) * (Int32.toInt64 a)))])
    refine Goes.of (fun _ kont => XS.iload X4.here hx rfl (Jvm.hb hby at_146) rfl kont) ?_
    show Goes p e below _ T4 (mkF m 148 #[.val (.int p1), .val (.int p2), .val (.int p3), .val (.int p4), .val (.int (0 : Int32)), .val (.int a), .val (.int b), .val (.int k), .val (.double x1), .second, .val (.double x2), .second, .val (.double x3), .second, .val (.ref aS), .val (.double z4), .second, .unset, .unset, .unset, .unset] [(.int b), (.long ((64 : Int64) - (Int32.toInt64 k))), (.long ((Int32.toInt64 k) * (Int32.toInt64 a)))])
    refine Goes.of (fun _ kont => XT.i2l X4.here hx rfl (Jvm.hb hby at_148) rfl kont) ?_
    show Goes p e below _ T4 (mkF m 149 #[.val (.int p1), .val (.int p2), .val (.int p3), .val (.int p4), .val (.int (0 : Int32)), .val (.int a), .val (.int b), .val (.int k), .val (.double x1), .second, .val (.double x2), .second, .val (.double x3), .second, .val (.ref aS), .val (.double z4), .second, .unset, .unset, .unset, .unset] [(.long (Int32.toInt64 b)), (.long ((64 : Int64) - (Int32.toInt64 k))), (.long ((Int32.toInt64 k) * (Int32.toInt64 a)))])
    refine Goes.of (fun _ kont => XT.lmul X4.here hx rfl (Jvm.hb hby at_149) rfl kont) ?_
    show Goes p e below _ T4 (mkF m 150 #[.val (.int p1), .val (.int p2), .val (.int p3), .val (.int p4), .val (.int (0 : Int32)), .val (.int a), .val (.int b), .val (.int k), .val (.double x1), .second, .val (.double x2), .second, .val (.double x3), .second, .val (.ref aS), .val (.double z4), .second, .unset, .unset, .unset, .unset] [(.long (((64 : Int64) - (Int32.toInt64 k)) * (Int32.toInt64 b))), (.long ((Int32.toInt64 k) * (Int32.toInt64 a)))])
    refine Goes.of (fun _ kont => XT.ladd X4.here hx rfl (Jvm.hb hby at_150) rfl kont) ?_
    show Goes p e below _ T4 (mkF m 151 #[.val (.int p1), .val (.int p2), .val (.int p3), .val (.int p4), .val (.int (0 : Int32)), .val (.int a), .val (.int b), .val (.int k), .val (.double x1), .second, .val (.double x2), .second, .val (.double x3), .second, .val (.ref aS), .val (.double z4), .second, .unset, .unset, .unset, .unset] [(.long (((Int32.toInt64 k) * (Int32.toInt64 a)) + (((64 : Int64) - (Int32.toInt64 k)) * (Int32.toInt64 b))))])
    generalize hnn : (((Int32.toInt64 k) * (Int32.toInt64 a)) + (((64 : Int64) - (Int32.toInt64 k)) * (Int32.toInt64 b))) = nn
    show Goes p e below _ T4 (mkF m 151 #[.val (.int p1), .val (.int p2), .val (.int p3), .val (.int p4), .val (.int (0 : Int32)), .val (.int a), .val (.int b), .val (.int k), .val (.double x1), .second, .val (.double x2), .second, .val (.double x3), .second, .val (.ref aS), .val (.double z4), .second, .unset, .unset, .unset, .unset] [(.long nn)])
    obtain ⟨en, bn⟩ := own_numS ba bb k0 bk hnn
    refine Goes.of (fun _ kont => XT.lstore X4.here hx rfl (Jvm.hb hby at_151) rfl (l' := #[.val (.int p1), .val (.int p2), .val (.int p3), .val (.int p4), .val (.int (0 : Int32)), .val (.int a), .val (.int b), .val (.int k), .val (.double x1), .second, .val (.double x2), .second, .val (.double x3), .second, .val (.ref aS), .val (.double z4), .second, .unset, .unset, .val (.long nn), .second]) rfl kont) ?_
    show Goes p e below _ T4 (mkF m 153 #[.val (.int p1), .val (.int p2), .val (.int p3), .val (.int p4), .val (.int (0 : Int32)), .val (.int a), .val (.int b), .val (.int k), .val (.double x1), .second, .val (.double x2), .second, .val (.double x3), .second, .val (.ref aS), .val (.double z4), .second, .unset, .unset, .val (.long nn), .second] [])
    refine Goes.of (fun _ kont => XT.lload X4.here hx rfl (Jvm.hb hby at_153) rfl kont) ?_
    show Goes p e below _ T4 (mkF m 155 #[.val (.int p1), .val (.int p2), .val (.int p3), .val (.int p4), .val (.int (0 : Int32)), .val (.int a), .val (.int b), .val (.int k), .val (.double x1), .second, .val (.double x2), .second, .val (.double x3), .second, .val (.ref aS), .val (.double z4), .second, .unset, .unset, .val (.long nn), .second] [(.long nn)])
    refine Goes.of (fun _ kont => XS.l2dS X4.here hx rfl (Jvm.hb hby at_155) rfl rfl kont) ?_
    show Goes p e below _ T4 (mkF m 156 #[.val (.int p1), .val (.int p2), .val (.int p3), .val (.int p4), .val (.int (0 : Int32)), .val (.int a), .val (.int b), .val (.int k), .val (.double x1), .second, .val (.double x2), .second, .val (.double x3), .second, .val (.ref aS), .val (.double z4), .second, .unset, .unset, .val (.long nn), .second] [(.double (FP.l2d nn))])
    refine Goes.of (X4.ldc2DoubleC hx hown (mvT hZ (hw _ (List.mem_of_getElem? (i := 14) rfl))) (g := (mkF m 156 #[.val (.int p1), .val (.int p2), .val (.int p3), .val (.int p4), .val (.int (0 : Int32)), .val (.int a), .val (.int b), .val (.int k), .val (.double x1), .second, .val (.double x2), .second, .val (.double x3), .second, .val (.ref aS), .val (.double z4), .second, .unset, .unset, .val (.long nn), .second] [(.double (FP.l2d nn))])) rfl (Jvm.hb hby at_156)) ?_
    show Goes p e below _ T4 (mkF m 159 #[.val (.int p1), .val (.int p2), .val (.int p3), .val (.int p4), .val (.int (0 : Int32)), .val (.int a), .val (.int b), .val (.int k), .val (.double x1), .second, .val (.double x2), .second, .val (.double x3), .second, .val (.ref aS), .val (.double z4), .second, .unset, .unset, .val (.long nn), .second] [(.double (4647714815446351872 : UInt64)), (.double (FP.l2d nn))])
    have Dq := own_divS bn
    refine Goes.of (fun _ kont => XS.ddivS X4.here hx rfl (Jvm.hb hby at_159) rfl Dq.noNaN rfl kont) ?_
    show Goes p e below _ T4 (mkF m 160 #[.val (.int p1), .val (.int p2), .val (.int p3), .val (.int p4), .val (.int (0 : Int32)), .val (.int a), .val (.int b), .val (.int k), .val (.double x1), .second, .val (.double x2), .second, .val (.double x3), .second, .val (.ref aS), .val (.double z4), .second, .unset, .unset, .val (.long nn), .second] [(.double (FP.ddiv (FP.l2d nn) (4647714815446351872 : UInt64)))])
    generalize hqq : (FP.ddiv (FP.l2d nn) (4647714815446351872 : UInt64)) = qq
    show Goes p e below _ T4 (mkF m 160 #[.val (.int p1), .val (.int p2), .val (.int p3), .val (.int p4), .val (.int (0 : Int32)), .val (.int a), .val (.int b), .val (.int k), .val (.double x1), .second, .val (.double x2), .second, .val (.double x3), .second, .val (.ref aS), .val (.double z4), .second, .unset, .unset, .val (.long nn), .second] [(.double qq)])
    rw [hqq, en] at Dq
    refine Goes.of (fun _ kont => XS.dstore X4.here hx rfl (Jvm.hb hby at_160) rfl (l' := #[.val (.int p1), .val (.int p2), .val (.int p3), .val (.int p4), .val (.int (0 : Int32)), .val (.int a), .val (.int b), .val (.int k), .val (.double x1), .second, .val (.double x2), .second, .val (.double x3), .second, .val (.ref aS), .val (.double z4), .second, .val (.double qq), .second, .val (.long nn), .second]) rfl kont) ?_
    show Goes p e below _ T4 (mkF m 162 #[.val (.int p1), .val (.int p2), .val (.int p3), .val (.int p4), .val (.int (0 : Int32)), .val (.int a), .val (.int b), .val (.int k), .val (.double x1), .second, .val (.double x2), .second, .val (.double x3), .second, .val (.ref aS), .val (.double z4), .second, .val (.double qq), .second, .val (.long nn), .second] [])
    refine Goes.of (fun _ kont => XS.dload X4.here hx rfl (Jvm.hb hby at_162) rfl kont) ?_
    show Goes p e below _ T4 (mkF m 164 #[.val (.int p1), .val (.int p2), .val (.int p3), .val (.int p4), .val (.int (0 : Int32)), .val (.int a), .val (.int b), .val (.int k), .val (.double x1), .second, .val (.double x2), .second, .val (.double x3), .second, .val (.ref aS), .val (.double z4), .second, .val (.double qq), .second, .val (.long nn), .second] [(.double z4)])
    refine Goes.of (fun _ kont => XS.dload X4.here hx rfl (Jvm.hb hby at_164) rfl kont) ?_
    show Goes p e below _ T4 (mkF m 166 #[.val (.int p1), .val (.int p2), .val (.int p3), .val (.int p4), .val (.int (0 : Int32)), .val (.int a), .val (.int b), .val (.int k), .val (.double x1), .second, .val (.double x2), .second, .val (.double x3), .second, .val (.ref aS), .val (.double z4), .second, .val (.double qq), .second, .val (.long nn), .second] [(.double qq), (.double z4)])
    refine Goes.of (fun _ kont => XS.dcmpS X4.here hx rfl (Jvm.hb hby at_166) rfl rfl kont) ?_
    show Goes p e below _ T4 (mkF m 167 #[.val (.int p1), .val (.int p2), .val (.int p3), .val (.int p4), .val (.int (0 : Int32)), .val (.int a), .val (.int b), .val (.int k), .val (.double x1), .second, .val (.double x2), .second, .val (.double x3), .second, .val (.ref aS), .val (.double z4), .second, .val (.double qq), .second, .val (.long nn), .second] [(.int (cmpValue (FP.dcmp z4 qq) .l))])
    refine Goes.of (fun _ kont => XS.ifNo X4.here hx rfl (Jvm.hb hby at_167) rfl (by rw [dy_eq Dz4 Dq rfl]; decide) kont) ?_
    show Goes p e below _ T4 (mkF m 170 #[.val (.int p1), .val (.int p2), .val (.int p3), .val (.int p4), .val (.int (0 : Int32)), .val (.int a), .val (.int b), .val (.int k), .val (.double x1), .second, .val (.double x2), .second, .val (.double x3), .second, .val (.ref aS), .val (.double z4), .second, .val (.double qq), .second, .val (.long nn), .second] [])
    refine Goes.of (fun _ kont => XS.iconst X4.here hx rfl (Jvm.hb hby at_170) kont) ?_
    show Goes p e below _ T4 (mkF m 171 #[.val (.int p1), .val (.int p2), .val (.int p3), .val (.int p4), .val (.int (0 : Int32)), .val (.int a), .val (.int b), .val (.int k), .val (.double x1), .second, .val (.double x2), .second, .val (.double x3), .second, .val (.ref aS), .val (.double z4), .second, .val (.double qq), .second, .val (.long nn), .second] [(.int (1 : Int32))])
    refine Goes.of (fun _ kont => XS.goto X4.here hx rfl (pc0 := 171) (pc' := 175) rfl (Jvm.hb hby at_171) (by decide) (by decide) kont) ?_
    show Goes p e below _ T4 (mkF m 175 #[.val (.int p1), .val (.int p2), .val (.int p3), .val (.int p4), .val (.int (0 : Int32)), .val (.int a), .val (.int b), .val (.int k), .val (.double x1), .second, .val (.double x2), .second, .val (.double x3), .second, .val (.ref aS), .val (.double z4), .second, .val (.double qq), .second, .val (.long nn), .second] [(.int (1 : Int32))])
    exact retB X4 hx hlk (t := .boolean) hret (by simp) (Jvm.hb hby at_175) (by decide) (by decide) ⟨rfl, Fr.app N0 N4⟩
theorem own_ordinals {args : Array Value} {s : State} {t t' : Term} {a : Addr} {C n d : String} (v1 : t.eval args s none [] s = some (.ref a)) (v2 : t'.eval args s none [] s = some (.ref a))
    (h1 : (Jvm.Cond.eq (.field t' C n d) (.int 1)).value args s none s [] = some true) (h2 : (Jvm.Cond.eq (.field t C n d) (.int 0)).value args s none s [] = some true) : False := by
  obtain ⟨y1, f1, g1⟩ := Cond.eq_one (show (Jvm.Cond.eq (.field t' C n d) (.int 1)).holds args s none s [] = true from Cond.before_iff.mpr h1)
  obtain ⟨y2, f2, g2⟩ := Cond.eq_one (show (Jvm.Cond.eq (.field t C n d) (.int 0)).holds args s none s [] = true from Cond.before_iff.mpr h2)
  have e : (Term.field t' C n d).eval args s none [] s = (Term.field t C n d).eval args s none [] s := by
    simp only [Term.eval]
    rw [v1, v2]
  have e1 : (Term.int 1).eval args s none [] s = (Term.int 0).eval args s none [] s := by rw [g1, g2, ← f1, ← f2, e]
  have e2 : (some (Value.int 1)) = some (Value.int 0) := e1
  simp at e2
set_option maxRecDepth 65536 in
set_option maxHeartbeats 40000000 in
theorem comes_1 {Post : Tables → Env → Array Value → State → Outcome → State → Prop} (hpost : ∀ tb e args s v u, (limb_1_1.after args s (.returned v) u = true ∧ limb_1_2.after args s (.returned v) u = true ∧ True) → FrameEnd s (.returned v) u (Jvm.fieldLocs frame_1_writes args s ++ Jvm.arrayLocs frame_1_arrays args s ++ Jvm.staticLocs frame_1_statics s) 0 0 → Post tb e args s (.returned v) u) :
    ArmFor flags0 classFile x code maxLocals ret World_1 tables_1 room_1 Calls_1 rest_1 Pre_1 Post := by
  intro l hfl _ _ p e ha hc hk s m args below hf hA hF happ hP
  obtain ⟨hcalls, hrest, hpre⟩ := hP
  obtain ⟨-, -, -, hnamed, -, -, -, hat⟩ := (Spec.applies_iff hf).mp happ
  obtain ⟨hg, hn⟩ := and_e (Cond.before_iff.mp (show (Jvm.Cond.and given_1 narrow_1).before args s = true from hpre))
  obtain ⟨g0, r0⟩ := and_e hg
  obtain ⟨g1, r1⟩ := and_e r0
  obtain ⟨g2, r2⟩ := and_e r1
  obtain ⟨g3, r3⟩ := and_e r2
  obtain ⟨w0, w1, w2, w3, rfl⟩ : ∃ w0 w1 w2 w3 : Value, args = #[w0, w1, w2, w3] := by
    have hs : args.size = 4 := by simpa [Cond.value, given_1] using g0
    obtain ⟨L⟩ := args
    match L, hs with
    | [w0, w1, w2, w3], _ => exact ⟨w0, w1, w2, w3, rfl⟩
  have hw := fun d (hd : d ∈ tables_1) => atoms_spec (ws := Jvm.Cond.code x code maxLocals ret :: tables_1) hat d (List.mem_cons_of_mem _ hd)
  obtain ⟨i0, ei0⟩ := is_v g1
  obtain rfl : w0 = (.int i0) := Option.some.inj ei0
  obtain ⟨i1, ei1⟩ := is_v g2
  obtain rfl : w1 = (.int i1) := Option.some.inj ei1
  obtain ⟨i2, ei2⟩ := is_v g3
  obtain rfl : w2 = (.int i2) := Option.some.inj ei2
  obtain ⟨i3, ei3⟩ := is_v r3
  obtain rfl : w3 = (.int i3) := Option.some.inj ei3
  obtain ⟨n1, m1⟩ := and_e hn
  obtain ⟨n2, m2⟩ := and_e m1
  obtain ⟨n3, n4⟩ := and_e m2
  obtain ⟨aS, _, _, _, vS, -⟩ := Cond.exactly_spec (Cond.before_iff.mpr n1)
  obtain ⟨aP, _, _, _, vP, -⟩ := Cond.exactly_spec (Cond.before_iff.mpr n2)
  have SS := Sta.start vS (Or.inr ⟨(hw _ (List.mem_of_getElem? (i := 5) rfl)), (hw _ (List.mem_of_getElem? (i := 6) rfl))⟩)
  have SP := Sta.start vP (Or.inr ⟨(hw _ (List.mem_of_getElem? (i := 5) rfl)), (hw _ (List.mem_of_getElem? (i := 16) rfl))⟩)
  have ES := Exa.start vS n1
  have EP := Exa.start vP n2
  have hne : aP ≠ aS := fun q => by
    subst q
    exact own_ordinals vS vP n3 n4
  obtain ⟨n, o, h1, h2, h3, _, L, rfl, ⟨rfl, N⟩, hq⟩ := rm0 l s _ hw i0 i1 i2 i3 aS aP s.heap s.heap.size (Nat.le_refl _) SS SP ES EP hne tables_1 p e ha hc hk s m _ below hf ((Spec.applies_iff_loose hf).mp happ).1 ⟨rfl, State.Warmed39.refl s, rfl⟩ trivial
  refine ⟨n, _, h1, h2, h3, hpost _ _ _ _ _ _ ⟨Cond.after_iff.mpr rfl, Cond.after_iff.mpr (eq_i res_at (Term.int_eval (1)) rfl), trivial⟩ ⟨hq.1, hq.2.1, (hq.2.2.sift fun y hy => Or.inr (N y hy)).mono (by decide) (by decide)⟩⟩
theorem main_1_1 : Claimed_1_1 := comes_1 fun _ _ _ _ _ _ h hF => ⟨h.1, hF⟩
theorem main_1_2 : Claimed_1_2 := comes_1 fun _ _ _ _ _ _ h hF => ⟨h.2.1, hF⟩
end Jvm.Pilot.@@N@@
namespace Jvm.Pilot.@@N@@
open Jvm Jvm.ClassFile Sem Op Lib Jvm.Free Jvm.Stand Jvm.Pilot.@@N@@.Jvm.D
/-! MADE BY PROGRAM (witnessworld.py) out of the Statement's table words and the real class files: 12 classes; the members and pool entries that the words name. The judged class is class 1, her method 1. -/
namespace start1
open Jvm.ClassFile
def u (s : String) : CpInfo := .utf8 (stringToUtf16 s)
/-- a pool by its gaps: so many unusable entries, then the entry; so many at the end -/
def gap : Nat → List CpInfo → List CpInfo
  | 0, r => r
  | n + 1, r => .unusable :: gap n r
def poolList (es : List (Nat × CpInfo)) (last : Nat) : List CpInfo := es.foldr (fun e r => gap e.1 (e.2 :: r)) (gap last [])
def pool (es : List (Nat × CpInfo)) (last : Nat) : Array CpInfo := ⟨poolList es last⟩
def fileOf (pool : Array CpInfo) (this : Nat) (attrs : Array Attribute := #[]) (ms : Array MethodInfo := #[]) (fl : Nat := 33) (sup : Nat := 0) (ifs : Array Nat := #[]) (fds : Array FieldInfo := #[]) : ClassFile where
  minorVersion := 0
  majorVersion := 65
  constantPool := pool
  accessFlags := fl
  thisClass := this
  superClass := sup
  interfaces := ifs
  fields := fds
  methods := ms
  attributes := attrs
def plain (name : String) (sup : Option ClassId) : Class where
  name := name
  kind := .ordinary
  loader := none
  accessFlags := 33
  super := sup
  interfaces := #[]
  cf := none
  fields := #[]
  methods := #[]
  instanceTypes := #[]
  staticTypes := #[]
  resolved := #[]
  callSites := []
  init := .initialized
  statics := none
  mirror := none

def pool0 : Array CpInfo := pool [(5, u "<init>"), (0, u "()V"), (1, .class_ 10), (1, u "java/lang/Object")] 113

def k0m0 : Method := { name := "<init>", desc := "()V", sig := { parameters := [], returnType := none }, accessFlags := 1, code := none }
/-- java/lang/Object -/
def k0 : Class := { plain "java/lang/Object" none with
  accessFlags := 33
  interfaces := #[]
  cf := some (fileOf pool0 8 #[] #[{ accessFlags := 1, nameIndex := 5, descriptorIndex := 6, attributes := #[] }] 33 0 #[] #[])
  fields := #[]
  methods := #[k0m0]
  instanceTypes := #[]
  staticTypes := #[]
  resolved := Array.replicate 124 none
  statics := none }

def pool1 : Array CpInfo := pool [(2, .class_ 4), (1, u "java/lang/Object"), (0, u "<init>"), (0, u "()V"), (0, .integer 1048576), (0, .integer 2147483647), (0, .double 4620693217682128896), (1, .double 4634204016564240384), (1, .fieldref 14 15), (0, .class_ 16), (0, .nameAndType 17 18), (0, u "com/example/concordance/concordance/search/ContextMatching$Combination"), (0, u "PRODUCT"), (0, u "Lcom/example/concordance/concordance/search/ContextMatching$Combination;"), (0, .fieldref 14 20), (0, .nameAndType 21 18), (0, u "SUM"), (0, .methodref 14 23), (0, .nameAndType 24 25), (0, u "of"), (0, u "(DDD)D"), (0, .long 8), (1, .long 64), (1, .double 4661225614328463360), (1, .double 4647714815446351872), (1, .class_ 35), (0, u "com/example/concordance/concordance/search/CombinationOfPinLaw"), (2, u "law"), (0, u "(IIII)Z")] 7

def k1m0 : Method := { name := "<init>", desc := "()V", sig := { parameters := [], returnType := none }, accessFlags := 1, code := none }
def k1c1 : Code := { maxStack := 8, maxLocals := 21, code := code, exceptionTable := #[], attributes := #[] }
def k1m1 : Method := { name := "law", desc := "(IIII)Z", sig := { parameters := [.int, .int, .int, .int], returnType := some .boolean }, accessFlags := 9, code := some k1c1 }
/-- com/example/concordance/concordance/search/CombinationOfPinLaw -/
def k1 : Class := { plain "com/example/concordance/concordance/search/CombinationOfPinLaw" (some 0) with
  accessFlags := 49
  interfaces := #[]
  cf := some (fileOf pool1 34 #[] #[{ accessFlags := 1, nameIndex := 5, descriptorIndex := 6, attributes := #[] }, { accessFlags := 9, nameIndex := 38, descriptorIndex := 39, attributes := #[] }] 49 2 #[] #[])
  fields := #[]
  methods := #[k1m0, k1m1]
  instanceTypes := #[]
  staticTypes := #[]
  resolved := Array.replicate 47 none
  statics := none }

def pool2 : Array CpInfo := pool [(1, .class_ 2), (0, u "java/lang/constant/Constable"), (0, .class_ 4), (0, u "java/lang/Object")] 6

/-- java/lang/constant/Constable -/
def k2 : Class := { plain "java/lang/constant/Constable" (some 0) with
  accessFlags := 1537
  interfaces := #[]
  cf := some (fileOf pool2 1 #[] #[] 1537 3 #[] #[])
  fields := #[]
  methods := #[]
  instanceTypes := #[]
  staticTypes := #[]
  resolved := Array.replicate 11 none
  statics := none }

def pool3 : Array CpInfo := pool [(1, .class_ 2), (0, u "java/lang/Comparable"), (0, .class_ 4), (0, u "java/lang/Object")] 7

/-- java/lang/Comparable -/
def k3 : Class := { plain "java/lang/Comparable" (some 0) with
  accessFlags := 1537
  interfaces := #[]
  cf := some (fileOf pool3 1 #[] #[] 1537 3 #[] #[])
  fields := #[]
  methods := #[]
  instanceTypes := #[]
  staticTypes := #[]
  resolved := Array.replicate 12 none
  statics := none }

def pool4 : Array CpInfo := pool [(1, .class_ 2), (0, u "java/io/Serializable"), (0, .class_ 4), (0, u "java/lang/Object")] 2

/-- java/io/Serializable -/
def k4 : Class := { plain "java/io/Serializable" (some 0) with
  accessFlags := 1537
  interfaces := #[]
  cf := some (fileOf pool4 1 #[] #[] 1537 3 #[] #[])
  fields := #[]
  methods := #[]
  instanceTypes := #[]
  staticTypes := #[]
  resolved := Array.replicate 7 none
  statics := none }

def pool5 : Array CpInfo := pool [(2, .class_ 4), (1, u "java/lang/Enum"), (0, u "name"), (0, u "Ljava/lang/String;"), (2, u "ordinal"), (0, u "I"), (1, .class_ 14), (1, u "java/lang/Object"), (4, u "hash"), (86, .class_ 108), (1, u "java/lang/Enum$EnumDesc"), (2, .class_ 112), (0, u "java/lang/constant/Constable"), (0, .class_ 114), (0, u "java/lang/Comparable"), (0, .class_ 116), (0, u "java/io/Serializable")] 87

/-- java/lang/Enum -/
def k5 : Class := { plain "java/lang/Enum" (some 0) with
  accessFlags := 1057
  interfaces := #[2, 3, 4]
  cf := some (fileOf pool5 2 #[.nestMembers #[106]] #[] 1057 12 #[111, 113, 115] #[{ accessFlags := 18, nameIndex := 5, descriptorIndex := 6, attributes := #[] }, { accessFlags := 18, nameIndex := 9, descriptorIndex := 10, attributes := #[] }, { accessFlags := 2, nameIndex := 19, descriptorIndex := 10, attributes := #[] }])
  fields := #[{ name := "name", type := (.object "java/lang/String"), accessFlags := 18, slot := 0, constantValue := 0 }, { name := "ordinal", type := .int, accessFlags := 18, slot := 1, constantValue := 0 }, { name := "hash", type := .int, accessFlags := 2, slot := 2, constantValue := 0 }]
  methods := #[]
  instanceTypes := #[(.object "java/lang/String"), .int, .int]
  staticTypes := #[]
  resolved := Array.replicate 204 none
  statics := none }

def pool6 : Array CpInfo := pool [(1, .class_ 2), (0, u "com/example/concordance/concordance/search/ContextMatching$Combination"), (0, .fieldref 1 4), (0, .nameAndType 5 6), (0, u "SUM"), (0, u "Lcom/example/concordance/concordance/search/ContextMatching$Combination;"), (2, u "PRODUCT"), (2, u "$VALUES"), (0, u "[Lcom/example/concordance/concordance/search/ContextMatching$Combination;"), (6, .class_ 22), (1, u "java/lang/Enum"), (20, u "of"), (0, u "(DDD)D"), (6, .class_ 52), (0, u "com/example/concordance/concordance/search/ContextMatching")] 2

def k6c0 : Code := { maxStack := 8, maxLocals := 9, code := prog_28_method_4_code, exceptionTable := #[], attributes := #[] }
def k6m0 : Method := { name := "of", desc := "(DDD)D", sig := { parameters := [.double, .double, .double], returnType := some .double }, accessFlags := 0, code := some k6c0 }
/-- com/example/concordance/concordance/search/ContextMatching$Combination -/
def k6 : Class := { plain "com/example/concordance/concordance/search/ContextMatching$Combination" (some 5) with
  accessFlags := 16433
  interfaces := #[]
  cf := some (fileOf pool6 1 #[.nestHost 51] #[{ accessFlags := 0, nameIndex := 43, descriptorIndex := 44, attributes := #[] }] 16433 20 #[] #[{ accessFlags := 16409, nameIndex := 5, descriptorIndex := 6, attributes := #[] }, { accessFlags := 16409, nameIndex := 9, descriptorIndex := 6, attributes := #[] }, { accessFlags := 4122, nameIndex := 12, descriptorIndex := 13, attributes := #[] }])
  fields := #[{ name := "SUM", type := (.object "com/example/concordance/concordance/search/ContextMatching$Combination"), accessFlags := 16409, slot := 0, constantValue := 0 }, { name := "PRODUCT", type := (.object "com/example/concordance/concordance/search/ContextMatching$Combination"), accessFlags := 16409, slot := 1, constantValue := 0 }, { name := "$VALUES", type := (.array (.object "com/example/concordance/concordance/search/ContextMatching$Combination")), accessFlags := 4122, slot := 2, constantValue := 0 }]
  methods := #[k6m0]
  instanceTypes := #[(.object "java/lang/String"), .int, .int]
  staticTypes := #[(.object "com/example/concordance/concordance/search/ContextMatching$Combination"), (.object "com/example/concordance/concordance/search/ContextMatching$Combination"), (.array (.object "com/example/concordance/concordance/search/ContextMatching$Combination"))]
  resolved := Array.replicate 55 none
  statics := some 0 }

def pool7 : Array CpInfo := pool [(1, u "java/lang/Cloneable"), (0, .class_ 1), (0, u "java/lang/Object"), (0, .class_ 3)] 3

/-- java/lang/Cloneable -/
def k7 : Class := { plain "java/lang/Cloneable" (some 0) with
  accessFlags := 1537
  interfaces := #[]
  cf := some (fileOf pool7 2 #[] #[] 1537 4 #[] #[])
  fields := #[]
  methods := #[]
  instanceTypes := #[]
  staticTypes := #[]
  resolved := Array.replicate 8 none
  statics := none }

/-- the primitive byte -/
def k8 : Class := { plain "byte" none with kind := .primitive 'B', accessFlags := 0x411 }
/-- [B -/
def k9 : Class := { plain "[B" (some 0) with kind := .array 8 .byte, interfaces := #[7, 4], accessFlags := 1041 }

/-- the primitive int -/
def k10 : Class := { plain "int" none with kind := .primitive 'I', accessFlags := 0x411 }
/-- [I -/
def k11 : Class := { plain "[I" (some 0) with kind := .array 10 .int, interfaces := #[7, 4], accessFlags := 1041 }

def heap : Heap := #[{ cls := 6, slots := #[.ref 1, .ref 2, .null], vm := .statics 6 },
  { cls := 6, slots := #[.null, .int 0, .int 0], vm := .none },
  { cls := 6, slots := #[.null, .int 1, .int 0], vm := .none }]
def classes : Array Class := #[k0, k1, k2, k3, k4, k5, k6, k7, k8, k9, k10, k11]
def interned : List (Array UInt16 × Addr) := []
def slotsUsed : Nat := 9
def theMethod : MethodId := ⟨1, 1⟩
def args0 : Array Value := #[.int 5, .int 3, .int 7, .int 2]
def aboutOver (below : List Frame) : State where
  vm := { classes := classes, interned := interned.toArray }
  heap := heap
  slotsUsed := slotsUsed
  threads := #[{ frames := .invoking theMethod args0 :: below }]
def below0 : List Frame := [.native { method := ⟨0, 0⟩, args := #[] }]
def about1 : State := aboutOver below0
def p0 : Program := .bare "" "" ""
def e0 : Env := launch0.env 0 0 0
theorem w_frames : about1.frames = Frame.invoking theMethod args0 :: below0 := rfl
set_option maxRecDepth 65536 in
theorem w_args : argsFit about1.vm theMethod args0 = true := by decide +kernel
set_option maxRecDepth 65536 in
theorem w_heap : heapFits about1 = true := by decide +kernel
set_option maxRecDepth 65536 in
theorem w_runnable : about1.curStatus? = some .runnable := by decide +kernel
set_option maxRecDepth 65536 in
theorem w_alone : about1.alone = true := by decide +kernel
set_option maxRecDepth 65536 in
theorem w_named : about1.methodNamed? x = some theMethod := by decide +kernel
set_option maxRecDepth 65536 in
theorem w_hears : about1.hears theMethod below0 = true := by decide +kernel
set_option maxRecDepth 65536 in
theorem w_ripe : about1.ripe theMethod args0 below0 = true := by decide +kernel
theorem w_running : about1.status = .running := rfl
set_option maxRecDepth 65536 in
theorem w_room : about1.hasRoom e0.platform room_1 = true :=
  launch0.hasRoom_least _ room_1 (by decide +kernel) (by decide +kernel) (by decide +kernel) (by decide +kernel) (by decide +kernel) (by decide +kernel)
theorem allAtoms_all (ts : List Jvm.Cond) (a : Array Jvm.Value) (st : Jvm.State) : (allAtoms ts).before a st = ts.all (fun c => c.before a st) := by
  induction ts with
  | nil => rfl
  | cons c t ih =>
    show (Jvm.Cond.and c (allAtoms t)).before a st = _
    rw [Jvm.Cond.before_and, ih, List.all_cons]
def words1 : List Jvm.Cond := Jvm.Cond.code x code maxLocals ret :: tables_1
/-- a 'code' word, met by the world's own term for the bytes: nothing is compared byte by byte -/
theorem code_word {y : MethodName} {bytes : ByteArray} {mx : Nat} {rt : Option FieldType} {a : Array Value} {s : State} {m : MethodId} {meth : Method} {c : Code} (h1 : s.methodNamed? y = some m) (h2 : s.vm.method? m = some meth) (h3 : meth.code = some c) (h4 : c.code = bytes)
    (h5 : (c.maxLocals == mx && c.exceptionTable.isEmpty && decide (c.maxStack ≤ mostOperands) && decide (meth.sig.returnType = rt) && !meth.locks && decide (parseMethodDescriptor y.desc = some meth.sig)) = true) : (Jvm.Cond.code y bytes mx rt).before a s = true := by
  simp only [Bool.and_eq_true, beq_iff_eq, Bool.not_eq_true', decide_eq_true_eq] at h5
  obtain ⟨⟨⟨⟨⟨g1, g2⟩, g3⟩, g4⟩, g5⟩, g6⟩ := h5
  simp [Cond.before, Cond.holds, Cond.value, h1, h2, h3, h4, g1, g2, g3, g4, g5, g6]
def isCode : Jvm.Cond → Bool
  | .code _ _ _ _ => true
  | _ => false
theorem all_split {L : List Jvm.Cond} {P : Jvm.Cond → Bool} (h1 : L.all (fun c => isCode c || P c) = true) (h2 : ∀ c ∈ L.filter isCode, P c = true) : L.all P = true := by
  refine List.all_eq_true.mpr fun c hc => ?_
  have h := List.all_eq_true.mp h1 c hc
  rcases Bool.eq_false_or_eq_true (isCode c) with hi | hi
  · exact h2 c (List.mem_filter.mpr ⟨hc, hi⟩)
  · simpa [hi] using h
set_option maxRecDepth 65536 in
theorem w_c0 : (Jvm.Cond.code x code maxLocals ret).before args0 about1 = true := code_word (m := ⟨1, 1⟩) (meth := k1m1) (c := k1c1) (by decide +kernel) rfl rfl rfl (by decide +kernel)
set_option maxRecDepth 65536 in
theorem w_c1 : (Jvm.Cond.code ({ cls := "com/example/concordance/concordance/search/ContextMatching$Combination", name := "of", desc := "(DDD)D" } : Jvm.MethodName) prog_28_method_4_code (9 : Nat) (Option.some Jvm.ClassFile.FieldType.double)).before args0 about1 = true := code_word (m := ⟨6, 0⟩) (meth := k6m0) (c := k6c0) (by decide +kernel) rfl rfl rfl (by decide +kernel)
def codes1 : List Jvm.Cond := [Jvm.Cond.code x code maxLocals ret, Jvm.Cond.code ({ cls := "com/example/concordance/concordance/search/ContextMatching$Combination", name := "of", desc := "(DDD)D" } : Jvm.MethodName) prog_28_method_4_code (9 : Nat) (Option.some Jvm.ClassFile.FieldType.double)]
set_option maxRecDepth 65536 in
theorem codes_eq : words1.filter isCode = codes1 := rfl
theorem w_codes : ∀ c ∈ words1.filter isCode, c.before args0 about1 = true := by
  rw [codes_eq]
  intro c hc
  simp only [codes1, List.mem_cons, List.not_mem_nil, or_false] at hc
  rcases hc with rfl | rfl
  · exact w_c0
  · exact w_c1
set_option maxRecDepth 65536 in
theorem w_t1 : words1.all (fun c => isCode c || c.before args0 about1) = true := by decide +kernel
theorem w_tables : (allAtoms (Jvm.Cond.code x code maxLocals ret :: tables_1)).before args0 about1 = true := by
  rw [allAtoms_all]
  show words1.all (fun c => c.before args0 about1) = true
  refine all_split ?_ w_codes
  rw [w_t1]
set_option maxRecDepth 65536 in
theorem w_case : (Jvm.Cond.and given_1 narrow_1).before args0 about1 = true := by decide +kernel
theorem w_applies : (headSpec (Jvm.Cond.code x code maxLocals ret :: tables_1) room_1).applies x e0.platform about1 = true :=
  (Spec.applies_iff w_frames).mpr ⟨w_running, w_runnable, w_alone, w_named, w_hears, w_ripe, w_room, w_tables⟩
theorem atStart : AtStart classFile x code maxLocals ret World_1 tables_1 room_1 Calls_1 rest_1 Pre_1 launch0 p0 e0 about1 theMethod args0 below0 :=
  ⟨lists_1, trivial, launch0.admits_env _ _ _, launch0.least_env, fairChoices_fair.cas, fairChoices_fair.clock, w_frames, w_args, w_heap, w_applies, trivial, trivial, w_case⟩
end start1
theorem witness_1 : WitnessClaimed_1 := ⟨start1.p0, start1.e0, start1.about1, start1.theMethod, start1.args0, start1.below0, start1.atStart⟩
end Jvm.Pilot.@@N@@
