import JvmDerived
import JvmDerived.Pilot.@@N@@Statement
import JvmDerived.Pilot.@@N@@Code
set_option linter.unusedVariables false
set_option linter.unusedSimpArgs false
@@BLOCK:NumsL.lean.txt@@
namespace Jvm.Pilot.@@N@@
open Jvm Jvm.ClassFile Sem Op Lib Jvm.Free Jvm.Stand Jvm.LawKit Jvm.RoadKit Bundle Jvm.Pilot.@@N@@.Jvm.D
namespace Own
open Jvm.FP Jvm.Free.Fl
/-- the datum with its exponent less by e -/
def sh (e : Int) : Core.Datum → Core.Datum
  | .nan => .nan
  | .inf s => .inf s
  | .fin s c q => .fin s c (q - e)
/-- d is the number i * 2 ^ e -/
def Dyd (i e : Int) (d : Core.Datum) : Prop := Core.Whole i (sh e d)
def Dy (i e : Int) (a : UInt64) : Prop := Dyd i e (Core.val64 a)
theorem sh_zero (d : Core.Datum) : sh 0 d = d := by cases d <;> simp [sh]
theorem dyd_whole {i : Int} {d : Core.Datum} : Dyd i 0 d ↔ Core.Whole i d := by unfold Dyd; rw [sh_zero]
theorem dy_of_int {i : Int} {a : UInt64} (h : Core.DInt i a) : Dy i 0 a := dyd_whole.mpr h
theorem dy_i2d (n : Int32) : Dy n.toInt 0 (FP.i2d n) := dy_of_int (Core.i2d_int n)
theorem dy_l2d {n : Int64} (h : n.toInt.natAbs ≤ 2 ^ 53) : Dy n.toInt 0 (FP.l2d n) := dy_of_int (Core.l2d_int h)
theorem Dyd.ne_nan {i e : Int} {d : Core.Datum} (h : Dyd i e d) : d ≠ .nan := by rintro rfl; exact h.elim
theorem Dy.noNaN {i e : Int} {a : UInt64} (h : Dy i e a) : NoNaN64 a := val64_no.mpr h.ne_nan
theorem Dy.fin {i e : Int} {a : UInt64} (h : Dy i e a) : Fin64 a := by
  refine fin64_core.mpr ?_
  unfold Dy at h
  revert h
  unfold Core.DFin
  cases Core.val64 a with
  | nan => exact fun h => h.elim
  | inf => exact fun h => h.elim
  | fin s c q => exact fun _ => ⟨s, c, q, rfl⟩
theorem sh_sum (e : Int) (x y : Core.Datum) : sh e (Core.exactSum x y) = Core.exactSum (sh e x) (sh e y) := by
  cases x with
  | nan => rfl
  | inf s =>
    cases y with
    | nan => rfl
    | inf t => by_cases h : s = t <;> simp only [Core.exactSum, sh, h, if_true, if_false]
    | fin t d r => rfl
  | fin s c q =>
    cases y with
    | nan => rfl
    | inf t => rfl
    | fin t d r =>
      have h1 : min (q - e) (r - e) = min q r - e := by omega
      have h2 : Core.sumUnits s c (q - e) t d (r - e) (min q r - e) = Core.sumUnits s c q t d r (min q r) := by
        unfold Core.sumUnits Core.inUnits
        rw [show q - e - (min q r - e) = q - min q r by omega, show r - e - (min q r - e) = r - min q r by omega]
      simp only [Core.exactSum, sh, h1, h2]
theorem sh_negate (e : Int) (x : Core.Datum) : sh e (Core.negate x) = Core.negate (sh e x) := by cases x <;> rfl
theorem sh_product (e f : Int) (x y : Core.Datum) : sh (e + f) (Core.exactProduct x y) = Core.exactProduct (sh e x) (sh f y) := by
  cases x with
  | nan => rfl
  | inf s =>
    cases y with
    | nan => rfl
    | inf t => rfl
    | fin t d r => by_cases h : d = 0 <;> simp only [Core.exactProduct, sh, h, if_true, if_false]
  | fin s c q =>
    cases y with
    | nan => rfl
    | inf t => by_cases h : c = 0 <;> simp only [Core.exactProduct, sh, h, if_true, if_false]
    | fin t d r => simp only [Core.exactProduct, sh]; rw [show q + r - (e + f) = q - e + (r - f) by omega]
theorem sh_order (e : Int) (x y : Core.Datum) : Core.order (sh e x) (sh e y) = Core.order x y := by
  cases x with
  | nan => rfl
  | inf s => cases y <;> rfl
  | fin s c q =>
    cases y with
    | nan => rfl
    | inf t => rfl
    | fin t d r =>
      have h1 : min (q - e) (r - e) = min q r - e := by omega
      simp only [Core.order, sh, h1, Core.inUnits]
      rw [show q - e - (min q r - e) = q - min q r by omega, show r - e - (min q r - e) = r - min q r by omega]
/-- finer units -/
theorem dyd_finer {i e : Int} {d : Core.Datum} (k : Nat) (h : Dyd i e d) : Dyd (i * ((2 ^ k : Nat) : Int)) (e - k) d := by
  cases d with
  | nan => exact h.elim
  | inf => exact h.elim
  | fin s c q =>
    have h0 : Core.signed s (c * 2 ^ (q - e).toNat) = i * ((2 ^ (-(q - e)).toNat : Nat) : Int) := h
    show Core.signed s (c * 2 ^ (q - (e - k)).toNat) = i * ((2 ^ k : Nat) : Int) * ((2 ^ (-(q - (e - k))).toNat : Nat) : Int)
    have p2 : ((2 ^ (q - e).toNat : Nat) : Int) ≠ 0 := by have := Nat.two_pow_pos (q - e).toNat; omega
    refine Int.eq_of_mul_eq_mul_right p2 ?_
    have ex : (-(q - e)).toNat + (q - (e - k)).toNat = k + (-(q - (e - k))).toNat + (q - e).toNat := by omega
    calc Core.signed s (c * 2 ^ (q - (e - k)).toNat) * ((2 ^ (q - e).toNat : Nat) : Int)
        = Core.signed s (c * 2 ^ (q - e).toNat) * ((2 ^ (q - (e - k)).toNat : Nat) : Int) := by
          rw [← Core.signed_mul, ← Core.signed_mul]; congr 1; ac_rfl
      _ = i * (((2 ^ ((-(q - e)).toNat + (q - (e - k)).toNat) : Nat)) : Int) := by rw [h0, Nat.pow_add, Int.natCast_mul, Int.mul_assoc]
      _ = i * ((2 ^ k : Nat) : Int) * ((2 ^ (-(q - (e - k))).toNat : Nat) : Int) * ((2 ^ (q - e).toNat : Nat) : Int) := by
          rw [ex, Nat.pow_add, Nat.pow_add, Int.natCast_mul, Int.natCast_mul]; ac_rfl
theorem Dy.finer {i e : Int} {a : UInt64} (k : Nat) (h : Dy i e a) : Dy (i * ((2 ^ k : Nat) : Int)) (e - k) a := dyd_finer k h
theorem Dy.to {i e i' e' : Int} {a : UInt64} (h : Dy i e a) (k : Nat) (h1 : e' = e - k) (h2 : i' = i * ((2 ^ k : Nat) : Int)) : Dy i' e' a := by subst h1 h2; exact h.finer k
/-- what is small enough rounds to itself -/
theorem dyd_ratio {s : Bool} {i e : Int} (hs : Core.signed s i.natAbs = i) (hi : i.natAbs < 2 ^ 53) (h1 : -1074 ≤ e) (h2 : e ≤ 971) : Dyd i e (Core.roundRatio Core.b64 s i.natAbs 1 e) := by
  obtain ⟨c', q', h3, h4⟩ := Core.round_exact Core.good_b64 s (c := i.natAbs) (q := e) hi h1 h2
  have e2 : Core.roundRatio Core.b64 s i.natAbs 1 e = .fin s c' q' := h3
  have hf : Core.fits Core.b64 (.fin s c' q') := h3 ▸ Core.round_fits Core.good_b64 _
  have hq : -1074 ≤ q' := hf.2.1
  rw [e2]
  show Core.signed s (c' * 2 ^ (q' - e).toNat) = i * ((2 ^ (-(q' - e)).toNat : Nat) : Int)
  have h5 : c' * 2 ^ (q' - -1074).toNat = i.natAbs * 2 ^ (e - -1074).toNat := h4
  have key : c' * 2 ^ (q' - e).toNat = i.natAbs * 2 ^ (-(q' - e)).toNat := by
    by_cases hle : e ≤ q'
    · have x1 : (q' - -1074).toNat = (q' - e).toNat + (e - -1074).toNat := by omega
      have x2 : (-(q' - e)).toNat = 0 := by omega
      rw [x1, Nat.pow_add, ← Nat.mul_assoc] at h5
      rw [x2, Nat.pow_zero, Nat.mul_one]
      exact Nat.eq_of_mul_eq_mul_right (Nat.two_pow_pos _) h5
    · have x1 : (e - -1074).toNat = (-(q' - e)).toNat + (q' - -1074).toNat := by omega
      have x2 : (q' - e).toNat = 0 := by omega
      rw [x1, Nat.pow_add, ← Nat.mul_assoc] at h5
      rw [x2, Nat.pow_zero, Nat.mul_one]
      exact Nat.eq_of_mul_eq_mul_right (Nat.two_pow_pos _) h5
  rw [key, Core.signed_mul, hs]
theorem signed_of_whole {i : Int} {s : Bool} {c : Nat} {q : Int} (h : Core.Whole i (.fin s c q)) : Core.signed s i.natAbs = i := by
  by_cases hi : i = 0
  · subst hi; exact Core.signed_zero s
  · rw [Core.whole_sign h hi]
    unfold Core.signed
    by_cases h : i < 0 <;> simp [h] <;> omega
theorem dyd_round {i e : Int} {d : Core.Datum} (hi : i.natAbs < 2 ^ 53) (h1 : -1074 ≤ e) (h2 : e ≤ 971) (h : Dyd i e d) : Dyd i e (Core.round Core.b64 d) := by
  cases d with
  | nan => exact h.elim
  | inf => exact h.elim
  | fin s c q =>
    have hw : Core.Whole i (.fin s c (q - e)) := h
    have hn := Core.whole_natAbs hw
    have e1 : Core.round Core.b64 (.fin s c q) = Core.roundRatio Core.b64 s i.natAbs 1 e := by
      refine Core.roundRatio_congr (by decide) (by decide) ?_
      rw [show (e - q).toNat = (-(q - e)).toNat by omega]; simpa using hn
    rw [e1]
    exact dyd_ratio (signed_of_whole hw) hi h1 h2
theorem dy_add {i j e : Int} {a b : UInt64} (ha : Dy i e a) (hb : Dy j e b) (hi : (i + j).natAbs < 2 ^ 53) (h1 : -1074 ≤ e) (h2 : e ≤ 971) : Dy (i + j) e (FP.dadd a b) := by
  show Dyd _ _ (Core.val64 (Core.dadd a b))
  rw [Core.val64_dadd]
  refine dyd_round hi h1 h2 ?_
  unfold Dyd
  rw [sh_sum]
  exact Core.whole_sum ha hb
theorem dy_sub {i j e : Int} {a b : UInt64} (ha : Dy i e a) (hb : Dy j e b) (hi : (i - j).natAbs < 2 ^ 53) (h1 : -1074 ≤ e) (h2 : e ≤ 971) : Dy (i - j) e (FP.dsub a b) := by
  show Dyd _ _ (Core.val64 (Core.dsub a b))
  rw [Core.val64_dsub]
  refine dyd_round hi h1 h2 ?_
  unfold Dyd
  rw [sh_sum, sh_negate]
  exact Core.whole_sum ha (Core.whole_negate hb)
theorem dy_mul {i j e f : Int} {a b : UInt64} (ha : Dy i e a) (hb : Dy j f b) (hi : (i * j).natAbs < 2 ^ 53) (h1 : -1074 ≤ e + f) (h2 : e + f ≤ 971) : Dy (i * j) (e + f) (FP.dmul a b) := by
  show Dyd _ _ (Core.val64 (Core.dmul a b))
  rw [Core.val64_dmul]
  refine dyd_round hi h1 h2 ?_
  unfold Dyd
  rw [sh_product]
  exact Core.whole_product ha hb
theorem dyd_quot {i j m e f : Int} {x y : Core.Datum} (hx : Dyd i e x) (hy : Dyd j f y) (hj : j ≠ 0) (hm : i = j * m) (hb : m.natAbs < 2 ^ 53) (h1 : -1074 ≤ e - f) (h2 : e - f ≤ 971) : Dyd m (e - f) (Core.quotient Core.b64 x y) := by
  cases x with
  | nan => exact hx.elim
  | inf => exact hx.elim
  | fin s c q =>
  cases y with
  | nan => exact hy.elim
  | inf => exact hy.elim
  | fin t d r =>
    have wx : Core.Whole i (.fin s c (q - e)) := hx
    have wy : Core.Whole j (.fin t d (r - f)) := hy
    have hd : d ≠ 0 := fun h => hj ((Core.whole_zero wy).mp h)
    have nx := Core.whole_natAbs wx
    have ny := Core.whole_natAbs wy
    have hn : i.natAbs = j.natAbs * m.natAbs := by rw [hm, Int.natAbs_mul]
    simp only [Core.quotient]
    rw [if_neg hd]
    have e1 : Core.roundRatio Core.b64 (s != t) c d (q - r) = Core.roundRatio Core.b64 (s != t) m.natAbs 1 (e - f) := by
      refine Core.roundRatio_congr (Nat.pos_of_ne_zero hd) (by decide) ?_
      rw [Nat.mul_one]
      refine Nat.eq_of_mul_eq_mul_right (Nat.mul_pos (Nat.two_pow_pos (q - e).toNat) (Nat.two_pow_pos (r - f).toNat)) ?_
      have ex : (-(q - e)).toNat + (q - r - (e - f)).toNat + (r - f).toNat = (-(r - f)).toNat + (e - f - (q - r)).toNat + (q - e).toNat := by omega
      calc c * 2 ^ (q - r - (e - f)).toNat * (2 ^ (q - e).toNat * 2 ^ (r - f).toNat)
          = (c * 2 ^ (q - e).toNat) * (2 ^ (q - r - (e - f)).toNat * 2 ^ (r - f).toNat) := by ac_rfl
        _ = j.natAbs * m.natAbs * 2 ^ ((-(q - e)).toNat + (q - r - (e - f)).toNat + (r - f).toNat) := by rw [nx, hn, Nat.pow_add, Nat.pow_add]; ac_rfl
        _ = m.natAbs * (j.natAbs * 2 ^ (-(r - f)).toNat) * (2 ^ (e - f - (q - r)).toNat * 2 ^ (q - e).toNat) := by rw [ex, Nat.pow_add, Nat.pow_add]; ac_rfl
        _ = m.natAbs * d * 2 ^ (e - f - (q - r)).toNat * (2 ^ (q - e).toNat * 2 ^ (r - f).toNat) := by rw [← ny]; ac_rfl
    rw [e1]
    refine dyd_ratio ?_ hb h1 h2
    have si := signed_of_whole wx
    have sj := signed_of_whole wy
    have hj0 : (j.natAbs : Int) ≠ 0 := by omega
    refine Int.eq_of_mul_eq_mul_left hj0 ?_
    rw [hn] at si
    have k1 : Core.signed s (j.natAbs * m.natAbs) = Core.signed t j.natAbs * m := by rw [si, sj, hm]
    cases s <;> cases t <;> simp only [Core.signed, bne_self_eq_false, Bool.false_bne, Bool.bne_false, Bool.false_eq_true, if_false, if_true, Int.natCast_mul, Int.neg_mul, Int.mul_neg, Int.neg_inj] at k1 ⊢ <;> omega
theorem dy_div {i j m e f : Int} {a b : UInt64} (ha : Dy i e a) (hb : Dy j f b) (hj : j ≠ 0) (hm : i = j * m) (hi : m.natAbs < 2 ^ 53) (h1 : -1074 ≤ e - f) (h2 : e - f ≤ 971) : Dy m (e - f) (FP.ddiv a b) := by
  show Dyd _ _ (Core.val64 (Core.ddiv a b))
  rw [Core.val64_ddiv]
  exact dyd_quot ha hb hj hm hi h1 h2
theorem dy_cmp {i j e : Int} {a b : UInt64} (ha : Dy i e a) (hb : Dy j e b) : FP.dcmp a b = some (compare i j) := by
  show Core.order (Core.val64 a) (Core.val64 b) = _
  rw [← sh_order e]
  exact Core.order_whole ha hb
theorem cmp_lt {i j : Int} (h : i < j) : compare i j = .lt := by simp [compare, compareOfLessAndEq, h]
theorem cmp_eq {i j : Int} (h : i = j) : compare i j = .eq := by simp [compare, compareOfLessAndEq, h]
theorem cmp_gt {i j : Int} (h : j < i) : compare i j = .gt := by simp only [compare, compareOfLessAndEq]; rw [if_neg (by omega), if_neg (by omega)]
theorem dy_lt {i j e : Int} {a b : UInt64} (ha : Dy i e a) (hb : Dy j e b) (h : i < j) : FP.dcmp a b = some .lt := by rw [dy_cmp ha hb, cmp_lt h]
theorem dy_eq {i j e : Int} {a b : UInt64} (ha : Dy i e a) (hb : Dy j e b) (h : i = j) : FP.dcmp a b = some .eq := by rw [dy_cmp ha hb, cmp_eq h]
theorem dy_gt {i j e : Int} {a b : UInt64} (ha : Dy i e a) (hb : Dy j e b) (h : j < i) : FP.dcmp a b = some .gt := by rw [dy_cmp ha hb, cmp_gt h]
theorem dy_zero (e : Int) : Dy 0 e FP.dconst0 := by
  show Dyd 0 e (Core.val64 Core.dconst0)
  rw [Core.val64_dconst0]
  show Core.signed false (0 * _) = 0 * _
  rw [Nat.zero_mul, Int.zero_mul]; rfl
theorem dy_one : Dy 1 0 FP.dconst1 := by
  show Dyd 1 0 (Core.val64 Core.dconst1)
  rw [Core.val64_dconst1]
  show Core.signed false (2 ^ 52 * 2 ^ ((-52 : Int) - 0).toNat) = 1 * ((2 ^ (-((-52 : Int) - 0)).toNat : Nat) : Int)
  decide +kernel
end Own
namespace Own
theorem irem_nn {x y : Int32} (hx : 0 ≤ x.toInt) (hy : 0 < y.toInt) : (x - x / y * y).toInt = x.toInt % y.toInt := by
  have hd : (x / y).toInt = x.toInt / y.toInt := by rw [Jvm.Kit.i32_div (by omega), Int.tdiv_eq_ediv_of_nonneg hx]
  have b1 := x.toInt_lt
  have b2 : x.toInt / y.toInt * y.toInt ≤ x.toInt := Int.ediv_mul_le _ (by omega)
  have b3 : 0 ≤ x.toInt / y.toInt * y.toInt := Int.mul_nonneg (Int.ediv_nonneg hx (by omega)) (by omega)
  have hm : (x / y * y).toInt = x.toInt / y.toInt * y.toInt := by rw [Jvm.Kit.i32_mul (by rw [hd]; omega) (by rw [hd]; omega), hd]
  rw [Jvm.Kit.i32_sub (by rw [hm]; omega) (by rw [hm]; omega), hm]
  have := Int.mul_ediv_add_emod x.toInt y.toInt
  rw [Int.mul_comm] at this
  omega
theorem irem_t {x y : Int32} (hy : 0 < y.toInt) : (x - x / y * y).toInt = x.toInt.tmod y.toInt := by
  have hd : (x / y).toInt = x.toInt.tdiv y.toInt := Jvm.Kit.i32_div (by omega)
  have b1 := x.toInt_lt
  have b0 := x.le_toInt
  have k : y.toInt * x.toInt.tdiv y.toInt + x.toInt.tmod y.toInt = x.toInt := Int.mul_tdiv_add_tmod _ _
  have k2 : (y.toInt * x.toInt.tdiv y.toInt).natAbs ≤ x.toInt.natAbs := by
    rw [Int.natAbs_mul, Int.natAbs_tdiv]; exact Nat.mul_div_le _ _
  have t3 : (x.toInt.tmod y.toInt).natAbs < y.toInt.natAbs := by
    rw [Int.natAbs_tmod]; exact Nat.mod_lt _ (by omega)
  have b4 := y.toInt_lt
  have hm : (x / y * y).toInt = y.toInt * x.toInt.tdiv y.toInt := by
    have q : (x / y).toInt * y.toInt = y.toInt * x.toInt.tdiv y.toInt := by rw [hd, Int.mul_comm]
    by_cases hz : -2 ^ 31 ≤ (x / y).toInt * y.toInt ∧ (x / y).toInt * y.toInt < 2 ^ 31
    · rw [Jvm.Kit.i32_mul hz.1 hz.2, q]
    · exfalso
      have e1 : x.toInt.natAbs ≤ 2 ^ 31 := by omega
      by_cases hs : 0 ≤ x.toInt
      · have t1 : 0 ≤ x.toInt.tmod y.toInt := Int.tmod_nonneg _ hs
        omega
      · omega
  rw [Jvm.Kit.i32_sub (by rw [hm]; omega) (by rw [hm]; omega), hm]
  omega
theorem hlt {x : Int32} (h : ifCond.holds .lt x = true) : x.toInt < 0 := by
  simpa [ifCond.holds, Int32.lt_iff_toInt_lt] using h
theorem hge {x : Int32} (h : ifCond.holds .lt x = false) : 0 ≤ x.toInt := by
  simpa [ifCond.holds, Int32.lt_iff_toInt_lt] using h
theorem cgt {x y : Int32} (h : if_icmp.holds .gt x y = true) : y.toInt < x.toInt := by
  simpa [if_icmp.holds, Int32.lt_iff_toInt_lt] using h
theorem cle {x y : Int32} (h : if_icmp.holds .gt x y = false) : x.toInt ≤ y.toInt := by
  simpa [if_icmp.holds, Int32.lt_iff_toInt_lt] using h
theorem one_shl (k : Int32) (h1 : 0 ≤ k.toInt) (h2 : k.toInt ≤ 30) : ((1 : Int32) <<< (k &&& 31)).toInt = ((2 ^ k.toInt.toNat : Nat) : Int) := by
  have all : ∀ j : Fin 31, ((1 : Int32) <<< (Int32.ofNat j.val &&& 31)).toInt = ((2 ^ j.val : Nat) : Int) := by decide
  have e : k = Int32.ofNat k.toInt.toNat := by
    apply Int32.toInt_inj.mp
    rw [Int32.toInt_ofNat_of_lt (by omega)]
    omega
  have := all ⟨k.toInt.toNat, by omega⟩
  simp only at this
  rw [← e] at this
  exact this
end Own
namespace Own
section Walks
variable {p : Program} {l : Launch} {e : Env} {R : Room} {s : State} {m : MethodId} {args : Array Value} {below : List Frame} {meth : Method} {c : Code} {T T' : State} {locs : List Loc} {cells slots : Nat} {Z : State} {a0 : Array Value} {h : Heap}
/-- from the frame g on top of T the run comes to a state that G holds of -/
def Goes (p : Program) (e : Env) (below : List Frame) (G : State → Prop) (T : State) (g : JFrame) : Prop := ∃ t, Steps p.tables e below (T.setTop g) t ∧ G t
theorem Goes.of {G : State → Prop} {g g' : JFrame} (f : ∀ t, Steps p.tables e below (T'.setTop g') t → Steps p.tables e below (T.setTop g) t) (k : Goes p e below G T' g') : Goes p e below G T g := by
  obtain ⟨t, h1, h2⟩ := k
  exact ⟨t, f t h1, h2⟩
theorem Goes.cast {G : State → Prop} {g g' : JFrame} (q : g = g') (k : Goes p e below G T g') : Goes p e below G T g := q ▸ k
/-- the method has returned, with what Q says -/
def Fini (s : State) (below : List Frame) (Q : Option Value → Heap → List Loc → Prop) (kc ks : Nat) (t : State) : Prop := t.status = .running ∧ ∃ v L, Ended t below (.returned v) ∧ Q v t.heap L ∧ FrameEnd s (.returned v) t L kc ks
/-- a contract: called with as on the heap h0, the method returns with what Q says, and takes the room rm -/
def Ct (l : Launch) (y : MethodName) (bytes : ByteArray) (maxL : Nat) (ret : Option FieldType) (rm : Room) (Z : State) (as : List Value) (h0 : Heap) (Q : Option Value → Heap → List Loc → Prop) : Prop :=
  ∀ ws : List Jvm.Cond, MetFree l y (head1 (Jvm.Cond.code y bytes maxL ret :: ws) rm) (fun a U => a = as.toArray ∧ Z.Warmed39 U.vm ∧ U.heap = h0) (fun _ _ _ _ _ => True) (fun _ U o U' => ∃ v L, o = .returned v ∧ Q v U'.heap L ∧ FrameEnd U o U' L rm.cells rm.slots)
theorem met {l : Launch} {y : MethodName} {bytes : ByteArray} {maxL : Nat} {ret : Option FieldType} {rm : Room} {Z : State} {as : List Value} {h0 : Heap} {Q : Option Value → Heap → List Loc → Prop} (hp : plainFor y = true)
    (walk : ∀ (p : Program) (e : Env) (s : State) (m : MethodId) (below : List Frame) (meth : Method) (c : Code) (T : State), p.tables.exec = Jvm.exec → c.code = bytes → c.maxLocals = maxL → s.vm.findClass y.cls = some m.cls → meth.sig.returnType = ret → meth.locks = false → meth.name = y.name → Z.Warmed39 s.vm →
      Stand p l e rm s m as.toArray below meth c T [] 0 0 → T.heap = h0 → Goes p e below (Fini s below Q rm.cells rm.slots) T (entryFrame m as.toArray maxL)) : Ct l y bytes maxL ret rm Z as h0 Q := by
  intro ws
  refine MetFree.of_bodySF hp hisR ?_
  intro p e s m args below meth c s₁ Bd hml0 hP hK
  obtain ⟨rfl, hZ, hh⟩ := hP
  have e0 : s₁.heap = h0 := by rw [← hh, Bd.state]; rfl
  obtain ⟨t, h1, h2, v, L, h3, h4, h5⟩ := walk p e s m below meth c s₁ Bd.exec Bd.bytes hml0 (findClass_of_methodNamed Bd.named) Bd.returns Bd.notSynchronized (name_of_methodNamed Bd.named Bd.method).1 hZ (Stand.of_body Bd) e0
  exact ⟨t, _, h1, h2, h3, v, L, rfl, h4, h5⟩
theorem retB (X : Stand p l e R s m args below meth c T locs cells slots) (hx : p.tables.exec = Jvm.exec) (hlk : meth.locks = false) {pc : Nat} {Ls : Array Slot} {z : Int32} {t : FieldType} {rest : List Value} (hret : meth.sig.returnType = some t) (ht : t = .boolean ∨ t = .byte ∨ t = .char ∨ t = .short) (hd : decode c.code pc = .ok (.ireturn, 1))
    {Q : Option Value → Heap → List Loc → Prop} {kc ks : Nat} (h1 : cells ≤ kc) (h2 : slots ≤ ks) (hQ : Q (some (.int (nar t z))) T.heap locs) : Goes p e below (Fini s below Q kc ks) T (mkF m pc Ls (.int z :: rest)) := by
  obtain ⟨fs, hr, hrun, hended, hW, hsame⟩ := X.leave (v := some (.int (nar t z))) (fun q => by rw [hret] at q; cases q) hlk
  exact ⟨_, retN X hx hret ht hd hr, hrun, _, _, hended, hQ, ⟨_, rfl⟩, hW, hsame.mono h1 h2⟩
theorem retI (X : Stand p l e R s m args below meth c T locs cells slots) (hx : p.tables.exec = Jvm.exec) (hlk : meth.locks = false) {pc : Nat} {Ls : Array Slot} {z : Int32} {rest : List Value} (hret : meth.sig.returnType = some .int) (hd : decode c.code pc = .ok (.ireturn, 1))
    {Q : Option Value → Heap → List Loc → Prop} {kc ks : Nat} (h1 : cells ≤ kc) (h2 : slots ≤ ks) (hQ : Q (some (.int z)) T.heap locs) : Goes p e below (Fini s below Q kc ks) T (mkF m pc Ls (.int z :: rest)) := by
  obtain ⟨fs, hr, hrun, hended, hW, hsame⟩ := X.leave (v := some (.int z)) (fun q => by rw [hret] at q; cases q) hlk
  refine ⟨_, ?_, hrun, _, _, hended, hQ, ⟨_, rfl⟩, hW, hsame.mono h1 h2⟩
  have hm' : T.vm.method? m = some meth := X.method'
  have hn : narrow .int (.int z) = .int z := rfl
  show Steps p.tables e below (T.setTop { method := m, pc := pc, locals := Ls, stack := _ :: rest, locked := none }) _
  jvm_step X.here [X.here.top, hx, hd, hm', hret, hn]
  first | (intro acts; rw [hr _ acts rfl rfl rfl]) | rw [hr _ _ rfl rfl rfl]
  exact Steps.refl _
theorem retJ (X : Stand p l e R s m args below meth c T locs cells slots) (hx : p.tables.exec = Jvm.exec) (hlk : meth.locks = false) {pc : Nat} {Ls : Array Slot} {z : Int64} (hret : meth.sig.returnType = some .long) (hd : decode c.code pc = .ok (.lreturn, 1))
    {Q : Option Value → Heap → List Loc → Prop} {kc ks : Nat} (h1 : cells ≤ kc) (h2 : slots ≤ ks) (hQ : Q (some (.long z)) T.heap locs) : Goes p e below (Fini s below Q kc ks) T (mkF m pc Ls [.long z]) := by
  obtain ⟨fs, hr, hrun, hended, hW, hsame⟩ := X.leave (v := some (.long z)) (fun q => by rw [hret] at q; cases q) hlk
  exact ⟨_, X.lreturnOut hx hret hd hr, hrun, _, _, hended, hQ, ⟨_, rfl⟩, hW, hsame.mono h1 h2⟩
theorem retD (X : Stand p l e R s m args below meth c T locs cells slots) (hx : p.tables.exec = Jvm.exec) (hlk : meth.locks = false) {pc : Nat} {Ls : Array Slot} {z : UInt64} (hret : meth.sig.returnType = some .double) (hd : decode c.code pc = .ok (.dreturn, 1))
    {Q : Option Value → Heap → List Loc → Prop} {kc ks : Nat} (h1 : cells ≤ kc) (h2 : slots ≤ ks) (hQ : Q (some (.double z)) T.heap locs) : Goes p e below (Fini s below Q kc ks) T (mkF m pc Ls [.double z]) := by
  obtain ⟨fs, hr, hrun, hended, hW, hsame⟩ := X.leave (v := some (.double z)) (fun q => by rw [hret] at q; cases q) hlk
  refine ⟨_, ?_, hrun, _, _, hended, hQ, ⟨_, rfl⟩, hW, hsame.mono h1 h2⟩
  have hm' : T.vm.method? m = some meth := X.method'
  show Steps p.tables e below (T.setTop { method := m, pc := pc, locals := Ls, stack := [.double z], locked := none }) _
  jvm_step X.here [X.here.top, hx, hd, hm', hret]
  first | (intro acts; rw [hr _ acts rfl rfl rfl]) | rw [hr _ _ rfl rfl rfl]
  exact Steps.refl _
theorem retV (X : Stand p l e R s m args below meth c T locs cells slots) (hx : p.tables.exec = Jvm.exec) (hlk : meth.locks = false) {pc : Nat} {Ls : Array Slot} {st : List Value} (hret : meth.sig.returnType = none) (hd : decode c.code pc = .ok (.return_, 1))
    {Q : Option Value → Heap → List Loc → Prop} {kc ks : Nat} (h1 : cells ≤ kc) (h2 : slots ≤ ks) (hQ : Q none T.heap locs) : Goes p e below (Fini s below Q kc ks) T (mkF m pc Ls st) := by
  obtain ⟨fs, hr, hrun, hended, hW, hsame⟩ := X.leave (v := none) (fun _ => rfl) hlk
  refine ⟨_, ?_, hrun, _, _, hended, hQ, ⟨_, rfl⟩, hW, hsame.mono h1 h2⟩
  have hm' : T.vm.method? m = some meth := X.method'
  show Steps p.tables e below (T.setTop { method := m, pc := pc, locals := Ls, stack := st, locked := none }) _
  jvm_step X.here [X.here.top, hx, hd, hm', hret]
  first | (intro acts; rw [hr _ acts rfl rfl rfl]) | rw [hr _ _ rfl rfl rfl]
  exact Steps.refl _
theorem retA (X : Stand p l e R s m args below meth c T locs cells slots) (hx : p.tables.exec = Jvm.exec) (hlk : meth.locks = false) {pc : Nat} {Ls : Array Slot} {z : Value} {t : FieldType} {rest : List Value} (hz : z.isRef = true) (hret : meth.sig.returnType = some t) (ht : t.isReference = true) (hd : decode c.code pc = .ok (.areturn, 1))
    {Q : Option Value → Heap → List Loc → Prop} {kc ks : Nat} (h1 : cells ≤ kc) (h2 : slots ≤ ks) (hQ : Q (some z) T.heap locs) : Goes p e below (Fini s below Q kc ks) T (mkF m pc Ls (z :: rest)) := by
  obtain ⟨fs, hr, hrun, hended, hW, hsame⟩ := X.leave (v := some z) (fun q => by rw [hret] at q; cases q) hlk
  refine ⟨_, ?_, hrun, _, _, hended, hQ, ⟨_, rfl⟩, hW, hsame.mono h1 h2⟩
  have hm' : T.vm.method? m = some meth := X.method'
  show Steps p.tables e below (T.setTop { method := m, pc := pc, locals := Ls, stack := z :: rest, locked := none }) _
  jvm_step X.here [X.here.top, hx, hd, hm', hret, hz, ht]
  first | (intro acts; rw [hr _ acts rfl rfl rfl]) | rw [hr _ _ rfl rfl rfl]
  exact Steps.refl _
/-- a static method by its contract -/
theorem callC (X : Stand p l e R s m args below meth c T locs cells slots) (hx : p.tables.exec = Jvm.exec) (hZ : Z.Warmed39 s.vm) {own : String} {index : Nat} {y : MethodName} {bytes : ByteArray} {maxL : Nat} {ret : Option FieldType}
    (hown : s.vm.findClass own = some m.cls) (w1 : (Jvm.Cond.methodLink own index y).before a0 Z = true) (w2 : (Jvm.Cond.static y).before a0 Z = true) (w3 : (Jvm.Cond.initialized y.cls).before a0 Z = true) (w4 : (Jvm.Cond.code y bytes maxL ret).before a0 Z = true)
    (hy : y.cls ≠ "java/lang/invoke/MethodHandle" ∧ y.cls ≠ "java/lang/invoke/VarHandle") {rm : Room} {as : List Value} {Q : Option Value → Heap → List Loc → Prop}
    (hM : Ct l y bytes maxL ret rm Z as h Q)
    (W : Nat) (hf : rm.frames + 1 ≤ R.frames) (hl : W + (maxL + 11) + rm.locals ≤ R.locals) (eT : T.heap = h) (hc : cells + rm.cells ≤ R.cells) (hs : slots + rm.slots ≤ R.slots)
    {g : JFrame} (hg : g.method = m) (hsize : g.locals.size = c.maxLocals) {rest : List Value} (hlen : ∀ sig, parseMethodDescriptor y.desc = some sig → as.length = sig.parameters.length)
    (hst : g.stack = as.reverse ++ rest) (hW : 2 * g.monitorRoom + (rest.map fun v => v.category).sum ≤ W) (hd : decode c.code g.pc = .ok (.invokestatic index, 3)) {G : State → Prop}
    (k : ∀ (v : Option Value) (T' : State) (L : List Loc), Stand p l e R s m args below meth c T' (locs ++ L) (cells + rm.cells) (slots + rm.slots) → Q v T'.heap L → Goes p e below G T' { g with pc := g.pc + 3, stack := v.toList ++ rest }) : Goes p e below G T g := by
  obtain ⟨v, vm1, ⟨U, lo, ce, sl⟩, -, X', ⟨L, hQ, l1, l2, l3⟩, st⟩ := Jvm.LawKit.callS X hx (y := y) hown (mvT hZ w1) (mvT hZ w2) (mvT hZ w3) (mvT hZ w4) hy (backOf (W := W) (hM []) hZ w4 w3 hf hl) (g := g) hg hsize (argsL := as) (rest := rest) hlen hst hW hd (fun _ _ => ⟨rfl, eT, hc, hs⟩)
  dsimp only [Pt.U, Pt.locs, Pt.cells, Pt.slots] at X' l1 l2 l3 st hQ
  subst l1 l2 l3
  exact Goes.of st (k v U L X' hQ)
theorem Goes.via {G : State → Prop} {g g' : JFrame} (f : Steps p.tables e below (T.setTop g) (T'.setTop g')) (k : Goes p e below G T' g') : Goes p e below G T g := by
  obtain ⟨t, h1, h2⟩ := k
  exact ⟨t, f.trans h1, h2⟩
/-- an instance method by its contract -/
theorem callV (X : Stand p l e R s m args below meth c T locs cells slots) (hx : p.tables.exec = Jvm.exec) (hZ : Z.Warmed39 s.vm) {own C : String} {index : Nat} {y z : MethodName} {bytes : ByteArray} {maxL : Nat} {ret : Option FieldType}
    (hown : s.vm.findClass own = some m.cls) (w1 : (Jvm.Cond.methodLink own index y).before a0 Z = true) (w2 : (Jvm.Cond.declares y).before a0 Z = true) (hnf : NotFace s y) (w3 : (Jvm.Cond.selects C y z).before a0 Z = true) (w4 : (Jvm.Cond.instanceMethod z).before a0 Z = true) (w5 : (Jvm.Cond.code z bytes maxL ret).before a0 Z = true) (w6 : (Jvm.Cond.initialized z.cls).before a0 Z = true)
    (hy : y.cls ≠ "java/lang/invoke/MethodHandle" ∧ y.cls ≠ "java/lang/invoke/VarHandle") {b : Addr} (E : Exa Z h b C) {rm : Room} {as : List Value} {Q : Option Value → Heap → List Loc → Prop}
    (hM : Ct l z bytes maxL ret rm Z (.ref b :: as) h Q)
    (W : Nat) (hf : rm.frames + 1 ≤ R.frames) (hl : W + (maxL + 11) + rm.locals ≤ R.locals) (eT : T.heap = h) (hc : cells + rm.cells ≤ R.cells) (hs : slots + rm.slots ≤ R.slots)
    {g : JFrame} (hg : g.method = m) (hsize : g.locals.size = c.maxLocals) {rest : List Value} (hlen : ∀ sig, parseMethodDescriptor y.desc = some sig → as.length = sig.parameters.length)
    (hst : g.stack = as.reverse ++ .ref b :: rest) (hW : 2 * g.monitorRoom + (rest.map fun v => v.category).sum ≤ W) (hd : decode c.code g.pc = .ok (.invokevirtual index, 3)) {G : State → Prop}
    (k : ∀ (v : Option Value) (T' : State) (L : List Loc), Stand p l e R s m args below meth c T' (locs ++ L) (cells + rm.cells) (slots + rm.slots) → Q v T'.heap L → Goes p e below G T' { g with pc := g.pc + 3, stack := v.toList ++ rest }) : Goes p e below G T g := by
  obtain ⟨cq, kq, qa, qb, qc⟩ := isOf hZ eT E
  obtain ⟨v, vm1, ⟨U, lo, ce, sl⟩, -, X', ⟨L, hQ, l1, l2, l3⟩, st⟩ := X.virtualBack hx (y := y) (z := z) hown (mvT hZ w1) (mvT hZ w2) hnf (mvT hZ w3) (mvT hZ w4) hy (backOf (W := W) (hM []) hZ w5 w6 hf hl) qa qc (g := g) hg hsize (Steps.refl _) (argsL := as) (rest := rest) hlen hst hW hd (fun _ _ => ⟨rfl, eT, hc, hs⟩)
  dsimp only [Pt.U, Pt.locs, Pt.cells, Pt.slots] at X' l1 l2 l3 st hQ
  subst l1 l2 l3
  exact Goes.via st (k v U L X' hQ)
/-- a static field is read -/
theorem goS (X : Stand p l e R s m args below meth c T locs cells slots) (hx : p.tables.exec = Jvm.exec) (hZ : Z.Warmed39 s.vm) {own R0 O n d : String} {index : Nat} (hown : s.vm.findClass own = some m.cls) (w : (Jvm.Cond.fieldLink own index R0 n d).before a0 Z = true) (via : Via Z R0 O n d)
    (eT : T.heap = h) {v : Value} (F : Sta Z h O n d v) {g : JFrame} (hg : g.method = m) (hd : decode c.code g.pc = .ok (.getstatic index, 3)) {G : State → Prop}
    (k : ∀ T', Stand p l e R s m args below meth c T' locs cells slots → T'.heap = h → Goes p e below G T' { g with pc := g.pc + 3, stack := v :: g.stack }) : Goes p e below G T g := by
  obtain ⟨T', X', e', st⟩ := getS (host := "") X hx hZ hown w via eT F hg hd
  exact Goes.of st (k T' X' e')
end Walks
end Own
open Own
/-- what isValidP answers -/
def okP (x : UInt64) : Int32 := if ifCond.holds .lt (cmpValue (FP.dcmp x FP.dconst1) .l) = true then 0 else 1
section Law
variable (p1 p2 sv : Int32) (pw : Int64) (scl pp : UInt64)
theorem own_sv (hsv : Jvm.Free.XT.ushr p2 2 &&& 31 = sv) : 0 ≤ sv.toInt ∧ sv.toInt ≤ 31 := by
  have e1 : (Jvm.Free.XT.ushr p2 2 &&& 31).toInt = (Jvm.Free.XT.ushr p2 2).toInt % 2 ^ 5 := Jvm.Kit.i32_mask _ 31 (k := 5) (by decide) (by decide)
  rw [hsv] at e1
  omega
theorem own_pw (hsv : Jvm.Free.XT.ushr p2 2 &&& 31 = sv) (hpw : (1 : Int64) <<< (Int32.toInt64 sv &&& 63) = pw) : ∃ j : Nat, j ≤ 31 ∧ pw.toInt = ((2 ^ j : Nat) : Int) := by
  obtain ⟨k1, k2⟩ := own_sv p2 sv hsv
  have all : ∀ j : Fin 32, ((1 : Int64) <<< (Int32.toInt64 (Int32.ofNat j.val) &&& 63)).toInt = ((2 ^ j.val : Nat) : Int) := by decide
  have e : sv = Int32.ofNat sv.toInt.toNat := by
    apply Int32.toInt_inj.mp
    rw [Int32.toInt_ofNat_of_lt (by omega)]
    omega
  have := all ⟨sv.toInt.toNat, by omega⟩
  simp only at this
  rw [← e, hpw] at this
  exact ⟨sv.toInt.toNat, by omega, this⟩
theorem own_scale' (hsv : Jvm.Free.XT.ushr p2 2 &&& 31 = sv) (hpw : (1 : Int64) <<< (Int32.toInt64 sv &&& 63) = pw) : ∃ j : Nat, j ≤ 31 ∧ pw.toInt = ((2 ^ j : Nat) : Int) ∧ Dy 1 (-(j : Int)) (FP.ddiv FP.dconst1 (FP.l2d pw)) := by
  obtain ⟨j, hj, hv⟩ := own_pw p2 sv pw hsv hpw
  refine ⟨j, hj, hv, ?_⟩
  have hp : 0 < 2 ^ j := Nat.two_pow_pos j
  have hq : 2 ^ j ≤ 2 ^ 31 := Nat.pow_le_pow_right (by decide) hj
  have a := dy_one.to (i' := ((2 ^ j : Nat) : Int)) (e' := -(j : Int)) j (by omega) (by omega)
  have b := dy_l2d (n := pw) (by rw [hv]; omega)
  have q := dy_div a b (m := 1) (by rw [hv]; omega) (by rw [hv]; omega) (by omega) (by omega) (by omega)
  rw [Int.sub_zero] at q
  exact q
theorem own_scale (hsv : Jvm.Free.XT.ushr p2 2 &&& 31 = sv) (hpw : (1 : Int64) <<< (Int32.toInt64 sv &&& 63) = pw) : Jvm.Free.Fl.Fin64 (FP.ddiv FP.dconst1 (FP.l2d pw)) := by
  obtain ⟨j, -, -, q⟩ := own_scale' p2 sv pw hsv hpw
  exact q.fin
theorem own_p' (hsv : Jvm.Free.XT.ushr p2 2 &&& 31 = sv) (hpw : (1 : Int64) <<< (Int32.toInt64 sv &&& 63) = pw) (hscl : FP.ddiv FP.dconst1 (FP.l2d pw) = scl) : ∃ j : Nat, j ≤ 31 ∧ pw.toInt = ((2 ^ j : Nat) : Int) ∧ Dy p1.toInt (-(j : Int)) (FP.dmul (FP.i2d p1) scl) := by
  obtain ⟨j, hj, hv, q⟩ := own_scale' p2 sv pw hsv hpw
  rw [hscl] at q
  refine ⟨j, hj, hv, ?_⟩
  have b1 := p1.toInt_lt
  have b2 := p1.le_toInt
  have r := dy_mul (dy_i2d p1) q (by omega) (by omega) (by omega)
  rw [Int.mul_one, Int.zero_add] at r
  exact r
theorem own_p (hsv : Jvm.Free.XT.ushr p2 2 &&& 31 = sv) (hpw : (1 : Int64) <<< (Int32.toInt64 sv &&& 63) = pw) (hscl : FP.ddiv FP.dconst1 (FP.l2d pw) = scl) : Jvm.Free.Fl.Fin64 (FP.dmul (FP.i2d p1) scl) := by
  obtain ⟨j, -, -, q⟩ := own_p' p1 p2 sv pw scl hsv hpw hscl
  exact q.fin
theorem own_cmpL (x y : Int64) : ifCond.holds .lt (Jvm.Free.XT.cmpL x y) = decide (x.toInt < y.toInt) := by
  unfold Jvm.Free.XT.cmpL
  by_cases h1 : y < x
  · rw [if_pos h1]; rw [Int64.lt_iff_toInt_lt] at h1
    rw [decide_eq_false (by omega)]; decide
  · rw [if_neg h1]
    by_cases h2 : x = y
    · rw [if_pos h2]; subst h2
      rw [decide_eq_false (by omega)]; decide
    · rw [if_neg h2]; rw [Int64.lt_iff_toInt_lt] at h1
      have h3 : x.toInt ≠ y.toInt := fun q => h2 (Int64.toInt_inj.mp q)
      rw [decide_eq_true (by omega)]; decide
theorem own_yes (hsv : Jvm.Free.XT.ushr p2 2 &&& 31 = sv) (hpw : (1 : Int64) <<< (Int32.toInt64 sv &&& 63) = pw) (hscl : FP.ddiv FP.dconst1 (FP.l2d pw) = scl) (hpp : FP.dmul (FP.i2d p1) scl = pp) (c66 : ifCond.holds .lt (Jvm.Free.XT.cmpL (Int32.toInt64 p1) pw) = false) : okP pp = 1 := by
  obtain ⟨j, hj, hv, q⟩ := own_p' p1 p2 sv pw scl hsv hpw hscl
  rw [hpp] at q
  have one := dy_one.to (i' := ((2 ^ j : Nat) : Int)) (e' := -(j : Int)) j (by omega) (by omega)
  rw [own_cmpL, Jvm.Kit.i64_of_i32, hv, decide_eq_false_iff_not] at c66
  have h2 : FP.dcmp pp FP.dconst1 = some .gt ∨ FP.dcmp pp FP.dconst1 = some .eq := by
    by_cases h : p1.toInt = ((2 ^ j : Nat) : Int)
    · exact Or.inr (dy_eq q one h)
    · exact Or.inl (dy_gt q one (by omega))
  rcases h2 with h2 | h2 <;> rw [okP, h2, if_neg (by decide)]
theorem own_no (hsv : Jvm.Free.XT.ushr p2 2 &&& 31 = sv) (hpw : (1 : Int64) <<< (Int32.toInt64 sv &&& 63) = pw) (hscl : FP.ddiv FP.dconst1 (FP.l2d pw) = scl) (hpp : FP.dmul (FP.i2d p1) scl = pp) (c66 : ifCond.holds .lt (Jvm.Free.XT.cmpL (Int32.toInt64 p1) pw) = true) : okP pp = 0 := by
  obtain ⟨j, hj, hv, q⟩ := own_p' p1 p2 sv pw scl hsv hpw hscl
  rw [hpp] at q
  have one := dy_one.to (i' := ((2 ^ j : Nat) : Int)) (e' := -(j : Int)) j (by omega) (by omega)
  rw [own_cmpL, Jvm.Kit.i64_of_i32, hv, decide_eq_true_iff] at c66
  rw [okP, dy_lt q one c66, if_pos (by decide)]
end Law
theorem d1_0 : decode prog_15_method_4_code 0 = .ok (.dload_n 0, 1) := by decide +kernel
theorem d1_1 : decode prog_15_method_4_code 1 = .ok (.dconst 1, 1) := by decide +kernel
theorem d1_2 : decode prog_15_method_4_code 2 = .ok (.dcmp .l, 1) := by decide +kernel
theorem d1_3 : decode prog_15_method_4_code 3 = .ok (.ifCond .lt 7, 3) := by decide +kernel
theorem d1_10 : decode prog_15_method_4_code 10 = .ok (.iconst 0, 1) := by decide +kernel
theorem d1_11 : decode prog_15_method_4_code 11 = .ok (.ireturn, 1) := by decide +kernel
theorem d1_6 : decode prog_15_method_4_code 6 = .ok (.iconst 1, 1) := by decide +kernel
theorem d1_7 : decode prog_15_method_4_code 7 = .ok (.goto 4, 3) := by decide +kernel
theorem pd_0 : parseMethodDescriptor "(D)Z" = some ⟨[.double], some .boolean⟩ := by decide +kernel
theorem ef_1 (m : MethodId) (x0 : UInt64) : entryFrame m #[(.double x0)] 2 = mkF m 0 #[.val (.double x0), .second] [] := by first | (simp [entryFrame, mkF, argsToLocals, Value.category]; done) | rfl
theorem pn_1 : plainFor (⟨"com/example/gist_to_query/gisttoquery/engine/PNorm", "isValidP", "(D)Z"⟩ : MethodName) = true := plainFor_of_name (by first | (simp [plainName, overriddenIn]; done) | decide +kernel)
set_option maxRecDepth 65536 in
set_option maxHeartbeats 40000000 in
theorem rm1 (l : Launch) (Z : State) (a0 : Array Value) (hw : ∀ d ∈ tables_1, d.before a0 Z = true) (p1 : UInt64)  (h0 : Heap) (n0 : Nat) (Z0 : n0 ≤ h0.size) :
    Ct l (⟨"com/example/gist_to_query/gisttoquery/engine/PNorm", "isValidP", "(D)Z"⟩ : MethodName) prog_15_method_4_code 2 (some .boolean) ({ frames := 0, cells := 0, slots := 0, locals := 0 } : Room) Z [(.double p1)] h0 (fun v h L => v = some (.int (okP p1)) ∧ Fr n0 L ∧ h = h0) := by
  refine met pn_1 ?_
  intro p e s m below meth c T0 hx hby hml hown hret hlk hnm hZ X0 e0
  have N0 := Fr.nil n0
  have hown : s.vm.findClass "com/example/gist_to_query/gisttoquery/engine/PNorm" = some m.cls := hown
  refine Goes.cast (ef_1 m p1) ?_
  show Goes p e below _ T0 (mkF m 0 #[.val (.double p1), .second] [])
  refine Goes.of (fun _ kont => XS.dloadN X0.here hx rfl (Jvm.hb hby d1_0) rfl kont) ?_
  show Goes p e below _ T0 (mkF m 1 #[.val (.double p1), .second] [(.double p1)])
  refine Goes.of (fun _ kont => XS.dconst1 X0.here hx rfl (Jvm.hb hby d1_1) rfl kont) ?_
  show Goes p e below _ T0 (mkF m 2 #[.val (.double p1), .second] [(.double FP.dconst1), (.double p1)])
  refine Goes.of (fun _ kont => XS.dcmpS X0.here hx rfl (Jvm.hb hby d1_2) rfl rfl kont) ?_
  show Goes p e below _ T0 (mkF m 3 #[.val (.double p1), .second] [(.int (cmpValue (FP.dcmp p1 FP.dconst1) .l))])
  cases c3 : ifCond.holds .lt (cmpValue (FP.dcmp p1 FP.dconst1) .l)
  · refine Goes.of (fun _ kont => XS.ifNo X0.here hx rfl (Jvm.hb hby d1_3) rfl c3 kont) ?_
    show Goes p e below _ T0 (mkF m 6 #[.val (.double p1), .second] [])
    refine Goes.of (fun _ kont => XS.iconst X0.here hx rfl (Jvm.hb hby d1_6) kont) ?_
    show Goes p e below _ T0 (mkF m 7 #[.val (.double p1), .second] [(.int (1 : Int32))])
    refine Goes.of (fun _ kont => XS.goto X0.here hx rfl (pc0 := 7) (pc' := 11) rfl (Jvm.hb hby d1_7) (by decide) (by decide) kont) ?_
    show Goes p e below _ T0 (mkF m 11 #[.val (.double p1), .second] [(.int (1 : Int32))])
    exact retB X0 hx hlk (t := .boolean) hret (by simp) (Jvm.hb hby d1_11) (by decide) (by decide) ⟨by rw [okP, if_neg (by rw [c3]; decide)]; rfl, N0, e0⟩
  · refine Goes.of (fun _ kont => XS.ifYes X0.here hx rfl (pc0 := 3) (pc' := 10) rfl (Jvm.hb hby d1_3) rfl c3 (by decide) (by decide) kont) ?_
    show Goes p e below _ T0 (mkF m 10 #[.val (.double p1), .second] [])
    refine Goes.of (fun _ kont => XS.iconst X0.here hx rfl (Jvm.hb hby d1_10) kont) ?_
    show Goes p e below _ T0 (mkF m 11 #[.val (.double p1), .second] [(.int (0 : Int32))])
    exact retB X0 hx hlk (t := .boolean) hret (by simp) (Jvm.hb hby d1_11) (by decide) (by decide) ⟨by rw [okP, if_pos c3]; rfl, N0, e0⟩
theorem ef_0 (m : MethodId) (x0 : Int32) (x1 : Int32) : entryFrame m #[(.int x0), (.int x1)] maxLocals = mkF m 0 #[.val (.int x0), .val (.int x1), .unset, .unset, .unset, .unset, .unset, .unset, .unset, .unset, .unset] [] := by first | (simp [entryFrame, mkF, argsToLocals, Value.category, maxLocals]; done) | rfl
theorem pn_0 : plainFor (⟨"com/example/gist_to_query/gisttoquery/engine/PNormIsValidPPinLaw", "law", "(II)Z"⟩ : MethodName) = true := plainFor_of_name (by first | (simp [plainName, overriddenIn]; done) | decide +kernel)
set_option maxRecDepth 65536 in
set_option maxHeartbeats 40000000 in
theorem rm0 (l : Launch) (Z : State) (a0 : Array Value) (hw : ∀ d ∈ tables_1, d.before a0 Z = true) (p1 : Int32) (p2 : Int32)  (h0 : Heap) (n0 : Nat) (Z0 : n0 ≤ h0.size) :
    Ct l x code maxLocals ret room_1 Z [(.int p1), (.int p2)] h0 (fun v h L => v = some (.int 1) ∧ Fr n0 L) := by
  refine met pn_0 ?_
  intro p e s m below meth c T0 hx hby hml hown hret hlk hnm hZ X0 e0
  have N0 := Fr.nil n0
  have hret : meth.sig.returnType = some .boolean := hret
  have hml : c.maxLocals = 11 := hml
  have hown : s.vm.findClass "com/example/gist_to_query/gisttoquery/engine/PNormIsValidPPinLaw" = some m.cls := hown
  refine Goes.cast (ef_0 m p1 p2) ?_
  show Goes p e below _ T0 (mkF m 0 #[.val (.int p1), .val (.int p2), .unset, .unset, .unset, .unset, .unset, .unset, .unset, .unset, .unset] [])
  refine Goes.of (fun _ kont => XS.iloadN X0.here hx rfl (Jvm.hb hby at_0) rfl kont) ?_
  show Goes p e below _ T0 (mkF m 1 #[.val (.int p1), .val (.int p2), .unset, .unset, .unset, .unset, .unset, .unset, .unset, .unset, .unset] [(.int p2)])
  refine Goes.of (fun _ kont => XS.iconst X0.here hx rfl (Jvm.hb hby at_1) kont) ?_
  show Goes p e below _ T0 (mkF m 2 #[.val (.int p1), .val (.int p2), .unset, .unset, .unset, .unset, .unset, .unset, .unset, .unset, .unset] [(.int (3 : Int32)), (.int p2)])
  refine Goes.of (fun _ kont => XS.iand X0.here hx rfl (Jvm.hb hby at_2) rfl kont) ?_
  show Goes p e below _ T0 (mkF m 3 #[.val (.int p1), .val (.int p2), .unset, .unset, .unset, .unset, .unset, .unset, .unset, .unset, .unset] [(.int (p2 &&& (3 : Int32)))])
  generalize hmd : (p2 &&& (3 : Int32)) = md
  show Goes p e below _ T0 (mkF m 3 #[.val (.int p1), .val (.int p2), .unset, .unset, .unset, .unset, .unset, .unset, .unset, .unset, .unset] [(.int md)])
  refine Goes.of (fun _ kont => XS.istoreN X0.here hx rfl (Jvm.hb hby at_3) rfl (l' := #[.val (.int p1), .val (.int p2), .val (.int md), .unset, .unset, .unset, .unset, .unset, .unset, .unset, .unset]) rfl kont) ?_
  show Goes p e below _ T0 (mkF m 4 #[.val (.int p1), .val (.int p2), .val (.int md), .unset, .unset, .unset, .unset, .unset, .unset, .unset, .unset] [])
  refine Goes.of (fun _ kont => XS.iloadN X0.here hx rfl (Jvm.hb hby at_4) rfl kont) ?_
  show Goes p e below _ T0 (mkF m 5 #[.val (.int p1), .val (.int p2), .val (.int md), .unset, .unset, .unset, .unset, .unset, .unset, .unset, .unset] [(.int p2)])
  refine Goes.of (fun _ kont => XS.iconst X0.here hx rfl (Jvm.hb hby at_5) kont) ?_
  show Goes p e below _ T0 (mkF m 6 #[.val (.int p1), .val (.int p2), .val (.int md), .unset, .unset, .unset, .unset, .unset, .unset, .unset, .unset] [(.int (2 : Int32)), (.int p2)])
  refine Goes.of (fun _ kont => XT.iushr X0.here hx rfl (Jvm.hb hby at_6) rfl kont) ?_
  show Goes p e below _ T0 (mkF m 7 #[.val (.int p1), .val (.int p2), .val (.int md), .unset, .unset, .unset, .unset, .unset, .unset, .unset, .unset] [(.int (Jvm.Free.XT.ushr p2 (2 : Int32)))])
  refine Goes.of (fun _ kont => XS.bipush X0.here hx rfl (Jvm.hb hby at_7) kont) ?_
  show Goes p e below _ T0 (mkF m 9 #[.val (.int p1), .val (.int p2), .val (.int md), .unset, .unset, .unset, .unset, .unset, .unset, .unset, .unset] [(.int (31 : Int32)), (.int (Jvm.Free.XT.ushr p2 (2 : Int32)))])
  refine Goes.of (fun _ kont => XS.iand X0.here hx rfl (Jvm.hb hby at_9) rfl kont) ?_
  show Goes p e below _ T0 (mkF m 10 #[.val (.int p1), .val (.int p2), .val (.int md), .unset, .unset, .unset, .unset, .unset, .unset, .unset, .unset] [(.int ((Jvm.Free.XT.ushr p2 (2 : Int32)) &&& (31 : Int32)))])
  generalize hsv : ((Jvm.Free.XT.ushr p2 (2 : Int32)) &&& (31 : Int32)) = sv
  show Goes p e below _ T0 (mkF m 10 #[.val (.int p1), .val (.int p2), .val (.int md), .unset, .unset, .unset, .unset, .unset, .unset, .unset, .unset] [(.int sv)])
  refine Goes.of (fun _ kont => XS.istoreN X0.here hx rfl (Jvm.hb hby at_10) rfl (l' := #[.val (.int p1), .val (.int p2), .val (.int md), .val (.int sv), .unset, .unset, .unset, .unset, .unset, .unset, .unset]) rfl kont) ?_
  show Goes p e below _ T0 (mkF m 11 #[.val (.int p1), .val (.int p2), .val (.int md), .val (.int sv), .unset, .unset, .unset, .unset, .unset, .unset, .unset] [])
  refine Goes.of (fun _ kont => XS.iloadN X0.here hx rfl (Jvm.hb hby at_11) rfl kont) ?_
  show Goes p e below _ T0 (mkF m 12 #[.val (.int p1), .val (.int p2), .val (.int md), .val (.int sv), .unset, .unset, .unset, .unset, .unset, .unset, .unset] [(.int md)])
  cases c12 : ifCond.holds .ne md
  · refine Goes.of (fun _ kont => XS.ifNo X0.here hx rfl (Jvm.hb hby at_12) rfl c12 kont) ?_
    show Goes p e below _ T0 (mkF m 15 #[.val (.int p1), .val (.int p2), .val (.int md), .val (.int sv), .unset, .unset, .unset, .unset, .unset, .unset, .unset] [])
    refine Goes.of (X0.ldc2DoubleC hx hown (mvT hZ (hw _ (List.mem_of_getElem? (i := 5) rfl))) (g := (mkF m 15 #[.val (.int p1), .val (.int p2), .val (.int md), .val (.int sv), .unset, .unset, .unset, .unset, .unset, .unset, .unset] [])) rfl (Jvm.hb hby at_15)) ?_
    show Goes p e below _ T0 (mkF m 18 #[.val (.int p1), .val (.int p2), .val (.int md), .val (.int sv), .unset, .unset, .unset, .unset, .unset, .unset, .unset] [(.double (9218868437227405312 : UInt64))])
    refine Goes.of (fun _ kont => XS.dstore X0.here hx rfl (Jvm.hb hby at_18) rfl (l' := #[.val (.int p1), .val (.int p2), .val (.int md), .val (.int sv), .val (.double (9218868437227405312 : UInt64)), .second, .unset, .unset, .unset, .unset, .unset]) rfl kont) ?_
    show Goes p e below _ T0 (mkF m 20 #[.val (.int p1), .val (.int p2), .val (.int md), .val (.int sv), .val (.double (9218868437227405312 : UInt64)), .second, .unset, .unset, .unset, .unset, .unset] [])
    refine Goes.of (fun _ kont => XS.iconst X0.here hx rfl (Jvm.hb hby at_20) kont) ?_
    show Goes p e below _ T0 (mkF m 21 #[.val (.int p1), .val (.int p2), .val (.int md), .val (.int sv), .val (.double (9218868437227405312 : UInt64)), .second, .unset, .unset, .unset, .unset, .unset] [(.int (1 : Int32))])
    refine Goes.of (fun _ kont => XS.istore X0.here hx rfl (Jvm.hb hby at_21) rfl (l' := #[.val (.int p1), .val (.int p2), .val (.int md), .val (.int sv), .val (.double (9218868437227405312 : UInt64)), .second, .val (.int (1 : Int32)), .unset, .unset, .unset, .unset]) rfl kont) ?_
    show Goes p e below _ T0 (mkF m 23 #[.val (.int p1), .val (.int p2), .val (.int md), .val (.int sv), .val (.double (9218868437227405312 : UInt64)), .second, .val (.int (1 : Int32)), .unset, .unset, .unset, .unset] [])
    refine Goes.of (fun _ kont => XS.goto X0.here hx rfl (pc0 := 23) (pc' := 76) rfl (Jvm.hb hby at_23) (by decide) (by decide) kont) ?_
    show Goes p e below _ T0 (mkF m 76 #[.val (.int p1), .val (.int p2), .val (.int md), .val (.int sv), .val (.double (9218868437227405312 : UInt64)), .second, .val (.int (1 : Int32)), .unset, .unset, .unset, .unset] [])
    refine Goes.of (fun _ kont => XS.dload X0.here hx rfl (Jvm.hb hby at_76) rfl kont) ?_
    show Goes p e below _ T0 (mkF m 78 #[.val (.int p1), .val (.int p2), .val (.int md), .val (.int sv), .val (.double (9218868437227405312 : UInt64)), .second, .val (.int (1 : Int32)), .unset, .unset, .unset, .unset] [(.double (9218868437227405312 : UInt64))])
    refine callC X0 hx hZ hown (hw _ (List.mem_of_getElem? (i := 0) rfl)) (hw _ (List.mem_of_getElem? (i := 1) rfl)) (hw _ (List.mem_of_getElem? (i := 2) rfl)) (hw _ (List.mem_of_getElem? (i := 3) rfl)) (by decide) (as := [(.double (9218868437227405312 : UInt64))]) (rm1 l Z a0 hw (9218868437227405312 : UInt64) h0 n0 Z0) 0 (by decide) (by decide) e0 (by decide) (by decide) (g := mkF m 78 #[.val (.int p1), .val (.int p2), .val (.int md), .val (.int sv), .val (.double (9218868437227405312 : UInt64)), .second, .val (.int (1 : Int32)), .unset, .unset, .unset, .unset] [(.double (9218868437227405312 : UInt64))]) rfl (by rw [hml]; rfl) (rest := []) (lenOf pd_0 rfl) rfl (by show 2 * 0 + _ ≤ _; exact Nat.le_of_eq rfl) (Jvm.hb hby at_78) ?_
    rintro _ T1 L1 X1 ⟨rfl, N1, e1⟩
    show Goes p e below _ T1 (mkF m 81 #[.val (.int p1), .val (.int p2), .val (.int md), .val (.int sv), .val (.double (9218868437227405312 : UInt64)), .second, .val (.int (1 : Int32)), .unset, .unset, .unset, .unset] [(.int (okP (9218868437227405312 : UInt64)))])
    refine Goes.of (fun _ kont => XS.iload X1.here hx rfl (Jvm.hb hby at_81) rfl kont) ?_
    show Goes p e below _ T1 (mkF m 83 #[.val (.int p1), .val (.int p2), .val (.int md), .val (.int sv), .val (.double (9218868437227405312 : UInt64)), .second, .val (.int (1 : Int32)), .unset, .unset, .unset, .unset] [(.int (1 : Int32)), (.int (okP (9218868437227405312 : UInt64)))])
    refine Goes.of (fun _ kont => XS.icmpNo X1.here hx rfl (Jvm.hb hby at_83) rfl (teq (show okP (9218868437227405312 : UInt64) = (1 : Int32) from by decide +kernel)).2 kont) ?_
    show Goes p e below _ T1 (mkF m 86 #[.val (.int p1), .val (.int p2), .val (.int md), .val (.int sv), .val (.double (9218868437227405312 : UInt64)), .second, .val (.int (1 : Int32)), .unset, .unset, .unset, .unset] [])
    refine Goes.of (fun _ kont => XS.iconst X1.here hx rfl (Jvm.hb hby at_86) kont) ?_
    show Goes p e below _ T1 (mkF m 87 #[.val (.int p1), .val (.int p2), .val (.int md), .val (.int sv), .val (.double (9218868437227405312 : UInt64)), .second, .val (.int (1 : Int32)), .unset, .unset, .unset, .unset] [(.int (1 : Int32))])
    refine Goes.of (fun _ kont => XS.goto X1.here hx rfl (pc0 := 87) (pc' := 91) rfl (Jvm.hb hby at_87) (by decide) (by decide) kont) ?_
    show Goes p e below _ T1 (mkF m 91 #[.val (.int p1), .val (.int p2), .val (.int md), .val (.int sv), .val (.double (9218868437227405312 : UInt64)), .second, .val (.int (1 : Int32)), .unset, .unset, .unset, .unset] [(.int (1 : Int32))])
    exact retB X1 hx hlk (t := .boolean) hret (by simp) (Jvm.hb hby at_91) (by decide) (by decide) ⟨rfl, Fr.app N0 N1⟩
  · refine Goes.of (fun _ kont => XS.ifYes X0.here hx rfl (pc0 := 12) (pc' := 26) rfl (Jvm.hb hby at_12) rfl c12 (by decide) (by decide) kont) ?_
    show Goes p e below _ T0 (mkF m 26 #[.val (.int p1), .val (.int p2), .val (.int md), .val (.int sv), .unset, .unset, .unset, .unset, .unset, .unset, .unset] [])
    refine Goes.of (fun _ kont => XS.iloadN X0.here hx rfl (Jvm.hb hby at_26) rfl kont) ?_
    show Goes p e below _ T0 (mkF m 27 #[.val (.int p1), .val (.int p2), .val (.int md), .val (.int sv), .unset, .unset, .unset, .unset, .unset, .unset, .unset] [(.int md)])
    refine Goes.of (fun _ kont => XS.iconst X0.here hx rfl (Jvm.hb hby at_27) kont) ?_
    show Goes p e below _ T0 (mkF m 28 #[.val (.int p1), .val (.int p2), .val (.int md), .val (.int sv), .unset, .unset, .unset, .unset, .unset, .unset, .unset] [(.int (1 : Int32)), (.int md)])
    cases c28 : if_icmp.holds .ne md (1 : Int32)
    · refine Goes.of (fun _ kont => XS.icmpNo X0.here hx rfl (Jvm.hb hby at_28) rfl c28 kont) ?_
      show Goes p e below _ T0 (mkF m 31 #[.val (.int p1), .val (.int p2), .val (.int md), .val (.int sv), .unset, .unset, .unset, .unset, .unset, .unset, .unset] [])
      refine Goes.of (X0.ldc2DoubleC hx hown (mvT hZ (hw _ (List.mem_of_getElem? (i := 4) rfl))) (g := (mkF m 31 #[.val (.int p1), .val (.int p2), .val (.int md), .val (.int sv), .unset, .unset, .unset, .unset, .unset, .unset, .unset] [])) rfl (Jvm.hb hby at_31)) ?_
      show Goes p e below _ T0 (mkF m 34 #[.val (.int p1), .val (.int p2), .val (.int md), .val (.int sv), .unset, .unset, .unset, .unset, .unset, .unset, .unset] [(.double (18442240474082181120 : UInt64))])
      refine Goes.of (fun _ kont => XS.dstore X0.here hx rfl (Jvm.hb hby at_34) rfl (l' := #[.val (.int p1), .val (.int p2), .val (.int md), .val (.int sv), .val (.double (18442240474082181120 : UInt64)), .second, .unset, .unset, .unset, .unset, .unset]) rfl kont) ?_
      show Goes p e below _ T0 (mkF m 36 #[.val (.int p1), .val (.int p2), .val (.int md), .val (.int sv), .val (.double (18442240474082181120 : UInt64)), .second, .unset, .unset, .unset, .unset, .unset] [])
      refine Goes.of (fun _ kont => XS.iconst X0.here hx rfl (Jvm.hb hby at_36) kont) ?_
      show Goes p e below _ T0 (mkF m 37 #[.val (.int p1), .val (.int p2), .val (.int md), .val (.int sv), .val (.double (18442240474082181120 : UInt64)), .second, .unset, .unset, .unset, .unset, .unset] [(.int (0 : Int32))])
      refine Goes.of (fun _ kont => XS.istore X0.here hx rfl (Jvm.hb hby at_37) rfl (l' := #[.val (.int p1), .val (.int p2), .val (.int md), .val (.int sv), .val (.double (18442240474082181120 : UInt64)), .second, .val (.int (0 : Int32)), .unset, .unset, .unset, .unset]) rfl kont) ?_
      show Goes p e below _ T0 (mkF m 39 #[.val (.int p1), .val (.int p2), .val (.int md), .val (.int sv), .val (.double (18442240474082181120 : UInt64)), .second, .val (.int (0 : Int32)), .unset, .unset, .unset, .unset] [])
      refine Goes.of (fun _ kont => XS.goto X0.here hx rfl (pc0 := 39) (pc' := 76) rfl (Jvm.hb hby at_39) (by decide) (by decide) kont) ?_
      show Goes p e below _ T0 (mkF m 76 #[.val (.int p1), .val (.int p2), .val (.int md), .val (.int sv), .val (.double (18442240474082181120 : UInt64)), .second, .val (.int (0 : Int32)), .unset, .unset, .unset, .unset] [])
      refine Goes.of (fun _ kont => XS.dload X0.here hx rfl (Jvm.hb hby at_76) rfl kont) ?_
      show Goes p e below _ T0 (mkF m 78 #[.val (.int p1), .val (.int p2), .val (.int md), .val (.int sv), .val (.double (18442240474082181120 : UInt64)), .second, .val (.int (0 : Int32)), .unset, .unset, .unset, .unset] [(.double (18442240474082181120 : UInt64))])
      refine callC X0 hx hZ hown (hw _ (List.mem_of_getElem? (i := 0) rfl)) (hw _ (List.mem_of_getElem? (i := 1) rfl)) (hw _ (List.mem_of_getElem? (i := 2) rfl)) (hw _ (List.mem_of_getElem? (i := 3) rfl)) (by decide) (as := [(.double (18442240474082181120 : UInt64))]) (rm1 l Z a0 hw (18442240474082181120 : UInt64) h0 n0 Z0) 0 (by decide) (by decide) e0 (by decide) (by decide) (g := mkF m 78 #[.val (.int p1), .val (.int p2), .val (.int md), .val (.int sv), .val (.double (18442240474082181120 : UInt64)), .second, .val (.int (0 : Int32)), .unset, .unset, .unset, .unset] [(.double (18442240474082181120 : UInt64))]) rfl (by rw [hml]; rfl) (rest := []) (lenOf pd_0 rfl) rfl (by show 2 * 0 + _ ≤ _; exact Nat.le_of_eq rfl) (Jvm.hb hby at_78) ?_
      rintro _ T2 L2 X2 ⟨rfl, N2, e2⟩
      show Goes p e below _ T2 (mkF m 81 #[.val (.int p1), .val (.int p2), .val (.int md), .val (.int sv), .val (.double (18442240474082181120 : UInt64)), .second, .val (.int (0 : Int32)), .unset, .unset, .unset, .unset] [(.int (okP (18442240474082181120 : UInt64)))])
      refine Goes.of (fun _ kont => XS.iload X2.here hx rfl (Jvm.hb hby at_81) rfl kont) ?_
      show Goes p e below _ T2 (mkF m 83 #[.val (.int p1), .val (.int p2), .val (.int md), .val (.int sv), .val (.double (18442240474082181120 : UInt64)), .second, .val (.int (0 : Int32)), .unset, .unset, .unset, .unset] [(.int (0 : Int32)), (.int (okP (18442240474082181120 : UInt64)))])
      refine Goes.of (fun _ kont => XS.icmpNo X2.here hx rfl (Jvm.hb hby at_83) rfl (teq (show okP (18442240474082181120 : UInt64) = (0 : Int32) from by decide +kernel)).2 kont) ?_
      show Goes p e below _ T2 (mkF m 86 #[.val (.int p1), .val (.int p2), .val (.int md), .val (.int sv), .val (.double (18442240474082181120 : UInt64)), .second, .val (.int (0 : Int32)), .unset, .unset, .unset, .unset] [])
      refine Goes.of (fun _ kont => XS.iconst X2.here hx rfl (Jvm.hb hby at_86) kont) ?_
      show Goes p e below _ T2 (mkF m 87 #[.val (.int p1), .val (.int p2), .val (.int md), .val (.int sv), .val (.double (18442240474082181120 : UInt64)), .second, .val (.int (0 : Int32)), .unset, .unset, .unset, .unset] [(.int (1 : Int32))])
      refine Goes.of (fun _ kont => XS.goto X2.here hx rfl (pc0 := 87) (pc' := 91) rfl (Jvm.hb hby at_87) (by decide) (by decide) kont) ?_
      show Goes p e below _ T2 (mkF m 91 #[.val (.int p1), .val (.int p2), .val (.int md), .val (.int sv), .val (.double (18442240474082181120 : UInt64)), .second, .val (.int (0 : Int32)), .unset, .unset, .unset, .unset] [(.int (1 : Int32))])
      exact retB X2 hx hlk (t := .boolean) hret (by simp) (Jvm.hb hby at_91) (by decide) (by decide) ⟨rfl, Fr.app N0 N2⟩
    · refine Goes.of (fun _ kont => XS.icmpYes X0.here hx rfl (pc0 := 28) (pc' := 42) rfl (Jvm.hb hby at_28) rfl c28 (by decide) (by decide) kont) ?_
      show Goes p e below _ T0 (mkF m 42 #[.val (.int p1), .val (.int p2), .val (.int md), .val (.int sv), .unset, .unset, .unset, .unset, .unset, .unset, .unset] [])
      refine Goes.of (fun _ kont => XT.lconst X0.here hx rfl (Jvm.hb hby at_42) kont) ?_
      show Goes p e below _ T0 (mkF m 43 #[.val (.int p1), .val (.int p2), .val (.int md), .val (.int sv), .unset, .unset, .unset, .unset, .unset, .unset, .unset] [(.long (1 : Int64))])
      refine Goes.of (fun _ kont => XS.iloadN X0.here hx rfl (Jvm.hb hby at_43) rfl kont) ?_
      show Goes p e below _ T0 (mkF m 44 #[.val (.int p1), .val (.int p2), .val (.int md), .val (.int sv), .unset, .unset, .unset, .unset, .unset, .unset, .unset] [(.int sv), (.long (1 : Int64))])
      refine Goes.of (fun _ kont => XT.lshl X0.here hx rfl (Jvm.hb hby at_44) rfl kont) ?_
      show Goes p e below _ T0 (mkF m 45 #[.val (.int p1), .val (.int p2), .val (.int md), .val (.int sv), .unset, .unset, .unset, .unset, .unset, .unset, .unset] [(.long ((1 : Int64) <<< (Int32.toInt64 sv &&& 63)))])
      generalize hpw : ((1 : Int64) <<< (Int32.toInt64 sv &&& 63)) = pw
      show Goes p e below _ T0 (mkF m 45 #[.val (.int p1), .val (.int p2), .val (.int md), .val (.int sv), .unset, .unset, .unset, .unset, .unset, .unset, .unset] [(.long pw)])
      refine Goes.of (fun _ kont => XT.lstore X0.here hx rfl (Jvm.hb hby at_45) rfl (l' := #[.val (.int p1), .val (.int p2), .val (.int md), .val (.int sv), .unset, .unset, .unset, .val (.long pw), .second, .unset, .unset]) rfl kont) ?_
      show Goes p e below _ T0 (mkF m 47 #[.val (.int p1), .val (.int p2), .val (.int md), .val (.int sv), .unset, .unset, .unset, .val (.long pw), .second, .unset, .unset] [])
      refine Goes.of (fun _ kont => XS.dconst1 X0.here hx rfl (Jvm.hb hby at_47) rfl kont) ?_
      show Goes p e below _ T0 (mkF m 48 #[.val (.int p1), .val (.int p2), .val (.int md), .val (.int sv), .unset, .unset, .unset, .val (.long pw), .second, .unset, .unset] [(.double FP.dconst1)])
      refine Goes.of (fun _ kont => XT.lload X0.here hx rfl (Jvm.hb hby at_48) rfl kont) ?_
      show Goes p e below _ T0 (mkF m 50 #[.val (.int p1), .val (.int p2), .val (.int md), .val (.int sv), .unset, .unset, .unset, .val (.long pw), .second, .unset, .unset] [(.long pw), (.double FP.dconst1)])
      refine Goes.of (fun _ kont => XS.l2dS X0.here hx rfl (Jvm.hb hby at_50) rfl rfl kont) ?_
      show Goes p e below _ T0 (mkF m 51 #[.val (.int p1), .val (.int p2), .val (.int md), .val (.int sv), .unset, .unset, .unset, .val (.long pw), .second, .unset, .unset] [(.double (FP.l2d pw)), (.double FP.dconst1)])
      refine Goes.of (fun _ kont => XS.ddivS X0.here hx rfl (Jvm.hb hby at_51) rfl (own_scale p2 sv pw hsv hpw).noNaN rfl kont) ?_
      show Goes p e below _ T0 (mkF m 52 #[.val (.int p1), .val (.int p2), .val (.int md), .val (.int sv), .unset, .unset, .unset, .val (.long pw), .second, .unset, .unset] [(.double (FP.ddiv FP.dconst1 (FP.l2d pw)))])
      generalize hscl : (FP.ddiv FP.dconst1 (FP.l2d pw)) = scl
      show Goes p e below _ T0 (mkF m 52 #[.val (.int p1), .val (.int p2), .val (.int md), .val (.int sv), .unset, .unset, .unset, .val (.long pw), .second, .unset, .unset] [(.double scl)])
      refine Goes.of (fun _ kont => XS.dstore X0.here hx rfl (Jvm.hb hby at_52) rfl (l' := #[.val (.int p1), .val (.int p2), .val (.int md), .val (.int sv), .unset, .unset, .unset, .val (.long pw), .second, .val (.double scl), .second]) rfl kont) ?_
      show Goes p e below _ T0 (mkF m 54 #[.val (.int p1), .val (.int p2), .val (.int md), .val (.int sv), .unset, .unset, .unset, .val (.long pw), .second, .val (.double scl), .second] [])
      refine Goes.of (fun _ kont => XS.iloadN X0.here hx rfl (Jvm.hb hby at_54) rfl kont) ?_
      show Goes p e below _ T0 (mkF m 55 #[.val (.int p1), .val (.int p2), .val (.int md), .val (.int sv), .unset, .unset, .unset, .val (.long pw), .second, .val (.double scl), .second] [(.int p1)])
      refine Goes.of (fun _ kont => XS.i2dS X0.here hx rfl (Jvm.hb hby at_55) rfl rfl kont) ?_
      show Goes p e below _ T0 (mkF m 56 #[.val (.int p1), .val (.int p2), .val (.int md), .val (.int sv), .unset, .unset, .unset, .val (.long pw), .second, .val (.double scl), .second] [(.double (FP.i2d p1))])
      refine Goes.of (fun _ kont => XS.dload X0.here hx rfl (Jvm.hb hby at_56) rfl kont) ?_
      show Goes p e below _ T0 (mkF m 58 #[.val (.int p1), .val (.int p2), .val (.int md), .val (.int sv), .unset, .unset, .unset, .val (.long pw), .second, .val (.double scl), .second] [(.double scl), (.double (FP.i2d p1))])
      refine Goes.of (fun _ kont => XS.dmulS X0.here hx rfl (Jvm.hb hby at_58) rfl (own_p p1 p2 sv pw scl hsv hpw hscl).noNaN rfl kont) ?_
      show Goes p e below _ T0 (mkF m 59 #[.val (.int p1), .val (.int p2), .val (.int md), .val (.int sv), .unset, .unset, .unset, .val (.long pw), .second, .val (.double scl), .second] [(.double (FP.dmul (FP.i2d p1) scl))])
      generalize hpp : (FP.dmul (FP.i2d p1) scl) = pp
      show Goes p e below _ T0 (mkF m 59 #[.val (.int p1), .val (.int p2), .val (.int md), .val (.int sv), .unset, .unset, .unset, .val (.long pw), .second, .val (.double scl), .second] [(.double pp)])
      refine Goes.of (fun _ kont => XS.dstore X0.here hx rfl (Jvm.hb hby at_59) rfl (l' := #[.val (.int p1), .val (.int p2), .val (.int md), .val (.int sv), .val (.double pp), .second, .unset, .val (.long pw), .second, .val (.double scl), .second]) rfl kont) ?_
      show Goes p e below _ T0 (mkF m 61 #[.val (.int p1), .val (.int p2), .val (.int md), .val (.int sv), .val (.double pp), .second, .unset, .val (.long pw), .second, .val (.double scl), .second] [])
      refine Goes.of (fun _ kont => XS.iloadN X0.here hx rfl (Jvm.hb hby at_61) rfl kont) ?_
      show Goes p e below _ T0 (mkF m 62 #[.val (.int p1), .val (.int p2), .val (.int md), .val (.int sv), .val (.double pp), .second, .unset, .val (.long pw), .second, .val (.double scl), .second] [(.int p1)])
      refine Goes.of (fun _ kont => XT.i2l X0.here hx rfl (Jvm.hb hby at_62) rfl kont) ?_
      show Goes p e below _ T0 (mkF m 63 #[.val (.int p1), .val (.int p2), .val (.int md), .val (.int sv), .val (.double pp), .second, .unset, .val (.long pw), .second, .val (.double scl), .second] [(.long (Int32.toInt64 p1))])
      refine Goes.of (fun _ kont => XT.lload X0.here hx rfl (Jvm.hb hby at_63) rfl kont) ?_
      show Goes p e below _ T0 (mkF m 65 #[.val (.int p1), .val (.int p2), .val (.int md), .val (.int sv), .val (.double pp), .second, .unset, .val (.long pw), .second, .val (.double scl), .second] [(.long pw), (.long (Int32.toInt64 p1))])
      refine Goes.of (fun _ kont => XT.lcmp X0.here hx rfl (Jvm.hb hby at_65) rfl kont) ?_
      show Goes p e below _ T0 (mkF m 66 #[.val (.int p1), .val (.int p2), .val (.int md), .val (.int sv), .val (.double pp), .second, .unset, .val (.long pw), .second, .val (.double scl), .second] [(.int (Jvm.Free.XT.cmpL (Int32.toInt64 p1) pw))])
      cases c66 : ifCond.holds .lt (Jvm.Free.XT.cmpL (Int32.toInt64 p1) pw)
      · refine Goes.of (fun _ kont => XS.ifNo X0.here hx rfl (Jvm.hb hby at_66) rfl c66 kont) ?_
        show Goes p e below _ T0 (mkF m 69 #[.val (.int p1), .val (.int p2), .val (.int md), .val (.int sv), .val (.double pp), .second, .unset, .val (.long pw), .second, .val (.double scl), .second] [])
        refine Goes.of (fun _ kont => XS.iconst X0.here hx rfl (Jvm.hb hby at_69) kont) ?_
        show Goes p e below _ T0 (mkF m 70 #[.val (.int p1), .val (.int p2), .val (.int md), .val (.int sv), .val (.double pp), .second, .unset, .val (.long pw), .second, .val (.double scl), .second] [(.int (1 : Int32))])
        refine Goes.of (fun _ kont => XS.goto X0.here hx rfl (pc0 := 70) (pc' := 74) rfl (Jvm.hb hby at_70) (by decide) (by decide) kont) ?_
        show Goes p e below _ T0 (mkF m 74 #[.val (.int p1), .val (.int p2), .val (.int md), .val (.int sv), .val (.double pp), .second, .unset, .val (.long pw), .second, .val (.double scl), .second] [(.int (1 : Int32))])
        refine Goes.of (fun _ kont => XS.istore X0.here hx rfl (Jvm.hb hby at_74) rfl (l' := #[.val (.int p1), .val (.int p2), .val (.int md), .val (.int sv), .val (.double pp), .second, .val (.int (1 : Int32)), .val (.long pw), .second, .val (.double scl), .second]) rfl kont) ?_
        show Goes p e below _ T0 (mkF m 76 #[.val (.int p1), .val (.int p2), .val (.int md), .val (.int sv), .val (.double pp), .second, .val (.int (1 : Int32)), .val (.long pw), .second, .val (.double scl), .second] [])
        refine Goes.of (fun _ kont => XS.dload X0.here hx rfl (Jvm.hb hby at_76) rfl kont) ?_
        show Goes p e below _ T0 (mkF m 78 #[.val (.int p1), .val (.int p2), .val (.int md), .val (.int sv), .val (.double pp), .second, .val (.int (1 : Int32)), .val (.long pw), .second, .val (.double scl), .second] [(.double pp)])
        refine callC X0 hx hZ hown (hw _ (List.mem_of_getElem? (i := 0) rfl)) (hw _ (List.mem_of_getElem? (i := 1) rfl)) (hw _ (List.mem_of_getElem? (i := 2) rfl)) (hw _ (List.mem_of_getElem? (i := 3) rfl)) (by decide) (as := [(.double pp)]) (rm1 l Z a0 hw pp h0 n0 Z0) 0 (by decide) (by decide) e0 (by decide) (by decide) (g := mkF m 78 #[.val (.int p1), .val (.int p2), .val (.int md), .val (.int sv), .val (.double pp), .second, .val (.int (1 : Int32)), .val (.long pw), .second, .val (.double scl), .second] [(.double pp)]) rfl (by rw [hml]; rfl) (rest := []) (lenOf pd_0 rfl) rfl (by show 2 * 0 + _ ≤ _; exact Nat.le_of_eq rfl) (Jvm.hb hby at_78) ?_
        rintro _ T3 L3 X3 ⟨rfl, N3, e3⟩
        show Goes p e below _ T3 (mkF m 81 #[.val (.int p1), .val (.int p2), .val (.int md), .val (.int sv), .val (.double pp), .second, .val (.int (1 : Int32)), .val (.long pw), .second, .val (.double scl), .second] [(.int (okP pp))])
        refine Goes.of (fun _ kont => XS.iload X3.here hx rfl (Jvm.hb hby at_81) rfl kont) ?_
        show Goes p e below _ T3 (mkF m 83 #[.val (.int p1), .val (.int p2), .val (.int md), .val (.int sv), .val (.double pp), .second, .val (.int (1 : Int32)), .val (.long pw), .second, .val (.double scl), .second] [(.int (1 : Int32)), (.int (okP pp))])
        refine Goes.of (fun _ kont => XS.icmpNo X3.here hx rfl (Jvm.hb hby at_83) rfl (teq (show okP pp = (1 : Int32) from own_yes p1 p2 sv pw scl pp hsv hpw hscl hpp c66)).2 kont) ?_
        show Goes p e below _ T3 (mkF m 86 #[.val (.int p1), .val (.int p2), .val (.int md), .val (.int sv), .val (.double pp), .second, .val (.int (1 : Int32)), .val (.long pw), .second, .val (.double scl), .second] [])
        refine Goes.of (fun _ kont => XS.iconst X3.here hx rfl (Jvm.hb hby at_86) kont) ?_
        show Goes p e below _ T3 (mkF m 87 #[.val (.int p1), .val (.int p2), .val (.int md), .val (.int sv), .val (.double pp), .second, .val (.int (1 : Int32)), .val (.long pw), .second, .val (.double scl), .second] [(.int (1 : Int32))])
        refine Goes.of (fun _ kont => XS.goto X3.here hx rfl (pc0 := 87) (pc' := 91) rfl (Jvm.hb hby at_87) (by decide) (by decide) kont) ?_
        show Goes p e below _ T3 (mkF m 91 #[.val (.int p1), .val (.int p2), .val (.int md), .val (.int sv), .val (.double pp), .second, .val (.int (1 : Int32)), .val (.long pw), .second, .val (.double scl), .second] [(.int (1 : Int32))])
        exact retB X3 hx hlk (t := .boolean) hret (by simp) (Jvm.hb hby at_91) (by decide) (by decide) ⟨rfl, Fr.app N0 N3⟩
      · refine Goes.of (fun _ kont => XS.ifYes X0.here hx rfl (pc0 := 66) (pc' := 73) rfl (Jvm.hb hby at_66) rfl c66 (by decide) (by decide) kont) ?_
        show Goes p e below _ T0 (mkF m 73 #[.val (.int p1), .val (.int p2), .val (.int md), .val (.int sv), .val (.double pp), .second, .unset, .val (.long pw), .second, .val (.double scl), .second] [])
        refine Goes.of (fun _ kont => XS.iconst X0.here hx rfl (Jvm.hb hby at_73) kont) ?_
        show Goes p e below _ T0 (mkF m 74 #[.val (.int p1), .val (.int p2), .val (.int md), .val (.int sv), .val (.double pp), .second, .unset, .val (.long pw), .second, .val (.double scl), .second] [(.int (0 : Int32))])
        refine Goes.of (fun _ kont => XS.istore X0.here hx rfl (Jvm.hb hby at_74) rfl (l' := #[.val (.int p1), .val (.int p2), .val (.int md), .val (.int sv), .val (.double pp), .second, .val (.int (0 : Int32)), .val (.long pw), .second, .val (.double scl), .second]) rfl kont) ?_
        show Goes p e below _ T0 (mkF m 76 #[.val (.int p1), .val (.int p2), .val (.int md), .val (.int sv), .val (.double pp), .second, .val (.int (0 : Int32)), .val (.long pw), .second, .val (.double scl), .second] [])
        refine Goes.of (fun _ kont => XS.dload X0.here hx rfl (Jvm.hb hby at_76) rfl kont) ?_
        show Goes p e below _ T0 (mkF m 78 #[.val (.int p1), .val (.int p2), .val (.int md), .val (.int sv), .val (.double pp), .second, .val (.int (0 : Int32)), .val (.long pw), .second, .val (.double scl), .second] [(.double pp)])
        refine callC X0 hx hZ hown (hw _ (List.mem_of_getElem? (i := 0) rfl)) (hw _ (List.mem_of_getElem? (i := 1) rfl)) (hw _ (List.mem_of_getElem? (i := 2) rfl)) (hw _ (List.mem_of_getElem? (i := 3) rfl)) (by decide) (as := [(.double pp)]) (rm1 l Z a0 hw pp h0 n0 Z0) 0 (by decide) (by decide) e0 (by decide) (by decide) (g := mkF m 78 #[.val (.int p1), .val (.int p2), .val (.int md), .val (.int sv), .val (.double pp), .second, .val (.int (0 : Int32)), .val (.long pw), .second, .val (.double scl), .second] [(.double pp)]) rfl (by rw [hml]; rfl) (rest := []) (lenOf pd_0 rfl) rfl (by show 2 * 0 + _ ≤ _; exact Nat.le_of_eq rfl) (Jvm.hb hby at_78) ?_
        rintro _ T4 L4 X4 ⟨rfl, N4, e4⟩
        show Goes p e below _ T4 (mkF m 81 #[.val (.int p1), .val (.int p2), .val (.int md), .val (.int sv), .val (.double pp), .second, .val (.int (0 : Int32)), .val (.long pw), .second, .val (.double scl), .second] [(.int (okP pp))])
        refine Goes.of (fun _ kont => XS.iload X4.here hx rfl (Jvm.hb hby at_81) rfl kont) ?_
        show Goes p e below _ T4 (mkF m 83 #[.val (.int p1), .val (.int p2), .val (.int md), .val (.int sv), .val (.double pp), .second, .val (.int (0 : Int32)), .val (.long pw), .second, .val (.double scl), .second] [(.int (0 : Int32)), (.int (okP pp))])
        refine Goes.of (fun _ kont => XS.icmpNo X4.here hx rfl (Jvm.hb hby at_83) rfl (teq (show okP pp = (0 : Int32) from own_no p1 p2 sv pw scl pp hsv hpw hscl hpp c66)).2 kont) ?_
        show Goes p e below _ T4 (mkF m 86 #[.val (.int p1), .val (.int p2), .val (.int md), .val (.int sv), .val (.double pp), .second, .val (.int (0 : Int32)), .val (.long pw), .second, .val (.double scl), .second] [])
        refine Goes.of (fun _ kont => XS.iconst X4.here hx rfl (Jvm.hb hby at_86) kont) ?_
        show Goes p e below _ T4 (mkF m 87 #[.val (.int p1), .val (.int p2), .val (.int md), .val (.int sv), .val (.double pp), .second, .val (.int (0 : Int32)), .val (.long pw), .second, .val (.double scl), .second] [(.int (1 : Int32))])
        refine Goes.of (fun _ kont => XS.goto X4.here hx rfl (pc0 := 87) (pc' := 91) rfl (Jvm.hb hby at_87) (by decide) (by decide) kont) ?_
        show Goes p e below _ T4 (mkF m 91 #[.val (.int p1), .val (.int p2), .val (.int md), .val (.int sv), .val (.double pp), .second, .val (.int (0 : Int32)), .val (.long pw), .second, .val (.double scl), .second] [(.int (1 : Int32))])
        exact retB X4 hx hlk (t := .boolean) hret (by simp) (Jvm.hb hby at_91) (by decide) (by decide) ⟨rfl, Fr.app N0 N4⟩
set_option maxRecDepth 65536 in
set_option maxHeartbeats 40000000 in
theorem comes_1 {Post : Tables → Env → Array Value → State → Outcome → State → Prop} (hpost : ∀ tb e args s v u, (limb_1_1.after args s (.returned v) u = true ∧ limb_1_2.after args s (.returned v) u = true ∧ True) → FrameEnd s (.returned v) u (Jvm.fieldLocs frame_1_writes args s ++ Jvm.arrayLocs frame_1_arrays args s ++ Jvm.staticLocs frame_1_statics s) 0 0 → Post tb e args s (.returned v) u) :
    ArmFor flags0 classFile x code maxLocals ret World_1 tables_1 room_1 Calls_1 rest_1 Pre_1 Post := by
  intro l hfl _ _ p e ha hc hk s m args below hf hA hF happ hP
  obtain ⟨hcalls, hrest, hpre⟩ := hP
  obtain ⟨-, -, -, hnamed, -, -, -, hat⟩ := (Spec.applies_iff hf).mp happ
  obtain ⟨hg, hn⟩ := and_e (Cond.before_iff.mp (show (Jvm.Cond.and given_1 narrow_1).before args s = true from hpre))
  obtain ⟨g0, r0⟩ := and_e hg
  obtain ⟨g1, r1⟩ := and_e r0
  obtain ⟨w0, w1, rfl⟩ : ∃ w0 w1 : Value, args = #[w0, w1] := by
    have hs : args.size = 2 := by simpa [Cond.value, given_1] using g0
    obtain ⟨L⟩ := args
    match L, hs with
    | [w0, w1], _ => exact ⟨w0, w1, rfl⟩
  have hw := fun d (hd : d ∈ tables_1) => atoms_spec (ws := Jvm.Cond.code x code maxLocals ret :: tables_1) hat d (List.mem_cons_of_mem _ hd)
  obtain ⟨i0, ei0⟩ := is_v g1
  obtain rfl : w0 = (.int i0) := Option.some.inj ei0
  obtain ⟨i1, ei1⟩ := is_v r1
  obtain rfl : w1 = (.int i1) := Option.some.inj ei1
  obtain ⟨n, o, h1, h2, h3, _, L, rfl, ⟨rfl, N⟩, hq⟩ := rm0 l s _ hw i0 i1 s.heap s.heap.size (Nat.le_refl _) tables_1 p e ha hc hk s m _ below hf ((Spec.applies_iff_loose hf).mp happ).1 ⟨rfl, State.Warmed39.refl s, rfl⟩ trivial
  refine ⟨n, _, h1, h2, h3, hpost _ _ _ _ _ _ ⟨Cond.after_iff.mpr rfl, Cond.after_iff.mpr (eq_i res_at (Term.int_eval (1)) rfl), trivial⟩ ⟨hq.1, hq.2.1, (hq.2.2.sift fun y hy => Or.inr (N y hy)).mono (by decide) (by decide)⟩⟩
theorem main_1_1 : Claimed_1_1 := comes_1 fun _ _ _ _ _ _ h hF => ⟨h.1, hF⟩
theorem main_1_2 : Claimed_1_2 := comes_1 fun _ _ _ _ _ _ h hF => ⟨h.2.1, hF⟩
end Jvm.Pilot.@@N@@
namespace Jvm.Pilot.@@N@@
open Jvm Jvm.ClassFile Sem Op Lib Jvm.Free Jvm.Stand Jvm.Pilot.@@N@@.Jvm.D
/-! MADE BY PROGRAM (witnessworld.py) out of the Statement's table words and the real class files: 9 classes; the members and pool entries that the words name. The judged class is class 1, her method 1. -/
namespace start1
open Jvm.ClassFile
def u (s : String) : CpInfo := .utf8 (stringToUtf16 s)
/-- a pool by its gaps: so many unusable entries, then the entry; so many at the end -/
def gap : Nat → List CpInfo → List CpInfo
  | 0, r => r
  | n + 1, r => .unusable :: gap n r
def poolList (es : List (Nat × CpInfo)) (last : Nat) : List CpInfo := es.foldr (fun e r => gap e.1 (e.2 :: r)) (gap last [])
def pool (es : List (Nat × CpInfo)) (last : Nat) : Array CpInfo := ⟨poolList es last⟩
def fileOf (pool : Array CpInfo) (this : Nat) (attrs : Array Attribute := #[]) (ms : Array MethodInfo := #[]) (fl : Nat := 33) (sup : Nat := 0) (ifs : Array Nat := #[]) (fds : Array FieldInfo := #[]) : ClassFile where
  minorVersion := 0
  majorVersion := 65
  constantPool := pool
  accessFlags := fl
  thisClass := this
  superClass := sup
  interfaces := ifs
  fields := fds
  methods := ms
  attributes := attrs
def plain (name : String) (sup : Option ClassId) : Class where
  name := name
  kind := .ordinary
  loader := none
  accessFlags := 33
  super := sup
  interfaces := #[]
  cf := none
  fields := #[]
  methods := #[]
  instanceTypes := #[]
  staticTypes := #[]
  resolved := #[]
  callSites := []
  init := .initialized
  statics := none
  mirror := none

def pool0 : Array CpInfo := pool [(5, u "<init>"), (0, u "()V"), (1, .class_ 10), (1, u "java/lang/Object")] 113

def k0m0 : Method := { name := "<init>", desc := "()V", sig := { parameters := [], returnType := none }, accessFlags := 1, code := none }
/-- java/lang/Object -/
def k0 : Class := { plain "java/lang/Object" none with
  accessFlags := 33
  interfaces := #[]
  cf := some (fileOf pool0 8 #[] #[{ accessFlags := 1, nameIndex := 5, descriptorIndex := 6, attributes := #[] }] 33 0 #[] #[])
  fields := #[]
  methods := #[k0m0]
  instanceTypes := #[]
  staticTypes := #[]
  resolved := Array.replicate 124 none
  statics := none }

def pool1 : Array CpInfo := pool [(2, .class_ 4), (1, u "java/lang/Object"), (0, u "<init>"), (0, u "()V"), (0, .double 9218868437227405312), (1, .double 18442240474082181120), (1, .methodref 12 13), (0, .class_ 14), (0, .nameAndType 15 16), (0, u "com/example/gist_to_query/gisttoquery/engine/PNorm"), (0, u "isValidP"), (0, u "(D)Z"), (0, .class_ 18), (0, u "com/example/gist_to_query/gisttoquery/engine/PNormIsValidPPinLaw"), (2, u "law"), (0, u "(II)Z")] 3

def k1m0 : Method := { name := "<init>", desc := "()V", sig := { parameters := [], returnType := none }, accessFlags := 1, code := none }
def k1c1 : Code := { maxStack := 4, maxLocals := 11, code := code, exceptionTable := #[], attributes := #[] }
def k1m1 : Method := { name := "law", desc := "(II)Z", sig := { parameters := [.int, .int], returnType := some .boolean }, accessFlags := 9, code := some k1c1 }
/-- com/example/gist_to_query/gisttoquery/engine/PNormIsValidPPinLaw -/
def k1 : Class := { plain "com/example/gist_to_query/gisttoquery/engine/PNormIsValidPPinLaw" (some 0) with
  accessFlags := 49
  interfaces := #[]
  cf := some (fileOf pool1 17 #[] #[{ accessFlags := 1, nameIndex := 5, descriptorIndex := 6, attributes := #[] }, { accessFlags := 9, nameIndex := 21, descriptorIndex := 22, attributes := #[] }] 49 2 #[] #[])
  fields := #[]
  methods := #[k1m0, k1m1]
  instanceTypes := #[]
  staticTypes := #[]
  resolved := Array.replicate 26 none
  statics := none }

def pool2 : Array CpInfo := pool [(2, .class_ 4), (1, u "java/lang/Object"), (0, u "<init>"), (0, u "()V"), (1, .class_ 10), (1, u "com/example/gist_to_query/gisttoquery/engine/PNorm"), (2, .class_ 14), (0, u "com/example/gist_to_query/gisttoquery/engine/PNorm$Norm"), (0, .class_ 16), (0, u "com/example/gist_to_query/gisttoquery/engine/PNorm$Workspace"), (13, u "isValidP"), (0, u "(D)Z"), (42, u "FEW_TERMS"), (0, u "I")] 32

def k2m0 : Method := { name := "<init>", desc := "()V", sig := { parameters := [], returnType := none }, accessFlags := 2, code := none }
def k2c1 : Code := { maxStack := 4, maxLocals := 2, code := prog_15_method_4_code, exceptionTable := #[], attributes := #[] }
def k2m1 : Method := { name := "isValidP", desc := "(D)Z", sig := { parameters := [.double], returnType := some .boolean }, accessFlags := 8, code := some k2c1 }
/-- com/example/gist_to_query/gisttoquery/engine/PNorm -/
def k2 : Class := { plain "com/example/gist_to_query/gisttoquery/engine/PNorm" (some 0) with
  accessFlags := 49
  interfaces := #[]
  cf := some (fileOf pool2 8 #[.nestMembers #[13, 15]] #[{ accessFlags := 2, nameIndex := 5, descriptorIndex := 6, attributes := #[] }, { accessFlags := 8, nameIndex := 30, descriptorIndex := 31, attributes := #[] }] 49 2 #[] #[{ accessFlags := 26, nameIndex := 74, descriptorIndex := 75, attributes := #[] }])
  fields := #[{ name := "FEW_TERMS", type := .int, accessFlags := 26, slot := 0, constantValue := 0 }]
  methods := #[k2m0, k2m1]
  instanceTypes := #[]
  staticTypes := #[.int]
  resolved := Array.replicate 108 none
  statics := none }

def pool3 : Array CpInfo := pool [(1, u "java/lang/Cloneable"), (0, .class_ 1), (0, u "java/lang/Object"), (0, .class_ 3)] 3

/-- java/lang/Cloneable -/
def k3 : Class := { plain "java/lang/Cloneable" (some 0) with
  accessFlags := 1537
  interfaces := #[]
  cf := some (fileOf pool3 2 #[] #[] 1537 4 #[] #[])
  fields := #[]
  methods := #[]
  instanceTypes := #[]
  staticTypes := #[]
  resolved := Array.replicate 8 none
  statics := none }

def pool4 : Array CpInfo := pool [(1, u "java/io/Serializable"), (0, .class_ 1), (0, u "java/lang/Object"), (0, .class_ 3)] 3

/-- java/io/Serializable -/
def k4 : Class := { plain "java/io/Serializable" (some 0) with
  accessFlags := 1537
  interfaces := #[]
  cf := some (fileOf pool4 2 #[] #[] 1537 4 #[] #[])
  fields := #[]
  methods := #[]
  instanceTypes := #[]
  staticTypes := #[]
  resolved := Array.replicate 8 none
  statics := none }

/-- the primitive byte -/
def k5 : Class := { plain "byte" none with kind := .primitive 'B', accessFlags := 0x411 }
/-- [B -/
def k6 : Class := { plain "[B" (some 0) with kind := .array 5 .byte, interfaces := #[3, 4], accessFlags := 1041 }

/-- the primitive int -/
def k7 : Class := { plain "int" none with kind := .primitive 'I', accessFlags := 0x411 }
/-- [I -/
def k8 : Class := { plain "[I" (some 0) with kind := .array 7 .int, interfaces := #[3, 4], accessFlags := 1041 }

def heap : Heap := #[]
def classes : Array Class := #[k0, k1, k2, k3, k4, k5, k6, k7, k8]
def interned : List (Array UInt16 × Addr) := []
def slotsUsed : Nat := 0
def theMethod : MethodId := ⟨1, 1⟩
def args0 : Array Value := #[.int 5, .int 3]
def aboutOver (below : List Frame) : State where
  vm := { classes := classes, interned := interned.toArray }
  heap := heap
  slotsUsed := slotsUsed
  threads := #[{ frames := .invoking theMethod args0 :: below }]
def below0 : List Frame := [.native { method := ⟨0, 0⟩, args := #[] }]
def about1 : State := aboutOver below0
def p0 : Program := .bare "" "" ""
def e0 : Env := launch0.env 0 0 0
theorem w_frames : about1.frames = Frame.invoking theMethod args0 :: below0 := rfl
set_option maxRecDepth 65536 in
theorem w_args : argsFit about1.vm theMethod args0 = true := by decide +kernel
set_option maxRecDepth 65536 in
theorem w_heap : heapFits about1 = true := by decide +kernel
set_option maxRecDepth 65536 in
theorem w_runnable : about1.curStatus? = some .runnable := by decide +kernel
set_option maxRecDepth 65536 in
theorem w_alone : about1.alone = true := by decide +kernel
set_option maxRecDepth 65536 in
theorem w_named : about1.methodNamed? x = some theMethod := by decide +kernel
set_option maxRecDepth 65536 in
theorem w_hears : about1.hears theMethod below0 = true := by decide +kernel
set_option maxRecDepth 65536 in
theorem w_ripe : about1.ripe theMethod args0 below0 = true := by decide +kernel
theorem w_running : about1.status = .running := rfl
set_option maxRecDepth 65536 in
theorem w_room : about1.hasRoom e0.platform room_1 = true :=
  launch0.hasRoom_least _ room_1 (by decide +kernel) (by decide +kernel) (by decide +kernel) (by decide +kernel) (by decide +kernel) (by decide +kernel)
theorem allAtoms_all (ts : List Jvm.Cond) (a : Array Jvm.Value) (st : Jvm.State) : (allAtoms ts).before a st = ts.all (fun c => c.before a st) := by
  induction ts with
  | nil => rfl
  | cons c t ih =>
    show (Jvm.Cond.and c (allAtoms t)).before a st = _
    rw [Jvm.Cond.before_and, ih, List.all_cons]
def words1 : List Jvm.Cond := Jvm.Cond.code x code maxLocals ret :: tables_1
/-- a 'code' word, met by the world's own term for the bytes: nothing is compared byte by byte -/
theorem code_word {y : MethodName} {bytes : ByteArray} {mx : Nat} {rt : Option FieldType} {a : Array Value} {s : State} {m : MethodId} {meth : Method} {c : Code} (h1 : s.methodNamed? y = some m) (h2 : s.vm.method? m = some meth) (h3 : meth.code = some c) (h4 : c.code = bytes)
    (h5 : (c.maxLocals == mx && c.exceptionTable.isEmpty && decide (c.maxStack ≤ mostOperands) && decide (meth.sig.returnType = rt) && !meth.locks && decide (parseMethodDescriptor y.desc = some meth.sig)) = true) : (Jvm.Cond.code y bytes mx rt).before a s = true := by
  simp only [Bool.and_eq_true, beq_iff_eq, Bool.not_eq_true', decide_eq_true_eq] at h5
  obtain ⟨⟨⟨⟨⟨g1, g2⟩, g3⟩, g4⟩, g5⟩, g6⟩ := h5
  simp [Cond.before, Cond.holds, Cond.value, h1, h2, h3, h4, g1, g2, g3, g4, g5, g6]
def isCode : Jvm.Cond → Bool
  | .code _ _ _ _ => true
  | _ => false
theorem all_split {L : List Jvm.Cond} {P : Jvm.Cond → Bool} (h1 : L.all (fun c => isCode c || P c) = true) (h2 : ∀ c ∈ L.filter isCode, P c = true) : L.all P = true := by
  refine List.all_eq_true.mpr fun c hc => ?_
  have h := List.all_eq_true.mp h1 c hc
  rcases Bool.eq_false_or_eq_true (isCode c) with hi | hi
  · exact h2 c (List.mem_filter.mpr ⟨hc, hi⟩)
  · simpa [hi] using h
set_option maxRecDepth 65536 in
theorem w_c0 : (Jvm.Cond.code x code maxLocals ret).before args0 about1 = true := code_word (m := ⟨1, 1⟩) (meth := k1m1) (c := k1c1) (by decide +kernel) rfl rfl rfl (by decide +kernel)
set_option maxRecDepth 65536 in
theorem w_c1 : (Jvm.Cond.code ({ cls := "com/example/gist_to_query/gisttoquery/engine/PNorm", name := "isValidP", desc := "(D)Z" } : Jvm.MethodName) prog_15_method_4_code (2 : Nat) (Option.some Jvm.ClassFile.FieldType.boolean)).before args0 about1 = true := code_word (m := ⟨2, 1⟩) (meth := k2m1) (c := k2c1) (by decide +kernel) rfl rfl rfl (by decide +kernel)
def codes1 : List Jvm.Cond := [Jvm.Cond.code x code maxLocals ret, Jvm.Cond.code ({ cls := "com/example/gist_to_query/gisttoquery/engine/PNorm", name := "isValidP", desc := "(D)Z" } : Jvm.MethodName) prog_15_method_4_code (2 : Nat) (Option.some Jvm.ClassFile.FieldType.boolean)]
set_option maxRecDepth 65536 in
theorem codes_eq : words1.filter isCode = codes1 := rfl
theorem w_codes : ∀ c ∈ words1.filter isCode, c.before args0 about1 = true := by
  rw [codes_eq]
  intro c hc
  simp only [codes1, List.mem_cons, List.not_mem_nil, or_false] at hc
  rcases hc with rfl | rfl
  · exact w_c0
  · exact w_c1
set_option maxRecDepth 65536 in
theorem w_t1 : words1.all (fun c => isCode c || c.before args0 about1) = true := by decide +kernel
theorem w_tables : (allAtoms (Jvm.Cond.code x code maxLocals ret :: tables_1)).before args0 about1 = true := by
  rw [allAtoms_all]
  show words1.all (fun c => c.before args0 about1) = true
  refine all_split ?_ w_codes
  rw [w_t1]
set_option maxRecDepth 65536 in
theorem w_case : (Jvm.Cond.and given_1 narrow_1).before args0 about1 = true := by decide +kernel
theorem w_applies : (headSpec (Jvm.Cond.code x code maxLocals ret :: tables_1) room_1).applies x e0.platform about1 = true :=
  (Spec.applies_iff w_frames).mpr ⟨w_running, w_runnable, w_alone, w_named, w_hears, w_ripe, w_room, w_tables⟩
theorem atStart : AtStart classFile x code maxLocals ret World_1 tables_1 room_1 Calls_1 rest_1 Pre_1 launch0 p0 e0 about1 theMethod args0 below0 :=
  ⟨lists_1, trivial, launch0.admits_env _ _ _, launch0.least_env, fairChoices_fair.cas, fairChoices_fair.clock, w_frames, w_args, w_heap, w_applies, trivial, trivial, w_case⟩
end start1
theorem witness_1 : WitnessClaimed_1 := ⟨start1.p0, start1.e0, start1.about1, start1.theMethod, start1.args0, start1.below0, start1.atStart⟩
end Jvm.Pilot.@@N@@
