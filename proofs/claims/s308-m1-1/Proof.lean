import JvmDerived
import JvmDerived.Pilot.@@N@@Statement
import JvmDerived.Pilot.@@N@@Code
set_option linter.unusedVariables false
set_option linter.unusedSimpArgs false
@@BLOCK:NumsL.lean.txt@@
namespace Jvm.Pilot.@@N@@
open Jvm Jvm.ClassFile Sem Op Lib Jvm.Free Jvm.Stand Jvm.LawKit Jvm.RoadKit Bundle Jvm.Pilot.@@N@@.Jvm.D
namespace Own
open Jvm.FP Jvm.Free.Fl
/-- the datum with its exponent less by e -/
def sh (e : Int) : Core.Datum → Core.Datum
  | .nan => .nan
  | .inf s => .inf s
  | .fin s c q => .fin s c (q - e)
/-- d is the number i * 2 ^ e -/
def Dyd (i e : Int) (d : Core.Datum) : Prop := Core.Whole i (sh e d)
def Dy (i e : Int) (a : UInt64) : Prop := Dyd i e (Core.val64 a)
theorem sh_zero (d : Core.Datum) : sh 0 d = d := by cases d <;> simp [sh]
theorem dyd_whole {i : Int} {d : Core.Datum} : Dyd i 0 d ↔ Core.Whole i d := by unfold Dyd; rw [sh_zero]
theorem dy_of_int {i : Int} {a : UInt64} (h : Core.DInt i a) : Dy i 0 a := dyd_whole.mpr h
theorem dy_i2d (n : Int32) : Dy n.toInt 0 (FP.i2d n) := dy_of_int (Core.i2d_int n)
theorem dy_l2d {n : Int64} (h : n.toInt.natAbs ≤ 2 ^ 53) : Dy n.toInt 0 (FP.l2d n) := dy_of_int (Core.l2d_int h)
theorem Dyd.ne_nan {i e : Int} {d : Core.Datum} (h : Dyd i e d) : d ≠ .nan := by rintro rfl; exact h.elim
theorem Dy.noNaN {i e : Int} {a : UInt64} (h : Dy i e a) : NoNaN64 a := val64_no.mpr h.ne_nan
theorem Dy.fin {i e : Int} {a : UInt64} (h : Dy i e a) : Fin64 a := by
  refine fin64_core.mpr ?_
  unfold Dy at h
  revert h
  unfold Core.DFin
  cases Core.val64 a with
  | nan => exact fun h => h.elim
  | inf => exact fun h => h.elim
  | fin s c q => exact fun _ => ⟨s, c, q, rfl⟩
theorem sh_sum (e : Int) (x y : Core.Datum) : sh e (Core.exactSum x y) = Core.exactSum (sh e x) (sh e y) := by
  cases x with
  | nan => rfl
  | inf s =>
    cases y with
    | nan => rfl
    | inf t => by_cases h : s = t <;> simp only [Core.exactSum, sh, h, if_true, if_false]
    | fin t d r => rfl
  | fin s c q =>
    cases y with
    | nan => rfl
    | inf t => rfl
    | fin t d r =>
      have h1 : min (q - e) (r - e) = min q r - e := by omega
      have h2 : Core.sumUnits s c (q - e) t d (r - e) (min q r - e) = Core.sumUnits s c q t d r (min q r) := by
        unfold Core.sumUnits Core.inUnits
        rw [show q - e - (min q r - e) = q - min q r by omega, show r - e - (min q r - e) = r - min q r by omega]
      simp only [Core.exactSum, sh, h1, h2]
theorem sh_negate (e : Int) (x : Core.Datum) : sh e (Core.negate x) = Core.negate (sh e x) := by cases x <;> rfl
theorem sh_product (e f : Int) (x y : Core.Datum) : sh (e + f) (Core.exactProduct x y) = Core.exactProduct (sh e x) (sh f y) := by
  cases x with
  | nan => rfl
  | inf s =>
    cases y with
    | nan => rfl
    | inf t => rfl
    | fin t d r => by_cases h : d = 0 <;> simp only [Core.exactProduct, sh, h, if_true, if_false]
  | fin s c q =>
    cases y with
    | nan => rfl
    | inf t => by_cases h : c = 0 <;> simp only [Core.exactProduct, sh, h, if_true, if_false]
    | fin t d r => simp only [Core.exactProduct, sh]; rw [show q + r - (e + f) = q - e + (r - f) by omega]
theorem sh_order (e : Int) (x y : Core.Datum) : Core.order (sh e x) (sh e y) = Core.order x y := by
  cases x with
  | nan => rfl
  | inf s => cases y <;> rfl
  | fin s c q =>
    cases y with
    | nan => rfl
    | inf t => rfl
    | fin t d r =>
      have h1 : min (q - e) (r - e) = min q r - e := by omega
      simp only [Core.order, sh, h1, Core.inUnits]
      rw [show q - e - (min q r - e) = q - min q r by omega, show r - e - (min q r - e) = r - min q r by omega]
/-- finer units -/
theorem dyd_finer {i e : Int} {d : Core.Datum} (k : Nat) (h : Dyd i e d) : Dyd (i * ((2 ^ k : Nat) : Int)) (e - k) d := by
  cases d with
  | nan => exact h.elim
  | inf => exact h.elim
  | fin s c q =>
    have h0 : Core.signed s (c * 2 ^ (q - e).toNat) = i * ((2 ^ (-(q - e)).toNat : Nat) : Int) := h
    show Core.signed s (c * 2 ^ (q - (e - k)).toNat) = i * ((2 ^ k : Nat) : Int) * ((2 ^ (-(q - (e - k))).toNat : Nat) : Int)
    have p2 : ((2 ^ (q - e).toNat : Nat) : Int) ≠ 0 := by have := Nat.two_pow_pos (q - e).toNat; omega
    refine Int.eq_of_mul_eq_mul_right p2 ?_
    have ex : (-(q - e)).toNat + (q - (e - k)).toNat = k + (-(q - (e - k))).toNat + (q - e).toNat := by omega
    calc Core.signed s (c * 2 ^ (q - (e - k)).toNat) * ((2 ^ (q - e).toNat : Nat) : Int)
        = Core.signed s (c * 2 ^ (q - e).toNat) * ((2 ^ (q - (e - k)).toNat : Nat) : Int) := by
          rw [← Core.signed_mul, ← Core.signed_mul]; congr 1; ac_rfl
      _ = i * (((2 ^ ((-(q - e)).toNat + (q - (e - k)).toNat) : Nat)) : Int) := by rw [h0, Nat.pow_add, Int.natCast_mul, Int.mul_assoc]
      _ = i * ((2 ^ k : Nat) : Int) * ((2 ^ (-(q - (e - k))).toNat : Nat) : Int) * ((2 ^ (q - e).toNat : Nat) : Int) := by
          rw [ex, Nat.pow_add, Nat.pow_add, Int.natCast_mul, Int.natCast_mul]; ac_rfl
theorem Dy.finer {i e : Int} {a : UInt64} (k : Nat) (h : Dy i e a) : Dy (i * ((2 ^ k : Nat) : Int)) (e - k) a := dyd_finer k h
theorem Dy.to {i e i' e' : Int} {a : UInt64} (h : Dy i e a) (k : Nat) (h1 : e' = e - k) (h2 : i' = i * ((2 ^ k : Nat) : Int)) : Dy i' e' a := by subst h1 h2; exact h.finer k
/-- what is small enough rounds to itself -/
theorem dyd_ratio {s : Bool} {i e : Int} (hs : Core.signed s i.natAbs = i) (hi : i.natAbs < 2 ^ 53) (h1 : -1074 ≤ e) (h2 : e ≤ 971) : Dyd i e (Core.roundRatio Core.b64 s i.natAbs 1 e) := by
  obtain ⟨c', q', h3, h4⟩ := Core.round_exact Core.good_b64 s (c := i.natAbs) (q := e) hi h1 h2
  have e2 : Core.roundRatio Core.b64 s i.natAbs 1 e = .fin s c' q' := h3
  have hf : Core.fits Core.b64 (.fin s c' q') := h3 ▸ Core.round_fits Core.good_b64 _
  have hq : -1074 ≤ q' := hf.2.1
  rw [e2]
  show Core.signed s (c' * 2 ^ (q' - e).toNat) = i * ((2 ^ (-(q' - e)).toNat : Nat) : Int)
  have h5 : c' * 2 ^ (q' - -1074).toNat = i.natAbs * 2 ^ (e - -1074).toNat := h4
  have key : c' * 2 ^ (q' - e).toNat = i.natAbs * 2 ^ (-(q' - e)).toNat := by
    by_cases hle : e ≤ q'
    · have x1 : (q' - -1074).toNat = (q' - e).toNat + (e - -1074).toNat := by omega
      have x2 : (-(q' - e)).toNat = 0 := by omega
      rw [x1, Nat.pow_add, ← Nat.mul_assoc] at h5
      rw [x2, Nat.pow_zero, Nat.mul_one]
      exact Nat.eq_of_mul_eq_mul_right (Nat.two_pow_pos _) h5
    · have x1 : (e - -1074).toNat = (-(q' - e)).toNat + (q' - -1074).toNat := by omega
      have x2 : (q' - e).toNat = 0 := by omega
      rw [x1, Nat.pow_add, ← Nat.mul_assoc] at h5
      rw [x2, Nat.pow_zero, Nat.mul_one]
      exact Nat.eq_of_mul_eq_mul_right (Nat.two_pow_pos _) h5
  rw [key, Core.signed_mul, hs]
theorem signed_of_whole {i : Int} {s : Bool} {c : Nat} {q : Int} (h : Core.Whole i (.fin s c q)) : Core.signed s i.natAbs = i := by
  by_cases hi : i = 0
  · subst hi; exact Core.signed_zero s
  · rw [Core.whole_sign h hi]
    unfold Core.signed
    by_cases h : i < 0 <;> simp [h] <;> omega
theorem dyd_round {i e : Int} {d : Core.Datum} (hi : i.natAbs < 2 ^ 53) (h1 : -1074 ≤ e) (h2 : e ≤ 971) (h : Dyd i e d) : Dyd i e (Core.round Core.b64 d) := by
  cases d with
  | nan => exact h.elim
  | inf => exact h.elim
  | fin s c q =>
    have hw : Core.Whole i (.fin s c (q - e)) := h
    have hn := Core.whole_natAbs hw
    have e1 : Core.round Core.b64 (.fin s c q) = Core.roundRatio Core.b64 s i.natAbs 1 e := by
      refine Core.roundRatio_congr (by decide) (by decide) ?_
      rw [show (e - q).toNat = (-(q - e)).toNat by omega]; simpa using hn
    rw [e1]
    exact dyd_ratio (signed_of_whole hw) hi h1 h2
theorem dy_add {i j e : Int} {a b : UInt64} (ha : Dy i e a) (hb : Dy j e b) (hi : (i + j).natAbs < 2 ^ 53) (h1 : -1074 ≤ e) (h2 : e ≤ 971) : Dy (i + j) e (FP.dadd a b) := by
  show Dyd _ _ (Core.val64 (Core.dadd a b))
  rw [Core.val64_dadd]
  refine dyd_round hi h1 h2 ?_
  unfold Dyd
  rw [sh_sum]
  exact Core.whole_sum ha hb
theorem dy_sub {i j e : Int} {a b : UInt64} (ha : Dy i e a) (hb : Dy j e b) (hi : (i - j).natAbs < 2 ^ 53) (h1 : -1074 ≤ e) (h2 : e ≤ 971) : Dy (i - j) e (FP.dsub a b) := by
  show Dyd _ _ (Core.val64 (Core.dsub a b))
  rw [Core.val64_dsub]
  refine dyd_round hi h1 h2 ?_
  unfold Dyd
  rw [sh_sum, sh_negate]
  exact Core.whole_sum ha (Core.whole_negate hb)
theorem dy_mul {i j e f : Int} {a b : UInt64} (ha : Dy i e a) (hb : Dy j f b) (hi : (i * j).natAbs < 2 ^ 53) (h1 : -1074 ≤ e + f) (h2 : e + f ≤ 971) : Dy (i * j) (e + f) (FP.dmul a b) := by
  show Dyd _ _ (Core.val64 (Core.dmul a b))
  rw [Core.val64_dmul]
  refine dyd_round hi h1 h2 ?_
  unfold Dyd
  rw [sh_product]
  exact Core.whole_product ha hb
theorem dyd_quot {i j m e f : Int} {x y : Core.Datum} (hx : Dyd i e x) (hy : Dyd j f y) (hj : j ≠ 0) (hm : i = j * m) (hb : m.natAbs < 2 ^ 53) (h1 : -1074 ≤ e - f) (h2 : e - f ≤ 971) : Dyd m (e - f) (Core.quotient Core.b64 x y) := by
  cases x with
  | nan => exact hx.elim
  | inf => exact hx.elim
  | fin s c q =>
  cases y with
  | nan => exact hy.elim
  | inf => exact hy.elim
  | fin t d r =>
    have wx : Core.Whole i (.fin s c (q - e)) := hx
    have wy : Core.Whole j (.fin t d (r - f)) := hy
    have hd : d ≠ 0 := fun h => hj ((Core.whole_zero wy).mp h)
    have nx := Core.whole_natAbs wx
    have ny := Core.whole_natAbs wy
    have hn : i.natAbs = j.natAbs * m.natAbs := by rw [hm, Int.natAbs_mul]
    simp only [Core.quotient]
    rw [if_neg hd]
    have e1 : Core.roundRatio Core.b64 (s != t) c d (q - r) = Core.roundRatio Core.b64 (s != t) m.natAbs 1 (e - f) := by
      refine Core.roundRatio_congr (Nat.pos_of_ne_zero hd) (by decide) ?_
      rw [Nat.mul_one]
      refine Nat.eq_of_mul_eq_mul_right (Nat.mul_pos (Nat.two_pow_pos (q - e).toNat) (Nat.two_pow_pos (r - f).toNat)) ?_
      have ex : (-(q - e)).toNat + (q - r - (e - f)).toNat + (r - f).toNat = (-(r - f)).toNat + (e - f - (q - r)).toNat + (q - e).toNat := by omega
      calc c * 2 ^ (q - r - (e - f)).toNat * (2 ^ (q - e).toNat * 2 ^ (r - f).toNat)
          = (c * 2 ^ (q - e).toNat) * (2 ^ (q - r - (e - f)).toNat * 2 ^ (r - f).toNat) := by ac_rfl
        _ = j.natAbs * m.natAbs * 2 ^ ((-(q - e)).toNat + (q - r - (e - f)).toNat + (r - f).toNat) := by rw [nx, hn, Nat.pow_add, Nat.pow_add]; ac_rfl
        _ = m.natAbs * (j.natAbs * 2 ^ (-(r - f)).toNat) * (2 ^ (e - f - (q - r)).toNat * 2 ^ (q - e).toNat) := by rw [ex, Nat.pow_add, Nat.pow_add]; ac_rfl
        _ = m.natAbs * d * 2 ^ (e - f - (q - r)).toNat * (2 ^ (q - e).toNat * 2 ^ (r - f).toNat) := by rw [← ny]; ac_rfl
    rw [e1]
    refine dyd_ratio ?_ hb h1 h2
    have si := signed_of_whole wx
    have sj := signed_of_whole wy
    have hj0 : (j.natAbs : Int) ≠ 0 := by omega
    refine Int.eq_of_mul_eq_mul_left hj0 ?_
    rw [hn] at si
    have k1 : Core.signed s (j.natAbs * m.natAbs) = Core.signed t j.natAbs * m := by rw [si, sj, hm]
    cases s <;> cases t <;> simp only [Core.signed, bne_self_eq_false, Bool.false_bne, Bool.bne_false, Bool.false_eq_true, if_false, if_true, Int.natCast_mul, Int.neg_mul, Int.mul_neg, Int.neg_inj] at k1 ⊢ <;> omega
theorem dy_div {i j m e f : Int} {a b : UInt64} (ha : Dy i e a) (hb : Dy j f b) (hj : j ≠ 0) (hm : i = j * m) (hi : m.natAbs < 2 ^ 53) (h1 : -1074 ≤ e - f) (h2 : e - f ≤ 971) : Dy m (e - f) (FP.ddiv a b) := by
  show Dyd _ _ (Core.val64 (Core.ddiv a b))
  rw [Core.val64_ddiv]
  exact dyd_quot ha hb hj hm hi h1 h2
theorem dy_cmp {i j e : Int} {a b : UInt64} (ha : Dy i e a) (hb : Dy j e b) : FP.dcmp a b = some (compare i j) := by
  show Core.order (Core.val64 a) (Core.val64 b) = _
  rw [← sh_order e]
  exact Core.order_whole ha hb
theorem cmp_lt {i j : Int} (h : i < j) : compare i j = .lt := by simp [compare, compareOfLessAndEq, h]
theorem cmp_eq {i j : Int} (h : i = j) : compare i j = .eq := by simp [compare, compareOfLessAndEq, h]
theorem cmp_gt {i j : Int} (h : j < i) : compare i j = .gt := by simp only [compare, compareOfLessAndEq]; rw [if_neg (by omega), if_neg (by omega)]
theorem dy_lt {i j e : Int} {a b : UInt64} (ha : Dy i e a) (hb : Dy j e b) (h : i < j) : FP.dcmp a b = some .lt := by rw [dy_cmp ha hb, cmp_lt h]
theorem dy_eq {i j e : Int} {a b : UInt64} (ha : Dy i e a) (hb : Dy j e b) (h : i = j) : FP.dcmp a b = some .eq := by rw [dy_cmp ha hb, cmp_eq h]
theorem dy_gt {i j e : Int} {a b : UInt64} (ha : Dy i e a) (hb : Dy j e b) (h : j < i) : FP.dcmp a b = some .gt := by rw [dy_cmp ha hb, cmp_gt h]
theorem dy_zero (e : Int) : Dy 0 e FP.dconst0 := by
  show Dyd 0 e (Core.val64 Core.dconst0)
  rw [Core.val64_dconst0]
  show Core.signed false (0 * _) = 0 * _
  rw [Nat.zero_mul, Int.zero_mul]; rfl
theorem dy_one : Dy 1 0 FP.dconst1 := by
  show Dyd 1 0 (Core.val64 Core.dconst1)
  rw [Core.val64_dconst1]
  show Core.signed false (2 ^ 52 * 2 ^ ((-52 : Int) - 0).toNat) = 1 * ((2 ^ (-((-52 : Int) - 0)).toNat : Nat) : Int)
  decide +kernel
end Own
namespace Own
theorem irem_nn {x y : Int32} (hx : 0 ≤ x.toInt) (hy : 0 < y.toInt) : (x - x / y * y).toInt = x.toInt % y.toInt := by
  have hd : (x / y).toInt = x.toInt / y.toInt := by rw [Jvm.Kit.i32_div (by omega), Int.tdiv_eq_ediv_of_nonneg hx]
  have b1 := x.toInt_lt
  have b2 : x.toInt / y.toInt * y.toInt ≤ x.toInt := Int.ediv_mul_le _ (by omega)
  have b3 : 0 ≤ x.toInt / y.toInt * y.toInt := Int.mul_nonneg (Int.ediv_nonneg hx (by omega)) (by omega)
  have hm : (x / y * y).toInt = x.toInt / y.toInt * y.toInt := by rw [Jvm.Kit.i32_mul (by rw [hd]; omega) (by rw [hd]; omega), hd]
  rw [Jvm.Kit.i32_sub (by rw [hm]; omega) (by rw [hm]; omega), hm]
  have := Int.mul_ediv_add_emod x.toInt y.toInt
  rw [Int.mul_comm] at this
  omega
theorem irem_t {x y : Int32} (hy : 0 < y.toInt) : (x - x / y * y).toInt = x.toInt.tmod y.toInt := by
  have hd : (x / y).toInt = x.toInt.tdiv y.toInt := Jvm.Kit.i32_div (by omega)
  have b1 := x.toInt_lt
  have b0 := x.le_toInt
  have k : y.toInt * x.toInt.tdiv y.toInt + x.toInt.tmod y.toInt = x.toInt := Int.mul_tdiv_add_tmod _ _
  have k2 : (y.toInt * x.toInt.tdiv y.toInt).natAbs ≤ x.toInt.natAbs := by
    rw [Int.natAbs_mul, Int.natAbs_tdiv]; exact Nat.mul_div_le _ _
  have t3 : (x.toInt.tmod y.toInt).natAbs < y.toInt.natAbs := by
    rw [Int.natAbs_tmod]; exact Nat.mod_lt _ (by omega)
  have b4 := y.toInt_lt
  have hm : (x / y * y).toInt = y.toInt * x.toInt.tdiv y.toInt := by
    have q : (x / y).toInt * y.toInt = y.toInt * x.toInt.tdiv y.toInt := by rw [hd, Int.mul_comm]
    by_cases hz : -2 ^ 31 ≤ (x / y).toInt * y.toInt ∧ (x / y).toInt * y.toInt < 2 ^ 31
    · rw [Jvm.Kit.i32_mul hz.1 hz.2, q]
    · exfalso
      have e1 : x.toInt.natAbs ≤ 2 ^ 31 := by omega
      by_cases hs : 0 ≤ x.toInt
      · have t1 : 0 ≤ x.toInt.tmod y.toInt := Int.tmod_nonneg _ hs
        omega
      · omega
  rw [Jvm.Kit.i32_sub (by rw [hm]; omega) (by rw [hm]; omega), hm]
  omega
theorem hlt {x : Int32} (h : ifCond.holds .lt x = true) : x.toInt < 0 := by
  simpa [ifCond.holds, Int32.lt_iff_toInt_lt] using h
theorem hge {x : Int32} (h : ifCond.holds .lt x = false) : 0 ≤ x.toInt := by
  simpa [ifCond.holds, Int32.lt_iff_toInt_lt] using h
theorem cgt {x y : Int32} (h : if_icmp.holds .gt x y = true) : y.toInt < x.toInt := by
  simpa [if_icmp.holds, Int32.lt_iff_toInt_lt] using h
theorem cle {x y : Int32} (h : if_icmp.holds .gt x y = false) : x.toInt ≤ y.toInt := by
  simpa [if_icmp.holds, Int32.lt_iff_toInt_lt] using h
theorem one_shl (k : Int32) (h1 : 0 ≤ k.toInt) (h2 : k.toInt ≤ 30) : ((1 : Int32) <<< (k &&& 31)).toInt = ((2 ^ k.toInt.toNat : Nat) : Int) := by
  have all : ∀ j : Fin 31, ((1 : Int32) <<< (Int32.ofNat j.val &&& 31)).toInt = ((2 ^ j.val : Nat) : Int) := by decide
  have e : k = Int32.ofNat k.toInt.toNat := by
    apply Int32.toInt_inj.mp
    rw [Int32.toInt_ofNat_of_lt (by omega)]
    omega
  have := all ⟨k.toInt.toNat, by omega⟩
  simp only at this
  rw [← e] at this
  exact this
end Own
namespace Own
section Walks
variable {p : Program} {l : Launch} {e : Env} {R : Room} {s : State} {m : MethodId} {args : Array Value} {below : List Frame} {meth : Method} {c : Code} {T T' : State} {locs : List Loc} {cells slots : Nat} {Z : State} {a0 : Array Value} {h : Heap}
/-- from the frame g on top of T the run comes to a state that G holds of -/
def Goes (p : Program) (e : Env) (below : List Frame) (G : State → Prop) (T : State) (g : JFrame) : Prop := ∃ t, Steps p.tables e below (T.setTop g) t ∧ G t
theorem Goes.of {G : State → Prop} {g g' : JFrame} (f : ∀ t, Steps p.tables e below (T'.setTop g') t → Steps p.tables e below (T.setTop g) t) (k : Goes p e below G T' g') : Goes p e below G T g := by
  obtain ⟨t, h1, h2⟩ := k
  exact ⟨t, f t h1, h2⟩
theorem Goes.cast {G : State → Prop} {g g' : JFrame} (q : g = g') (k : Goes p e below G T g') : Goes p e below G T g := q ▸ k
/-- the method has returned, with what Q says -/
def Fini (s : State) (below : List Frame) (Q : Option Value → Heap → List Loc → Prop) (kc ks : Nat) (t : State) : Prop := t.status = .running ∧ ∃ v L, Ended t below (.returned v) ∧ Q v t.heap L ∧ FrameEnd s (.returned v) t L kc ks
/-- a contract: called with as on the heap h0, the method returns with what Q says, and takes the room rm -/
def Ct (l : Launch) (y : MethodName) (bytes : ByteArray) (maxL : Nat) (ret : Option FieldType) (rm : Room) (Z : State) (as : List Value) (h0 : Heap) (Q : Option Value → Heap → List Loc → Prop) : Prop :=
  ∀ ws : List Jvm.Cond, MetFree l y (head1 (Jvm.Cond.code y bytes maxL ret :: ws) rm) (fun a U => a = as.toArray ∧ Z.Warmed39 U.vm ∧ U.heap = h0) (fun _ _ _ _ _ => True) (fun _ U o U' => ∃ v L, o = .returned v ∧ Q v U'.heap L ∧ FrameEnd U o U' L rm.cells rm.slots)
theorem met {l : Launch} {y : MethodName} {bytes : ByteArray} {maxL : Nat} {ret : Option FieldType} {rm : Room} {Z : State} {as : List Value} {h0 : Heap} {Q : Option Value → Heap → List Loc → Prop} (hp : plainFor y = true)
    (walk : ∀ (p : Program) (e : Env) (s : State) (m : MethodId) (below : List Frame) (meth : Method) (c : Code) (T : State), p.tables.exec = Jvm.exec → c.code = bytes → c.maxLocals = maxL → s.vm.findClass y.cls = some m.cls → meth.sig.returnType = ret → meth.locks = false → meth.name = y.name → Z.Warmed39 s.vm →
      Stand p l e rm s m as.toArray below meth c T [] 0 0 → T.heap = h0 → Goes p e below (Fini s below Q rm.cells rm.slots) T (entryFrame m as.toArray maxL)) : Ct l y bytes maxL ret rm Z as h0 Q := by
  intro ws
  refine MetFree.of_bodySF hp hisR ?_
  intro p e s m args below meth c s₁ Bd hml0 hP hK
  obtain ⟨rfl, hZ, hh⟩ := hP
  have e0 : s₁.heap = h0 := by rw [← hh, Bd.state]; rfl
  obtain ⟨t, h1, h2, v, L, h3, h4, h5⟩ := walk p e s m below meth c s₁ Bd.exec Bd.bytes hml0 (findClass_of_methodNamed Bd.named) Bd.returns Bd.notSynchronized (name_of_methodNamed Bd.named Bd.method).1 hZ (Stand.of_body Bd) e0
  exact ⟨t, _, h1, h2, h3, v, L, rfl, h4, h5⟩
theorem retB (X : Stand p l e R s m args below meth c T locs cells slots) (hx : p.tables.exec = Jvm.exec) (hlk : meth.locks = false) {pc : Nat} {Ls : Array Slot} {z : Int32} {t : FieldType} {rest : List Value} (hret : meth.sig.returnType = some t) (ht : t = .boolean ∨ t = .byte ∨ t = .char ∨ t = .short) (hd : decode c.code pc = .ok (.ireturn, 1))
    {Q : Option Value → Heap → List Loc → Prop} {kc ks : Nat} (h1 : cells ≤ kc) (h2 : slots ≤ ks) (hQ : Q (some (.int (nar t z))) T.heap locs) : Goes p e below (Fini s below Q kc ks) T (mkF m pc Ls (.int z :: rest)) := by
  obtain ⟨fs, hr, hrun, hended, hW, hsame⟩ := X.leave (v := some (.int (nar t z))) (fun q => by rw [hret] at q; cases q) hlk
  exact ⟨_, retN X hx hret ht hd hr, hrun, _, _, hended, hQ, ⟨_, rfl⟩, hW, hsame.mono h1 h2⟩
theorem retI (X : Stand p l e R s m args below meth c T locs cells slots) (hx : p.tables.exec = Jvm.exec) (hlk : meth.locks = false) {pc : Nat} {Ls : Array Slot} {z : Int32} {rest : List Value} (hret : meth.sig.returnType = some .int) (hd : decode c.code pc = .ok (.ireturn, 1))
    {Q : Option Value → Heap → List Loc → Prop} {kc ks : Nat} (h1 : cells ≤ kc) (h2 : slots ≤ ks) (hQ : Q (some (.int z)) T.heap locs) : Goes p e below (Fini s below Q kc ks) T (mkF m pc Ls (.int z :: rest)) := by
  obtain ⟨fs, hr, hrun, hended, hW, hsame⟩ := X.leave (v := some (.int z)) (fun q => by rw [hret] at q; cases q) hlk
  refine ⟨_, ?_, hrun, _, _, hended, hQ, ⟨_, rfl⟩, hW, hsame.mono h1 h2⟩
  have hm' : T.vm.method? m = some meth := X.method'
  have hn : narrow .int (.int z) = .int z := rfl
  show Steps p.tables e below (T.setTop { method := m, pc := pc, locals := Ls, stack := _ :: rest, locked := none }) _
  jvm_step X.here [X.here.top, hx, hd, hm', hret, hn]
  first | (intro acts; rw [hr _ acts rfl rfl rfl]) | rw [hr _ _ rfl rfl rfl]
  exact Steps.refl _
theorem retJ (X : Stand p l e R s m args below meth c T locs cells slots) (hx : p.tables.exec = Jvm.exec) (hlk : meth.locks = false) {pc : Nat} {Ls : Array Slot} {z : Int64} (hret : meth.sig.returnType = some .long) (hd : decode c.code pc = .ok (.lreturn, 1))
    {Q : Option Value → Heap → List Loc → Prop} {kc ks : Nat} (h1 : cells ≤ kc) (h2 : slots ≤ ks) (hQ : Q (some (.long z)) T.heap locs) : Goes p e below (Fini s below Q kc ks) T (mkF m pc Ls [.long z]) := by
  obtain ⟨fs, hr, hrun, hended, hW, hsame⟩ := X.leave (v := some (.long z)) (fun q => by rw [hret] at q; cases q) hlk
  exact ⟨_, X.lreturnOut hx hret hd hr, hrun, _, _, hended, hQ, ⟨_, rfl⟩, hW, hsame.mono h1 h2⟩
theorem retD (X : Stand p l e R s m args below meth c T locs cells slots) (hx : p.tables.exec = Jvm.exec) (hlk : meth.locks = false) {pc : Nat} {Ls : Array Slot} {z : UInt64} (hret : meth.sig.returnType = some .double) (hd : decode c.code pc = .ok (.dreturn, 1))
    {Q : Option Value → Heap → List Loc → Prop} {kc ks : Nat} (h1 : cells ≤ kc) (h2 : slots ≤ ks) (hQ : Q (some (.double z)) T.heap locs) : Goes p e below (Fini s below Q kc ks) T (mkF m pc Ls [.double z]) := by
  obtain ⟨fs, hr, hrun, hended, hW, hsame⟩ := X.leave (v := some (.double z)) (fun q => by rw [hret] at q; cases q) hlk
  refine ⟨_, ?_, hrun, _, _, hended, hQ, ⟨_, rfl⟩, hW, hsame.mono h1 h2⟩
  have hm' : T.vm.method? m = some meth := X.method'
  show Steps p.tables e below (T.setTop { method := m, pc := pc, locals := Ls, stack := [.double z], locked := none }) _
  jvm_step X.here [X.here.top, hx, hd, hm', hret]
  first | (intro acts; rw [hr _ acts rfl rfl rfl]) | rw [hr _ _ rfl rfl rfl]
  exact Steps.refl _
theorem retV (X : Stand p l e R s m args below meth c T locs cells slots) (hx : p.tables.exec = Jvm.exec) (hlk : meth.locks = false) {pc : Nat} {Ls : Array Slot} {st : List Value} (hret : meth.sig.returnType = none) (hd : decode c.code pc = .ok (.return_, 1))
    {Q : Option Value → Heap → List Loc → Prop} {kc ks : Nat} (h1 : cells ≤ kc) (h2 : slots ≤ ks) (hQ : Q none T.heap locs) : Goes p e below (Fini s below Q kc ks) T (mkF m pc Ls st) := by
  obtain ⟨fs, hr, hrun, hended, hW, hsame⟩ := X.leave (v := none) (fun _ => rfl) hlk
  refine ⟨_, ?_, hrun, _, _, hended, hQ, ⟨_, rfl⟩, hW, hsame.mono h1 h2⟩
  have hm' : T.vm.method? m = some meth := X.method'
  show Steps p.tables e below (T.setTop { method := m, pc := pc, locals := Ls, stack := st, locked := none }) _
  jvm_step X.here [X.here.top, hx, hd, hm', hret]
  first | (intro acts; rw [hr _ acts rfl rfl rfl]) | rw [hr _ _ rfl rfl rfl]
  exact Steps.refl _
theorem retA (X : Stand p l e R s m args below meth c T locs cells slots) (hx : p.tables.exec = Jvm.exec) (hlk : meth.locks = false) {pc : Nat} {Ls : Array Slot} {z : Value} {t : FieldType} {rest : List Value} (hz : z.isRef = true) (hret : meth.sig.returnType = some t) (ht : t.isReference = true) (hd : decode c.code pc = .ok (.areturn, 1))
    {Q : Option Value → Heap → List Loc → Prop} {kc ks : Nat} (h1 : cells ≤ kc) (h2 : slots ≤ ks) (hQ : Q (some z) T.heap locs) : Goes p e below (Fini s below Q kc ks) T (mkF m pc Ls (z :: rest)) := by
  obtain ⟨fs, hr, hrun, hended, hW, hsame⟩ := X.leave (v := some z) (fun q => by rw [hret] at q; cases q) hlk
  refine ⟨_, ?_, hrun, _, _, hended, hQ, ⟨_, rfl⟩, hW, hsame.mono h1 h2⟩
  have hm' : T.vm.method? m = some meth := X.method'
  show Steps p.tables e below (T.setTop { method := m, pc := pc, locals := Ls, stack := z :: rest, locked := none }) _
  jvm_step X.here [X.here.top, hx, hd, hm', hret, hz, ht]
  first | (intro acts; rw [hr _ acts rfl rfl rfl]) | rw [hr _ _ rfl rfl rfl]
  exact Steps.refl _
/-- a static method by its contract -/
theorem callC (X : Stand p l e R s m args below meth c T locs cells slots) (hx : p.tables.exec = Jvm.exec) (hZ : Z.Warmed39 s.vm) {own : String} {index : Nat} {y : MethodName} {bytes : ByteArray} {maxL : Nat} {ret : Option FieldType}
    (hown : s.vm.findClass own = some m.cls) (w1 : (Jvm.Cond.methodLink own index y).before a0 Z = true) (w2 : (Jvm.Cond.static y).before a0 Z = true) (w3 : (Jvm.Cond.initialized y.cls).before a0 Z = true) (w4 : (Jvm.Cond.code y bytes maxL ret).before a0 Z = true)
    (hy : y.cls ≠ "java/lang/invoke/MethodHandle" ∧ y.cls ≠ "java/lang/invoke/VarHandle") {rm : Room} {as : List Value} {Q : Option Value → Heap → List Loc → Prop}
    (hM : Ct l y bytes maxL ret rm Z as h Q)
    (W : Nat) (hf : rm.frames + 1 ≤ R.frames) (hl : W + (maxL + 11) + rm.locals ≤ R.locals) (eT : T.heap = h) (hc : cells + rm.cells ≤ R.cells) (hs : slots + rm.slots ≤ R.slots)
    {g : JFrame} (hg : g.method = m) (hsize : g.locals.size = c.maxLocals) {rest : List Value} (hlen : ∀ sig, parseMethodDescriptor y.desc = some sig → as.length = sig.parameters.length)
    (hst : g.stack = as.reverse ++ rest) (hW : 2 * g.monitorRoom + (rest.map fun v => v.category).sum ≤ W) (hd : decode c.code g.pc = .ok (.invokestatic index, 3)) {G : State → Prop}
    (k : ∀ (v : Option Value) (T' : State) (L : List Loc), Stand p l e R s m args below meth c T' (locs ++ L) (cells + rm.cells) (slots + rm.slots) → Q v T'.heap L → Goes p e below G T' { g with pc := g.pc + 3, stack := v.toList ++ rest }) : Goes p e below G T g := by
  obtain ⟨v, vm1, ⟨U, lo, ce, sl⟩, -, X', ⟨L, hQ, l1, l2, l3⟩, st⟩ := Jvm.LawKit.callS X hx (y := y) hown (mvT hZ w1) (mvT hZ w2) (mvT hZ w3) (mvT hZ w4) hy (backOf (W := W) (hM []) hZ w4 w3 hf hl) (g := g) hg hsize (argsL := as) (rest := rest) hlen hst hW hd (fun _ _ => ⟨rfl, eT, hc, hs⟩)
  dsimp only [Pt.U, Pt.locs, Pt.cells, Pt.slots] at X' l1 l2 l3 st hQ
  subst l1 l2 l3
  exact Goes.of st (k v U L X' hQ)
theorem Goes.via {G : State → Prop} {g g' : JFrame} (f : Steps p.tables e below (T.setTop g) (T'.setTop g')) (k : Goes p e below G T' g') : Goes p e below G T g := by
  obtain ⟨t, h1, h2⟩ := k
  exact ⟨t, f.trans h1, h2⟩
/-- an instance method by its contract -/
theorem callV (X : Stand p l e R s m args below meth c T locs cells slots) (hx : p.tables.exec = Jvm.exec) (hZ : Z.Warmed39 s.vm) {own C : String} {index : Nat} {y z : MethodName} {bytes : ByteArray} {maxL : Nat} {ret : Option FieldType}
    (hown : s.vm.findClass own = some m.cls) (w1 : (Jvm.Cond.methodLink own index y).before a0 Z = true) (w2 : (Jvm.Cond.declares y).before a0 Z = true) (hnf : NotFace s y) (w3 : (Jvm.Cond.selects C y z).before a0 Z = true) (w4 : (Jvm.Cond.instanceMethod z).before a0 Z = true) (w5 : (Jvm.Cond.code z bytes maxL ret).before a0 Z = true) (w6 : (Jvm.Cond.initialized z.cls).before a0 Z = true)
    (hy : y.cls ≠ "java/lang/invoke/MethodHandle" ∧ y.cls ≠ "java/lang/invoke/VarHandle") {b : Addr} (E : Exa Z h b C) {rm : Room} {as : List Value} {Q : Option Value → Heap → List Loc → Prop}
    (hM : Ct l z bytes maxL ret rm Z (.ref b :: as) h Q)
    (W : Nat) (hf : rm.frames + 1 ≤ R.frames) (hl : W + (maxL + 11) + rm.locals ≤ R.locals) (eT : T.heap = h) (hc : cells + rm.cells ≤ R.cells) (hs : slots + rm.slots ≤ R.slots)
    {g : JFrame} (hg : g.method = m) (hsize : g.locals.size = c.maxLocals) {rest : List Value} (hlen : ∀ sig, parseMethodDescriptor y.desc = some sig → as.length = sig.parameters.length)
    (hst : g.stack = as.reverse ++ .ref b :: rest) (hW : 2 * g.monitorRoom + (rest.map fun v => v.category).sum ≤ W) (hd : decode c.code g.pc = .ok (.invokevirtual index, 3)) {G : State → Prop}
    (k : ∀ (v : Option Value) (T' : State) (L : List Loc), Stand p l e R s m args below meth c T' (locs ++ L) (cells + rm.cells) (slots + rm.slots) → Q v T'.heap L → Goes p e below G T' { g with pc := g.pc + 3, stack := v.toList ++ rest }) : Goes p e below G T g := by
  obtain ⟨cq, kq, qa, qb, qc⟩ := isOf hZ eT E
  obtain ⟨v, vm1, ⟨U, lo, ce, sl⟩, -, X', ⟨L, hQ, l1, l2, l3⟩, st⟩ := X.virtualBack hx (y := y) (z := z) hown (mvT hZ w1) (mvT hZ w2) hnf (mvT hZ w3) (mvT hZ w4) hy (backOf (W := W) (hM []) hZ w5 w6 hf hl) qa qc (g := g) hg hsize (Steps.refl _) (argsL := as) (rest := rest) hlen hst hW hd (fun _ _ => ⟨rfl, eT, hc, hs⟩)
  dsimp only [Pt.U, Pt.locs, Pt.cells, Pt.slots] at X' l1 l2 l3 st hQ
  subst l1 l2 l3
  exact Goes.via st (k v U L X' hQ)
/-- a static field is read -/
theorem goS (X : Stand p l e R s m args below meth c T locs cells slots) (hx : p.tables.exec = Jvm.exec) (hZ : Z.Warmed39 s.vm) {own R0 O n d : String} {index : Nat} (hown : s.vm.findClass own = some m.cls) (w : (Jvm.Cond.fieldLink own index R0 n d).before a0 Z = true) (via : Via Z R0 O n d)
    (eT : T.heap = h) {v : Value} (F : Sta Z h O n d v) {g : JFrame} (hg : g.method = m) (hd : decode c.code g.pc = .ok (.getstatic index, 3)) {G : State → Prop}
    (k : ∀ T', Stand p l e R s m args below meth c T' locs cells slots → T'.heap = h → Goes p e below G T' { g with pc := g.pc + 3, stack := v :: g.stack }) : Goes p e below G T g := by
  obtain ⟨T', X', e', st⟩ := getS (host := "") X hx hZ hown w via eT F hg hd
  exact Goes.of st (k T' X' e')
end Walks
end Own
namespace Own
section Arrays
variable {p : Program} {l : Launch} {e : Env} {R : Room} {s : State} {m : MethodId} {args : Array Value} {below : List Frame} {meth : Method} {c : Code} {T T' : State} {locs : List Loc} {cells slots : Nat} {Z : State} {a0 : Array Value} {h h' : Heap} {a b : Addr} {xs ys : List UInt64} {sl : Nat} {v : Value}
/-- at a lies a double[] with the elements xs -/
def DA (Z : State) (h : Heap) (a : Addr) (xs : List UInt64) : Prop := ∃ c : Cell, Arr Z h a c .double ∧ c.slots.size = xs.length ∧ xs.length < 2 ^ 31 ∧ ∀ (i : Nat) (v : UInt64), xs[i]? = some v → c.slots[i]? = some (.double v)
theorem DA.ext (F : DA Z h a xs) (E : Ext h h') : DA Z h' a xs := by obtain ⟨c, A, r⟩ := F; exact ⟨c, A.ext E, r⟩
theorem DA.other (F : DA Z h b xs) (W : Wr h h' a sl v) (q : b ≠ a) : DA Z h' b xs := by obtain ⟨c, A, r⟩ := F; exact ⟨c, A.other W q, r⟩
theorem DA.lt (F : DA Z h a xs) : a < h.size := by obtain ⟨c, A, -⟩ := F; exact A.lt
theorem clamp {j : Int32} {i : Nat} (hj : j.toInt = i) : j.toNatClampNeg = i ∧ ¬ j < 0 := by
  refine ⟨by simp only [Int32.toNatClampNeg]; omega, ?_⟩
  rw [Int32.lt_iff_toInt_lt, show (0 : Int32).toInt = 0 from rfl]; omega
theorem goNewD (X : Stand p l e R s m args below meth c T locs cells slots) (hx : p.tables.exec = Jvm.exec) (hZ : Z.Warmed39 s.vm) (w : (Jvm.Cond.arrayClass .double).before a0 Z = true) (eT : T.heap = h) {g : JFrame} (hg : g.method = m) (hd : decode c.code g.pc = .ok (.newarray .double, 2)) {n : Int32} {rest : List Value} (hs : g.stack = .int n :: rest)
    (k : Nat) (hn : n.toInt = k) (hk : k ≤ 1000) (hc : cells + 1 ≤ R.cells) (hl : slots + k ≤ R.slots) {G : State → Prop}
    (kk : ∀ (T' : State) (h' : Heap) (a : Addr), a = h.size → Stand p l e R s m args below meth c T' locs (cells + 1) (slots + k) → T'.heap = h' → Ext h h' → DA Z h' a (List.replicate k 0) → Goes p e below G T' { g with pc := g.pc + 2, stack := .ref a :: rest }) : Goes p e below G T g := by
  obtain ⟨q1, q2⟩ := clamp hn
  obtain ⟨T', h', cA, X', e', E, A, st⟩ := newP X hx hZ (aty := .double) w eT hg hd hs q2 (cap := k) (by omega) (by omega) hc hl
  refine Goes.of st (kk T' h' _ rfl X' e' E ⟨_, A, ?_, ?_, ?_⟩)
  · rw [sz_new, q1, List.length_replicate]
  · rw [List.length_replicate]; omega
  · intro i v hi
    rw [List.getElem?_replicate] at hi
    split at hi
    · rename_i hlt
      cases hi
      simp only [newA, Array.getElem?_replicate, q1, if_pos hlt]
      rfl
    · cases hi
theorem goStD (X : Stand p l e R s m args below meth c T locs cells slots) (hx : p.tables.exec = Jvm.exec) (hZ : Z.Warmed39 s.vm) (eT : T.heap = h) (A : DA Z h a xs) {j : Int32} (i : Nat) (hj : j.toInt = i) (hi : i < xs.length) {x : UInt64} {g : JFrame} (hg : g.method = m) {rest : List Value}
    (hs : g.stack = .double x :: .int j :: .ref a :: rest) (hd : decode c.code g.pc = .ok (.dastore, 1)) {n0 : Nat} (N : Fr n0 locs) (ge : n0 ≤ a) {G : State → Prop}
    (k : ∀ (T' : State) (h' : Heap) (locs' : List Loc), Stand p l e R s m args below meth c T' locs' cells slots → T'.heap = h' → Fr n0 locs' → (∀ (b : Addr) (ys : List UInt64), b ≠ a → DA Z h b ys → DA Z h' b ys) → DA Z h' a (xs.set i x) → Goes p e below G T' { g with pc := g.pc + 1, stack := rest }) : Goes p e below G T g := by
  obtain ⟨q1, q2⟩ := clamp hj
  obtain ⟨cl, Ar, S, B, H⟩ := A
  have hin : ¬ (j < 0 ∨ cl.slots.size ≤ j.toNatClampNeg) := by rw [q1, S]; exact fun q => q.elim q2 (fun r => by omega)
  obtain ⟨T', h', X', e', W, st⟩ := stD X hx hZ eT Ar (j := j) (x := x) hin hg hs hd
  refine Goes.of st (k T' h' _ X' e' (Fr.snoc X' N ge) (fun b ys q F => F.other W q) ⟨_, Ar.same W, ?_, ?_, ?_⟩)
  · rw [sz_set, S, List.length_set]
  · rw [List.length_set]; exact B
  · intro i' v' hv
    rw [q1]
    by_cases u : i = i'
    · subst u
      rw [List.getElem?_set_self hi] at hv
      cases hv
      simp [Cell.setSlot, S, hi]
    · rw [List.getElem?_set_ne u] at hv
      have := H i' v' hv
      simp only [Cell.setSlot]
      rw [Array.getElem?_setIfInBounds_ne u]; exact this
theorem goLdD (X : Stand p l e R s m args below meth c T locs cells slots) (hx : p.tables.exec = Jvm.exec) (hZ : Z.Warmed39 s.vm) (eT : T.heap = h) (A : DA Z h a xs) {j : Int32} (i : Nat) (hj : j.toInt = i) {w : UInt64} (hv : xs[i]? = some w) {g : JFrame} (hg : g.method = m) {rest : List Value}
    (hs : g.stack = .int j :: .ref a :: rest) (hd : decode c.code g.pc = .ok (.daload, 1)) {G : State → Prop} (k : Goes p e below G T { g with pc := g.pc + 1, stack := .double w :: rest }) : Goes p e below G T g := by
  obtain ⟨q1, q2⟩ := clamp hj
  obtain ⟨cl, Ar, S, B, H⟩ := A
  have hi : i < xs.length := (List.getElem?_eq_some_iff.mp hv).1
  have hin : ¬ (j < 0 ∨ cl.slots.size ≤ j.toNatClampNeg) := by rw [q1, S]; exact fun q => q.elim q2 (fun r => by omega)
  exact Goes.of (fun t => X.daload hx (by rw [eT]; exact Ar.1) (State.isArrayOf_alike hZ.alike Ar.2.1) Ar.2.2 hin (by rw [q1]; exact H i w hv) hg hs hd t) k
theorem goLen (X : Stand p l e R s m args below meth c T locs cells slots) (hx : p.tables.exec = Jvm.exec) (hZ : Z.Warmed39 s.vm) (eT : T.heap = h) (A : DA Z h a xs) {n : Int32} (hn : n.toInt = xs.length) {g : JFrame} (hg : g.method = m) {rest : List Value}
    (hs : g.stack = .ref a :: rest) (hd : decode c.code g.pc = .ok (.arraylength, 1)) {G : State → Prop} (k : Goes p e below G T { g with pc := g.pc + 1, stack := .int n :: rest }) : Goes p e below G T g := by
  obtain ⟨cl, Ar, S, B, H⟩ := A
  have en : cl.slots.size.toInt32 = n := by
    apply Int32.toInt_inj.mp
    rw [S, hn]
    exact len_toInt B
  exact Goes.of (fun t => X.arraylength hx (by rw [eT]; exact Ar.1) (State.isArrayOf_alike hZ.alike Ar.2.1) hg hs hd t) (by rw [en]; exact k)
end Arrays
end Own
open Own
section Law
open Jvm.FP
theorem own_mulb {a b : Int} {A B : Nat} (ha : a.natAbs ≤ A) (hb : b.natAbs ≤ B) : (a * b).natAbs ≤ A * B := by
  rw [Int.natAbs_mul]; exact Nat.mul_le_mul ha hb
theorem own_2 : Dy 2 0 (4611686018427387904 : UInt64) := by
  have h : Core.val64 (4611686018427387904 : UInt64) = .fin false (2 ^ 52) (-51) := by decide +kernel
  show Dyd 2 0 (Core.val64 _)
  rw [h]
  show Core.signed false (2 ^ 52 * 2 ^ ((-51 : Int) - 0).toNat) = 2 * ((2 ^ (-((-51 : Int) - 0)).toNat : Nat) : Int)
  decide +kernel
theorem own_100 : Dy 100 0 (4636737291354636288 : UInt64) := by
  have h : Core.val64 (4636737291354636288 : UInt64) = .fin false (100 * 2 ^ 46) (-46) := by decide +kernel
  show Dyd 100 0 (Core.val64 _)
  rw [h]
  show Core.signed false (100 * 2 ^ 46 * 2 ^ ((-46 : Int) - 0).toNat) = 100 * ((2 ^ (-((-46 : Int) - 0)).toNat : Nat) : Int)
  decide +kernel
theorem own_sub {a b : Int} {x y : UInt64} (hx : Dy a 0 x) (hy : Dy b 0 y) (h : (a - b).natAbs < 2 ^ 53) : Dy (a - b) 0 (FP.dsub x y) := dy_sub hx hy h (by decide) (by decide)
theorem own_add {a b : Int} {x y : UInt64} (hx : Dy a 0 x) (hy : Dy b 0 y) (h : (a + b).natAbs < 2 ^ 53) : Dy (a + b) 0 (FP.dadd x y) := dy_add hx hy h (by decide) (by decide)
theorem own_mul {a b : Int} {x y : UInt64} (hx : Dy a 0 x) (hy : Dy b 0 y) (h : (a * b).natAbs < 2 ^ 53) : Dy (a * b) 0 (FP.dmul x y) := dy_mul hx hy h (by decide) (by decide)
/-- the term of the sum, over d = x - o -/
def tm (d n : Int) : Int := 100 * (d * d + 2 * d - n) * (d * d + 2 * d - n) + d * d
theorem tm_b {d n : Int} (hd : d.natAbs ≤ 2047) (hn : n.natAbs ≤ 2047) : (d * d).natAbs ≤ 4190209 ∧ (d * d + 2 * d - n).natAbs ≤ 4196350 ∧ (100 * (d * d + 2 * d - n)).natAbs ≤ 419635000 ∧ (100 * (d * d + 2 * d - n) * (d * d + 2 * d - n)).natAbs ≤ 1760935332250000 ∧ (tm d n).natAbs ≤ 1760935336440209 := by
  have h1 := own_mulb hd hd
  have h2 : (d * d + 2 * d - n).natAbs ≤ 4196350 := by omega
  have h3 : (100 * (d * d + 2 * d - n)).natAbs ≤ 419635000 := by omega
  have h4 := own_mulb h3 h2
  unfold tm
  refine ⟨by omega, h2, h3, by omega, by omega⟩
/-- the law's own term is the same, over z = d + 1 -/
theorem tm_z (d n z zn : Int) (hz : z = d + 1) (hn : zn = n + 1) : 100 * (z * z - zn) * (z * z - zn) + (z - 1) * (z - 1) = tm d n := by
  subst hz hn
  have e : (d + 1) * (d + 1) - (n + 1) = d * d + 2 * d - n := by
    rw [Int.add_mul, Int.mul_add, Int.mul_one, Int.one_mul]; omega
  have e2 : d + 1 - 1 = d := by omega
  rw [e, e2]; rfl
theorem own_coord (p : Int32) : -1024 ≤ (Int32.toInt64 (((p >>> ((16 : Int32) &&& 31)) &&& 2047) - 1024)).toInt ∧ (Int32.toInt64 (((p >>> ((16 : Int32) &&& 31)) &&& 2047) - 1024)).toInt ≤ 1023 := by
  generalize p >>> ((16 : Int32) &&& 31) = q
  have e1 : (q &&& 2047).toInt = q.toInt % 2 ^ 11 := Jvm.Kit.i32_mask q 2047 (k := 11) (by decide) (by decide)
  have ek : (1024 : Int32).toInt = 1024 := by decide
  rw [Int32.toInt_toInt64, Jvm.Kit.i32_sub (by rw [ek]; omega) (by rw [ek]; omega), ek]
  omega
theorem own_shift (q : Int32) : -1024 ≤ (Int32.toInt64 ((q &&& 2047) - 1024)).toInt ∧ (Int32.toInt64 ((q &&& 2047) - 1024)).toInt ≤ 1023 := by
  have e1 : (q &&& 2047).toInt = q.toInt % 2 ^ 11 := Jvm.Kit.i32_mask q 2047 (k := 11) (by decide) (by decide)
  have ek : (1024 : Int32).toInt = 1024 := by decide
  rw [Int32.toInt_toInt64, Jvm.Kit.i32_sub (by rw [ek]; omega) (by rw [ek]; omega), ek]
  omega
theorem own_z {x o z : Int64} (h : x - o + 1 = z) (x1 : -1024 ≤ x.toInt ∧ x.toInt ≤ 1023) (o1 : -1024 ≤ o.toInt ∧ o.toInt ≤ 1023) : z.toInt = x.toInt - o.toInt + 1 := by
  have e1 : (x - o).toInt = x.toInt - o.toInt := Jvm.Kit.i64_sub (by omega) (by omega)
  have ek : (1 : Int64).toInt = 1 := by decide
  rw [← h, Jvm.Kit.i64_add (by rw [e1, ek]; omega) (by rw [e1, ek]; omega), e1, ek]
theorem own_term {z n r : Int64} (hz : z.toInt.natAbs ≤ 2048) (hn : n.toInt.natAbs ≤ 2048) (h : (100 : Int64) * (z * z - n) * (z * z - n) + (z - 1) * (z - 1) = r) :
    r.toInt = 100 * (z.toInt * z.toInt - n.toInt) * (z.toInt * z.toInt - n.toInt) + (z.toInt - 1) * (z.toInt - 1) := by
  have h1 := own_mulb hz hz
  have e1 : (z * z).toInt = z.toInt * z.toInt := Jvm.Kit.i64_mul (by omega) (by omega)
  have e2 : (z * z - n).toInt = z.toInt * z.toInt - n.toInt := by rw [Jvm.Kit.i64_sub (by rw [e1]; omega) (by rw [e1]; omega), e1]
  have h2 : (z.toInt * z.toInt - n.toInt).natAbs ≤ 4196352 := by omega
  generalize z * z - n = u at *
  rw [← e2] at h2 ⊢
  have ek : (100 : Int64).toInt = 100 := by decide
  have e3 : ((100 : Int64) * u).toInt = 100 * u.toInt := by rw [Jvm.Kit.i64_mul (by rw [ek]; omega) (by rw [ek]; omega), ek]
  have h3 : (100 * u.toInt).natAbs ≤ 419635200 := by omega
  have h4 := own_mulb h3 h2
  have e4 : ((100 : Int64) * u * u).toInt = 100 * u.toInt * u.toInt := by rw [Jvm.Kit.i64_mul (by rw [e3]; omega) (by rw [e3]; omega), e3]
  have e1' : (1 : Int64).toInt = 1 := by decide
  have e5 : (z - 1).toInt = z.toInt - 1 := by rw [Jvm.Kit.i64_sub (by rw [e1']; omega) (by rw [e1']; omega), e1']
  have h5 := own_mulb (a := z.toInt - 1) (b := z.toInt - 1) (A := 2049) (B := 2049) (by omega) (by omega)
  have e6 : ((z - 1) * (z - 1)).toInt = (z.toInt - 1) * (z.toInt - 1) := by rw [Jvm.Kit.i64_mul (by rw [e5]; omega) (by rw [e5]; omega), e5]
  rw [← h, Jvm.Kit.i64_add (by rw [e4, e6]; omega) (by rw [e4, e6]; omega), e4, e6]
theorem own_ladd {x y r : Int64} (h : x + y = r) (hx : x.toInt.natAbs ≤ 2 ^ 60) (hy : y.toInt.natAbs ≤ 2 ^ 60) : r.toInt = x.toInt + y.toInt := by
  rw [← h]; exact Jvm.Kit.i64_add (by omega) (by omega)
theorem own_dim {p n : Int32} (h : (2 : Int32) + ((p &&& 2147483647) - (p &&& 2147483647) / 3 * 3) = n) : n = 2 ∨ n = 3 ∨ n = 4 := by
  have e1 : (p &&& 2147483647).toInt = p.toInt % 2 ^ 31 := Jvm.Kit.i32_mask p 2147483647 (k := 31) (by decide) (by decide)
  have e2 := irem_nn (x := p &&& 2147483647) (y := 3) (by omega) (by decide)
  rw [show (3 : Int32).toInt = 3 by decide] at e2
  have ek : (2 : Int32).toInt = 2 := by decide
  have e3 := Jvm.Kit.i32_add (p := 2) (q := (p &&& 2147483647) - (p &&& 2147483647) / 3 * 3) (by rw [ek, e2]; omega) (by rw [ek, e2]; omega)
  rw [h, ek, e2] at e3
  have : n.toInt = 2 ∨ n.toInt = 3 ∨ n.toInt = 4 := by omega
  rcases this with q | q | q
  · exact Or.inl (Int32.toInt_inj.mp q)
  · exact Or.inr (Or.inl (Int32.toInt_inj.mp q))
  · exact Or.inr (Or.inr (Int32.toInt_inj.mp q))
end Law
theorem d2_0 : decode method_3_code 0 = .ok (.iload_n 0, 1) := by decide +kernel
theorem d2_1 : decode method_3_code 1 = .ok (.bipush 16, 2) := by decide +kernel
theorem d2_3 : decode method_3_code 3 = .ok (.ishr, 1) := by decide +kernel
theorem d2_4 : decode method_3_code 4 = .ok (.sipush 2047, 3) := by decide +kernel
theorem d2_7 : decode method_3_code 7 = .ok (.iand, 1) := by decide +kernel
theorem d2_8 : decode method_3_code 8 = .ok (.sipush 1024, 3) := by decide +kernel
theorem d2_11 : decode method_3_code 11 = .ok (.isub, 1) := by decide +kernel
theorem d2_12 : decode method_3_code 12 = .ok (.i2l, 1) := by decide +kernel
theorem d2_13 : decode method_3_code 13 = .ok (.lreturn, 1) := by decide +kernel
theorem d3_0 : decode method_4_code 0 = .ok (.iload_n 0, 1) := by decide +kernel
theorem d3_1 : decode method_4_code 1 = .ok (.sipush 2047, 3) := by decide +kernel
theorem d3_4 : decode method_4_code 4 = .ok (.iand, 1) := by decide +kernel
theorem d3_5 : decode method_4_code 5 = .ok (.sipush 1024, 3) := by decide +kernel
theorem d3_8 : decode method_4_code 8 = .ok (.isub, 1) := by decide +kernel
theorem d3_9 : decode method_4_code 9 = .ok (.i2l, 1) := by decide +kernel
theorem d3_10 : decode method_4_code 10 = .ok (.lreturn, 1) := by decide +kernel
theorem d4_0 : decode method_2_code 0 = .ok (.lload_n 0, 1) := by decide +kernel
theorem d4_1 : decode method_2_code 1 = .ok (.lload_n 0, 1) := by decide +kernel
theorem d4_2 : decode method_2_code 2 = .ok (.lmul, 1) := by decide +kernel
theorem d4_3 : decode method_2_code 3 = .ok (.lload_n 2, 1) := by decide +kernel
theorem d4_4 : decode method_2_code 4 = .ok (.lsub, 1) := by decide +kernel
theorem d4_5 : decode method_2_code 5 = .ok (.lstore 4, 2) := by decide +kernel
theorem d4_7 : decode method_2_code 7 = .ok (.lload_n 0, 1) := by decide +kernel
theorem d4_8 : decode method_2_code 8 = .ok (.lconst 1, 1) := by decide +kernel
theorem d4_9 : decode method_2_code 9 = .ok (.lsub, 1) := by decide +kernel
theorem d4_10 : decode method_2_code 10 = .ok (.lstore 6, 2) := by decide +kernel
theorem d4_12 : decode method_2_code 12 = .ok (.ldc2_w 7, 3) := by decide +kernel
theorem d4_15 : decode method_2_code 15 = .ok (.lload 4, 2) := by decide +kernel
theorem d4_17 : decode method_2_code 17 = .ok (.lmul, 1) := by decide +kernel
theorem d4_18 : decode method_2_code 18 = .ok (.lload 4, 2) := by decide +kernel
theorem d4_20 : decode method_2_code 20 = .ok (.lmul, 1) := by decide +kernel
theorem d4_21 : decode method_2_code 21 = .ok (.lload 6, 2) := by decide +kernel
theorem d4_23 : decode method_2_code 23 = .ok (.lload 6, 2) := by decide +kernel
theorem d4_25 : decode method_2_code 25 = .ok (.lmul, 1) := by decide +kernel
theorem d4_26 : decode method_2_code 26 = .ok (.ladd, 1) := by decide +kernel
theorem d4_27 : decode method_2_code 27 = .ok (.lreturn, 1) := by decide +kernel
theorem d1_0 : decode prog_26_method_14_code 0 = .ok (.dconst 0, 1) := by decide +kernel
theorem d1_1 : decode prog_26_method_14_code 1 = .ok (.dstore_n 2, 1) := by decide +kernel
theorem d1_2 : decode prog_26_method_14_code 2 = .ok (.aload_n 0, 1) := by decide +kernel
theorem d1_3 : decode prog_26_method_14_code 3 = .ok (.iconst 0, 1) := by decide +kernel
theorem d1_4 : decode prog_26_method_14_code 4 = .ok (.daload, 1) := by decide +kernel
theorem d1_5 : decode prog_26_method_14_code 5 = .ok (.aload_n 1, 1) := by decide +kernel
theorem d1_6 : decode prog_26_method_14_code 6 = .ok (.iconst 0, 1) := by decide +kernel
theorem d1_7 : decode prog_26_method_14_code 7 = .ok (.daload, 1) := by decide +kernel
theorem d1_8 : decode prog_26_method_14_code 8 = .ok (.dsub, 1) := by decide +kernel
theorem d1_9 : decode prog_26_method_14_code 9 = .ok (.dstore 4, 2) := by decide +kernel
theorem d1_11 : decode prog_26_method_14_code 11 = .ok (.iconst 0, 1) := by decide +kernel
theorem d1_12 : decode prog_26_method_14_code 12 = .ok (.istore 6, 2) := by decide +kernel
theorem d1_14 : decode prog_26_method_14_code 14 = .ok (.iload 6, 2) := by decide +kernel
theorem d1_16 : decode prog_26_method_14_code 16 = .ok (.iconst 1, 1) := by decide +kernel
theorem d1_17 : decode prog_26_method_14_code 17 = .ok (.iadd, 1) := by decide +kernel
theorem d1_18 : decode prog_26_method_14_code 18 = .ok (.aload_n 0, 1) := by decide +kernel
theorem d1_19 : decode prog_26_method_14_code 19 = .ok (.arraylength, 1) := by decide +kernel
theorem d1_20 : decode prog_26_method_14_code 20 = .ok (.if_icmp .ge 63, 3) := by decide +kernel
theorem d1_23 : decode prog_26_method_14_code 23 = .ok (.aload_n 0, 1) := by decide +kernel
theorem d1_24 : decode prog_26_method_14_code 24 = .ok (.iload 6, 2) := by decide +kernel
theorem d1_26 : decode prog_26_method_14_code 26 = .ok (.iconst 1, 1) := by decide +kernel
theorem d1_27 : decode prog_26_method_14_code 27 = .ok (.iadd, 1) := by decide +kernel
theorem d1_28 : decode prog_26_method_14_code 28 = .ok (.daload, 1) := by decide +kernel
theorem d1_29 : decode prog_26_method_14_code 29 = .ok (.aload_n 1, 1) := by decide +kernel
theorem d1_30 : decode prog_26_method_14_code 30 = .ok (.iload 6, 2) := by decide +kernel
theorem d1_32 : decode prog_26_method_14_code 32 = .ok (.iconst 1, 1) := by decide +kernel
theorem d1_33 : decode prog_26_method_14_code 33 = .ok (.iadd, 1) := by decide +kernel
theorem d1_34 : decode prog_26_method_14_code 34 = .ok (.daload, 1) := by decide +kernel
theorem d1_35 : decode prog_26_method_14_code 35 = .ok (.dsub, 1) := by decide +kernel
theorem d1_36 : decode prog_26_method_14_code 36 = .ok (.dstore 7, 2) := by decide +kernel
theorem d1_38 : decode prog_26_method_14_code 38 = .ok (.dload 4, 2) := by decide +kernel
theorem d1_40 : decode prog_26_method_14_code 40 = .ok (.dload 4, 2) := by decide +kernel
theorem d1_42 : decode prog_26_method_14_code 42 = .ok (.dmul, 1) := by decide +kernel
theorem d1_43 : decode prog_26_method_14_code 43 = .ok (.ldc2_w 119, 3) := by decide +kernel
theorem d1_46 : decode prog_26_method_14_code 46 = .ok (.dload 4, 2) := by decide +kernel
theorem d1_48 : decode prog_26_method_14_code 48 = .ok (.dmul, 1) := by decide +kernel
theorem d1_49 : decode prog_26_method_14_code 49 = .ok (.dadd, 1) := by decide +kernel
theorem d1_50 : decode prog_26_method_14_code 50 = .ok (.dload 7, 2) := by decide +kernel
theorem d1_52 : decode prog_26_method_14_code 52 = .ok (.dsub, 1) := by decide +kernel
theorem d1_53 : decode prog_26_method_14_code 53 = .ok (.dstore 9, 2) := by decide +kernel
theorem d1_55 : decode prog_26_method_14_code 55 = .ok (.dload_n 2, 1) := by decide +kernel
theorem d1_56 : decode prog_26_method_14_code 56 = .ok (.ldc2_w 134, 3) := by decide +kernel
theorem d1_59 : decode prog_26_method_14_code 59 = .ok (.dload 9, 2) := by decide +kernel
theorem d1_61 : decode prog_26_method_14_code 61 = .ok (.dmul, 1) := by decide +kernel
theorem d1_62 : decode prog_26_method_14_code 62 = .ok (.dload 9, 2) := by decide +kernel
theorem d1_64 : decode prog_26_method_14_code 64 = .ok (.dmul, 1) := by decide +kernel
theorem d1_65 : decode prog_26_method_14_code 65 = .ok (.dload 4, 2) := by decide +kernel
theorem d1_67 : decode prog_26_method_14_code 67 = .ok (.dload 4, 2) := by decide +kernel
theorem d1_69 : decode prog_26_method_14_code 69 = .ok (.dmul, 1) := by decide +kernel
theorem d1_70 : decode prog_26_method_14_code 70 = .ok (.dadd, 1) := by decide +kernel
theorem d1_71 : decode prog_26_method_14_code 71 = .ok (.dadd, 1) := by decide +kernel
theorem d1_72 : decode prog_26_method_14_code 72 = .ok (.dstore_n 2, 1) := by decide +kernel
theorem d1_73 : decode prog_26_method_14_code 73 = .ok (.dload 7, 2) := by decide +kernel
theorem d1_75 : decode prog_26_method_14_code 75 = .ok (.dstore 4, 2) := by decide +kernel
theorem d1_77 : decode prog_26_method_14_code 77 = .ok (.iinc 6 1, 3) := by decide +kernel
theorem d1_80 : decode prog_26_method_14_code 80 = .ok (.goto (-66), 3) := by decide +kernel
theorem d1_83 : decode prog_26_method_14_code 83 = .ok (.dload_n 2, 1) := by decide +kernel
theorem d1_84 : decode prog_26_method_14_code 84 = .ok (.dreturn, 1) := by decide +kernel
theorem pd_0 : parseMethodDescriptor "(I)J" = some ⟨[.int], some .long⟩ := by decide +kernel
theorem pd_1 : parseMethodDescriptor "(JJ)J" = some ⟨[.long, .long], some .long⟩ := by decide +kernel
theorem pd_2 : parseMethodDescriptor "([D[D)D" = some ⟨[(.array .double), (.array .double)], some .double⟩ := by decide +kernel
theorem ef_2 (m : MethodId) (x0 : Int32) : entryFrame m #[(.int x0)] 1 = mkF m 0 #[.val (.int x0)] [] := by first | (simp [entryFrame, mkF, argsToLocals, Value.category]; done) | rfl
theorem pn_2 : plainFor (⟨"com/example/memechain/memechain/benchmark/FunctionsShiftedRosenbrockPinLaw", "coord", "(I)J"⟩ : MethodName) = true := plainFor_of_name (by first | (simp [plainName, overriddenIn]; done) | decide +kernel)
set_option maxRecDepth 65536 in
set_option maxHeartbeats 40000000 in
theorem rm2 (l : Launch) (Z : State) (a0 : Array Value) (hw : ∀ d ∈ tables_1, d.before a0 Z = true) (p1 : Int32)  (h0 : Heap) (n0 : Nat) (Z0 : n0 ≤ h0.size) :
    Ct l (⟨"com/example/memechain/memechain/benchmark/FunctionsShiftedRosenbrockPinLaw", "coord", "(I)J"⟩ : MethodName) method_3_code 1 (some .long) ({ frames := 0, cells := 0, slots := 0, locals := 0 } : Room) Z [(.int p1)] h0 (fun v h L => (∃ z : Int64, v = some (.long z) ∧ -1024 ≤ z.toInt ∧ z.toInt ≤ 1023) ∧ Fr n0 L ∧ h = h0) := by
  refine met pn_2 ?_
  intro p e s m below meth c T0 hx hby hml hown hret hlk hnm hZ X0 e0
  have N0 := Fr.nil n0
  have hown : s.vm.findClass "com/example/memechain/memechain/benchmark/FunctionsShiftedRosenbrockPinLaw" = some m.cls := hown
  refine Goes.cast (ef_2 m p1) ?_
  show Goes p e below _ T0 (mkF m 0 #[.val (.int p1)] [])
  refine Goes.of (fun _ kont => XS.iloadN X0.here hx rfl (Jvm.hb hby d2_0) rfl kont) ?_
  show Goes p e below _ T0 (mkF m 1 #[.val (.int p1)] [(.int p1)])
  refine Goes.of (fun _ kont => XS.bipush X0.here hx rfl (Jvm.hb hby d2_1) kont) ?_
  show Goes p e below _ T0 (mkF m 3 #[.val (.int p1)] [(.int (16 : Int32)), (.int p1)])
  refine Goes.of (fun _ kont => XT.ishr X0.here hx rfl (Jvm.hb hby d2_3) rfl kont) ?_
  show Goes p e below _ T0 (mkF m 4 #[.val (.int p1)] [(.int (p1 >>> ((16 : Int32) &&& 31)))])
  refine Goes.of (fun _ kont => XS.sipush X0.here hx rfl (Jvm.hb hby d2_4) kont) ?_
  show Goes p e below _ T0 (mkF m 7 #[.val (.int p1)] [(.int (2047 : Int32)), (.int (p1 >>> ((16 : Int32) &&& 31)))])
  refine Goes.of (fun _ kont => XS.iand X0.here hx rfl (Jvm.hb hby d2_7) rfl kont) ?_
  show Goes p e below _ T0 (mkF m 8 #[.val (.int p1)] [(.int ((p1 >>> ((16 : Int32) &&& 31)) &&& (2047 : Int32)))])
  refine Goes.of (fun _ kont => XS.sipush X0.here hx rfl (Jvm.hb hby d2_8) kont) ?_
  show Goes p e below _ T0 (mkF m 11 #[.val (.int p1)] [(.int (1024 : Int32)), (.int ((p1 >>> ((16 : Int32) &&& 31)) &&& (2047 : Int32)))])
  refine Goes.of (fun _ kont => XS.isub X0.here hx rfl (Jvm.hb hby d2_11) rfl kont) ?_
  show Goes p e below _ T0 (mkF m 12 #[.val (.int p1)] [(.int (((p1 >>> ((16 : Int32) &&& 31)) &&& (2047 : Int32)) - (1024 : Int32)))])
  refine Goes.of (fun _ kont => XT.i2l X0.here hx rfl (Jvm.hb hby d2_12) rfl kont) ?_
  show Goes p e below _ T0 (mkF m 13 #[.val (.int p1)] [(.long (Int32.toInt64 (((p1 >>> ((16 : Int32) &&& 31)) &&& (2047 : Int32)) - (1024 : Int32))))])
  exact retJ X0 hx hlk hret (Jvm.hb hby d2_13) (by decide) (by decide) ⟨⟨_, rfl, own_coord p1⟩, N0, e0⟩
theorem ef_3 (m : MethodId) (x0 : Int32) : entryFrame m #[(.int x0)] 1 = mkF m 0 #[.val (.int x0)] [] := by first | (simp [entryFrame, mkF, argsToLocals, Value.category]; done) | rfl
theorem pn_3 : plainFor (⟨"com/example/memechain/memechain/benchmark/FunctionsShiftedRosenbrockPinLaw", "shiftOf", "(I)J"⟩ : MethodName) = true := plainFor_of_name (by first | (simp [plainName, overriddenIn]; done) | decide +kernel)
set_option maxRecDepth 65536 in
set_option maxHeartbeats 40000000 in
theorem rm3 (l : Launch) (Z : State) (a0 : Array Value) (hw : ∀ d ∈ tables_1, d.before a0 Z = true) (p1 : Int32)  (h0 : Heap) (n0 : Nat) (Z0 : n0 ≤ h0.size) :
    Ct l (⟨"com/example/memechain/memechain/benchmark/FunctionsShiftedRosenbrockPinLaw", "shiftOf", "(I)J"⟩ : MethodName) method_4_code 1 (some .long) ({ frames := 0, cells := 0, slots := 0, locals := 0 } : Room) Z [(.int p1)] h0 (fun v h L => (∃ z : Int64, v = some (.long z) ∧ -1024 ≤ z.toInt ∧ z.toInt ≤ 1023) ∧ Fr n0 L ∧ h = h0) := by
  refine met pn_3 ?_
  intro p e s m below meth c T0 hx hby hml hown hret hlk hnm hZ X0 e0
  have N0 := Fr.nil n0
  have hown : s.vm.findClass "com/example/memechain/memechain/benchmark/FunctionsShiftedRosenbrockPinLaw" = some m.cls := hown
  refine Goes.cast (ef_3 m p1) ?_
  show Goes p e below _ T0 (mkF m 0 #[.val (.int p1)] [])
  refine Goes.of (fun _ kont => XS.iloadN X0.here hx rfl (Jvm.hb hby d3_0) rfl kont) ?_
  show Goes p e below _ T0 (mkF m 1 #[.val (.int p1)] [(.int p1)])
  refine Goes.of (fun _ kont => XS.sipush X0.here hx rfl (Jvm.hb hby d3_1) kont) ?_
  show Goes p e below _ T0 (mkF m 4 #[.val (.int p1)] [(.int (2047 : Int32)), (.int p1)])
  refine Goes.of (fun _ kont => XS.iand X0.here hx rfl (Jvm.hb hby d3_4) rfl kont) ?_
  show Goes p e below _ T0 (mkF m 5 #[.val (.int p1)] [(.int (p1 &&& (2047 : Int32)))])
  refine Goes.of (fun _ kont => XS.sipush X0.here hx rfl (Jvm.hb hby d3_5) kont) ?_
  show Goes p e below _ T0 (mkF m 8 #[.val (.int p1)] [(.int (1024 : Int32)), (.int (p1 &&& (2047 : Int32)))])
  refine Goes.of (fun _ kont => XS.isub X0.here hx rfl (Jvm.hb hby d3_8) rfl kont) ?_
  show Goes p e below _ T0 (mkF m 9 #[.val (.int p1)] [(.int ((p1 &&& (2047 : Int32)) - (1024 : Int32)))])
  refine Goes.of (fun _ kont => XT.i2l X0.here hx rfl (Jvm.hb hby d3_9) rfl kont) ?_
  show Goes p e below _ T0 (mkF m 10 #[.val (.int p1)] [(.long (Int32.toInt64 ((p1 &&& (2047 : Int32)) - (1024 : Int32))))])
  exact retJ X0 hx hlk hret (Jvm.hb hby d3_10) (by decide) (by decide) ⟨⟨_, rfl, own_shift p1⟩, N0, e0⟩
theorem ef_4 (m : MethodId) (x0 : Int64) (x1 : Int64) : entryFrame m #[(.long x0), (.long x1)] 8 = mkF m 0 #[.val (.long x0), .second, .val (.long x1), .second, .unset, .unset, .unset, .unset] [] := by first | (simp [entryFrame, mkF, argsToLocals, Value.category]; done) | rfl
theorem pn_4 : plainFor (⟨"com/example/memechain/memechain/benchmark/FunctionsShiftedRosenbrockPinLaw", "term", "(JJ)J"⟩ : MethodName) = true := plainFor_of_name (by first | (simp [plainName, overriddenIn]; done) | decide +kernel)
set_option maxRecDepth 65536 in
set_option maxHeartbeats 40000000 in
theorem rm4 (l : Launch) (Z : State) (a0 : Array Value) (hw : ∀ d ∈ tables_1, d.before a0 Z = true) (p1 : Int64) (p2 : Int64)  (h0 : Heap) (n0 : Nat) (Z0 : n0 ≤ h0.size) (b1 : p1.toInt.natAbs ≤ 2048) (b2 : p2.toInt.natAbs ≤ 2048) :
    Ct l (⟨"com/example/memechain/memechain/benchmark/FunctionsShiftedRosenbrockPinLaw", "term", "(JJ)J"⟩ : MethodName) method_2_code 8 (some .long) ({ frames := 0, cells := 0, slots := 0, locals := 0 } : Room) Z [(.long p1), (.long p2)] h0 (fun v h L => (∃ z : Int64, v = some (.long z) ∧ z.toInt = 100 * (p1.toInt * p1.toInt - p2.toInt) * (p1.toInt * p1.toInt - p2.toInt) + (p1.toInt - 1) * (p1.toInt - 1)) ∧ Fr n0 L ∧ h = h0) := by
  refine met pn_4 ?_
  intro p e s m below meth c T0 hx hby hml hown hret hlk hnm hZ X0 e0
  have N0 := Fr.nil n0
  have hown : s.vm.findClass "com/example/memechain/memechain/benchmark/FunctionsShiftedRosenbrockPinLaw" = some m.cls := hown
  refine Goes.cast (ef_4 m p1 p2) ?_
  show Goes p e below _ T0 (mkF m 0 #[.val (.long p1), .second, .val (.long p2), .second, .unset, .unset, .unset, .unset] [])
  refine Goes.of (fun _ kont => XT.lloadN X0.here hx rfl (Jvm.hb hby d4_0) rfl kont) ?_
  show Goes p e below _ T0 (mkF m 1 #[.val (.long p1), .second, .val (.long p2), .second, .unset, .unset, .unset, .unset] [(.long p1)])
  refine Goes.of (fun _ kont => XT.lloadN X0.here hx rfl (Jvm.hb hby d4_1) rfl kont) ?_
  show Goes p e below _ T0 (mkF m 2 #[.val (.long p1), .second, .val (.long p2), .second, .unset, .unset, .unset, .unset] [(.long p1), (.long p1)])
  refine Goes.of (fun _ kont => XT.lmul X0.here hx rfl (Jvm.hb hby d4_2) rfl kont) ?_
  show Goes p e below _ T0 (mkF m 3 #[.val (.long p1), .second, .val (.long p2), .second, .unset, .unset, .unset, .unset] [(.long (p1 * p1))])
  refine Goes.of (fun _ kont => XT.lloadN X0.here hx rfl (Jvm.hb hby d4_3) rfl kont) ?_
  show Goes p e below _ T0 (mkF m 4 #[.val (.long p1), .second, .val (.long p2), .second, .unset, .unset, .unset, .unset] [(.long p2), (.long (p1 * p1))])
  refine Goes.of (fun _ kont => XT.lsub X0.here hx rfl (Jvm.hb hby d4_4) rfl kont) ?_
  show Goes p e below _ T0 (mkF m 5 #[.val (.long p1), .second, .val (.long p2), .second, .unset, .unset, .unset, .unset] [(.long ((p1 * p1) - p2))])
  refine Goes.of (fun _ kont => XT.lstore X0.here hx rfl (Jvm.hb hby d4_5) rfl (l' := #[.val (.long p1), .second, .val (.long p2), .second, .val (.long ((p1 * p1) - p2)), .second, .unset, .unset]) rfl kont) ?_
  show Goes p e below _ T0 (mkF m 7 #[.val (.long p1), .second, .val (.long p2), .second, .val (.long ((p1 * p1) - p2)), .second, .unset, .unset] [])
  refine Goes.of (fun _ kont => XT.lloadN X0.here hx rfl (Jvm.hb hby d4_7) rfl kont) ?_
  show Goes p e below _ T0 (mkF m 8 #[.val (.long p1), .second, .val (.long p2), .second, .val (.long ((p1 * p1) - p2)), .second, .unset, .unset] [(.long p1)])
  refine Goes.of (fun _ kont => XT.lconst X0.here hx rfl (Jvm.hb hby d4_8) kont) ?_
  show Goes p e below _ T0 (mkF m 9 #[.val (.long p1), .second, .val (.long p2), .second, .val (.long ((p1 * p1) - p2)), .second, .unset, .unset] [(.long (1 : Int64)), (.long p1)])
  refine Goes.of (fun _ kont => XT.lsub X0.here hx rfl (Jvm.hb hby d4_9) rfl kont) ?_
  show Goes p e below _ T0 (mkF m 10 #[.val (.long p1), .second, .val (.long p2), .second, .val (.long ((p1 * p1) - p2)), .second, .unset, .unset] [(.long (p1 - (1 : Int64)))])
  refine Goes.of (fun _ kont => XT.lstore X0.here hx rfl (Jvm.hb hby d4_10) rfl (l' := #[.val (.long p1), .second, .val (.long p2), .second, .val (.long ((p1 * p1) - p2)), .second, .val (.long (p1 - (1 : Int64))), .second]) rfl kont) ?_
  show Goes p e below _ T0 (mkF m 12 #[.val (.long p1), .second, .val (.long p2), .second, .val (.long ((p1 * p1) - p2)), .second, .val (.long (p1 - (1 : Int64))), .second] [])
  refine Goes.of (X0.ldc2Long hx hown (mvT hZ (hw _ (List.mem_of_getElem? (i := 12) rfl))) (g := (mkF m 12 #[.val (.long p1), .second, .val (.long p2), .second, .val (.long ((p1 * p1) - p2)), .second, .val (.long (p1 - (1 : Int64))), .second] [])) rfl (Jvm.hb hby d4_12)) ?_
  show Goes p e below _ T0 (mkF m 15 #[.val (.long p1), .second, .val (.long p2), .second, .val (.long ((p1 * p1) - p2)), .second, .val (.long (p1 - (1 : Int64))), .second] [(.long (100 : Int64))])
  refine Goes.of (fun _ kont => XT.lload X0.here hx rfl (Jvm.hb hby d4_15) rfl kont) ?_
  show Goes p e below _ T0 (mkF m 17 #[.val (.long p1), .second, .val (.long p2), .second, .val (.long ((p1 * p1) - p2)), .second, .val (.long (p1 - (1 : Int64))), .second] [(.long ((p1 * p1) - p2)), (.long (100 : Int64))])
  refine Goes.of (fun _ kont => XT.lmul X0.here hx rfl (Jvm.hb hby d4_17) rfl kont) ?_
  show Goes p e below _ T0 (mkF m 18 #[.val (.long p1), .second, .val (.long p2), .second, .val (.long ((p1 * p1) - p2)), .second, .val (.long (p1 - (1 : Int64))), .second] [(.long ((100 : Int64) * ((p1 * p1) - p2)))])
  refine Goes.of (fun _ kont => XT.lload X0.here hx rfl (Jvm.hb hby d4_18) rfl kont) ?_
  show Goes p e below _ T0 (mkF m 20 #[.val (.long p1), .second, .val (.long p2), .second, .val (.long ((p1 * p1) - p2)), .second, .val (.long (p1 - (1 : Int64))), .second] [(.long ((p1 * p1) - p2)), (.long ((100 : Int64) * ((p1 * p1) - p2)))])
  refine Goes.of (fun _ kont => XT.lmul X0.here hx rfl (Jvm.hb hby d4_20) rfl kont) ?_
  show Goes p e below _ T0 (mkF m 21 #[.val (.long p1), .second, .val (.long p2), .second, .val (.long ((p1 * p1) - p2)), .second, .val (.long (p1 - (1 : Int64))), .second] [(.long (((100 : Int64) * ((p1 * p1) - p2)) * ((p1 * p1) - p2)))])
  refine Goes.of (fun _ kont => XT.lload X0.here hx rfl (Jvm.hb hby d4_21) rfl kont) ?_
  show Goes p e below _ T0 (mkF m 23 #[.val (.long p1), .second, .val (.long p2), .second, .val (.long ((p1 * p1) - p2)), .second, .val (.long (p1 - (1 : Int64))), .second] [(.long (p1 - (1 : Int64))), (.long (((100 : Int64) * ((p1 * p1) - p2)) * ((p1 * p1) - p2)))])
  refine Goes.of (fun _ kont => XT.lload X0.here hx rfl (Jvm.hb hby d4_23) rfl kont) ?_
  show Goes p e below _ T0 (mkF m 25 #[.val (.long p1), .second, .val (.long p2), .second, .val (.long ((p1 * p1) - p2)), .second, .val (.long (p1 - (1 : Int64))), .second] [(.long (p1 - (1 : Int64))), (.long (p1 - (1 : Int64))), (.long (((100 : Int64) * ((p1 * p1) - p2)) * ((p1 * p1) - p2)))])
  refine Goes.of (fun _ kont => XT.lmul X0.here hx rfl (Jvm.hb hby d4_25) rfl kont) ?_
  show Goes p e below _ T0 (mkF m 26 #[.val (.long p1), .second, .val (.long p2), .second, .val (.long ((p1 * p1) - p2)), .second, .val (.long (p1 - (1 : Int64))), .second] [(.long ((p1 - (1 : Int64)) * (p1 - (1 : Int64)))), (.long (((100 : Int64) * ((p1 * p1) - p2)) * ((p1 * p1) - p2)))])
  refine Goes.of (fun _ kont => XT.ladd X0.here hx rfl (Jvm.hb hby d4_26) rfl kont) ?_
  show Goes p e below _ T0 (mkF m 27 #[.val (.long p1), .second, .val (.long p2), .second, .val (.long ((p1 * p1) - p2)), .second, .val (.long (p1 - (1 : Int64))), .second] [(.long ((((100 : Int64) * ((p1 * p1) - p2)) * ((p1 * p1) - p2)) + ((p1 - (1 : Int64)) * (p1 - (1 : Int64)))))])
  exact retJ X0 hx hlk hret (Jvm.hb hby d4_27) (by decide) (by decide) ⟨⟨_, rfl, own_term b1 b2 rfl⟩, N0, e0⟩
theorem ef_1 (m : MethodId) (x0 : Addr) (x1 : Addr) : entryFrame m #[(.ref x0), (.ref x1)] 11 = mkF m 0 #[.val (.ref x0), .val (.ref x1), .unset, .unset, .unset, .unset, .unset, .unset, .unset, .unset, .unset] [] := by first | (simp [entryFrame, mkF, argsToLocals, Value.category]; done) | rfl
theorem pn_1_2 : plainFor (⟨"com/example/memechain/memechain/benchmark/Functions", "shiftedRosenbrock", "([D[D)D"⟩ : MethodName) = true := plainFor_of_name (by first | (simp [plainName, overriddenIn]; done) | decide +kernel)
set_option maxRecDepth 65536 in
set_option maxHeartbeats 40000000 in
theorem rm1_2 (l : Launch) (Z : State) (a0 : Array Value) (hw : ∀ d ∈ tables_1, d.before a0 Z = true) (aX : Addr) (aY : Addr) (x0 y0 : UInt64) (a0 b0 : Int) (x1 y1 : UInt64) (a1 b1 : Int) (h0 : Heap) (n0 : Nat) (Z0 : n0 ≤ h0.size) (VX : DA Z h0 aX [x0, x1]) (VY : DA Z h0 aY [y0, y1]) (X0d : Dy a0 0 x0) (Y0d : Dy b0 0 y0) (X0b : -1024 ≤ a0 ∧ a0 ≤ 1023) (Y0b : -1024 ≤ b0 ∧ b0 ≤ 1023) (X1d : Dy a1 0 x1) (Y1d : Dy b1 0 y1) (X1b : -1024 ≤ a1 ∧ a1 ≤ 1023) (Y1b : -1024 ≤ b1 ∧ b1 ≤ 1023) :
    Ct l (⟨"com/example/memechain/memechain/benchmark/Functions", "shiftedRosenbrock", "([D[D)D"⟩ : MethodName) prog_26_method_14_code 11 (some .double) ({ frames := 0, cells := 0, slots := 0, locals := 0 } : Room) Z [(.ref aX), (.ref aY)] h0 (fun v h L => (∃ z, v = some (.double z) ∧ Dy (tm (a0 - b0) (a1 - b1)) 0 z) ∧ Fr n0 L ∧ h = h0) := by
  refine met pn_1_2 ?_
  intro p e s m below meth c T0 hx hby hml hown hret hlk hnm hZ X0 e0
  have N0 := Fr.nil n0
  have hown : s.vm.findClass "com/example/memechain/memechain/benchmark/Functions" = some m.cls := hown
  refine Goes.cast (ef_1 m aX aY) ?_
  show Goes p e below _ T0 (mkF m 0 #[.val (.ref aX), .val (.ref aY), .unset, .unset, .unset, .unset, .unset, .unset, .unset, .unset, .unset] [])
  have Dz0 := dy_zero 0
  refine Goes.of (fun _ kont => XS.dconst0 X0.here hx rfl (Jvm.hb hby d1_0) rfl kont) ?_
  show Goes p e below _ T0 (mkF m 1 #[.val (.ref aX), .val (.ref aY), .unset, .unset, .unset, .unset, .unset, .unset, .unset, .unset, .unset] [(.double FP.dconst0)])
  refine Goes.of (fun _ kont => XS.dstoreN X0.here hx rfl (Jvm.hb hby d1_1) rfl (l' := #[.val (.ref aX), .val (.ref aY), .val (.double FP.dconst0), .second, .unset, .unset, .unset, .unset, .unset, .unset, .unset]) rfl kont) ?_
  show Goes p e below _ T0 (mkF m 2 #[.val (.ref aX), .val (.ref aY), .val (.double FP.dconst0), .second, .unset, .unset, .unset, .unset, .unset, .unset, .unset] [])
  refine Goes.of (fun _ kont => XS.aloadN X0.here hx rfl (Jvm.hb hby d1_2) rfl rfl kont) ?_
  show Goes p e below _ T0 (mkF m 3 #[.val (.ref aX), .val (.ref aY), .val (.double FP.dconst0), .second, .unset, .unset, .unset, .unset, .unset, .unset, .unset] [(.ref aX)])
  refine Goes.of (fun _ kont => XS.iconst X0.here hx rfl (Jvm.hb hby d1_3) kont) ?_
  show Goes p e below _ T0 (mkF m 4 #[.val (.ref aX), .val (.ref aY), .val (.double FP.dconst0), .second, .unset, .unset, .unset, .unset, .unset, .unset, .unset] [(.int (0 : Int32)), (.ref aX)])
  refine goLdD X0 hx hZ e0 VX 0 (by decide) (w := x0) rfl (g := (mkF m 4 #[.val (.ref aX), .val (.ref aY), .val (.double FP.dconst0), .second, .unset, .unset, .unset, .unset, .unset, .unset, .unset] [(.int (0 : Int32)), (.ref aX)])) rfl rfl (Jvm.hb hby d1_4) ?_
  show Goes p e below _ T0 (mkF m 5 #[.val (.ref aX), .val (.ref aY), .val (.double FP.dconst0), .second, .unset, .unset, .unset, .unset, .unset, .unset, .unset] [(.double x0)])
  refine Goes.of (fun _ kont => XS.aloadN X0.here hx rfl (Jvm.hb hby d1_5) rfl rfl kont) ?_
  show Goes p e below _ T0 (mkF m 6 #[.val (.ref aX), .val (.ref aY), .val (.double FP.dconst0), .second, .unset, .unset, .unset, .unset, .unset, .unset, .unset] [(.ref aY), (.double x0)])
  refine Goes.of (fun _ kont => XS.iconst X0.here hx rfl (Jvm.hb hby d1_6) kont) ?_
  show Goes p e below _ T0 (mkF m 7 #[.val (.ref aX), .val (.ref aY), .val (.double FP.dconst0), .second, .unset, .unset, .unset, .unset, .unset, .unset, .unset] [(.int (0 : Int32)), (.ref aY), (.double x0)])
  refine goLdD X0 hx hZ e0 VY 0 (by decide) (w := y0) rfl (g := (mkF m 7 #[.val (.ref aX), .val (.ref aY), .val (.double FP.dconst0), .second, .unset, .unset, .unset, .unset, .unset, .unset, .unset] [(.int (0 : Int32)), (.ref aY), (.double x0)])) rfl rfl (Jvm.hb hby d1_7) ?_
  show Goes p e below _ T0 (mkF m 8 #[.val (.ref aX), .val (.ref aY), .val (.double FP.dconst0), .second, .unset, .unset, .unset, .unset, .unset, .unset, .unset] [(.double y0), (.double x0)])
  have Dd0 := own_sub X0d Y0d (by omega)
  refine Goes.of (fun _ kont => XS.dsubS X0.here hx rfl (Jvm.hb hby d1_8) rfl Dd0.noNaN rfl kont) ?_
  show Goes p e below _ T0 (mkF m 9 #[.val (.ref aX), .val (.ref aY), .val (.double FP.dconst0), .second, .unset, .unset, .unset, .unset, .unset, .unset, .unset] [(.double (FP.dsub x0 y0))])
  generalize hd0 : (FP.dsub x0 y0) = d0
  show Goes p e below _ T0 (mkF m 9 #[.val (.ref aX), .val (.ref aY), .val (.double FP.dconst0), .second, .unset, .unset, .unset, .unset, .unset, .unset, .unset] [(.double d0)])
  rw [hd0] at Dd0
  refine Goes.of (fun _ kont => XS.dstore X0.here hx rfl (Jvm.hb hby d1_9) rfl (l' := #[.val (.ref aX), .val (.ref aY), .val (.double FP.dconst0), .second, .val (.double d0), .second, .unset, .unset, .unset, .unset, .unset]) rfl kont) ?_
  show Goes p e below _ T0 (mkF m 11 #[.val (.ref aX), .val (.ref aY), .val (.double FP.dconst0), .second, .val (.double d0), .second, .unset, .unset, .unset, .unset, .unset] [])
  refine Goes.of (fun _ kont => XS.iconst X0.here hx rfl (Jvm.hb hby d1_11) kont) ?_
  show Goes p e below _ T0 (mkF m 12 #[.val (.ref aX), .val (.ref aY), .val (.double FP.dconst0), .second, .val (.double d0), .second, .unset, .unset, .unset, .unset, .unset] [(.int (0 : Int32))])
  refine Goes.of (fun _ kont => XS.istore X0.here hx rfl (Jvm.hb hby d1_12) rfl (l' := #[.val (.ref aX), .val (.ref aY), .val (.double FP.dconst0), .second, .val (.double d0), .second, .val (.int (0 : Int32)), .unset, .unset, .unset, .unset]) rfl kont) ?_
  show Goes p e below _ T0 (mkF m 14 #[.val (.ref aX), .val (.ref aY), .val (.double FP.dconst0), .second, .val (.double d0), .second, .val (.int (0 : Int32)), .unset, .unset, .unset, .unset] [])
  refine Goes.of (fun _ kont => XS.iload X0.here hx rfl (Jvm.hb hby d1_14) rfl kont) ?_
  show Goes p e below _ T0 (mkF m 16 #[.val (.ref aX), .val (.ref aY), .val (.double FP.dconst0), .second, .val (.double d0), .second, .val (.int (0 : Int32)), .unset, .unset, .unset, .unset] [(.int (0 : Int32))])
  refine Goes.of (fun _ kont => XS.iconst X0.here hx rfl (Jvm.hb hby d1_16) kont) ?_
  show Goes p e below _ T0 (mkF m 17 #[.val (.ref aX), .val (.ref aY), .val (.double FP.dconst0), .second, .val (.double d0), .second, .val (.int (0 : Int32)), .unset, .unset, .unset, .unset] [(.int (1 : Int32)), (.int (0 : Int32))])
  refine Goes.of (fun _ kont => XS.iadd X0.here hx rfl (Jvm.hb hby d1_17) rfl kont) ?_
  show Goes p e below _ T0 (mkF m 18 #[.val (.ref aX), .val (.ref aY), .val (.double FP.dconst0), .second, .val (.double d0), .second, .val (.int (0 : Int32)), .unset, .unset, .unset, .unset] [(.int ((0 : Int32) + (1 : Int32)))])
  show Goes p e below _ T0 (mkF m 18 #[.val (.ref aX), .val (.ref aY), .val (.double FP.dconst0), .second, .val (.double d0), .second, .val (.int (0 : Int32)), .unset, .unset, .unset, .unset] [(.int (1 : Int32))])
  refine Goes.of (fun _ kont => XS.aloadN X0.here hx rfl (Jvm.hb hby d1_18) rfl rfl kont) ?_
  show Goes p e below _ T0 (mkF m 19 #[.val (.ref aX), .val (.ref aY), .val (.double FP.dconst0), .second, .val (.double d0), .second, .val (.int (0 : Int32)), .unset, .unset, .unset, .unset] [(.ref aX), (.int (1 : Int32))])
  refine goLen X0 hx hZ e0 VX (n := 2) (by show Int32.toInt 2 = ((2 : Nat) : Int); decide) (g := (mkF m 19 #[.val (.ref aX), .val (.ref aY), .val (.double FP.dconst0), .second, .val (.double d0), .second, .val (.int (0 : Int32)), .unset, .unset, .unset, .unset] [(.ref aX), (.int (1 : Int32))])) rfl rfl (Jvm.hb hby d1_19) ?_
  show Goes p e below _ T0 (mkF m 20 #[.val (.ref aX), .val (.ref aY), .val (.double FP.dconst0), .second, .val (.double d0), .second, .val (.int (0 : Int32)), .unset, .unset, .unset, .unset] [(.int (2 : Int32)), (.int (1 : Int32))])
  refine Goes.of (fun _ kont => XS.icmpNo X0.here hx rfl (Jvm.hb hby d1_20) rfl (by decide) kont) ?_
  show Goes p e below _ T0 (mkF m 23 #[.val (.ref aX), .val (.ref aY), .val (.double FP.dconst0), .second, .val (.double d0), .second, .val (.int (0 : Int32)), .unset, .unset, .unset, .unset] [])
  refine Goes.of (fun _ kont => XS.aloadN X0.here hx rfl (Jvm.hb hby d1_23) rfl rfl kont) ?_
  show Goes p e below _ T0 (mkF m 24 #[.val (.ref aX), .val (.ref aY), .val (.double FP.dconst0), .second, .val (.double d0), .second, .val (.int (0 : Int32)), .unset, .unset, .unset, .unset] [(.ref aX)])
  refine Goes.of (fun _ kont => XS.iload X0.here hx rfl (Jvm.hb hby d1_24) rfl kont) ?_
  show Goes p e below _ T0 (mkF m 26 #[.val (.ref aX), .val (.ref aY), .val (.double FP.dconst0), .second, .val (.double d0), .second, .val (.int (0 : Int32)), .unset, .unset, .unset, .unset] [(.int (0 : Int32)), (.ref aX)])
  refine Goes.of (fun _ kont => XS.iconst X0.here hx rfl (Jvm.hb hby d1_26) kont) ?_
  show Goes p e below _ T0 (mkF m 27 #[.val (.ref aX), .val (.ref aY), .val (.double FP.dconst0), .second, .val (.double d0), .second, .val (.int (0 : Int32)), .unset, .unset, .unset, .unset] [(.int (1 : Int32)), (.int (0 : Int32)), (.ref aX)])
  refine Goes.of (fun _ kont => XS.iadd X0.here hx rfl (Jvm.hb hby d1_27) rfl kont) ?_
  show Goes p e below _ T0 (mkF m 28 #[.val (.ref aX), .val (.ref aY), .val (.double FP.dconst0), .second, .val (.double d0), .second, .val (.int (0 : Int32)), .unset, .unset, .unset, .unset] [(.int ((0 : Int32) + (1 : Int32))), (.ref aX)])
  show Goes p e below _ T0 (mkF m 28 #[.val (.ref aX), .val (.ref aY), .val (.double FP.dconst0), .second, .val (.double d0), .second, .val (.int (0 : Int32)), .unset, .unset, .unset, .unset] [(.int (1 : Int32)), (.ref aX)])
  refine goLdD X0 hx hZ e0 VX 1 (by decide) (w := x1) rfl (g := (mkF m 28 #[.val (.ref aX), .val (.ref aY), .val (.double FP.dconst0), .second, .val (.double d0), .second, .val (.int (0 : Int32)), .unset, .unset, .unset, .unset] [(.int (1 : Int32)), (.ref aX)])) rfl rfl (Jvm.hb hby d1_28) ?_
  show Goes p e below _ T0 (mkF m 29 #[.val (.ref aX), .val (.ref aY), .val (.double FP.dconst0), .second, .val (.double d0), .second, .val (.int (0 : Int32)), .unset, .unset, .unset, .unset] [(.double x1)])
  refine Goes.of (fun _ kont => XS.aloadN X0.here hx rfl (Jvm.hb hby d1_29) rfl rfl kont) ?_
  show Goes p e below _ T0 (mkF m 30 #[.val (.ref aX), .val (.ref aY), .val (.double FP.dconst0), .second, .val (.double d0), .second, .val (.int (0 : Int32)), .unset, .unset, .unset, .unset] [(.ref aY), (.double x1)])
  refine Goes.of (fun _ kont => XS.iload X0.here hx rfl (Jvm.hb hby d1_30) rfl kont) ?_
  show Goes p e below _ T0 (mkF m 32 #[.val (.ref aX), .val (.ref aY), .val (.double FP.dconst0), .second, .val (.double d0), .second, .val (.int (0 : Int32)), .unset, .unset, .unset, .unset] [(.int (0 : Int32)), (.ref aY), (.double x1)])
  refine Goes.of (fun _ kont => XS.iconst X0.here hx rfl (Jvm.hb hby d1_32) kont) ?_
  show Goes p e below _ T0 (mkF m 33 #[.val (.ref aX), .val (.ref aY), .val (.double FP.dconst0), .second, .val (.double d0), .second, .val (.int (0 : Int32)), .unset, .unset, .unset, .unset] [(.int (1 : Int32)), (.int (0 : Int32)), (.ref aY), (.double x1)])
  refine Goes.of (fun _ kont => XS.iadd X0.here hx rfl (Jvm.hb hby d1_33) rfl kont) ?_
  show Goes p e below _ T0 (mkF m 34 #[.val (.ref aX), .val (.ref aY), .val (.double FP.dconst0), .second, .val (.double d0), .second, .val (.int (0 : Int32)), .unset, .unset, .unset, .unset] [(.int ((0 : Int32) + (1 : Int32))), (.ref aY), (.double x1)])
  show Goes p e below _ T0 (mkF m 34 #[.val (.ref aX), .val (.ref aY), .val (.double FP.dconst0), .second, .val (.double d0), .second, .val (.int (0 : Int32)), .unset, .unset, .unset, .unset] [(.int (1 : Int32)), (.ref aY), (.double x1)])
  refine goLdD X0 hx hZ e0 VY 1 (by decide) (w := y1) rfl (g := (mkF m 34 #[.val (.ref aX), .val (.ref aY), .val (.double FP.dconst0), .second, .val (.double d0), .second, .val (.int (0 : Int32)), .unset, .unset, .unset, .unset] [(.int (1 : Int32)), (.ref aY), (.double x1)])) rfl rfl (Jvm.hb hby d1_34) ?_
  show Goes p e below _ T0 (mkF m 35 #[.val (.ref aX), .val (.ref aY), .val (.double FP.dconst0), .second, .val (.double d0), .second, .val (.int (0 : Int32)), .unset, .unset, .unset, .unset] [(.double y1), (.double x1)])
  have Dd1 := own_sub X1d Y1d (by omega)
  refine Goes.of (fun _ kont => XS.dsubS X0.here hx rfl (Jvm.hb hby d1_35) rfl Dd1.noNaN rfl kont) ?_
  show Goes p e below _ T0 (mkF m 36 #[.val (.ref aX), .val (.ref aY), .val (.double FP.dconst0), .second, .val (.double d0), .second, .val (.int (0 : Int32)), .unset, .unset, .unset, .unset] [(.double (FP.dsub x1 y1))])
  generalize hd1 : (FP.dsub x1 y1) = d1
  show Goes p e below _ T0 (mkF m 36 #[.val (.ref aX), .val (.ref aY), .val (.double FP.dconst0), .second, .val (.double d0), .second, .val (.int (0 : Int32)), .unset, .unset, .unset, .unset] [(.double d1)])
  rw [hd1] at Dd1
  obtain ⟨t01, t02, t03, t04, t05⟩ := tm_b (d := (a0 - b0)) (n := (a1 - b1)) (by omega) (by omega)
  refine Goes.of (fun _ kont => XS.dstore X0.here hx rfl (Jvm.hb hby d1_36) rfl (l' := #[.val (.ref aX), .val (.ref aY), .val (.double FP.dconst0), .second, .val (.double d0), .second, .val (.int (0 : Int32)), .val (.double d1), .second, .unset, .unset]) rfl kont) ?_
  show Goes p e below _ T0 (mkF m 38 #[.val (.ref aX), .val (.ref aY), .val (.double FP.dconst0), .second, .val (.double d0), .second, .val (.int (0 : Int32)), .val (.double d1), .second, .unset, .unset] [])
  refine Goes.of (fun _ kont => XS.dload X0.here hx rfl (Jvm.hb hby d1_38) rfl kont) ?_
  show Goes p e below _ T0 (mkF m 40 #[.val (.ref aX), .val (.ref aY), .val (.double FP.dconst0), .second, .val (.double d0), .second, .val (.int (0 : Int32)), .val (.double d1), .second, .unset, .unset] [(.double d0)])
  refine Goes.of (fun _ kont => XS.dload X0.here hx rfl (Jvm.hb hby d1_40) rfl kont) ?_
  show Goes p e below _ T0 (mkF m 42 #[.val (.ref aX), .val (.ref aY), .val (.double FP.dconst0), .second, .val (.double d0), .second, .val (.int (0 : Int32)), .val (.double d1), .second, .unset, .unset] [(.double d0), (.double d0)])
  have Ds0 := own_mul Dd0 Dd0 (by omega)
  refine Goes.of (fun _ kont => XS.dmulS X0.here hx rfl (Jvm.hb hby d1_42) rfl Ds0.noNaN rfl kont) ?_
  show Goes p e below _ T0 (mkF m 43 #[.val (.ref aX), .val (.ref aY), .val (.double FP.dconst0), .second, .val (.double d0), .second, .val (.int (0 : Int32)), .val (.double d1), .second, .unset, .unset] [(.double (FP.dmul d0 d0))])
  generalize hs0 : (FP.dmul d0 d0) = s0
  show Goes p e below _ T0 (mkF m 43 #[.val (.ref aX), .val (.ref aY), .val (.double FP.dconst0), .second, .val (.double d0), .second, .val (.int (0 : Int32)), .val (.double d1), .second, .unset, .unset] [(.double s0)])
  rw [hs0] at Ds0
  refine Goes.of (X0.ldc2DoubleC hx hown (mvT hZ (hw _ (List.mem_of_getElem? (i := 17) rfl))) (g := (mkF m 43 #[.val (.ref aX), .val (.ref aY), .val (.double FP.dconst0), .second, .val (.double d0), .second, .val (.int (0 : Int32)), .val (.double d1), .second, .unset, .unset] [(.double s0)])) rfl (Jvm.hb hby d1_43)) ?_
  show Goes p e below _ T0 (mkF m 46 #[.val (.ref aX), .val (.ref aY), .val (.double FP.dconst0), .second, .val (.double d0), .second, .val (.int (0 : Int32)), .val (.double d1), .second, .unset, .unset] [(.double (4611686018427387904 : UInt64)), (.double s0)])
  refine Goes.of (fun _ kont => XS.dload X0.here hx rfl (Jvm.hb hby d1_46) rfl kont) ?_
  show Goes p e below _ T0 (mkF m 48 #[.val (.ref aX), .val (.ref aY), .val (.double FP.dconst0), .second, .val (.double d0), .second, .val (.int (0 : Int32)), .val (.double d1), .second, .unset, .unset] [(.double d0), (.double (4611686018427387904 : UInt64)), (.double s0)])
  have Dw0 := own_mul own_2 Dd0 (by omega)
  refine Goes.of (fun _ kont => XS.dmulS X0.here hx rfl (Jvm.hb hby d1_48) rfl Dw0.noNaN rfl kont) ?_
  show Goes p e below _ T0 (mkF m 49 #[.val (.ref aX), .val (.ref aY), .val (.double FP.dconst0), .second, .val (.double d0), .second, .val (.int (0 : Int32)), .val (.double d1), .second, .unset, .unset] [(.double (FP.dmul (4611686018427387904 : UInt64) d0)), (.double s0)])
  generalize hw0 : (FP.dmul (4611686018427387904 : UInt64) d0) = w0
  show Goes p e below _ T0 (mkF m 49 #[.val (.ref aX), .val (.ref aY), .val (.double FP.dconst0), .second, .val (.double d0), .second, .val (.int (0 : Int32)), .val (.double d1), .second, .unset, .unset] [(.double w0), (.double s0)])
  rw [hw0] at Dw0
  have Dv0 := own_add Ds0 Dw0 (by omega)
  refine Goes.of (fun _ kont => XS.daddS X0.here hx rfl (Jvm.hb hby d1_49) rfl Dv0.noNaN rfl kont) ?_
  show Goes p e below _ T0 (mkF m 50 #[.val (.ref aX), .val (.ref aY), .val (.double FP.dconst0), .second, .val (.double d0), .second, .val (.int (0 : Int32)), .val (.double d1), .second, .unset, .unset] [(.double (FP.dadd s0 w0))])
  generalize hv0 : (FP.dadd s0 w0) = v0
  show Goes p e below _ T0 (mkF m 50 #[.val (.ref aX), .val (.ref aY), .val (.double FP.dconst0), .second, .val (.double d0), .second, .val (.int (0 : Int32)), .val (.double d1), .second, .unset, .unset] [(.double v0)])
  rw [hv0] at Dv0
  refine Goes.of (fun _ kont => XS.dload X0.here hx rfl (Jvm.hb hby d1_50) rfl kont) ?_
  show Goes p e below _ T0 (mkF m 52 #[.val (.ref aX), .val (.ref aY), .val (.double FP.dconst0), .second, .val (.double d0), .second, .val (.int (0 : Int32)), .val (.double d1), .second, .unset, .unset] [(.double d1), (.double v0)])
  have Dt0 := own_sub Dv0 Dd1 (by omega)
  refine Goes.of (fun _ kont => XS.dsubS X0.here hx rfl (Jvm.hb hby d1_52) rfl Dt0.noNaN rfl kont) ?_
  show Goes p e below _ T0 (mkF m 53 #[.val (.ref aX), .val (.ref aY), .val (.double FP.dconst0), .second, .val (.double d0), .second, .val (.int (0 : Int32)), .val (.double d1), .second, .unset, .unset] [(.double (FP.dsub v0 d1))])
  generalize ht0 : (FP.dsub v0 d1) = t0
  show Goes p e below _ T0 (mkF m 53 #[.val (.ref aX), .val (.ref aY), .val (.double FP.dconst0), .second, .val (.double d0), .second, .val (.int (0 : Int32)), .val (.double d1), .second, .unset, .unset] [(.double t0)])
  rw [ht0] at Dt0
  refine Goes.of (fun _ kont => XS.dstore X0.here hx rfl (Jvm.hb hby d1_53) rfl (l' := #[.val (.ref aX), .val (.ref aY), .val (.double FP.dconst0), .second, .val (.double d0), .second, .val (.int (0 : Int32)), .val (.double d1), .second, .val (.double t0), .second]) rfl kont) ?_
  show Goes p e below _ T0 (mkF m 55 #[.val (.ref aX), .val (.ref aY), .val (.double FP.dconst0), .second, .val (.double d0), .second, .val (.int (0 : Int32)), .val (.double d1), .second, .val (.double t0), .second] [])
  refine Goes.of (fun _ kont => XS.dloadN X0.here hx rfl (Jvm.hb hby d1_55) rfl kont) ?_
  show Goes p e below _ T0 (mkF m 56 #[.val (.ref aX), .val (.ref aY), .val (.double FP.dconst0), .second, .val (.double d0), .second, .val (.int (0 : Int32)), .val (.double d1), .second, .val (.double t0), .second] [(.double FP.dconst0)])
  refine Goes.of (X0.ldc2DoubleC hx hown (mvT hZ (hw _ (List.mem_of_getElem? (i := 18) rfl))) (g := (mkF m 56 #[.val (.ref aX), .val (.ref aY), .val (.double FP.dconst0), .second, .val (.double d0), .second, .val (.int (0 : Int32)), .val (.double d1), .second, .val (.double t0), .second] [(.double FP.dconst0)])) rfl (Jvm.hb hby d1_56)) ?_
  show Goes p e below _ T0 (mkF m 59 #[.val (.ref aX), .val (.ref aY), .val (.double FP.dconst0), .second, .val (.double d0), .second, .val (.int (0 : Int32)), .val (.double d1), .second, .val (.double t0), .second] [(.double (4636737291354636288 : UInt64)), (.double FP.dconst0)])
  refine Goes.of (fun _ kont => XS.dload X0.here hx rfl (Jvm.hb hby d1_59) rfl kont) ?_
  show Goes p e below _ T0 (mkF m 61 #[.val (.ref aX), .val (.ref aY), .val (.double FP.dconst0), .second, .val (.double d0), .second, .val (.int (0 : Int32)), .val (.double d1), .second, .val (.double t0), .second] [(.double t0), (.double (4636737291354636288 : UInt64)), (.double FP.dconst0)])
  have Dh0 := own_mul own_100 Dt0 (by omega)
  refine Goes.of (fun _ kont => XS.dmulS X0.here hx rfl (Jvm.hb hby d1_61) rfl Dh0.noNaN rfl kont) ?_
  show Goes p e below _ T0 (mkF m 62 #[.val (.ref aX), .val (.ref aY), .val (.double FP.dconst0), .second, .val (.double d0), .second, .val (.int (0 : Int32)), .val (.double d1), .second, .val (.double t0), .second] [(.double (FP.dmul (4636737291354636288 : UInt64) t0)), (.double FP.dconst0)])
  generalize hh0 : (FP.dmul (4636737291354636288 : UInt64) t0) = h0
  show Goes p e below _ T0 (mkF m 62 #[.val (.ref aX), .val (.ref aY), .val (.double FP.dconst0), .second, .val (.double d0), .second, .val (.int (0 : Int32)), .val (.double d1), .second, .val (.double t0), .second] [(.double h0), (.double FP.dconst0)])
  rw [hh0] at Dh0
  refine Goes.of (fun _ kont => XS.dload X0.here hx rfl (Jvm.hb hby d1_62) rfl kont) ?_
  show Goes p e below _ T0 (mkF m 64 #[.val (.ref aX), .val (.ref aY), .val (.double FP.dconst0), .second, .val (.double d0), .second, .val (.int (0 : Int32)), .val (.double d1), .second, .val (.double t0), .second] [(.double t0), (.double h0), (.double FP.dconst0)])
  have Dk0 := own_mul Dh0 Dt0 (by omega)
  refine Goes.of (fun _ kont => XS.dmulS X0.here hx rfl (Jvm.hb hby d1_64) rfl Dk0.noNaN rfl kont) ?_
  show Goes p e below _ T0 (mkF m 65 #[.val (.ref aX), .val (.ref aY), .val (.double FP.dconst0), .second, .val (.double d0), .second, .val (.int (0 : Int32)), .val (.double d1), .second, .val (.double t0), .second] [(.double (FP.dmul h0 t0)), (.double FP.dconst0)])
  generalize hk0 : (FP.dmul h0 t0) = k0
  show Goes p e below _ T0 (mkF m 65 #[.val (.ref aX), .val (.ref aY), .val (.double FP.dconst0), .second, .val (.double d0), .second, .val (.int (0 : Int32)), .val (.double d1), .second, .val (.double t0), .second] [(.double k0), (.double FP.dconst0)])
  rw [hk0] at Dk0
  refine Goes.of (fun _ kont => XS.dload X0.here hx rfl (Jvm.hb hby d1_65) rfl kont) ?_
  show Goes p e below _ T0 (mkF m 67 #[.val (.ref aX), .val (.ref aY), .val (.double FP.dconst0), .second, .val (.double d0), .second, .val (.int (0 : Int32)), .val (.double d1), .second, .val (.double t0), .second] [(.double d0), (.double k0), (.double FP.dconst0)])
  refine Goes.of (fun _ kont => XS.dload X0.here hx rfl (Jvm.hb hby d1_67) rfl kont) ?_
  show Goes p e below _ T0 (mkF m 69 #[.val (.ref aX), .val (.ref aY), .val (.double FP.dconst0), .second, .val (.double d0), .second, .val (.int (0 : Int32)), .val (.double d1), .second, .val (.double t0), .second] [(.double d0), (.double d0), (.double k0), (.double FP.dconst0)])
  have Dr0 := Ds0
  rw [← hs0] at Dr0
  refine Goes.of (fun _ kont => XS.dmulS X0.here hx rfl (Jvm.hb hby d1_69) rfl Dr0.noNaN rfl kont) ?_
  show Goes p e below _ T0 (mkF m 70 #[.val (.ref aX), .val (.ref aY), .val (.double FP.dconst0), .second, .val (.double d0), .second, .val (.int (0 : Int32)), .val (.double d1), .second, .val (.double t0), .second] [(.double (FP.dmul d0 d0)), (.double k0), (.double FP.dconst0)])
  generalize hr0 : (FP.dmul d0 d0) = r0
  show Goes p e below _ T0 (mkF m 70 #[.val (.ref aX), .val (.ref aY), .val (.double FP.dconst0), .second, .val (.double d0), .second, .val (.int (0 : Int32)), .val (.double d1), .second, .val (.double t0), .second] [(.double r0), (.double k0), (.double FP.dconst0)])
  rw [hr0] at Dr0
  have Dm0 := own_add Dk0 Dr0 (by unfold tm at t05; omega)
  refine Goes.of (fun _ kont => XS.daddS X0.here hx rfl (Jvm.hb hby d1_70) rfl Dm0.noNaN rfl kont) ?_
  show Goes p e below _ T0 (mkF m 71 #[.val (.ref aX), .val (.ref aY), .val (.double FP.dconst0), .second, .val (.double d0), .second, .val (.int (0 : Int32)), .val (.double d1), .second, .val (.double t0), .second] [(.double (FP.dadd k0 r0)), (.double FP.dconst0)])
  generalize hm0 : (FP.dadd k0 r0) = m0
  show Goes p e below _ T0 (mkF m 71 #[.val (.ref aX), .val (.ref aY), .val (.double FP.dconst0), .second, .val (.double d0), .second, .val (.int (0 : Int32)), .val (.double d1), .second, .val (.double t0), .second] [(.double m0), (.double FP.dconst0)])
  rw [hm0] at Dm0
  change Dy (tm (a0 - b0) (a1 - b1)) 0 m0 at Dm0
  have Dz1 := own_add Dz0 Dm0 (by omega)
  refine Goes.of (fun _ kont => XS.daddS X0.here hx rfl (Jvm.hb hby d1_71) rfl Dz1.noNaN rfl kont) ?_
  show Goes p e below _ T0 (mkF m 72 #[.val (.ref aX), .val (.ref aY), .val (.double FP.dconst0), .second, .val (.double d0), .second, .val (.int (0 : Int32)), .val (.double d1), .second, .val (.double t0), .second] [(.double (FP.dadd FP.dconst0 m0))])
  generalize hz1 : (FP.dadd FP.dconst0 m0) = z1
  show Goes p e below _ T0 (mkF m 72 #[.val (.ref aX), .val (.ref aY), .val (.double FP.dconst0), .second, .val (.double d0), .second, .val (.int (0 : Int32)), .val (.double d1), .second, .val (.double t0), .second] [(.double z1)])
  rw [hz1, Int.zero_add] at Dz1
  refine Goes.of (fun _ kont => XS.dstoreN X0.here hx rfl (Jvm.hb hby d1_72) rfl (l' := #[.val (.ref aX), .val (.ref aY), .val (.double z1), .second, .val (.double d0), .second, .val (.int (0 : Int32)), .val (.double d1), .second, .val (.double t0), .second]) rfl kont) ?_
  show Goes p e below _ T0 (mkF m 73 #[.val (.ref aX), .val (.ref aY), .val (.double z1), .second, .val (.double d0), .second, .val (.int (0 : Int32)), .val (.double d1), .second, .val (.double t0), .second] [])
  refine Goes.of (fun _ kont => XS.dload X0.here hx rfl (Jvm.hb hby d1_73) rfl kont) ?_
  show Goes p e below _ T0 (mkF m 75 #[.val (.ref aX), .val (.ref aY), .val (.double z1), .second, .val (.double d0), .second, .val (.int (0 : Int32)), .val (.double d1), .second, .val (.double t0), .second] [(.double d1)])
  refine Goes.of (fun _ kont => XS.dstore X0.here hx rfl (Jvm.hb hby d1_75) rfl (l' := #[.val (.ref aX), .val (.ref aY), .val (.double z1), .second, .val (.double d1), .second, .val (.int (0 : Int32)), .val (.double d1), .second, .val (.double t0), .second]) rfl kont) ?_
  show Goes p e below _ T0 (mkF m 77 #[.val (.ref aX), .val (.ref aY), .val (.double z1), .second, .val (.double d1), .second, .val (.int (0 : Int32)), .val (.double d1), .second, .val (.double t0), .second] [])
  refine Goes.of (fun _ kont => XS.iinc X0.here hx rfl (Jvm.hb hby d1_77) rfl (l' := #[.val (.ref aX), .val (.ref aY), .val (.double z1), .second, .val (.double d1), .second, .val (.int (1 : Int32)), .val (.double d1), .second, .val (.double t0), .second]) rfl kont) ?_
  show Goes p e below _ T0 (mkF m 80 #[.val (.ref aX), .val (.ref aY), .val (.double z1), .second, .val (.double d1), .second, .val (.int (1 : Int32)), .val (.double d1), .second, .val (.double t0), .second] [])
  refine Goes.of (fun _ kont => XS.goto X0.here hx rfl (pc0 := 80) (pc' := 14) rfl (Jvm.hb hby d1_80) (by decide) (by decide) kont) ?_
  show Goes p e below _ T0 (mkF m 14 #[.val (.ref aX), .val (.ref aY), .val (.double z1), .second, .val (.double d1), .second, .val (.int (1 : Int32)), .val (.double d1), .second, .val (.double t0), .second] [])
  refine Goes.of (fun _ kont => XS.iload X0.here hx rfl (Jvm.hb hby d1_14) rfl kont) ?_
  show Goes p e below _ T0 (mkF m 16 #[.val (.ref aX), .val (.ref aY), .val (.double z1), .second, .val (.double d1), .second, .val (.int (1 : Int32)), .val (.double d1), .second, .val (.double t0), .second] [(.int (1 : Int32))])
  refine Goes.of (fun _ kont => XS.iconst X0.here hx rfl (Jvm.hb hby d1_16) kont) ?_
  show Goes p e below _ T0 (mkF m 17 #[.val (.ref aX), .val (.ref aY), .val (.double z1), .second, .val (.double d1), .second, .val (.int (1 : Int32)), .val (.double d1), .second, .val (.double t0), .second] [(.int (1 : Int32)), (.int (1 : Int32))])
  refine Goes.of (fun _ kont => XS.iadd X0.here hx rfl (Jvm.hb hby d1_17) rfl kont) ?_
  show Goes p e below _ T0 (mkF m 18 #[.val (.ref aX), .val (.ref aY), .val (.double z1), .second, .val (.double d1), .second, .val (.int (1 : Int32)), .val (.double d1), .second, .val (.double t0), .second] [(.int ((1 : Int32) + (1 : Int32)))])
  show Goes p e below _ T0 (mkF m 18 #[.val (.ref aX), .val (.ref aY), .val (.double z1), .second, .val (.double d1), .second, .val (.int (1 : Int32)), .val (.double d1), .second, .val (.double t0), .second] [(.int (2 : Int32))])
  refine Goes.of (fun _ kont => XS.aloadN X0.here hx rfl (Jvm.hb hby d1_18) rfl rfl kont) ?_
  show Goes p e below _ T0 (mkF m 19 #[.val (.ref aX), .val (.ref aY), .val (.double z1), .second, .val (.double d1), .second, .val (.int (1 : Int32)), .val (.double d1), .second, .val (.double t0), .second] [(.ref aX), (.int (2 : Int32))])
  refine goLen X0 hx hZ e0 VX (n := 2) (by show Int32.toInt 2 = ((2 : Nat) : Int); decide) (g := (mkF m 19 #[.val (.ref aX), .val (.ref aY), .val (.double z1), .second, .val (.double d1), .second, .val (.int (1 : Int32)), .val (.double d1), .second, .val (.double t0), .second] [(.ref aX), (.int (2 : Int32))])) rfl rfl (Jvm.hb hby d1_19) ?_
  show Goes p e below _ T0 (mkF m 20 #[.val (.ref aX), .val (.ref aY), .val (.double z1), .second, .val (.double d1), .second, .val (.int (1 : Int32)), .val (.double d1), .second, .val (.double t0), .second] [(.int (2 : Int32)), (.int (2 : Int32))])
  refine Goes.of (fun _ kont => XS.icmpYes X0.here hx rfl (pc0 := 20) (pc' := 83) rfl (Jvm.hb hby d1_20) rfl (by decide) (by decide) (by decide) kont) ?_
  show Goes p e below _ T0 (mkF m 83 #[.val (.ref aX), .val (.ref aY), .val (.double z1), .second, .val (.double d1), .second, .val (.int (1 : Int32)), .val (.double d1), .second, .val (.double t0), .second] [])
  refine Goes.of (fun _ kont => XS.dloadN X0.here hx rfl (Jvm.hb hby d1_83) rfl kont) ?_
  show Goes p e below _ T0 (mkF m 84 #[.val (.ref aX), .val (.ref aY), .val (.double z1), .second, .val (.double d1), .second, .val (.int (1 : Int32)), .val (.double d1), .second, .val (.double t0), .second] [(.double z1)])
  exact retD X0 hx hlk hret (Jvm.hb hby d1_84) (by decide) (by decide) ⟨⟨_, rfl, Dz1⟩, N0, e0⟩
theorem pn_1_3 : plainFor (⟨"com/example/memechain/memechain/benchmark/Functions", "shiftedRosenbrock", "([D[D)D"⟩ : MethodName) = true := plainFor_of_name (by first | (simp [plainName, overriddenIn]; done) | decide +kernel)
set_option maxRecDepth 65536 in
set_option maxHeartbeats 40000000 in
theorem rm1_3 (l : Launch) (Z : State) (a0 : Array Value) (hw : ∀ d ∈ tables_1, d.before a0 Z = true) (aX : Addr) (aY : Addr) (x0 y0 : UInt64) (a0 b0 : Int) (x1 y1 : UInt64) (a1 b1 : Int) (x2 y2 : UInt64) (a2 b2 : Int) (h0 : Heap) (n0 : Nat) (Z0 : n0 ≤ h0.size) (VX : DA Z h0 aX [x0, x1, x2]) (VY : DA Z h0 aY [y0, y1, y2]) (X0d : Dy a0 0 x0) (Y0d : Dy b0 0 y0) (X0b : -1024 ≤ a0 ∧ a0 ≤ 1023) (Y0b : -1024 ≤ b0 ∧ b0 ≤ 1023) (X1d : Dy a1 0 x1) (Y1d : Dy b1 0 y1) (X1b : -1024 ≤ a1 ∧ a1 ≤ 1023) (Y1b : -1024 ≤ b1 ∧ b1 ≤ 1023) (X2d : Dy a2 0 x2) (Y2d : Dy b2 0 y2) (X2b : -1024 ≤ a2 ∧ a2 ≤ 1023) (Y2b : -1024 ≤ b2 ∧ b2 ≤ 1023) :
    Ct l (⟨"com/example/memechain/memechain/benchmark/Functions", "shiftedRosenbrock", "([D[D)D"⟩ : MethodName) prog_26_method_14_code 11 (some .double) ({ frames := 0, cells := 0, slots := 0, locals := 0 } : Room) Z [(.ref aX), (.ref aY)] h0 (fun v h L => (∃ z, v = some (.double z) ∧ Dy (tm (a0 - b0) (a1 - b1) + tm (a1 - b1) (a2 - b2)) 0 z) ∧ Fr n0 L ∧ h = h0) := by
  refine met pn_1_3 ?_
  intro p e s m below meth c T0 hx hby hml hown hret hlk hnm hZ X0 e0
  have N0 := Fr.nil n0
  have hown : s.vm.findClass "com/example/memechain/memechain/benchmark/Functions" = some m.cls := hown
  refine Goes.cast (ef_1 m aX aY) ?_
  show Goes p e below _ T0 (mkF m 0 #[.val (.ref aX), .val (.ref aY), .unset, .unset, .unset, .unset, .unset, .unset, .unset, .unset, .unset] [])
  have Dz0 := dy_zero 0
  refine Goes.of (fun _ kont => XS.dconst0 X0.here hx rfl (Jvm.hb hby d1_0) rfl kont) ?_
  show Goes p e below _ T0 (mkF m 1 #[.val (.ref aX), .val (.ref aY), .unset, .unset, .unset, .unset, .unset, .unset, .unset, .unset, .unset] [(.double FP.dconst0)])
  refine Goes.of (fun _ kont => XS.dstoreN X0.here hx rfl (Jvm.hb hby d1_1) rfl (l' := #[.val (.ref aX), .val (.ref aY), .val (.double FP.dconst0), .second, .unset, .unset, .unset, .unset, .unset, .unset, .unset]) rfl kont) ?_
  show Goes p e below _ T0 (mkF m 2 #[.val (.ref aX), .val (.ref aY), .val (.double FP.dconst0), .second, .unset, .unset, .unset, .unset, .unset, .unset, .unset] [])
  refine Goes.of (fun _ kont => XS.aloadN X0.here hx rfl (Jvm.hb hby d1_2) rfl rfl kont) ?_
  show Goes p e below _ T0 (mkF m 3 #[.val (.ref aX), .val (.ref aY), .val (.double FP.dconst0), .second, .unset, .unset, .unset, .unset, .unset, .unset, .unset] [(.ref aX)])
  refine Goes.of (fun _ kont => XS.iconst X0.here hx rfl (Jvm.hb hby d1_3) kont) ?_
  show Goes p e below _ T0 (mkF m 4 #[.val (.ref aX), .val (.ref aY), .val (.double FP.dconst0), .second, .unset, .unset, .unset, .unset, .unset, .unset, .unset] [(.int (0 : Int32)), (.ref aX)])
  refine goLdD X0 hx hZ e0 VX 0 (by decide) (w := x0) rfl (g := (mkF m 4 #[.val (.ref aX), .val (.ref aY), .val (.double FP.dconst0), .second, .unset, .unset, .unset, .unset, .unset, .unset, .unset] [(.int (0 : Int32)), (.ref aX)])) rfl rfl (Jvm.hb hby d1_4) ?_
  show Goes p e below _ T0 (mkF m 5 #[.val (.ref aX), .val (.ref aY), .val (.double FP.dconst0), .second, .unset, .unset, .unset, .unset, .unset, .unset, .unset] [(.double x0)])
  refine Goes.of (fun _ kont => XS.aloadN X0.here hx rfl (Jvm.hb hby d1_5) rfl rfl kont) ?_
  show Goes p e below _ T0 (mkF m 6 #[.val (.ref aX), .val (.ref aY), .val (.double FP.dconst0), .second, .unset, .unset, .unset, .unset, .unset, .unset, .unset] [(.ref aY), (.double x0)])
  refine Goes.of (fun _ kont => XS.iconst X0.here hx rfl (Jvm.hb hby d1_6) kont) ?_
  show Goes p e below _ T0 (mkF m 7 #[.val (.ref aX), .val (.ref aY), .val (.double FP.dconst0), .second, .unset, .unset, .unset, .unset, .unset, .unset, .unset] [(.int (0 : Int32)), (.ref aY), (.double x0)])
  refine goLdD X0 hx hZ e0 VY 0 (by decide) (w := y0) rfl (g := (mkF m 7 #[.val (.ref aX), .val (.ref aY), .val (.double FP.dconst0), .second, .unset, .unset, .unset, .unset, .unset, .unset, .unset] [(.int (0 : Int32)), (.ref aY), (.double x0)])) rfl rfl (Jvm.hb hby d1_7) ?_
  show Goes p e below _ T0 (mkF m 8 #[.val (.ref aX), .val (.ref aY), .val (.double FP.dconst0), .second, .unset, .unset, .unset, .unset, .unset, .unset, .unset] [(.double y0), (.double x0)])
  have Dd0 := own_sub X0d Y0d (by omega)
  refine Goes.of (fun _ kont => XS.dsubS X0.here hx rfl (Jvm.hb hby d1_8) rfl Dd0.noNaN rfl kont) ?_
  show Goes p e below _ T0 (mkF m 9 #[.val (.ref aX), .val (.ref aY), .val (.double FP.dconst0), .second, .unset, .unset, .unset, .unset, .unset, .unset, .unset] [(.double (FP.dsub x0 y0))])
  generalize hd0 : (FP.dsub x0 y0) = d0
  show Goes p e below _ T0 (mkF m 9 #[.val (.ref aX), .val (.ref aY), .val (.double FP.dconst0), .second, .unset, .unset, .unset, .unset, .unset, .unset, .unset] [(.double d0)])
  rw [hd0] at Dd0
  refine Goes.of (fun _ kont => XS.dstore X0.here hx rfl (Jvm.hb hby d1_9) rfl (l' := #[.val (.ref aX), .val (.ref aY), .val (.double FP.dconst0), .second, .val (.double d0), .second, .unset, .unset, .unset, .unset, .unset]) rfl kont) ?_
  show Goes p e below _ T0 (mkF m 11 #[.val (.ref aX), .val (.ref aY), .val (.double FP.dconst0), .second, .val (.double d0), .second, .unset, .unset, .unset, .unset, .unset] [])
  refine Goes.of (fun _ kont => XS.iconst X0.here hx rfl (Jvm.hb hby d1_11) kont) ?_
  show Goes p e below _ T0 (mkF m 12 #[.val (.ref aX), .val (.ref aY), .val (.double FP.dconst0), .second, .val (.double d0), .second, .unset, .unset, .unset, .unset, .unset] [(.int (0 : Int32))])
  refine Goes.of (fun _ kont => XS.istore X0.here hx rfl (Jvm.hb hby d1_12) rfl (l' := #[.val (.ref aX), .val (.ref aY), .val (.double FP.dconst0), .second, .val (.double d0), .second, .val (.int (0 : Int32)), .unset, .unset, .unset, .unset]) rfl kont) ?_
  show Goes p e below _ T0 (mkF m 14 #[.val (.ref aX), .val (.ref aY), .val (.double FP.dconst0), .second, .val (.double d0), .second, .val (.int (0 : Int32)), .unset, .unset, .unset, .unset] [])
  refine Goes.of (fun _ kont => XS.iload X0.here hx rfl (Jvm.hb hby d1_14) rfl kont) ?_
  show Goes p e below _ T0 (mkF m 16 #[.val (.ref aX), .val (.ref aY), .val (.double FP.dconst0), .second, .val (.double d0), .second, .val (.int (0 : Int32)), .unset, .unset, .unset, .unset] [(.int (0 : Int32))])
  refine Goes.of (fun _ kont => XS.iconst X0.here hx rfl (Jvm.hb hby d1_16) kont) ?_
  show Goes p e below _ T0 (mkF m 17 #[.val (.ref aX), .val (.ref aY), .val (.double FP.dconst0), .second, .val (.double d0), .second, .val (.int (0 : Int32)), .unset, .unset, .unset, .unset] [(.int (1 : Int32)), (.int (0 : Int32))])
  refine Goes.of (fun _ kont => XS.iadd X0.here hx rfl (Jvm.hb hby d1_17) rfl kont) ?_
  show Goes p e below _ T0 (mkF m 18 #[.val (.ref aX), .val (.ref aY), .val (.double FP.dconst0), .second, .val (.double d0), .second, .val (.int (0 : Int32)), .unset, .unset, .unset, .unset] [(.int ((0 : Int32) + (1 : Int32)))])
  show Goes p e below _ T0 (mkF m 18 #[.val (.ref aX), .val (.ref aY), .val (.double FP.dconst0), .second, .val (.double d0), .second, .val (.int (0 : Int32)), .unset, .unset, .unset, .unset] [(.int (1 : Int32))])
  refine Goes.of (fun _ kont => XS.aloadN X0.here hx rfl (Jvm.hb hby d1_18) rfl rfl kont) ?_
  show Goes p e below _ T0 (mkF m 19 #[.val (.ref aX), .val (.ref aY), .val (.double FP.dconst0), .second, .val (.double d0), .second, .val (.int (0 : Int32)), .unset, .unset, .unset, .unset] [(.ref aX), (.int (1 : Int32))])
  refine goLen X0 hx hZ e0 VX (n := 3) (by show Int32.toInt 3 = ((3 : Nat) : Int); decide) (g := (mkF m 19 #[.val (.ref aX), .val (.ref aY), .val (.double FP.dconst0), .second, .val (.double d0), .second, .val (.int (0 : Int32)), .unset, .unset, .unset, .unset] [(.ref aX), (.int (1 : Int32))])) rfl rfl (Jvm.hb hby d1_19) ?_
  show Goes p e below _ T0 (mkF m 20 #[.val (.ref aX), .val (.ref aY), .val (.double FP.dconst0), .second, .val (.double d0), .second, .val (.int (0 : Int32)), .unset, .unset, .unset, .unset] [(.int (3 : Int32)), (.int (1 : Int32))])
  refine Goes.of (fun _ kont => XS.icmpNo X0.here hx rfl (Jvm.hb hby d1_20) rfl (by decide) kont) ?_
  show Goes p e below _ T0 (mkF m 23 #[.val (.ref aX), .val (.ref aY), .val (.double FP.dconst0), .second, .val (.double d0), .second, .val (.int (0 : Int32)), .unset, .unset, .unset, .unset] [])
  refine Goes.of (fun _ kont => XS.aloadN X0.here hx rfl (Jvm.hb hby d1_23) rfl rfl kont) ?_
  show Goes p e below _ T0 (mkF m 24 #[.val (.ref aX), .val (.ref aY), .val (.double FP.dconst0), .second, .val (.double d0), .second, .val (.int (0 : Int32)), .unset, .unset, .unset, .unset] [(.ref aX)])
  refine Goes.of (fun _ kont => XS.iload X0.here hx rfl (Jvm.hb hby d1_24) rfl kont) ?_
  show Goes p e below _ T0 (mkF m 26 #[.val (.ref aX), .val (.ref aY), .val (.double FP.dconst0), .second, .val (.double d0), .second, .val (.int (0 : Int32)), .unset, .unset, .unset, .unset] [(.int (0 : Int32)), (.ref aX)])
  refine Goes.of (fun _ kont => XS.iconst X0.here hx rfl (Jvm.hb hby d1_26) kont) ?_
  show Goes p e below _ T0 (mkF m 27 #[.val (.ref aX), .val (.ref aY), .val (.double FP.dconst0), .second, .val (.double d0), .second, .val (.int (0 : Int32)), .unset, .unset, .unset, .unset] [(.int (1 : Int32)), (.int (0 : Int32)), (.ref aX)])
  refine Goes.of (fun _ kont => XS.iadd X0.here hx rfl (Jvm.hb hby d1_27) rfl kont) ?_
  show Goes p e below _ T0 (mkF m 28 #[.val (.ref aX), .val (.ref aY), .val (.double FP.dconst0), .second, .val (.double d0), .second, .val (.int (0 : Int32)), .unset, .unset, .unset, .unset] [(.int ((0 : Int32) + (1 : Int32))), (.ref aX)])
  show Goes p e below _ T0 (mkF m 28 #[.val (.ref aX), .val (.ref aY), .val (.double FP.dconst0), .second, .val (.double d0), .second, .val (.int (0 : Int32)), .unset, .unset, .unset, .unset] [(.int (1 : Int32)), (.ref aX)])
  refine goLdD X0 hx hZ e0 VX 1 (by decide) (w := x1) rfl (g := (mkF m 28 #[.val (.ref aX), .val (.ref aY), .val (.double FP.dconst0), .second, .val (.double d0), .second, .val (.int (0 : Int32)), .unset, .unset, .unset, .unset] [(.int (1 : Int32)), (.ref aX)])) rfl rfl (Jvm.hb hby d1_28) ?_
  show Goes p e below _ T0 (mkF m 29 #[.val (.ref aX), .val (.ref aY), .val (.double FP.dconst0), .second, .val (.double d0), .second, .val (.int (0 : Int32)), .unset, .unset, .unset, .unset] [(.double x1)])
  refine Goes.of (fun _ kont => XS.aloadN X0.here hx rfl (Jvm.hb hby d1_29) rfl rfl kont) ?_
  show Goes p e below _ T0 (mkF m 30 #[.val (.ref aX), .val (.ref aY), .val (.double FP.dconst0), .second, .val (.double d0), .second, .val (.int (0 : Int32)), .unset, .unset, .unset, .unset] [(.ref aY), (.double x1)])
  refine Goes.of (fun _ kont => XS.iload X0.here hx rfl (Jvm.hb hby d1_30) rfl kont) ?_
  show Goes p e below _ T0 (mkF m 32 #[.val (.ref aX), .val (.ref aY), .val (.double FP.dconst0), .second, .val (.double d0), .second, .val (.int (0 : Int32)), .unset, .unset, .unset, .unset] [(.int (0 : Int32)), (.ref aY), (.double x1)])
  refine Goes.of (fun _ kont => XS.iconst X0.here hx rfl (Jvm.hb hby d1_32) kont) ?_
  show Goes p e below _ T0 (mkF m 33 #[.val (.ref aX), .val (.ref aY), .val (.double FP.dconst0), .second, .val (.double d0), .second, .val (.int (0 : Int32)), .unset, .unset, .unset, .unset] [(.int (1 : Int32)), (.int (0 : Int32)), (.ref aY), (.double x1)])
  refine Goes.of (fun _ kont => XS.iadd X0.here hx rfl (Jvm.hb hby d1_33) rfl kont) ?_
  show Goes p e below _ T0 (mkF m 34 #[.val (.ref aX), .val (.ref aY), .val (.double FP.dconst0), .second, .val (.double d0), .second, .val (.int (0 : Int32)), .unset, .unset, .unset, .unset] [(.int ((0 : Int32) + (1 : Int32))), (.ref aY), (.double x1)])
  show Goes p e below _ T0 (mkF m 34 #[.val (.ref aX), .val (.ref aY), .val (.double FP.dconst0), .second, .val (.double d0), .second, .val (.int (0 : Int32)), .unset, .unset, .unset, .unset] [(.int (1 : Int32)), (.ref aY), (.double x1)])
  refine goLdD X0 hx hZ e0 VY 1 (by decide) (w := y1) rfl (g := (mkF m 34 #[.val (.ref aX), .val (.ref aY), .val (.double FP.dconst0), .second, .val (.double d0), .second, .val (.int (0 : Int32)), .unset, .unset, .unset, .unset] [(.int (1 : Int32)), (.ref aY), (.double x1)])) rfl rfl (Jvm.hb hby d1_34) ?_
  show Goes p e below _ T0 (mkF m 35 #[.val (.ref aX), .val (.ref aY), .val (.double FP.dconst0), .second, .val (.double d0), .second, .val (.int (0 : Int32)), .unset, .unset, .unset, .unset] [(.double y1), (.double x1)])
  have Dd1 := own_sub X1d Y1d (by omega)
  refine Goes.of (fun _ kont => XS.dsubS X0.here hx rfl (Jvm.hb hby d1_35) rfl Dd1.noNaN rfl kont) ?_
  show Goes p e below _ T0 (mkF m 36 #[.val (.ref aX), .val (.ref aY), .val (.double FP.dconst0), .second, .val (.double d0), .second, .val (.int (0 : Int32)), .unset, .unset, .unset, .unset] [(.double (FP.dsub x1 y1))])
  generalize hd1 : (FP.dsub x1 y1) = d1
  show Goes p e below _ T0 (mkF m 36 #[.val (.ref aX), .val (.ref aY), .val (.double FP.dconst0), .second, .val (.double d0), .second, .val (.int (0 : Int32)), .unset, .unset, .unset, .unset] [(.double d1)])
  rw [hd1] at Dd1
  obtain ⟨t01, t02, t03, t04, t05⟩ := tm_b (d := (a0 - b0)) (n := (a1 - b1)) (by omega) (by omega)
  refine Goes.of (fun _ kont => XS.dstore X0.here hx rfl (Jvm.hb hby d1_36) rfl (l' := #[.val (.ref aX), .val (.ref aY), .val (.double FP.dconst0), .second, .val (.double d0), .second, .val (.int (0 : Int32)), .val (.double d1), .second, .unset, .unset]) rfl kont) ?_
  show Goes p e below _ T0 (mkF m 38 #[.val (.ref aX), .val (.ref aY), .val (.double FP.dconst0), .second, .val (.double d0), .second, .val (.int (0 : Int32)), .val (.double d1), .second, .unset, .unset] [])
  refine Goes.of (fun _ kont => XS.dload X0.here hx rfl (Jvm.hb hby d1_38) rfl kont) ?_
  show Goes p e below _ T0 (mkF m 40 #[.val (.ref aX), .val (.ref aY), .val (.double FP.dconst0), .second, .val (.double d0), .second, .val (.int (0 : Int32)), .val (.double d1), .second, .unset, .unset] [(.double d0)])
  refine Goes.of (fun _ kont => XS.dload X0.here hx rfl (Jvm.hb hby d1_40) rfl kont) ?_
  show Goes p e below _ T0 (mkF m 42 #[.val (.ref aX), .val (.ref aY), .val (.double FP.dconst0), .second, .val (.double d0), .second, .val (.int (0 : Int32)), .val (.double d1), .second, .unset, .unset] [(.double d0), (.double d0)])
  have Ds0 := own_mul Dd0 Dd0 (by omega)
  refine Goes.of (fun _ kont => XS.dmulS X0.here hx rfl (Jvm.hb hby d1_42) rfl Ds0.noNaN rfl kont) ?_
  show Goes p e below _ T0 (mkF m 43 #[.val (.ref aX), .val (.ref aY), .val (.double FP.dconst0), .second, .val (.double d0), .second, .val (.int (0 : Int32)), .val (.double d1), .second, .unset, .unset] [(.double (FP.dmul d0 d0))])
  generalize hs0 : (FP.dmul d0 d0) = s0
  show Goes p e below _ T0 (mkF m 43 #[.val (.ref aX), .val (.ref aY), .val (.double FP.dconst0), .second, .val (.double d0), .second, .val (.int (0 : Int32)), .val (.double d1), .second, .unset, .unset] [(.double s0)])
  rw [hs0] at Ds0
  refine Goes.of (X0.ldc2DoubleC hx hown (mvT hZ (hw _ (List.mem_of_getElem? (i := 17) rfl))) (g := (mkF m 43 #[.val (.ref aX), .val (.ref aY), .val (.double FP.dconst0), .second, .val (.double d0), .second, .val (.int (0 : Int32)), .val (.double d1), .second, .unset, .unset] [(.double s0)])) rfl (Jvm.hb hby d1_43)) ?_
  show Goes p e below _ T0 (mkF m 46 #[.val (.ref aX), .val (.ref aY), .val (.double FP.dconst0), .second, .val (.double d0), .second, .val (.int (0 : Int32)), .val (.double d1), .second, .unset, .unset] [(.double (4611686018427387904 : UInt64)), (.double s0)])
  refine Goes.of (fun _ kont => XS.dload X0.here hx rfl (Jvm.hb hby d1_46) rfl kont) ?_
  show Goes p e below _ T0 (mkF m 48 #[.val (.ref aX), .val (.ref aY), .val (.double FP.dconst0), .second, .val (.double d0), .second, .val (.int (0 : Int32)), .val (.double d1), .second, .unset, .unset] [(.double d0), (.double (4611686018427387904 : UInt64)), (.double s0)])
  have Dw0 := own_mul own_2 Dd0 (by omega)
  refine Goes.of (fun _ kont => XS.dmulS X0.here hx rfl (Jvm.hb hby d1_48) rfl Dw0.noNaN rfl kont) ?_
  show Goes p e below _ T0 (mkF m 49 #[.val (.ref aX), .val (.ref aY), .val (.double FP.dconst0), .second, .val (.double d0), .second, .val (.int (0 : Int32)), .val (.double d1), .second, .unset, .unset] [(.double (FP.dmul (4611686018427387904 : UInt64) d0)), (.double s0)])
  generalize hw0 : (FP.dmul (4611686018427387904 : UInt64) d0) = w0
  show Goes p e below _ T0 (mkF m 49 #[.val (.ref aX), .val (.ref aY), .val (.double FP.dconst0), .second, .val (.double d0), .second, .val (.int (0 : Int32)), .val (.double d1), .second, .unset, .unset] [(.double w0), (.double s0)])
  rw [hw0] at Dw0
  have Dv0 := own_add Ds0 Dw0 (by omega)
  refine Goes.of (fun _ kont => XS.daddS X0.here hx rfl (Jvm.hb hby d1_49) rfl Dv0.noNaN rfl kont) ?_
  show Goes p e below _ T0 (mkF m 50 #[.val (.ref aX), .val (.ref aY), .val (.double FP.dconst0), .second, .val (.double d0), .second, .val (.int (0 : Int32)), .val (.double d1), .second, .unset, .unset] [(.double (FP.dadd s0 w0))])
  generalize hv0 : (FP.dadd s0 w0) = v0
  show Goes p e below _ T0 (mkF m 50 #[.val (.ref aX), .val (.ref aY), .val (.double FP.dconst0), .second, .val (.double d0), .second, .val (.int (0 : Int32)), .val (.double d1), .second, .unset, .unset] [(.double v0)])
  rw [hv0] at Dv0
  refine Goes.of (fun _ kont => XS.dload X0.here hx rfl (Jvm.hb hby d1_50) rfl kont) ?_
  show Goes p e below _ T0 (mkF m 52 #[.val (.ref aX), .val (.ref aY), .val (.double FP.dconst0), .second, .val (.double d0), .second, .val (.int (0 : Int32)), .val (.double d1), .second, .unset, .unset] [(.double d1), (.double v0)])
  have Dt0 := own_sub Dv0 Dd1 (by omega)
  refine Goes.of (fun _ kont => XS.dsubS X0.here hx rfl (Jvm.hb hby d1_52) rfl Dt0.noNaN rfl kont) ?_
  show Goes p e below _ T0 (mkF m 53 #[.val (.ref aX), .val (.ref aY), .val (.double FP.dconst0), .second, .val (.double d0), .second, .val (.int (0 : Int32)), .val (.double d1), .second, .unset, .unset] [(.double (FP.dsub v0 d1))])
  generalize ht0 : (FP.dsub v0 d1) = t0
  show Goes p e below _ T0 (mkF m 53 #[.val (.ref aX), .val (.ref aY), .val (.double FP.dconst0), .second, .val (.double d0), .second, .val (.int (0 : Int32)), .val (.double d1), .second, .unset, .unset] [(.double t0)])
  rw [ht0] at Dt0
  refine Goes.of (fun _ kont => XS.dstore X0.here hx rfl (Jvm.hb hby d1_53) rfl (l' := #[.val (.ref aX), .val (.ref aY), .val (.double FP.dconst0), .second, .val (.double d0), .second, .val (.int (0 : Int32)), .val (.double d1), .second, .val (.double t0), .second]) rfl kont) ?_
  show Goes p e below _ T0 (mkF m 55 #[.val (.ref aX), .val (.ref aY), .val (.double FP.dconst0), .second, .val (.double d0), .second, .val (.int (0 : Int32)), .val (.double d1), .second, .val (.double t0), .second] [])
  refine Goes.of (fun _ kont => XS.dloadN X0.here hx rfl (Jvm.hb hby d1_55) rfl kont) ?_
  show Goes p e below _ T0 (mkF m 56 #[.val (.ref aX), .val (.ref aY), .val (.double FP.dconst0), .second, .val (.double d0), .second, .val (.int (0 : Int32)), .val (.double d1), .second, .val (.double t0), .second] [(.double FP.dconst0)])
  refine Goes.of (X0.ldc2DoubleC hx hown (mvT hZ (hw _ (List.mem_of_getElem? (i := 18) rfl))) (g := (mkF m 56 #[.val (.ref aX), .val (.ref aY), .val (.double FP.dconst0), .second, .val (.double d0), .second, .val (.int (0 : Int32)), .val (.double d1), .second, .val (.double t0), .second] [(.double FP.dconst0)])) rfl (Jvm.hb hby d1_56)) ?_
  show Goes p e below _ T0 (mkF m 59 #[.val (.ref aX), .val (.ref aY), .val (.double FP.dconst0), .second, .val (.double d0), .second, .val (.int (0 : Int32)), .val (.double d1), .second, .val (.double t0), .second] [(.double (4636737291354636288 : UInt64)), (.double FP.dconst0)])
  refine Goes.of (fun _ kont => XS.dload X0.here hx rfl (Jvm.hb hby d1_59) rfl kont) ?_
  show Goes p e below _ T0 (mkF m 61 #[.val (.ref aX), .val (.ref aY), .val (.double FP.dconst0), .second, .val (.double d0), .second, .val (.int (0 : Int32)), .val (.double d1), .second, .val (.double t0), .second] [(.double t0), (.double (4636737291354636288 : UInt64)), (.double FP.dconst0)])
  have Dh0 := own_mul own_100 Dt0 (by omega)
  refine Goes.of (fun _ kont => XS.dmulS X0.here hx rfl (Jvm.hb hby d1_61) rfl Dh0.noNaN rfl kont) ?_
  show Goes p e below _ T0 (mkF m 62 #[.val (.ref aX), .val (.ref aY), .val (.double FP.dconst0), .second, .val (.double d0), .second, .val (.int (0 : Int32)), .val (.double d1), .second, .val (.double t0), .second] [(.double (FP.dmul (4636737291354636288 : UInt64) t0)), (.double FP.dconst0)])
  generalize hh0 : (FP.dmul (4636737291354636288 : UInt64) t0) = h0
  show Goes p e below _ T0 (mkF m 62 #[.val (.ref aX), .val (.ref aY), .val (.double FP.dconst0), .second, .val (.double d0), .second, .val (.int (0 : Int32)), .val (.double d1), .second, .val (.double t0), .second] [(.double h0), (.double FP.dconst0)])
  rw [hh0] at Dh0
  refine Goes.of (fun _ kont => XS.dload X0.here hx rfl (Jvm.hb hby d1_62) rfl kont) ?_
  show Goes p e below _ T0 (mkF m 64 #[.val (.ref aX), .val (.ref aY), .val (.double FP.dconst0), .second, .val (.double d0), .second, .val (.int (0 : Int32)), .val (.double d1), .second, .val (.double t0), .second] [(.double t0), (.double h0), (.double FP.dconst0)])
  have Dk0 := own_mul Dh0 Dt0 (by omega)
  refine Goes.of (fun _ kont => XS.dmulS X0.here hx rfl (Jvm.hb hby d1_64) rfl Dk0.noNaN rfl kont) ?_
  show Goes p e below _ T0 (mkF m 65 #[.val (.ref aX), .val (.ref aY), .val (.double FP.dconst0), .second, .val (.double d0), .second, .val (.int (0 : Int32)), .val (.double d1), .second, .val (.double t0), .second] [(.double (FP.dmul h0 t0)), (.double FP.dconst0)])
  generalize hk0 : (FP.dmul h0 t0) = k0
  show Goes p e below _ T0 (mkF m 65 #[.val (.ref aX), .val (.ref aY), .val (.double FP.dconst0), .second, .val (.double d0), .second, .val (.int (0 : Int32)), .val (.double d1), .second, .val (.double t0), .second] [(.double k0), (.double FP.dconst0)])
  rw [hk0] at Dk0
  refine Goes.of (fun _ kont => XS.dload X0.here hx rfl (Jvm.hb hby d1_65) rfl kont) ?_
  show Goes p e below _ T0 (mkF m 67 #[.val (.ref aX), .val (.ref aY), .val (.double FP.dconst0), .second, .val (.double d0), .second, .val (.int (0 : Int32)), .val (.double d1), .second, .val (.double t0), .second] [(.double d0), (.double k0), (.double FP.dconst0)])
  refine Goes.of (fun _ kont => XS.dload X0.here hx rfl (Jvm.hb hby d1_67) rfl kont) ?_
  show Goes p e below _ T0 (mkF m 69 #[.val (.ref aX), .val (.ref aY), .val (.double FP.dconst0), .second, .val (.double d0), .second, .val (.int (0 : Int32)), .val (.double d1), .second, .val (.double t0), .second] [(.double d0), (.double d0), (.double k0), (.double FP.dconst0)])
  have Dr0 := Ds0
  rw [← hs0] at Dr0
  refine Goes.of (fun _ kont => XS.dmulS X0.here hx rfl (Jvm.hb hby d1_69) rfl Dr0.noNaN rfl kont) ?_
  show Goes p e below _ T0 (mkF m 70 #[.val (.ref aX), .val (.ref aY), .val (.double FP.dconst0), .second, .val (.double d0), .second, .val (.int (0 : Int32)), .val (.double d1), .second, .val (.double t0), .second] [(.double (FP.dmul d0 d0)), (.double k0), (.double FP.dconst0)])
  generalize hr0 : (FP.dmul d0 d0) = r0
  show Goes p e below _ T0 (mkF m 70 #[.val (.ref aX), .val (.ref aY), .val (.double FP.dconst0), .second, .val (.double d0), .second, .val (.int (0 : Int32)), .val (.double d1), .second, .val (.double t0), .second] [(.double r0), (.double k0), (.double FP.dconst0)])
  rw [hr0] at Dr0
  have Dm0 := own_add Dk0 Dr0 (by unfold tm at t05; omega)
  refine Goes.of (fun _ kont => XS.daddS X0.here hx rfl (Jvm.hb hby d1_70) rfl Dm0.noNaN rfl kont) ?_
  show Goes p e below _ T0 (mkF m 71 #[.val (.ref aX), .val (.ref aY), .val (.double FP.dconst0), .second, .val (.double d0), .second, .val (.int (0 : Int32)), .val (.double d1), .second, .val (.double t0), .second] [(.double (FP.dadd k0 r0)), (.double FP.dconst0)])
  generalize hm0 : (FP.dadd k0 r0) = m0
  show Goes p e below _ T0 (mkF m 71 #[.val (.ref aX), .val (.ref aY), .val (.double FP.dconst0), .second, .val (.double d0), .second, .val (.int (0 : Int32)), .val (.double d1), .second, .val (.double t0), .second] [(.double m0), (.double FP.dconst0)])
  rw [hm0] at Dm0
  change Dy (tm (a0 - b0) (a1 - b1)) 0 m0 at Dm0
  have Dz1 := own_add Dz0 Dm0 (by omega)
  refine Goes.of (fun _ kont => XS.daddS X0.here hx rfl (Jvm.hb hby d1_71) rfl Dz1.noNaN rfl kont) ?_
  show Goes p e below _ T0 (mkF m 72 #[.val (.ref aX), .val (.ref aY), .val (.double FP.dconst0), .second, .val (.double d0), .second, .val (.int (0 : Int32)), .val (.double d1), .second, .val (.double t0), .second] [(.double (FP.dadd FP.dconst0 m0))])
  generalize hz1 : (FP.dadd FP.dconst0 m0) = z1
  show Goes p e below _ T0 (mkF m 72 #[.val (.ref aX), .val (.ref aY), .val (.double FP.dconst0), .second, .val (.double d0), .second, .val (.int (0 : Int32)), .val (.double d1), .second, .val (.double t0), .second] [(.double z1)])
  rw [hz1, Int.zero_add] at Dz1
  refine Goes.of (fun _ kont => XS.dstoreN X0.here hx rfl (Jvm.hb hby d1_72) rfl (l' := #[.val (.ref aX), .val (.ref aY), .val (.double z1), .second, .val (.double d0), .second, .val (.int (0 : Int32)), .val (.double d1), .second, .val (.double t0), .second]) rfl kont) ?_
  show Goes p e below _ T0 (mkF m 73 #[.val (.ref aX), .val (.ref aY), .val (.double z1), .second, .val (.double d0), .second, .val (.int (0 : Int32)), .val (.double d1), .second, .val (.double t0), .second] [])
  refine Goes.of (fun _ kont => XS.dload X0.here hx rfl (Jvm.hb hby d1_73) rfl kont) ?_
  show Goes p e below _ T0 (mkF m 75 #[.val (.ref aX), .val (.ref aY), .val (.double z1), .second, .val (.double d0), .second, .val (.int (0 : Int32)), .val (.double d1), .second, .val (.double t0), .second] [(.double d1)])
  refine Goes.of (fun _ kont => XS.dstore X0.here hx rfl (Jvm.hb hby d1_75) rfl (l' := #[.val (.ref aX), .val (.ref aY), .val (.double z1), .second, .val (.double d1), .second, .val (.int (0 : Int32)), .val (.double d1), .second, .val (.double t0), .second]) rfl kont) ?_
  show Goes p e below _ T0 (mkF m 77 #[.val (.ref aX), .val (.ref aY), .val (.double z1), .second, .val (.double d1), .second, .val (.int (0 : Int32)), .val (.double d1), .second, .val (.double t0), .second] [])
  refine Goes.of (fun _ kont => XS.iinc X0.here hx rfl (Jvm.hb hby d1_77) rfl (l' := #[.val (.ref aX), .val (.ref aY), .val (.double z1), .second, .val (.double d1), .second, .val (.int (1 : Int32)), .val (.double d1), .second, .val (.double t0), .second]) rfl kont) ?_
  show Goes p e below _ T0 (mkF m 80 #[.val (.ref aX), .val (.ref aY), .val (.double z1), .second, .val (.double d1), .second, .val (.int (1 : Int32)), .val (.double d1), .second, .val (.double t0), .second] [])
  refine Goes.of (fun _ kont => XS.goto X0.here hx rfl (pc0 := 80) (pc' := 14) rfl (Jvm.hb hby d1_80) (by decide) (by decide) kont) ?_
  show Goes p e below _ T0 (mkF m 14 #[.val (.ref aX), .val (.ref aY), .val (.double z1), .second, .val (.double d1), .second, .val (.int (1 : Int32)), .val (.double d1), .second, .val (.double t0), .second] [])
  refine Goes.of (fun _ kont => XS.iload X0.here hx rfl (Jvm.hb hby d1_14) rfl kont) ?_
  show Goes p e below _ T0 (mkF m 16 #[.val (.ref aX), .val (.ref aY), .val (.double z1), .second, .val (.double d1), .second, .val (.int (1 : Int32)), .val (.double d1), .second, .val (.double t0), .second] [(.int (1 : Int32))])
  refine Goes.of (fun _ kont => XS.iconst X0.here hx rfl (Jvm.hb hby d1_16) kont) ?_
  show Goes p e below _ T0 (mkF m 17 #[.val (.ref aX), .val (.ref aY), .val (.double z1), .second, .val (.double d1), .second, .val (.int (1 : Int32)), .val (.double d1), .second, .val (.double t0), .second] [(.int (1 : Int32)), (.int (1 : Int32))])
  refine Goes.of (fun _ kont => XS.iadd X0.here hx rfl (Jvm.hb hby d1_17) rfl kont) ?_
  show Goes p e below _ T0 (mkF m 18 #[.val (.ref aX), .val (.ref aY), .val (.double z1), .second, .val (.double d1), .second, .val (.int (1 : Int32)), .val (.double d1), .second, .val (.double t0), .second] [(.int ((1 : Int32) + (1 : Int32)))])
  show Goes p e below _ T0 (mkF m 18 #[.val (.ref aX), .val (.ref aY), .val (.double z1), .second, .val (.double d1), .second, .val (.int (1 : Int32)), .val (.double d1), .second, .val (.double t0), .second] [(.int (2 : Int32))])
  refine Goes.of (fun _ kont => XS.aloadN X0.here hx rfl (Jvm.hb hby d1_18) rfl rfl kont) ?_
  show Goes p e below _ T0 (mkF m 19 #[.val (.ref aX), .val (.ref aY), .val (.double z1), .second, .val (.double d1), .second, .val (.int (1 : Int32)), .val (.double d1), .second, .val (.double t0), .second] [(.ref aX), (.int (2 : Int32))])
  refine goLen X0 hx hZ e0 VX (n := 3) (by show Int32.toInt 3 = ((3 : Nat) : Int); decide) (g := (mkF m 19 #[.val (.ref aX), .val (.ref aY), .val (.double z1), .second, .val (.double d1), .second, .val (.int (1 : Int32)), .val (.double d1), .second, .val (.double t0), .second] [(.ref aX), (.int (2 : Int32))])) rfl rfl (Jvm.hb hby d1_19) ?_
  show Goes p e below _ T0 (mkF m 20 #[.val (.ref aX), .val (.ref aY), .val (.double z1), .second, .val (.double d1), .second, .val (.int (1 : Int32)), .val (.double d1), .second, .val (.double t0), .second] [(.int (3 : Int32)), (.int (2 : Int32))])
  refine Goes.of (fun _ kont => XS.icmpNo X0.here hx rfl (Jvm.hb hby d1_20) rfl (by decide) kont) ?_
  show Goes p e below _ T0 (mkF m 23 #[.val (.ref aX), .val (.ref aY), .val (.double z1), .second, .val (.double d1), .second, .val (.int (1 : Int32)), .val (.double d1), .second, .val (.double t0), .second] [])
  refine Goes.of (fun _ kont => XS.aloadN X0.here hx rfl (Jvm.hb hby d1_23) rfl rfl kont) ?_
  show Goes p e below _ T0 (mkF m 24 #[.val (.ref aX), .val (.ref aY), .val (.double z1), .second, .val (.double d1), .second, .val (.int (1 : Int32)), .val (.double d1), .second, .val (.double t0), .second] [(.ref aX)])
  refine Goes.of (fun _ kont => XS.iload X0.here hx rfl (Jvm.hb hby d1_24) rfl kont) ?_
  show Goes p e below _ T0 (mkF m 26 #[.val (.ref aX), .val (.ref aY), .val (.double z1), .second, .val (.double d1), .second, .val (.int (1 : Int32)), .val (.double d1), .second, .val (.double t0), .second] [(.int (1 : Int32)), (.ref aX)])
  refine Goes.of (fun _ kont => XS.iconst X0.here hx rfl (Jvm.hb hby d1_26) kont) ?_
  show Goes p e below _ T0 (mkF m 27 #[.val (.ref aX), .val (.ref aY), .val (.double z1), .second, .val (.double d1), .second, .val (.int (1 : Int32)), .val (.double d1), .second, .val (.double t0), .second] [(.int (1 : Int32)), (.int (1 : Int32)), (.ref aX)])
  refine Goes.of (fun _ kont => XS.iadd X0.here hx rfl (Jvm.hb hby d1_27) rfl kont) ?_
  show Goes p e below _ T0 (mkF m 28 #[.val (.ref aX), .val (.ref aY), .val (.double z1), .second, .val (.double d1), .second, .val (.int (1 : Int32)), .val (.double d1), .second, .val (.double t0), .second] [(.int ((1 : Int32) + (1 : Int32))), (.ref aX)])
  show Goes p e below _ T0 (mkF m 28 #[.val (.ref aX), .val (.ref aY), .val (.double z1), .second, .val (.double d1), .second, .val (.int (1 : Int32)), .val (.double d1), .second, .val (.double t0), .second] [(.int (2 : Int32)), (.ref aX)])
  refine goLdD X0 hx hZ e0 VX 2 (by decide) (w := x2) rfl (g := (mkF m 28 #[.val (.ref aX), .val (.ref aY), .val (.double z1), .second, .val (.double d1), .second, .val (.int (1 : Int32)), .val (.double d1), .second, .val (.double t0), .second] [(.int (2 : Int32)), (.ref aX)])) rfl rfl (Jvm.hb hby d1_28) ?_
  show Goes p e below _ T0 (mkF m 29 #[.val (.ref aX), .val (.ref aY), .val (.double z1), .second, .val (.double d1), .second, .val (.int (1 : Int32)), .val (.double d1), .second, .val (.double t0), .second] [(.double x2)])
  refine Goes.of (fun _ kont => XS.aloadN X0.here hx rfl (Jvm.hb hby d1_29) rfl rfl kont) ?_
  show Goes p e below _ T0 (mkF m 30 #[.val (.ref aX), .val (.ref aY), .val (.double z1), .second, .val (.double d1), .second, .val (.int (1 : Int32)), .val (.double d1), .second, .val (.double t0), .second] [(.ref aY), (.double x2)])
  refine Goes.of (fun _ kont => XS.iload X0.here hx rfl (Jvm.hb hby d1_30) rfl kont) ?_
  show Goes p e below _ T0 (mkF m 32 #[.val (.ref aX), .val (.ref aY), .val (.double z1), .second, .val (.double d1), .second, .val (.int (1 : Int32)), .val (.double d1), .second, .val (.double t0), .second] [(.int (1 : Int32)), (.ref aY), (.double x2)])
  refine Goes.of (fun _ kont => XS.iconst X0.here hx rfl (Jvm.hb hby d1_32) kont) ?_
  show Goes p e below _ T0 (mkF m 33 #[.val (.ref aX), .val (.ref aY), .val (.double z1), .second, .val (.double d1), .second, .val (.int (1 : Int32)), .val (.double d1), .second, .val (.double t0), .second] [(.int (1 : Int32)), (.int (1 : Int32)), (.ref aY), (.double x2)])
  refine Goes.of (fun _ kont => XS.iadd X0.here hx rfl (Jvm.hb hby d1_33) rfl kont) ?_
  show Goes p e below _ T0 (mkF m 34 #[.val (.ref aX), .val (.ref aY), .val (.double z1), .second, .val (.double d1), .second, .val (.int (1 : Int32)), .val (.double d1), .second, .val (.double t0), .second] [(.int ((1 : Int32) + (1 : Int32))), (.ref aY), (.double x2)])
  show Goes p e below _ T0 (mkF m 34 #[.val (.ref aX), .val (.ref aY), .val (.double z1), .second, .val (.double d1), .second, .val (.int (1 : Int32)), .val (.double d1), .second, .val (.double t0), .second] [(.int (2 : Int32)), (.ref aY), (.double x2)])
  refine goLdD X0 hx hZ e0 VY 2 (by decide) (w := y2) rfl (g := (mkF m 34 #[.val (.ref aX), .val (.ref aY), .val (.double z1), .second, .val (.double d1), .second, .val (.int (1 : Int32)), .val (.double d1), .second, .val (.double t0), .second] [(.int (2 : Int32)), (.ref aY), (.double x2)])) rfl rfl (Jvm.hb hby d1_34) ?_
  show Goes p e below _ T0 (mkF m 35 #[.val (.ref aX), .val (.ref aY), .val (.double z1), .second, .val (.double d1), .second, .val (.int (1 : Int32)), .val (.double d1), .second, .val (.double t0), .second] [(.double y2), (.double x2)])
  have Dd2 := own_sub X2d Y2d (by omega)
  refine Goes.of (fun _ kont => XS.dsubS X0.here hx rfl (Jvm.hb hby d1_35) rfl Dd2.noNaN rfl kont) ?_
  show Goes p e below _ T0 (mkF m 36 #[.val (.ref aX), .val (.ref aY), .val (.double z1), .second, .val (.double d1), .second, .val (.int (1 : Int32)), .val (.double d1), .second, .val (.double t0), .second] [(.double (FP.dsub x2 y2))])
  generalize hd2 : (FP.dsub x2 y2) = d2
  show Goes p e below _ T0 (mkF m 36 #[.val (.ref aX), .val (.ref aY), .val (.double z1), .second, .val (.double d1), .second, .val (.int (1 : Int32)), .val (.double d1), .second, .val (.double t0), .second] [(.double d2)])
  rw [hd2] at Dd2
  obtain ⟨t11, t12, t13, t14, t15⟩ := tm_b (d := (a1 - b1)) (n := (a2 - b2)) (by omega) (by omega)
  refine Goes.of (fun _ kont => XS.dstore X0.here hx rfl (Jvm.hb hby d1_36) rfl (l' := #[.val (.ref aX), .val (.ref aY), .val (.double z1), .second, .val (.double d1), .second, .val (.int (1 : Int32)), .val (.double d2), .second, .val (.double t0), .second]) rfl kont) ?_
  show Goes p e below _ T0 (mkF m 38 #[.val (.ref aX), .val (.ref aY), .val (.double z1), .second, .val (.double d1), .second, .val (.int (1 : Int32)), .val (.double d2), .second, .val (.double t0), .second] [])
  refine Goes.of (fun _ kont => XS.dload X0.here hx rfl (Jvm.hb hby d1_38) rfl kont) ?_
  show Goes p e below _ T0 (mkF m 40 #[.val (.ref aX), .val (.ref aY), .val (.double z1), .second, .val (.double d1), .second, .val (.int (1 : Int32)), .val (.double d2), .second, .val (.double t0), .second] [(.double d1)])
  refine Goes.of (fun _ kont => XS.dload X0.here hx rfl (Jvm.hb hby d1_40) rfl kont) ?_
  show Goes p e below _ T0 (mkF m 42 #[.val (.ref aX), .val (.ref aY), .val (.double z1), .second, .val (.double d1), .second, .val (.int (1 : Int32)), .val (.double d2), .second, .val (.double t0), .second] [(.double d1), (.double d1)])
  have Ds1 := own_mul Dd1 Dd1 (by omega)
  refine Goes.of (fun _ kont => XS.dmulS X0.here hx rfl (Jvm.hb hby d1_42) rfl Ds1.noNaN rfl kont) ?_
  show Goes p e below _ T0 (mkF m 43 #[.val (.ref aX), .val (.ref aY), .val (.double z1), .second, .val (.double d1), .second, .val (.int (1 : Int32)), .val (.double d2), .second, .val (.double t0), .second] [(.double (FP.dmul d1 d1))])
  generalize hs1 : (FP.dmul d1 d1) = s1
  show Goes p e below _ T0 (mkF m 43 #[.val (.ref aX), .val (.ref aY), .val (.double z1), .second, .val (.double d1), .second, .val (.int (1 : Int32)), .val (.double d2), .second, .val (.double t0), .second] [(.double s1)])
  rw [hs1] at Ds1
  refine Goes.of (X0.ldc2DoubleC hx hown (mvT hZ (hw _ (List.mem_of_getElem? (i := 17) rfl))) (g := (mkF m 43 #[.val (.ref aX), .val (.ref aY), .val (.double z1), .second, .val (.double d1), .second, .val (.int (1 : Int32)), .val (.double d2), .second, .val (.double t0), .second] [(.double s1)])) rfl (Jvm.hb hby d1_43)) ?_
  show Goes p e below _ T0 (mkF m 46 #[.val (.ref aX), .val (.ref aY), .val (.double z1), .second, .val (.double d1), .second, .val (.int (1 : Int32)), .val (.double d2), .second, .val (.double t0), .second] [(.double (4611686018427387904 : UInt64)), (.double s1)])
  refine Goes.of (fun _ kont => XS.dload X0.here hx rfl (Jvm.hb hby d1_46) rfl kont) ?_
  show Goes p e below _ T0 (mkF m 48 #[.val (.ref aX), .val (.ref aY), .val (.double z1), .second, .val (.double d1), .second, .val (.int (1 : Int32)), .val (.double d2), .second, .val (.double t0), .second] [(.double d1), (.double (4611686018427387904 : UInt64)), (.double s1)])
  have Dw1 := own_mul own_2 Dd1 (by omega)
  refine Goes.of (fun _ kont => XS.dmulS X0.here hx rfl (Jvm.hb hby d1_48) rfl Dw1.noNaN rfl kont) ?_
  show Goes p e below _ T0 (mkF m 49 #[.val (.ref aX), .val (.ref aY), .val (.double z1), .second, .val (.double d1), .second, .val (.int (1 : Int32)), .val (.double d2), .second, .val (.double t0), .second] [(.double (FP.dmul (4611686018427387904 : UInt64) d1)), (.double s1)])
  generalize hw1 : (FP.dmul (4611686018427387904 : UInt64) d1) = w1
  show Goes p e below _ T0 (mkF m 49 #[.val (.ref aX), .val (.ref aY), .val (.double z1), .second, .val (.double d1), .second, .val (.int (1 : Int32)), .val (.double d2), .second, .val (.double t0), .second] [(.double w1), (.double s1)])
  rw [hw1] at Dw1
  have Dv1 := own_add Ds1 Dw1 (by omega)
  refine Goes.of (fun _ kont => XS.daddS X0.here hx rfl (Jvm.hb hby d1_49) rfl Dv1.noNaN rfl kont) ?_
  show Goes p e below _ T0 (mkF m 50 #[.val (.ref aX), .val (.ref aY), .val (.double z1), .second, .val (.double d1), .second, .val (.int (1 : Int32)), .val (.double d2), .second, .val (.double t0), .second] [(.double (FP.dadd s1 w1))])
  generalize hv1 : (FP.dadd s1 w1) = v1
  show Goes p e below _ T0 (mkF m 50 #[.val (.ref aX), .val (.ref aY), .val (.double z1), .second, .val (.double d1), .second, .val (.int (1 : Int32)), .val (.double d2), .second, .val (.double t0), .second] [(.double v1)])
  rw [hv1] at Dv1
  refine Goes.of (fun _ kont => XS.dload X0.here hx rfl (Jvm.hb hby d1_50) rfl kont) ?_
  show Goes p e below _ T0 (mkF m 52 #[.val (.ref aX), .val (.ref aY), .val (.double z1), .second, .val (.double d1), .second, .val (.int (1 : Int32)), .val (.double d2), .second, .val (.double t0), .second] [(.double d2), (.double v1)])
  have Dt1 := own_sub Dv1 Dd2 (by omega)
  refine Goes.of (fun _ kont => XS.dsubS X0.here hx rfl (Jvm.hb hby d1_52) rfl Dt1.noNaN rfl kont) ?_
  show Goes p e below _ T0 (mkF m 53 #[.val (.ref aX), .val (.ref aY), .val (.double z1), .second, .val (.double d1), .second, .val (.int (1 : Int32)), .val (.double d2), .second, .val (.double t0), .second] [(.double (FP.dsub v1 d2))])
  generalize ht1 : (FP.dsub v1 d2) = t1
  show Goes p e below _ T0 (mkF m 53 #[.val (.ref aX), .val (.ref aY), .val (.double z1), .second, .val (.double d1), .second, .val (.int (1 : Int32)), .val (.double d2), .second, .val (.double t0), .second] [(.double t1)])
  rw [ht1] at Dt1
  refine Goes.of (fun _ kont => XS.dstore X0.here hx rfl (Jvm.hb hby d1_53) rfl (l' := #[.val (.ref aX), .val (.ref aY), .val (.double z1), .second, .val (.double d1), .second, .val (.int (1 : Int32)), .val (.double d2), .second, .val (.double t1), .second]) rfl kont) ?_
  show Goes p e below _ T0 (mkF m 55 #[.val (.ref aX), .val (.ref aY), .val (.double z1), .second, .val (.double d1), .second, .val (.int (1 : Int32)), .val (.double d2), .second, .val (.double t1), .second] [])
  refine Goes.of (fun _ kont => XS.dloadN X0.here hx rfl (Jvm.hb hby d1_55) rfl kont) ?_
  show Goes p e below _ T0 (mkF m 56 #[.val (.ref aX), .val (.ref aY), .val (.double z1), .second, .val (.double d1), .second, .val (.int (1 : Int32)), .val (.double d2), .second, .val (.double t1), .second] [(.double z1)])
  refine Goes.of (X0.ldc2DoubleC hx hown (mvT hZ (hw _ (List.mem_of_getElem? (i := 18) rfl))) (g := (mkF m 56 #[.val (.ref aX), .val (.ref aY), .val (.double z1), .second, .val (.double d1), .second, .val (.int (1 : Int32)), .val (.double d2), .second, .val (.double t1), .second] [(.double z1)])) rfl (Jvm.hb hby d1_56)) ?_
  show Goes p e below _ T0 (mkF m 59 #[.val (.ref aX), .val (.ref aY), .val (.double z1), .second, .val (.double d1), .second, .val (.int (1 : Int32)), .val (.double d2), .second, .val (.double t1), .second] [(.double (4636737291354636288 : UInt64)), (.double z1)])
  refine Goes.of (fun _ kont => XS.dload X0.here hx rfl (Jvm.hb hby d1_59) rfl kont) ?_
  show Goes p e below _ T0 (mkF m 61 #[.val (.ref aX), .val (.ref aY), .val (.double z1), .second, .val (.double d1), .second, .val (.int (1 : Int32)), .val (.double d2), .second, .val (.double t1), .second] [(.double t1), (.double (4636737291354636288 : UInt64)), (.double z1)])
  have Dh1 := own_mul own_100 Dt1 (by omega)
  refine Goes.of (fun _ kont => XS.dmulS X0.here hx rfl (Jvm.hb hby d1_61) rfl Dh1.noNaN rfl kont) ?_
  show Goes p e below _ T0 (mkF m 62 #[.val (.ref aX), .val (.ref aY), .val (.double z1), .second, .val (.double d1), .second, .val (.int (1 : Int32)), .val (.double d2), .second, .val (.double t1), .second] [(.double (FP.dmul (4636737291354636288 : UInt64) t1)), (.double z1)])
  generalize hh1 : (FP.dmul (4636737291354636288 : UInt64) t1) = h1
  show Goes p e below _ T0 (mkF m 62 #[.val (.ref aX), .val (.ref aY), .val (.double z1), .second, .val (.double d1), .second, .val (.int (1 : Int32)), .val (.double d2), .second, .val (.double t1), .second] [(.double h1), (.double z1)])
  rw [hh1] at Dh1
  refine Goes.of (fun _ kont => XS.dload X0.here hx rfl (Jvm.hb hby d1_62) rfl kont) ?_
  show Goes p e below _ T0 (mkF m 64 #[.val (.ref aX), .val (.ref aY), .val (.double z1), .second, .val (.double d1), .second, .val (.int (1 : Int32)), .val (.double d2), .second, .val (.double t1), .second] [(.double t1), (.double h1), (.double z1)])
  have Dk1 := own_mul Dh1 Dt1 (by omega)
  refine Goes.of (fun _ kont => XS.dmulS X0.here hx rfl (Jvm.hb hby d1_64) rfl Dk1.noNaN rfl kont) ?_
  show Goes p e below _ T0 (mkF m 65 #[.val (.ref aX), .val (.ref aY), .val (.double z1), .second, .val (.double d1), .second, .val (.int (1 : Int32)), .val (.double d2), .second, .val (.double t1), .second] [(.double (FP.dmul h1 t1)), (.double z1)])
  generalize hk1 : (FP.dmul h1 t1) = k1
  show Goes p e below _ T0 (mkF m 65 #[.val (.ref aX), .val (.ref aY), .val (.double z1), .second, .val (.double d1), .second, .val (.int (1 : Int32)), .val (.double d2), .second, .val (.double t1), .second] [(.double k1), (.double z1)])
  rw [hk1] at Dk1
  refine Goes.of (fun _ kont => XS.dload X0.here hx rfl (Jvm.hb hby d1_65) rfl kont) ?_
  show Goes p e below _ T0 (mkF m 67 #[.val (.ref aX), .val (.ref aY), .val (.double z1), .second, .val (.double d1), .second, .val (.int (1 : Int32)), .val (.double d2), .second, .val (.double t1), .second] [(.double d1), (.double k1), (.double z1)])
  refine Goes.of (fun _ kont => XS.dload X0.here hx rfl (Jvm.hb hby d1_67) rfl kont) ?_
  show Goes p e below _ T0 (mkF m 69 #[.val (.ref aX), .val (.ref aY), .val (.double z1), .second, .val (.double d1), .second, .val (.int (1 : Int32)), .val (.double d2), .second, .val (.double t1), .second] [(.double d1), (.double d1), (.double k1), (.double z1)])
  have Dr1 := Ds1
  rw [← hs1] at Dr1
  refine Goes.of (fun _ kont => XS.dmulS X0.here hx rfl (Jvm.hb hby d1_69) rfl Dr1.noNaN rfl kont) ?_
  show Goes p e below _ T0 (mkF m 70 #[.val (.ref aX), .val (.ref aY), .val (.double z1), .second, .val (.double d1), .second, .val (.int (1 : Int32)), .val (.double d2), .second, .val (.double t1), .second] [(.double (FP.dmul d1 d1)), (.double k1), (.double z1)])
  generalize hr1 : (FP.dmul d1 d1) = r1
  show Goes p e below _ T0 (mkF m 70 #[.val (.ref aX), .val (.ref aY), .val (.double z1), .second, .val (.double d1), .second, .val (.int (1 : Int32)), .val (.double d2), .second, .val (.double t1), .second] [(.double r1), (.double k1), (.double z1)])
  rw [hr1] at Dr1
  have Dm1 := own_add Dk1 Dr1 (by unfold tm at t15; omega)
  refine Goes.of (fun _ kont => XS.daddS X0.here hx rfl (Jvm.hb hby d1_70) rfl Dm1.noNaN rfl kont) ?_
  show Goes p e below _ T0 (mkF m 71 #[.val (.ref aX), .val (.ref aY), .val (.double z1), .second, .val (.double d1), .second, .val (.int (1 : Int32)), .val (.double d2), .second, .val (.double t1), .second] [(.double (FP.dadd k1 r1)), (.double z1)])
  generalize hm1 : (FP.dadd k1 r1) = m1
  show Goes p e below _ T0 (mkF m 71 #[.val (.ref aX), .val (.ref aY), .val (.double z1), .second, .val (.double d1), .second, .val (.int (1 : Int32)), .val (.double d2), .second, .val (.double t1), .second] [(.double m1), (.double z1)])
  rw [hm1] at Dm1
  change Dy (tm (a1 - b1) (a2 - b2)) 0 m1 at Dm1
  have Dz2 := own_add Dz1 Dm1 (by omega)
  refine Goes.of (fun _ kont => XS.daddS X0.here hx rfl (Jvm.hb hby d1_71) rfl Dz2.noNaN rfl kont) ?_
  show Goes p e below _ T0 (mkF m 72 #[.val (.ref aX), .val (.ref aY), .val (.double z1), .second, .val (.double d1), .second, .val (.int (1 : Int32)), .val (.double d2), .second, .val (.double t1), .second] [(.double (FP.dadd z1 m1))])
  generalize hz2 : (FP.dadd z1 m1) = z2
  show Goes p e below _ T0 (mkF m 72 #[.val (.ref aX), .val (.ref aY), .val (.double z1), .second, .val (.double d1), .second, .val (.int (1 : Int32)), .val (.double d2), .second, .val (.double t1), .second] [(.double z2)])
  rw [hz2] at Dz2
  refine Goes.of (fun _ kont => XS.dstoreN X0.here hx rfl (Jvm.hb hby d1_72) rfl (l' := #[.val (.ref aX), .val (.ref aY), .val (.double z2), .second, .val (.double d1), .second, .val (.int (1 : Int32)), .val (.double d2), .second, .val (.double t1), .second]) rfl kont) ?_
  show Goes p e below _ T0 (mkF m 73 #[.val (.ref aX), .val (.ref aY), .val (.double z2), .second, .val (.double d1), .second, .val (.int (1 : Int32)), .val (.double d2), .second, .val (.double t1), .second] [])
  refine Goes.of (fun _ kont => XS.dload X0.here hx rfl (Jvm.hb hby d1_73) rfl kont) ?_
  show Goes p e below _ T0 (mkF m 75 #[.val (.ref aX), .val (.ref aY), .val (.double z2), .second, .val (.double d1), .second, .val (.int (1 : Int32)), .val (.double d2), .second, .val (.double t1), .second] [(.double d2)])
  refine Goes.of (fun _ kont => XS.dstore X0.here hx rfl (Jvm.hb hby d1_75) rfl (l' := #[.val (.ref aX), .val (.ref aY), .val (.double z2), .second, .val (.double d2), .second, .val (.int (1 : Int32)), .val (.double d2), .second, .val (.double t1), .second]) rfl kont) ?_
  show Goes p e below _ T0 (mkF m 77 #[.val (.ref aX), .val (.ref aY), .val (.double z2), .second, .val (.double d2), .second, .val (.int (1 : Int32)), .val (.double d2), .second, .val (.double t1), .second] [])
  refine Goes.of (fun _ kont => XS.iinc X0.here hx rfl (Jvm.hb hby d1_77) rfl (l' := #[.val (.ref aX), .val (.ref aY), .val (.double z2), .second, .val (.double d2), .second, .val (.int (2 : Int32)), .val (.double d2), .second, .val (.double t1), .second]) rfl kont) ?_
  show Goes p e below _ T0 (mkF m 80 #[.val (.ref aX), .val (.ref aY), .val (.double z2), .second, .val (.double d2), .second, .val (.int (2 : Int32)), .val (.double d2), .second, .val (.double t1), .second] [])
  refine Goes.of (fun _ kont => XS.goto X0.here hx rfl (pc0 := 80) (pc' := 14) rfl (Jvm.hb hby d1_80) (by decide) (by decide) kont) ?_
  show Goes p e below _ T0 (mkF m 14 #[.val (.ref aX), .val (.ref aY), .val (.double z2), .second, .val (.double d2), .second, .val (.int (2 : Int32)), .val (.double d2), .second, .val (.double t1), .second] [])
  refine Goes.of (fun _ kont => XS.iload X0.here hx rfl (Jvm.hb hby d1_14) rfl kont) ?_
  show Goes p e below _ T0 (mkF m 16 #[.val (.ref aX), .val (.ref aY), .val (.double z2), .second, .val (.double d2), .second, .val (.int (2 : Int32)), .val (.double d2), .second, .val (.double t1), .second] [(.int (2 : Int32))])
  refine Goes.of (fun _ kont => XS.iconst X0.here hx rfl (Jvm.hb hby d1_16) kont) ?_
  show Goes p e below _ T0 (mkF m 17 #[.val (.ref aX), .val (.ref aY), .val (.double z2), .second, .val (.double d2), .second, .val (.int (2 : Int32)), .val (.double d2), .second, .val (.double t1), .second] [(.int (1 : Int32)), (.int (2 : Int32))])
  refine Goes.of (fun _ kont => XS.iadd X0.here hx rfl (Jvm.hb hby d1_17) rfl kont) ?_
  show Goes p e below _ T0 (mkF m 18 #[.val (.ref aX), .val (.ref aY), .val (.double z2), .second, .val (.double d2), .second, .val (.int (2 : Int32)), .val (.double d2), .second, .val (.double t1), .second] [(.int ((2 : Int32) + (1 : Int32)))])
  show Goes p e below _ T0 (mkF m 18 #[.val (.ref aX), .val (.ref aY), .val (.double z2), .second, .val (.double d2), .second, .val (.int (2 : Int32)), .val (.double d2), .second, .val (.double t1), .second] [(.int (3 : Int32))])
  refine Goes.of (fun _ kont => XS.aloadN X0.here hx rfl (Jvm.hb hby d1_18) rfl rfl kont) ?_
  show Goes p e below _ T0 (mkF m 19 #[.val (.ref aX), .val (.ref aY), .val (.double z2), .second, .val (.double d2), .second, .val (.int (2 : Int32)), .val (.double d2), .second, .val (.double t1), .second] [(.ref aX), (.int (3 : Int32))])
  refine goLen X0 hx hZ e0 VX (n := 3) (by show Int32.toInt 3 = ((3 : Nat) : Int); decide) (g := (mkF m 19 #[.val (.ref aX), .val (.ref aY), .val (.double z2), .second, .val (.double d2), .second, .val (.int (2 : Int32)), .val (.double d2), .second, .val (.double t1), .second] [(.ref aX), (.int (3 : Int32))])) rfl rfl (Jvm.hb hby d1_19) ?_
  show Goes p e below _ T0 (mkF m 20 #[.val (.ref aX), .val (.ref aY), .val (.double z2), .second, .val (.double d2), .second, .val (.int (2 : Int32)), .val (.double d2), .second, .val (.double t1), .second] [(.int (3 : Int32)), (.int (3 : Int32))])
  refine Goes.of (fun _ kont => XS.icmpYes X0.here hx rfl (pc0 := 20) (pc' := 83) rfl (Jvm.hb hby d1_20) rfl (by decide) (by decide) (by decide) kont) ?_
  show Goes p e below _ T0 (mkF m 83 #[.val (.ref aX), .val (.ref aY), .val (.double z2), .second, .val (.double d2), .second, .val (.int (2 : Int32)), .val (.double d2), .second, .val (.double t1), .second] [])
  refine Goes.of (fun _ kont => XS.dloadN X0.here hx rfl (Jvm.hb hby d1_83) rfl kont) ?_
  show Goes p e below _ T0 (mkF m 84 #[.val (.ref aX), .val (.ref aY), .val (.double z2), .second, .val (.double d2), .second, .val (.int (2 : Int32)), .val (.double d2), .second, .val (.double t1), .second] [(.double z2)])
  exact retD X0 hx hlk hret (Jvm.hb hby d1_84) (by decide) (by decide) ⟨⟨_, rfl, Dz2⟩, N0, e0⟩
theorem pn_1_4 : plainFor (⟨"com/example/memechain/memechain/benchmark/Functions", "shiftedRosenbrock", "([D[D)D"⟩ : MethodName) = true := plainFor_of_name (by first | (simp [plainName, overriddenIn]; done) | decide +kernel)
set_option maxRecDepth 65536 in
set_option maxHeartbeats 40000000 in
theorem rm1_4 (l : Launch) (Z : State) (a0 : Array Value) (hw : ∀ d ∈ tables_1, d.before a0 Z = true) (aX : Addr) (aY : Addr) (x0 y0 : UInt64) (a0 b0 : Int) (x1 y1 : UInt64) (a1 b1 : Int) (x2 y2 : UInt64) (a2 b2 : Int) (x3 y3 : UInt64) (a3 b3 : Int) (h0 : Heap) (n0 : Nat) (Z0 : n0 ≤ h0.size) (VX : DA Z h0 aX [x0, x1, x2, x3]) (VY : DA Z h0 aY [y0, y1, y2, y3]) (X0d : Dy a0 0 x0) (Y0d : Dy b0 0 y0) (X0b : -1024 ≤ a0 ∧ a0 ≤ 1023) (Y0b : -1024 ≤ b0 ∧ b0 ≤ 1023) (X1d : Dy a1 0 x1) (Y1d : Dy b1 0 y1) (X1b : -1024 ≤ a1 ∧ a1 ≤ 1023) (Y1b : -1024 ≤ b1 ∧ b1 ≤ 1023) (X2d : Dy a2 0 x2) (Y2d : Dy b2 0 y2) (X2b : -1024 ≤ a2 ∧ a2 ≤ 1023) (Y2b : -1024 ≤ b2 ∧ b2 ≤ 1023) (X3d : Dy a3 0 x3) (Y3d : Dy b3 0 y3) (X3b : -1024 ≤ a3 ∧ a3 ≤ 1023) (Y3b : -1024 ≤ b3 ∧ b3 ≤ 1023) :
    Ct l (⟨"com/example/memechain/memechain/benchmark/Functions", "shiftedRosenbrock", "([D[D)D"⟩ : MethodName) prog_26_method_14_code 11 (some .double) ({ frames := 0, cells := 0, slots := 0, locals := 0 } : Room) Z [(.ref aX), (.ref aY)] h0 (fun v h L => (∃ z, v = some (.double z) ∧ Dy (tm (a0 - b0) (a1 - b1) + tm (a1 - b1) (a2 - b2) + tm (a2 - b2) (a3 - b3)) 0 z) ∧ Fr n0 L ∧ h = h0) := by
  refine met pn_1_4 ?_
  intro p e s m below meth c T0 hx hby hml hown hret hlk hnm hZ X0 e0
  have N0 := Fr.nil n0
  have hown : s.vm.findClass "com/example/memechain/memechain/benchmark/Functions" = some m.cls := hown
  refine Goes.cast (ef_1 m aX aY) ?_
  show Goes p e below _ T0 (mkF m 0 #[.val (.ref aX), .val (.ref aY), .unset, .unset, .unset, .unset, .unset, .unset, .unset, .unset, .unset] [])
  have Dz0 := dy_zero 0
  refine Goes.of (fun _ kont => XS.dconst0 X0.here hx rfl (Jvm.hb hby d1_0) rfl kont) ?_
  show Goes p e below _ T0 (mkF m 1 #[.val (.ref aX), .val (.ref aY), .unset, .unset, .unset, .unset, .unset, .unset, .unset, .unset, .unset] [(.double FP.dconst0)])
  refine Goes.of (fun _ kont => XS.dstoreN X0.here hx rfl (Jvm.hb hby d1_1) rfl (l' := #[.val (.ref aX), .val (.ref aY), .val (.double FP.dconst0), .second, .unset, .unset, .unset, .unset, .unset, .unset, .unset]) rfl kont) ?_
  show Goes p e below _ T0 (mkF m 2 #[.val (.ref aX), .val (.ref aY), .val (.double FP.dconst0), .second, .unset, .unset, .unset, .unset, .unset, .unset, .unset] [])
  refine Goes.of (fun _ kont => XS.aloadN X0.here hx rfl (Jvm.hb hby d1_2) rfl rfl kont) ?_
  show Goes p e below _ T0 (mkF m 3 #[.val (.ref aX), .val (.ref aY), .val (.double FP.dconst0), .second, .unset, .unset, .unset, .unset, .unset, .unset, .unset] [(.ref aX)])
  refine Goes.of (fun _ kont => XS.iconst X0.here hx rfl (Jvm.hb hby d1_3) kont) ?_
  show Goes p e below _ T0 (mkF m 4 #[.val (.ref aX), .val (.ref aY), .val (.double FP.dconst0), .second, .unset, .unset, .unset, .unset, .unset, .unset, .unset] [(.int (0 : Int32)), (.ref aX)])
  refine goLdD X0 hx hZ e0 VX 0 (by decide) (w := x0) rfl (g := (mkF m 4 #[.val (.ref aX), .val (.ref aY), .val (.double FP.dconst0), .second, .unset, .unset, .unset, .unset, .unset, .unset, .unset] [(.int (0 : Int32)), (.ref aX)])) rfl rfl (Jvm.hb hby d1_4) ?_
  show Goes p e below _ T0 (mkF m 5 #[.val (.ref aX), .val (.ref aY), .val (.double FP.dconst0), .second, .unset, .unset, .unset, .unset, .unset, .unset, .unset] [(.double x0)])
  refine Goes.of (fun _ kont => XS.aloadN X0.here hx rfl (Jvm.hb hby d1_5) rfl rfl kont) ?_
  show Goes p e below _ T0 (mkF m 6 #[.val (.ref aX), .val (.ref aY), .val (.double FP.dconst0), .second, .unset, .unset, .unset, .unset, .unset, .unset, .unset] [(.ref aY), (.double x0)])
  refine Goes.of (fun _ kont => XS.iconst X0.here hx rfl (Jvm.hb hby d1_6) kont) ?_
  show Goes p e below _ T0 (mkF m 7 #[.val (.ref aX), .val (.ref aY), .val (.double FP.dconst0), .second, .unset, .unset, .unset, .unset, .unset, .unset, .unset] [(.int (0 : Int32)), (.ref aY), (.double x0)])
  refine goLdD X0 hx hZ e0 VY 0 (by decide) (w := y0) rfl (g := (mkF m 7 #[.val (.ref aX), .val (.ref aY), .val (.double FP.dconst0), .second, .unset, .unset, .unset, .unset, .unset, .unset, .unset] [(.int (0 : Int32)), (.ref aY), (.double x0)])) rfl rfl (Jvm.hb hby d1_7) ?_
  show Goes p e below _ T0 (mkF m 8 #[.val (.ref aX), .val (.ref aY), .val (.double FP.dconst0), .second, .unset, .unset, .unset, .unset, .unset, .unset, .unset] [(.double y0), (.double x0)])
  have Dd0 := own_sub X0d Y0d (by omega)
  refine Goes.of (fun _ kont => XS.dsubS X0.here hx rfl (Jvm.hb hby d1_8) rfl Dd0.noNaN rfl kont) ?_
  show Goes p e below _ T0 (mkF m 9 #[.val (.ref aX), .val (.ref aY), .val (.double FP.dconst0), .second, .unset, .unset, .unset, .unset, .unset, .unset, .unset] [(.double (FP.dsub x0 y0))])
  generalize hd0 : (FP.dsub x0 y0) = d0
  show Goes p e below _ T0 (mkF m 9 #[.val (.ref aX), .val (.ref aY), .val (.double FP.dconst0), .second, .unset, .unset, .unset, .unset, .unset, .unset, .unset] [(.double d0)])
  rw [hd0] at Dd0
  refine Goes.of (fun _ kont => XS.dstore X0.here hx rfl (Jvm.hb hby d1_9) rfl (l' := #[.val (.ref aX), .val (.ref aY), .val (.double FP.dconst0), .second, .val (.double d0), .second, .unset, .unset, .unset, .unset, .unset]) rfl kont) ?_
  show Goes p e below _ T0 (mkF m 11 #[.val (.ref aX), .val (.ref aY), .val (.double FP.dconst0), .second, .val (.double d0), .second, .unset, .unset, .unset, .unset, .unset] [])
  refine Goes.of (fun _ kont => XS.iconst X0.here hx rfl (Jvm.hb hby d1_11) kont) ?_
  show Goes p e below _ T0 (mkF m 12 #[.val (.ref aX), .val (.ref aY), .val (.double FP.dconst0), .second, .val (.double d0), .second, .unset, .unset, .unset, .unset, .unset] [(.int (0 : Int32))])
  refine Goes.of (fun _ kont => XS.istore X0.here hx rfl (Jvm.hb hby d1_12) rfl (l' := #[.val (.ref aX), .val (.ref aY), .val (.double FP.dconst0), .second, .val (.double d0), .second, .val (.int (0 : Int32)), .unset, .unset, .unset, .unset]) rfl kont) ?_
  show Goes p e below _ T0 (mkF m 14 #[.val (.ref aX), .val (.ref aY), .val (.double FP.dconst0), .second, .val (.double d0), .second, .val (.int (0 : Int32)), .unset, .unset, .unset, .unset] [])
  refine Goes.of (fun _ kont => XS.iload X0.here hx rfl (Jvm.hb hby d1_14) rfl kont) ?_
  show Goes p e below _ T0 (mkF m 16 #[.val (.ref aX), .val (.ref aY), .val (.double FP.dconst0), .second, .val (.double d0), .second, .val (.int (0 : Int32)), .unset, .unset, .unset, .unset] [(.int (0 : Int32))])
  refine Goes.of (fun _ kont => XS.iconst X0.here hx rfl (Jvm.hb hby d1_16) kont) ?_
  show Goes p e below _ T0 (mkF m 17 #[.val (.ref aX), .val (.ref aY), .val (.double FP.dconst0), .second, .val (.double d0), .second, .val (.int (0 : Int32)), .unset, .unset, .unset, .unset] [(.int (1 : Int32)), (.int (0 : Int32))])
  refine Goes.of (fun _ kont => XS.iadd X0.here hx rfl (Jvm.hb hby d1_17) rfl kont) ?_
  show Goes p e below _ T0 (mkF m 18 #[.val (.ref aX), .val (.ref aY), .val (.double FP.dconst0), .second, .val (.double d0), .second, .val (.int (0 : Int32)), .unset, .unset, .unset, .unset] [(.int ((0 : Int32) + (1 : Int32)))])
  show Goes p e below _ T0 (mkF m 18 #[.val (.ref aX), .val (.ref aY), .val (.double FP.dconst0), .second, .val (.double d0), .second, .val (.int (0 : Int32)), .unset, .unset, .unset, .unset] [(.int (1 : Int32))])
  refine Goes.of (fun _ kont => XS.aloadN X0.here hx rfl (Jvm.hb hby d1_18) rfl rfl kont) ?_
  show Goes p e below _ T0 (mkF m 19 #[.val (.ref aX), .val (.ref aY), .val (.double FP.dconst0), .second, .val (.double d0), .second, .val (.int (0 : Int32)), .unset, .unset, .unset, .unset] [(.ref aX), (.int (1 : Int32))])
  refine goLen X0 hx hZ e0 VX (n := 4) (by show Int32.toInt 4 = ((4 : Nat) : Int); decide) (g := (mkF m 19 #[.val (.ref aX), .val (.ref aY), .val (.double FP.dconst0), .second, .val (.double d0), .second, .val (.int (0 : Int32)), .unset, .unset, .unset, .unset] [(.ref aX), (.int (1 : Int32))])) rfl rfl (Jvm.hb hby d1_19) ?_
  show Goes p e below _ T0 (mkF m 20 #[.val (.ref aX), .val (.ref aY), .val (.double FP.dconst0), .second, .val (.double d0), .second, .val (.int (0 : Int32)), .unset, .unset, .unset, .unset] [(.int (4 : Int32)), (.int (1 : Int32))])
  refine Goes.of (fun _ kont => XS.icmpNo X0.here hx rfl (Jvm.hb hby d1_20) rfl (by decide) kont) ?_
  show Goes p e below _ T0 (mkF m 23 #[.val (.ref aX), .val (.ref aY), .val (.double FP.dconst0), .second, .val (.double d0), .second, .val (.int (0 : Int32)), .unset, .unset, .unset, .unset] [])
  refine Goes.of (fun _ kont => XS.aloadN X0.here hx rfl (Jvm.hb hby d1_23) rfl rfl kont) ?_
  show Goes p e below _ T0 (mkF m 24 #[.val (.ref aX), .val (.ref aY), .val (.double FP.dconst0), .second, .val (.double d0), .second, .val (.int (0 : Int32)), .unset, .unset, .unset, .unset] [(.ref aX)])
  refine Goes.of (fun _ kont => XS.iload X0.here hx rfl (Jvm.hb hby d1_24) rfl kont) ?_
  show Goes p e below _ T0 (mkF m 26 #[.val (.ref aX), .val (.ref aY), .val (.double FP.dconst0), .second, .val (.double d0), .second, .val (.int (0 : Int32)), .unset, .unset, .unset, .unset] [(.int (0 : Int32)), (.ref aX)])
  refine Goes.of (fun _ kont => XS.iconst X0.here hx rfl (Jvm.hb hby d1_26) kont) ?_
  show Goes p e below _ T0 (mkF m 27 #[.val (.ref aX), .val (.ref aY), .val (.double FP.dconst0), .second, .val (.double d0), .second, .val (.int (0 : Int32)), .unset, .unset, .unset, .unset] [(.int (1 : Int32)), (.int (0 : Int32)), (.ref aX)])
  refine Goes.of (fun _ kont => XS.iadd X0.here hx rfl (Jvm.hb hby d1_27) rfl kont) ?_
  show Goes p e below _ T0 (mkF m 28 #[.val (.ref aX), .val (.ref aY), .val (.double FP.dconst0), .second, .val (.double d0), .second, .val (.int (0 : Int32)), .unset, .unset, .unset, .unset] [(.int ((0 : Int32) + (1 : Int32))), (.ref aX)])
  show Goes p e below _ T0 (mkF m 28 #[.val (.ref aX), .val (.ref aY), .val (.double FP.dconst0), .second, .val (.double d0), .second, .val (.int (0 : Int32)), .unset, .unset, .unset, .unset] [(.int (1 : Int32)), (.ref aX)])
  refine goLdD X0 hx hZ e0 VX 1 (by decide) (w := x1) rfl (g := (mkF m 28 #[.val (.ref aX), .val (.ref aY), .val (.double FP.dconst0), .second, .val (.double d0), .second, .val (.int (0 : Int32)), .unset, .unset, .unset, .unset] [(.int (1 : Int32)), (.ref aX)])) rfl rfl (Jvm.hb hby d1_28) ?_
  show Goes p e below _ T0 (mkF m 29 #[.val (.ref aX), .val (.ref aY), .val (.double FP.dconst0), .second, .val (.double d0), .second, .val (.int (0 : Int32)), .unset, .unset, .unset, .unset] [(.double x1)])
  refine Goes.of (fun _ kont => XS.aloadN X0.here hx rfl (Jvm.hb hby d1_29) rfl rfl kont) ?_
  show Goes p e below _ T0 (mkF m 30 #[.val (.ref aX), .val (.ref aY), .val (.double FP.dconst0), .second, .val (.double d0), .second, .val (.int (0 : Int32)), .unset, .unset, .unset, .unset] [(.ref aY), (.double x1)])
  refine Goes.of (fun _ kont => XS.iload X0.here hx rfl (Jvm.hb hby d1_30) rfl kont) ?_
  show Goes p e below _ T0 (mkF m 32 #[.val (.ref aX), .val (.ref aY), .val (.double FP.dconst0), .second, .val (.double d0), .second, .val (.int (0 : Int32)), .unset, .unset, .unset, .unset] [(.int (0 : Int32)), (.ref aY), (.double x1)])
  refine Goes.of (fun _ kont => XS.iconst X0.here hx rfl (Jvm.hb hby d1_32) kont) ?_
  show Goes p e below _ T0 (mkF m 33 #[.val (.ref aX), .val (.ref aY), .val (.double FP.dconst0), .second, .val (.double d0), .second, .val (.int (0 : Int32)), .unset, .unset, .unset, .unset] [(.int (1 : Int32)), (.int (0 : Int32)), (.ref aY), (.double x1)])
  refine Goes.of (fun _ kont => XS.iadd X0.here hx rfl (Jvm.hb hby d1_33) rfl kont) ?_
  show Goes p e below _ T0 (mkF m 34 #[.val (.ref aX), .val (.ref aY), .val (.double FP.dconst0), .second, .val (.double d0), .second, .val (.int (0 : Int32)), .unset, .unset, .unset, .unset] [(.int ((0 : Int32) + (1 : Int32))), (.ref aY), (.double x1)])
  show Goes p e below _ T0 (mkF m 34 #[.val (.ref aX), .val (.ref aY), .val (.double FP.dconst0), .second, .val (.double d0), .second, .val (.int (0 : Int32)), .unset, .unset, .unset, .unset] [(.int (1 : Int32)), (.ref aY), (.double x1)])
  refine goLdD X0 hx hZ e0 VY 1 (by decide) (w := y1) rfl (g := (mkF m 34 #[.val (.ref aX), .val (.ref aY), .val (.double FP.dconst0), .second, .val (.double d0), .second, .val (.int (0 : Int32)), .unset, .unset, .unset, .unset] [(.int (1 : Int32)), (.ref aY), (.double x1)])) rfl rfl (Jvm.hb hby d1_34) ?_
  show Goes p e below _ T0 (mkF m 35 #[.val (.ref aX), .val (.ref aY), .val (.double FP.dconst0), .second, .val (.double d0), .second, .val (.int (0 : Int32)), .unset, .unset, .unset, .unset] [(.double y1), (.double x1)])
  have Dd1 := own_sub X1d Y1d (by omega)
  refine Goes.of (fun _ kont => XS.dsubS X0.here hx rfl (Jvm.hb hby d1_35) rfl Dd1.noNaN rfl kont) ?_
  show Goes p e below _ T0 (mkF m 36 #[.val (.ref aX), .val (.ref aY), .val (.double FP.dconst0), .second, .val (.double d0), .second, .val (.int (0 : Int32)), .unset, .unset, .unset, .unset] [(.double (FP.dsub x1 y1))])
  generalize hd1 : (FP.dsub x1 y1) = d1
  show Goes p e below _ T0 (mkF m 36 #[.val (.ref aX), .val (.ref aY), .val (.double FP.dconst0), .second, .val (.double d0), .second, .val (.int (0 : Int32)), .unset, .unset, .unset, .unset] [(.double d1)])
  rw [hd1] at Dd1
  obtain ⟨t01, t02, t03, t04, t05⟩ := tm_b (d := (a0 - b0)) (n := (a1 - b1)) (by omega) (by omega)
  refine Goes.of (fun _ kont => XS.dstore X0.here hx rfl (Jvm.hb hby d1_36) rfl (l' := #[.val (.ref aX), .val (.ref aY), .val (.double FP.dconst0), .second, .val (.double d0), .second, .val (.int (0 : Int32)), .val (.double d1), .second, .unset, .unset]) rfl kont) ?_
  show Goes p e below _ T0 (mkF m 38 #[.val (.ref aX), .val (.ref aY), .val (.double FP.dconst0), .second, .val (.double d0), .second, .val (.int (0 : Int32)), .val (.double d1), .second, .unset, .unset] [])
  refine Goes.of (fun _ kont => XS.dload X0.here hx rfl (Jvm.hb hby d1_38) rfl kont) ?_
  show Goes p e below _ T0 (mkF m 40 #[.val (.ref aX), .val (.ref aY), .val (.double FP.dconst0), .second, .val (.double d0), .second, .val (.int (0 : Int32)), .val (.double d1), .second, .unset, .unset] [(.double d0)])
  refine Goes.of (fun _ kont => XS.dload X0.here hx rfl (Jvm.hb hby d1_40) rfl kont) ?_
  show Goes p e below _ T0 (mkF m 42 #[.val (.ref aX), .val (.ref aY), .val (.double FP.dconst0), .second, .val (.double d0), .second, .val (.int (0 : Int32)), .val (.double d1), .second, .unset, .unset] [(.double d0), (.double d0)])
  have Ds0 := own_mul Dd0 Dd0 (by omega)
  refine Goes.of (fun _ kont => XS.dmulS X0.here hx rfl (Jvm.hb hby d1_42) rfl Ds0.noNaN rfl kont) ?_
  show Goes p e below _ T0 (mkF m 43 #[.val (.ref aX), .val (.ref aY), .val (.double FP.dconst0), .second, .val (.double d0), .second, .val (.int (0 : Int32)), .val (.double d1), .second, .unset, .unset] [(.double (FP.dmul d0 d0))])
  generalize hs0 : (FP.dmul d0 d0) = s0
  show Goes p e below _ T0 (mkF m 43 #[.val (.ref aX), .val (.ref aY), .val (.double FP.dconst0), .second, .val (.double d0), .second, .val (.int (0 : Int32)), .val (.double d1), .second, .unset, .unset] [(.double s0)])
  rw [hs0] at Ds0
  refine Goes.of (X0.ldc2DoubleC hx hown (mvT hZ (hw _ (List.mem_of_getElem? (i := 17) rfl))) (g := (mkF m 43 #[.val (.ref aX), .val (.ref aY), .val (.double FP.dconst0), .second, .val (.double d0), .second, .val (.int (0 : Int32)), .val (.double d1), .second, .unset, .unset] [(.double s0)])) rfl (Jvm.hb hby d1_43)) ?_
  show Goes p e below _ T0 (mkF m 46 #[.val (.ref aX), .val (.ref aY), .val (.double FP.dconst0), .second, .val (.double d0), .second, .val (.int (0 : Int32)), .val (.double d1), .second, .unset, .unset] [(.double (4611686018427387904 : UInt64)), (.double s0)])
  refine Goes.of (fun _ kont => XS.dload X0.here hx rfl (Jvm.hb hby d1_46) rfl kont) ?_
  show Goes p e below _ T0 (mkF m 48 #[.val (.ref aX), .val (.ref aY), .val (.double FP.dconst0), .second, .val (.double d0), .second, .val (.int (0 : Int32)), .val (.double d1), .second, .unset, .unset] [(.double d0), (.double (4611686018427387904 : UInt64)), (.double s0)])
  have Dw0 := own_mul own_2 Dd0 (by omega)
  refine Goes.of (fun _ kont => XS.dmulS X0.here hx rfl (Jvm.hb hby d1_48) rfl Dw0.noNaN rfl kont) ?_
  show Goes p e below _ T0 (mkF m 49 #[.val (.ref aX), .val (.ref aY), .val (.double FP.dconst0), .second, .val (.double d0), .second, .val (.int (0 : Int32)), .val (.double d1), .second, .unset, .unset] [(.double (FP.dmul (4611686018427387904 : UInt64) d0)), (.double s0)])
  generalize hw0 : (FP.dmul (4611686018427387904 : UInt64) d0) = w0
  show Goes p e below _ T0 (mkF m 49 #[.val (.ref aX), .val (.ref aY), .val (.double FP.dconst0), .second, .val (.double d0), .second, .val (.int (0 : Int32)), .val (.double d1), .second, .unset, .unset] [(.double w0), (.double s0)])
  rw [hw0] at Dw0
  have Dv0 := own_add Ds0 Dw0 (by omega)
  refine Goes.of (fun _ kont => XS.daddS X0.here hx rfl (Jvm.hb hby d1_49) rfl Dv0.noNaN rfl kont) ?_
  show Goes p e below _ T0 (mkF m 50 #[.val (.ref aX), .val (.ref aY), .val (.double FP.dconst0), .second, .val (.double d0), .second, .val (.int (0 : Int32)), .val (.double d1), .second, .unset, .unset] [(.double (FP.dadd s0 w0))])
  generalize hv0 : (FP.dadd s0 w0) = v0
  show Goes p e below _ T0 (mkF m 50 #[.val (.ref aX), .val (.ref aY), .val (.double FP.dconst0), .second, .val (.double d0), .second, .val (.int (0 : Int32)), .val (.double d1), .second, .unset, .unset] [(.double v0)])
  rw [hv0] at Dv0
  refine Goes.of (fun _ kont => XS.dload X0.here hx rfl (Jvm.hb hby d1_50) rfl kont) ?_
  show Goes p e below _ T0 (mkF m 52 #[.val (.ref aX), .val (.ref aY), .val (.double FP.dconst0), .second, .val (.double d0), .second, .val (.int (0 : Int32)), .val (.double d1), .second, .unset, .unset] [(.double d1), (.double v0)])
  have Dt0 := own_sub Dv0 Dd1 (by omega)
  refine Goes.of (fun _ kont => XS.dsubS X0.here hx rfl (Jvm.hb hby d1_52) rfl Dt0.noNaN rfl kont) ?_
  show Goes p e below _ T0 (mkF m 53 #[.val (.ref aX), .val (.ref aY), .val (.double FP.dconst0), .second, .val (.double d0), .second, .val (.int (0 : Int32)), .val (.double d1), .second, .unset, .unset] [(.double (FP.dsub v0 d1))])
  generalize ht0 : (FP.dsub v0 d1) = t0
  show Goes p e below _ T0 (mkF m 53 #[.val (.ref aX), .val (.ref aY), .val (.double FP.dconst0), .second, .val (.double d0), .second, .val (.int (0 : Int32)), .val (.double d1), .second, .unset, .unset] [(.double t0)])
  rw [ht0] at Dt0
  refine Goes.of (fun _ kont => XS.dstore X0.here hx rfl (Jvm.hb hby d1_53) rfl (l' := #[.val (.ref aX), .val (.ref aY), .val (.double FP.dconst0), .second, .val (.double d0), .second, .val (.int (0 : Int32)), .val (.double d1), .second, .val (.double t0), .second]) rfl kont) ?_
  show Goes p e below _ T0 (mkF m 55 #[.val (.ref aX), .val (.ref aY), .val (.double FP.dconst0), .second, .val (.double d0), .second, .val (.int (0 : Int32)), .val (.double d1), .second, .val (.double t0), .second] [])
  refine Goes.of (fun _ kont => XS.dloadN X0.here hx rfl (Jvm.hb hby d1_55) rfl kont) ?_
  show Goes p e below _ T0 (mkF m 56 #[.val (.ref aX), .val (.ref aY), .val (.double FP.dconst0), .second, .val (.double d0), .second, .val (.int (0 : Int32)), .val (.double d1), .second, .val (.double t0), .second] [(.double FP.dconst0)])
  refine Goes.of (X0.ldc2DoubleC hx hown (mvT hZ (hw _ (List.mem_of_getElem? (i := 18) rfl))) (g := (mkF m 56 #[.val (.ref aX), .val (.ref aY), .val (.double FP.dconst0), .second, .val (.double d0), .second, .val (.int (0 : Int32)), .val (.double d1), .second, .val (.double t0), .second] [(.double FP.dconst0)])) rfl (Jvm.hb hby d1_56)) ?_
  show Goes p e below _ T0 (mkF m 59 #[.val (.ref aX), .val (.ref aY), .val (.double FP.dconst0), .second, .val (.double d0), .second, .val (.int (0 : Int32)), .val (.double d1), .second, .val (.double t0), .second] [(.double (4636737291354636288 : UInt64)), (.double FP.dconst0)])
  refine Goes.of (fun _ kont => XS.dload X0.here hx rfl (Jvm.hb hby d1_59) rfl kont) ?_
  show Goes p e below _ T0 (mkF m 61 #[.val (.ref aX), .val (.ref aY), .val (.double FP.dconst0), .second, .val (.double d0), .second, .val (.int (0 : Int32)), .val (.double d1), .second, .val (.double t0), .second] [(.double t0), (.double (4636737291354636288 : UInt64)), (.double FP.dconst0)])
  have Dh0 := own_mul own_100 Dt0 (by omega)
  refine Goes.of (fun _ kont => XS.dmulS X0.here hx rfl (Jvm.hb hby d1_61) rfl Dh0.noNaN rfl kont) ?_
  show Goes p e below _ T0 (mkF m 62 #[.val (.ref aX), .val (.ref aY), .val (.double FP.dconst0), .second, .val (.double d0), .second, .val (.int (0 : Int32)), .val (.double d1), .second, .val (.double t0), .second] [(.double (FP.dmul (4636737291354636288 : UInt64) t0)), (.double FP.dconst0)])
  generalize hh0 : (FP.dmul (4636737291354636288 : UInt64) t0) = h0
  show Goes p e below _ T0 (mkF m 62 #[.val (.ref aX), .val (.ref aY), .val (.double FP.dconst0), .second, .val (.double d0), .second, .val (.int (0 : Int32)), .val (.double d1), .second, .val (.double t0), .second] [(.double h0), (.double FP.dconst0)])
  rw [hh0] at Dh0
  refine Goes.of (fun _ kont => XS.dload X0.here hx rfl (Jvm.hb hby d1_62) rfl kont) ?_
  show Goes p e below _ T0 (mkF m 64 #[.val (.ref aX), .val (.ref aY), .val (.double FP.dconst0), .second, .val (.double d0), .second, .val (.int (0 : Int32)), .val (.double d1), .second, .val (.double t0), .second] [(.double t0), (.double h0), (.double FP.dconst0)])
  have Dk0 := own_mul Dh0 Dt0 (by omega)
  refine Goes.of (fun _ kont => XS.dmulS X0.here hx rfl (Jvm.hb hby d1_64) rfl Dk0.noNaN rfl kont) ?_
  show Goes p e below _ T0 (mkF m 65 #[.val (.ref aX), .val (.ref aY), .val (.double FP.dconst0), .second, .val (.double d0), .second, .val (.int (0 : Int32)), .val (.double d1), .second, .val (.double t0), .second] [(.double (FP.dmul h0 t0)), (.double FP.dconst0)])
  generalize hk0 : (FP.dmul h0 t0) = k0
  show Goes p e below _ T0 (mkF m 65 #[.val (.ref aX), .val (.ref aY), .val (.double FP.dconst0), .second, .val (.double d0), .second, .val (.int (0 : Int32)), .val (.double d1), .second, .val (.double t0), .second] [(.double k0), (.double FP.dconst0)])
  rw [hk0] at Dk0
  refine Goes.of (fun _ kont => XS.dload X0.here hx rfl (Jvm.hb hby d1_65) rfl kont) ?_
  show Goes p e below _ T0 (mkF m 67 #[.val (.ref aX), .val (.ref aY), .val (.double FP.dconst0), .second, .val (.double d0), .second, .val (.int (0 : Int32)), .val (.double d1), .second, .val (.double t0), .second] [(.double d0), (.double k0), (.double FP.dconst0)])
  refine Goes.of (fun _ kont => XS.dload X0.here hx rfl (Jvm.hb hby d1_67) rfl kont) ?_
  show Goes p e below _ T0 (mkF m 69 #[.val (.ref aX), .val (.ref aY), .val (.double FP.dconst0), .second, .val (.double d0), .second, .val (.int (0 : Int32)), .val (.double d1), .second, .val (.double t0), .second] [(.double d0), (.double d0), (.double k0), (.double FP.dconst0)])
  have Dr0 := Ds0
  rw [← hs0] at Dr0
  refine Goes.of (fun _ kont => XS.dmulS X0.here hx rfl (Jvm.hb hby d1_69) rfl Dr0.noNaN rfl kont) ?_
  show Goes p e below _ T0 (mkF m 70 #[.val (.ref aX), .val (.ref aY), .val (.double FP.dconst0), .second, .val (.double d0), .second, .val (.int (0 : Int32)), .val (.double d1), .second, .val (.double t0), .second] [(.double (FP.dmul d0 d0)), (.double k0), (.double FP.dconst0)])
  generalize hr0 : (FP.dmul d0 d0) = r0
  show Goes p e below _ T0 (mkF m 70 #[.val (.ref aX), .val (.ref aY), .val (.double FP.dconst0), .second, .val (.double d0), .second, .val (.int (0 : Int32)), .val (.double d1), .second, .val (.double t0), .second] [(.double r0), (.double k0), (.double FP.dconst0)])
  rw [hr0] at Dr0
  have Dm0 := own_add Dk0 Dr0 (by unfold tm at t05; omega)
  refine Goes.of (fun _ kont => XS.daddS X0.here hx rfl (Jvm.hb hby d1_70) rfl Dm0.noNaN rfl kont) ?_
  show Goes p e below _ T0 (mkF m 71 #[.val (.ref aX), .val (.ref aY), .val (.double FP.dconst0), .second, .val (.double d0), .second, .val (.int (0 : Int32)), .val (.double d1), .second, .val (.double t0), .second] [(.double (FP.dadd k0 r0)), (.double FP.dconst0)])
  generalize hm0 : (FP.dadd k0 r0) = m0
  show Goes p e below _ T0 (mkF m 71 #[.val (.ref aX), .val (.ref aY), .val (.double FP.dconst0), .second, .val (.double d0), .second, .val (.int (0 : Int32)), .val (.double d1), .second, .val (.double t0), .second] [(.double m0), (.double FP.dconst0)])
  rw [hm0] at Dm0
  change Dy (tm (a0 - b0) (a1 - b1)) 0 m0 at Dm0
  have Dz1 := own_add Dz0 Dm0 (by omega)
  refine Goes.of (fun _ kont => XS.daddS X0.here hx rfl (Jvm.hb hby d1_71) rfl Dz1.noNaN rfl kont) ?_
  show Goes p e below _ T0 (mkF m 72 #[.val (.ref aX), .val (.ref aY), .val (.double FP.dconst0), .second, .val (.double d0), .second, .val (.int (0 : Int32)), .val (.double d1), .second, .val (.double t0), .second] [(.double (FP.dadd FP.dconst0 m0))])
  generalize hz1 : (FP.dadd FP.dconst0 m0) = z1
  show Goes p e below _ T0 (mkF m 72 #[.val (.ref aX), .val (.ref aY), .val (.double FP.dconst0), .second, .val (.double d0), .second, .val (.int (0 : Int32)), .val (.double d1), .second, .val (.double t0), .second] [(.double z1)])
  rw [hz1, Int.zero_add] at Dz1
  refine Goes.of (fun _ kont => XS.dstoreN X0.here hx rfl (Jvm.hb hby d1_72) rfl (l' := #[.val (.ref aX), .val (.ref aY), .val (.double z1), .second, .val (.double d0), .second, .val (.int (0 : Int32)), .val (.double d1), .second, .val (.double t0), .second]) rfl kont) ?_
  show Goes p e below _ T0 (mkF m 73 #[.val (.ref aX), .val (.ref aY), .val (.double z1), .second, .val (.double d0), .second, .val (.int (0 : Int32)), .val (.double d1), .second, .val (.double t0), .second] [])
  refine Goes.of (fun _ kont => XS.dload X0.here hx rfl (Jvm.hb hby d1_73) rfl kont) ?_
  show Goes p e below _ T0 (mkF m 75 #[.val (.ref aX), .val (.ref aY), .val (.double z1), .second, .val (.double d0), .second, .val (.int (0 : Int32)), .val (.double d1), .second, .val (.double t0), .second] [(.double d1)])
  refine Goes.of (fun _ kont => XS.dstore X0.here hx rfl (Jvm.hb hby d1_75) rfl (l' := #[.val (.ref aX), .val (.ref aY), .val (.double z1), .second, .val (.double d1), .second, .val (.int (0 : Int32)), .val (.double d1), .second, .val (.double t0), .second]) rfl kont) ?_
  show Goes p e below _ T0 (mkF m 77 #[.val (.ref aX), .val (.ref aY), .val (.double z1), .second, .val (.double d1), .second, .val (.int (0 : Int32)), .val (.double d1), .second, .val (.double t0), .second] [])
  refine Goes.of (fun _ kont => XS.iinc X0.here hx rfl (Jvm.hb hby d1_77) rfl (l' := #[.val (.ref aX), .val (.ref aY), .val (.double z1), .second, .val (.double d1), .second, .val (.int (1 : Int32)), .val (.double d1), .second, .val (.double t0), .second]) rfl kont) ?_
  show Goes p e below _ T0 (mkF m 80 #[.val (.ref aX), .val (.ref aY), .val (.double z1), .second, .val (.double d1), .second, .val (.int (1 : Int32)), .val (.double d1), .second, .val (.double t0), .second] [])
  refine Goes.of (fun _ kont => XS.goto X0.here hx rfl (pc0 := 80) (pc' := 14) rfl (Jvm.hb hby d1_80) (by decide) (by decide) kont) ?_
  show Goes p e below _ T0 (mkF m 14 #[.val (.ref aX), .val (.ref aY), .val (.double z1), .second, .val (.double d1), .second, .val (.int (1 : Int32)), .val (.double d1), .second, .val (.double t0), .second] [])
  refine Goes.of (fun _ kont => XS.iload X0.here hx rfl (Jvm.hb hby d1_14) rfl kont) ?_
  show Goes p e below _ T0 (mkF m 16 #[.val (.ref aX), .val (.ref aY), .val (.double z1), .second, .val (.double d1), .second, .val (.int (1 : Int32)), .val (.double d1), .second, .val (.double t0), .second] [(.int (1 : Int32))])
  refine Goes.of (fun _ kont => XS.iconst X0.here hx rfl (Jvm.hb hby d1_16) kont) ?_
  show Goes p e below _ T0 (mkF m 17 #[.val (.ref aX), .val (.ref aY), .val (.double z1), .second, .val (.double d1), .second, .val (.int (1 : Int32)), .val (.double d1), .second, .val (.double t0), .second] [(.int (1 : Int32)), (.int (1 : Int32))])
  refine Goes.of (fun _ kont => XS.iadd X0.here hx rfl (Jvm.hb hby d1_17) rfl kont) ?_
  show Goes p e below _ T0 (mkF m 18 #[.val (.ref aX), .val (.ref aY), .val (.double z1), .second, .val (.double d1), .second, .val (.int (1 : Int32)), .val (.double d1), .second, .val (.double t0), .second] [(.int ((1 : Int32) + (1 : Int32)))])
  show Goes p e below _ T0 (mkF m 18 #[.val (.ref aX), .val (.ref aY), .val (.double z1), .second, .val (.double d1), .second, .val (.int (1 : Int32)), .val (.double d1), .second, .val (.double t0), .second] [(.int (2 : Int32))])
  refine Goes.of (fun _ kont => XS.aloadN X0.here hx rfl (Jvm.hb hby d1_18) rfl rfl kont) ?_
  show Goes p e below _ T0 (mkF m 19 #[.val (.ref aX), .val (.ref aY), .val (.double z1), .second, .val (.double d1), .second, .val (.int (1 : Int32)), .val (.double d1), .second, .val (.double t0), .second] [(.ref aX), (.int (2 : Int32))])
  refine goLen X0 hx hZ e0 VX (n := 4) (by show Int32.toInt 4 = ((4 : Nat) : Int); decide) (g := (mkF m 19 #[.val (.ref aX), .val (.ref aY), .val (.double z1), .second, .val (.double d1), .second, .val (.int (1 : Int32)), .val (.double d1), .second, .val (.double t0), .second] [(.ref aX), (.int (2 : Int32))])) rfl rfl (Jvm.hb hby d1_19) ?_
  show Goes p e below _ T0 (mkF m 20 #[.val (.ref aX), .val (.ref aY), .val (.double z1), .second, .val (.double d1), .second, .val (.int (1 : Int32)), .val (.double d1), .second, .val (.double t0), .second] [(.int (4 : Int32)), (.int (2 : Int32))])
  refine Goes.of (fun _ kont => XS.icmpNo X0.here hx rfl (Jvm.hb hby d1_20) rfl (by decide) kont) ?_
  show Goes p e below _ T0 (mkF m 23 #[.val (.ref aX), .val (.ref aY), .val (.double z1), .second, .val (.double d1), .second, .val (.int (1 : Int32)), .val (.double d1), .second, .val (.double t0), .second] [])
  refine Goes.of (fun _ kont => XS.aloadN X0.here hx rfl (Jvm.hb hby d1_23) rfl rfl kont) ?_
  show Goes p e below _ T0 (mkF m 24 #[.val (.ref aX), .val (.ref aY), .val (.double z1), .second, .val (.double d1), .second, .val (.int (1 : Int32)), .val (.double d1), .second, .val (.double t0), .second] [(.ref aX)])
  refine Goes.of (fun _ kont => XS.iload X0.here hx rfl (Jvm.hb hby d1_24) rfl kont) ?_
  show Goes p e below _ T0 (mkF m 26 #[.val (.ref aX), .val (.ref aY), .val (.double z1), .second, .val (.double d1), .second, .val (.int (1 : Int32)), .val (.double d1), .second, .val (.double t0), .second] [(.int (1 : Int32)), (.ref aX)])
  refine Goes.of (fun _ kont => XS.iconst X0.here hx rfl (Jvm.hb hby d1_26) kont) ?_
  show Goes p e below _ T0 (mkF m 27 #[.val (.ref aX), .val (.ref aY), .val (.double z1), .second, .val (.double d1), .second, .val (.int (1 : Int32)), .val (.double d1), .second, .val (.double t0), .second] [(.int (1 : Int32)), (.int (1 : Int32)), (.ref aX)])
  refine Goes.of (fun _ kont => XS.iadd X0.here hx rfl (Jvm.hb hby d1_27) rfl kont) ?_
  show Goes p e below _ T0 (mkF m 28 #[.val (.ref aX), .val (.ref aY), .val (.double z1), .second, .val (.double d1), .second, .val (.int (1 : Int32)), .val (.double d1), .second, .val (.double t0), .second] [(.int ((1 : Int32) + (1 : Int32))), (.ref aX)])
  show Goes p e below _ T0 (mkF m 28 #[.val (.ref aX), .val (.ref aY), .val (.double z1), .second, .val (.double d1), .second, .val (.int (1 : Int32)), .val (.double d1), .second, .val (.double t0), .second] [(.int (2 : Int32)), (.ref aX)])
  refine goLdD X0 hx hZ e0 VX 2 (by decide) (w := x2) rfl (g := (mkF m 28 #[.val (.ref aX), .val (.ref aY), .val (.double z1), .second, .val (.double d1), .second, .val (.int (1 : Int32)), .val (.double d1), .second, .val (.double t0), .second] [(.int (2 : Int32)), (.ref aX)])) rfl rfl (Jvm.hb hby d1_28) ?_
  show Goes p e below _ T0 (mkF m 29 #[.val (.ref aX), .val (.ref aY), .val (.double z1), .second, .val (.double d1), .second, .val (.int (1 : Int32)), .val (.double d1), .second, .val (.double t0), .second] [(.double x2)])
  refine Goes.of (fun _ kont => XS.aloadN X0.here hx rfl (Jvm.hb hby d1_29) rfl rfl kont) ?_
  show Goes p e below _ T0 (mkF m 30 #[.val (.ref aX), .val (.ref aY), .val (.double z1), .second, .val (.double d1), .second, .val (.int (1 : Int32)), .val (.double d1), .second, .val (.double t0), .second] [(.ref aY), (.double x2)])
  refine Goes.of (fun _ kont => XS.iload X0.here hx rfl (Jvm.hb hby d1_30) rfl kont) ?_
  show Goes p e below _ T0 (mkF m 32 #[.val (.ref aX), .val (.ref aY), .val (.double z1), .second, .val (.double d1), .second, .val (.int (1 : Int32)), .val (.double d1), .second, .val (.double t0), .second] [(.int (1 : Int32)), (.ref aY), (.double x2)])
  refine Goes.of (fun _ kont => XS.iconst X0.here hx rfl (Jvm.hb hby d1_32) kont) ?_
  show Goes p e below _ T0 (mkF m 33 #[.val (.ref aX), .val (.ref aY), .val (.double z1), .second, .val (.double d1), .second, .val (.int (1 : Int32)), .val (.double d1), .second, .val (.double t0), .second] [(.int (1 : Int32)), (.int (1 : Int32)), (.ref aY), (.double x2)])
  refine Goes.of (fun _ kont => XS.iadd X0.here hx rfl (Jvm.hb hby d1_33) rfl kont) ?_
  show Goes p e below _ T0 (mkF m 34 #[.val (.ref aX), .val (.ref aY), .val (.double z1), .second, .val (.double d1), .second, .val (.int (1 : Int32)), .val (.double d1), .second, .val (.double t0), .second] [(.int ((1 : Int32) + (1 : Int32))), (.ref aY), (.double x2)])
  show Goes p e below _ T0 (mkF m 34 #[.val (.ref aX), .val (.ref aY), .val (.double z1), .second, .val (.double d1), .second, .val (.int (1 : Int32)), .val (.double d1), .second, .val (.double t0), .second] [(.int (2 : Int32)), (.ref aY), (.double x2)])
  refine goLdD X0 hx hZ e0 VY 2 (by decide) (w := y2) rfl (g := (mkF m 34 #[.val (.ref aX), .val (.ref aY), .val (.double z1), .second, .val (.double d1), .second, .val (.int (1 : Int32)), .val (.double d1), .second, .val (.double t0), .second] [(.int (2 : Int32)), (.ref aY), (.double x2)])) rfl rfl (Jvm.hb hby d1_34) ?_
  show Goes p e below _ T0 (mkF m 35 #[.val (.ref aX), .val (.ref aY), .val (.double z1), .second, .val (.double d1), .second, .val (.int (1 : Int32)), .val (.double d1), .second, .val (.double t0), .second] [(.double y2), (.double x2)])
  have Dd2 := own_sub X2d Y2d (by omega)
  refine Goes.of (fun _ kont => XS.dsubS X0.here hx rfl (Jvm.hb hby d1_35) rfl Dd2.noNaN rfl kont) ?_
  show Goes p e below _ T0 (mkF m 36 #[.val (.ref aX), .val (.ref aY), .val (.double z1), .second, .val (.double d1), .second, .val (.int (1 : Int32)), .val (.double d1), .second, .val (.double t0), .second] [(.double (FP.dsub x2 y2))])
  generalize hd2 : (FP.dsub x2 y2) = d2
  show Goes p e below _ T0 (mkF m 36 #[.val (.ref aX), .val (.ref aY), .val (.double z1), .second, .val (.double d1), .second, .val (.int (1 : Int32)), .val (.double d1), .second, .val (.double t0), .second] [(.double d2)])
  rw [hd2] at Dd2
  obtain ⟨t11, t12, t13, t14, t15⟩ := tm_b (d := (a1 - b1)) (n := (a2 - b2)) (by omega) (by omega)
  refine Goes.of (fun _ kont => XS.dstore X0.here hx rfl (Jvm.hb hby d1_36) rfl (l' := #[.val (.ref aX), .val (.ref aY), .val (.double z1), .second, .val (.double d1), .second, .val (.int (1 : Int32)), .val (.double d2), .second, .val (.double t0), .second]) rfl kont) ?_
  show Goes p e below _ T0 (mkF m 38 #[.val (.ref aX), .val (.ref aY), .val (.double z1), .second, .val (.double d1), .second, .val (.int (1 : Int32)), .val (.double d2), .second, .val (.double t0), .second] [])
  refine Goes.of (fun _ kont => XS.dload X0.here hx rfl (Jvm.hb hby d1_38) rfl kont) ?_
  show Goes p e below _ T0 (mkF m 40 #[.val (.ref aX), .val (.ref aY), .val (.double z1), .second, .val (.double d1), .second, .val (.int (1 : Int32)), .val (.double d2), .second, .val (.double t0), .second] [(.double d1)])
  refine Goes.of (fun _ kont => XS.dload X0.here hx rfl (Jvm.hb hby d1_40) rfl kont) ?_
  show Goes p e below _ T0 (mkF m 42 #[.val (.ref aX), .val (.ref aY), .val (.double z1), .second, .val (.double d1), .second, .val (.int (1 : Int32)), .val (.double d2), .second, .val (.double t0), .second] [(.double d1), (.double d1)])
  have Ds1 := own_mul Dd1 Dd1 (by omega)
  refine Goes.of (fun _ kont => XS.dmulS X0.here hx rfl (Jvm.hb hby d1_42) rfl Ds1.noNaN rfl kont) ?_
  show Goes p e below _ T0 (mkF m 43 #[.val (.ref aX), .val (.ref aY), .val (.double z1), .second, .val (.double d1), .second, .val (.int (1 : Int32)), .val (.double d2), .second, .val (.double t0), .second] [(.double (FP.dmul d1 d1))])
  generalize hs1 : (FP.dmul d1 d1) = s1
  show Goes p e below _ T0 (mkF m 43 #[.val (.ref aX), .val (.ref aY), .val (.double z1), .second, .val (.double d1), .second, .val (.int (1 : Int32)), .val (.double d2), .second, .val (.double t0), .second] [(.double s1)])
  rw [hs1] at Ds1
  refine Goes.of (X0.ldc2DoubleC hx hown (mvT hZ (hw _ (List.mem_of_getElem? (i := 17) rfl))) (g := (mkF m 43 #[.val (.ref aX), .val (.ref aY), .val (.double z1), .second, .val (.double d1), .second, .val (.int (1 : Int32)), .val (.double d2), .second, .val (.double t0), .second] [(.double s1)])) rfl (Jvm.hb hby d1_43)) ?_
  show Goes p e below _ T0 (mkF m 46 #[.val (.ref aX), .val (.ref aY), .val (.double z1), .second, .val (.double d1), .second, .val (.int (1 : Int32)), .val (.double d2), .second, .val (.double t0), .second] [(.double (4611686018427387904 : UInt64)), (.double s1)])
  refine Goes.of (fun _ kont => XS.dload X0.here hx rfl (Jvm.hb hby d1_46) rfl kont) ?_
  show Goes p e below _ T0 (mkF m 48 #[.val (.ref aX), .val (.ref aY), .val (.double z1), .second, .val (.double d1), .second, .val (.int (1 : Int32)), .val (.double d2), .second, .val (.double t0), .second] [(.double d1), (.double (4611686018427387904 : UInt64)), (.double s1)])
  have Dw1 := own_mul own_2 Dd1 (by omega)
  refine Goes.of (fun _ kont => XS.dmulS X0.here hx rfl (Jvm.hb hby d1_48) rfl Dw1.noNaN rfl kont) ?_
  show Goes p e below _ T0 (mkF m 49 #[.val (.ref aX), .val (.ref aY), .val (.double z1), .second, .val (.double d1), .second, .val (.int (1 : Int32)), .val (.double d2), .second, .val (.double t0), .second] [(.double (FP.dmul (4611686018427387904 : UInt64) d1)), (.double s1)])
  generalize hw1 : (FP.dmul (4611686018427387904 : UInt64) d1) = w1
  show Goes p e below _ T0 (mkF m 49 #[.val (.ref aX), .val (.ref aY), .val (.double z1), .second, .val (.double d1), .second, .val (.int (1 : Int32)), .val (.double d2), .second, .val (.double t0), .second] [(.double w1), (.double s1)])
  rw [hw1] at Dw1
  have Dv1 := own_add Ds1 Dw1 (by omega)
  refine Goes.of (fun _ kont => XS.daddS X0.here hx rfl (Jvm.hb hby d1_49) rfl Dv1.noNaN rfl kont) ?_
  show Goes p e below _ T0 (mkF m 50 #[.val (.ref aX), .val (.ref aY), .val (.double z1), .second, .val (.double d1), .second, .val (.int (1 : Int32)), .val (.double d2), .second, .val (.double t0), .second] [(.double (FP.dadd s1 w1))])
  generalize hv1 : (FP.dadd s1 w1) = v1
  show Goes p e below _ T0 (mkF m 50 #[.val (.ref aX), .val (.ref aY), .val (.double z1), .second, .val (.double d1), .second, .val (.int (1 : Int32)), .val (.double d2), .second, .val (.double t0), .second] [(.double v1)])
  rw [hv1] at Dv1
  refine Goes.of (fun _ kont => XS.dload X0.here hx rfl (Jvm.hb hby d1_50) rfl kont) ?_
  show Goes p e below _ T0 (mkF m 52 #[.val (.ref aX), .val (.ref aY), .val (.double z1), .second, .val (.double d1), .second, .val (.int (1 : Int32)), .val (.double d2), .second, .val (.double t0), .second] [(.double d2), (.double v1)])
  have Dt1 := own_sub Dv1 Dd2 (by omega)
  refine Goes.of (fun _ kont => XS.dsubS X0.here hx rfl (Jvm.hb hby d1_52) rfl Dt1.noNaN rfl kont) ?_
  show Goes p e below _ T0 (mkF m 53 #[.val (.ref aX), .val (.ref aY), .val (.double z1), .second, .val (.double d1), .second, .val (.int (1 : Int32)), .val (.double d2), .second, .val (.double t0), .second] [(.double (FP.dsub v1 d2))])
  generalize ht1 : (FP.dsub v1 d2) = t1
  show Goes p e below _ T0 (mkF m 53 #[.val (.ref aX), .val (.ref aY), .val (.double z1), .second, .val (.double d1), .second, .val (.int (1 : Int32)), .val (.double d2), .second, .val (.double t0), .second] [(.double t1)])
  rw [ht1] at Dt1
  refine Goes.of (fun _ kont => XS.dstore X0.here hx rfl (Jvm.hb hby d1_53) rfl (l' := #[.val (.ref aX), .val (.ref aY), .val (.double z1), .second, .val (.double d1), .second, .val (.int (1 : Int32)), .val (.double d2), .second, .val (.double t1), .second]) rfl kont) ?_
  show Goes p e below _ T0 (mkF m 55 #[.val (.ref aX), .val (.ref aY), .val (.double z1), .second, .val (.double d1), .second, .val (.int (1 : Int32)), .val (.double d2), .second, .val (.double t1), .second] [])
  refine Goes.of (fun _ kont => XS.dloadN X0.here hx rfl (Jvm.hb hby d1_55) rfl kont) ?_
  show Goes p e below _ T0 (mkF m 56 #[.val (.ref aX), .val (.ref aY), .val (.double z1), .second, .val (.double d1), .second, .val (.int (1 : Int32)), .val (.double d2), .second, .val (.double t1), .second] [(.double z1)])
  refine Goes.of (X0.ldc2DoubleC hx hown (mvT hZ (hw _ (List.mem_of_getElem? (i := 18) rfl))) (g := (mkF m 56 #[.val (.ref aX), .val (.ref aY), .val (.double z1), .second, .val (.double d1), .second, .val (.int (1 : Int32)), .val (.double d2), .second, .val (.double t1), .second] [(.double z1)])) rfl (Jvm.hb hby d1_56)) ?_
  show Goes p e below _ T0 (mkF m 59 #[.val (.ref aX), .val (.ref aY), .val (.double z1), .second, .val (.double d1), .second, .val (.int (1 : Int32)), .val (.double d2), .second, .val (.double t1), .second] [(.double (4636737291354636288 : UInt64)), (.double z1)])
  refine Goes.of (fun _ kont => XS.dload X0.here hx rfl (Jvm.hb hby d1_59) rfl kont) ?_
  show Goes p e below _ T0 (mkF m 61 #[.val (.ref aX), .val (.ref aY), .val (.double z1), .second, .val (.double d1), .second, .val (.int (1 : Int32)), .val (.double d2), .second, .val (.double t1), .second] [(.double t1), (.double (4636737291354636288 : UInt64)), (.double z1)])
  have Dh1 := own_mul own_100 Dt1 (by omega)
  refine Goes.of (fun _ kont => XS.dmulS X0.here hx rfl (Jvm.hb hby d1_61) rfl Dh1.noNaN rfl kont) ?_
  show Goes p e below _ T0 (mkF m 62 #[.val (.ref aX), .val (.ref aY), .val (.double z1), .second, .val (.double d1), .second, .val (.int (1 : Int32)), .val (.double d2), .second, .val (.double t1), .second] [(.double (FP.dmul (4636737291354636288 : UInt64) t1)), (.double z1)])
  generalize hh1 : (FP.dmul (4636737291354636288 : UInt64) t1) = h1
  show Goes p e below _ T0 (mkF m 62 #[.val (.ref aX), .val (.ref aY), .val (.double z1), .second, .val (.double d1), .second, .val (.int (1 : Int32)), .val (.double d2), .second, .val (.double t1), .second] [(.double h1), (.double z1)])
  rw [hh1] at Dh1
  refine Goes.of (fun _ kont => XS.dload X0.here hx rfl (Jvm.hb hby d1_62) rfl kont) ?_
  show Goes p e below _ T0 (mkF m 64 #[.val (.ref aX), .val (.ref aY), .val (.double z1), .second, .val (.double d1), .second, .val (.int (1 : Int32)), .val (.double d2), .second, .val (.double t1), .second] [(.double t1), (.double h1), (.double z1)])
  have Dk1 := own_mul Dh1 Dt1 (by omega)
  refine Goes.of (fun _ kont => XS.dmulS X0.here hx rfl (Jvm.hb hby d1_64) rfl Dk1.noNaN rfl kont) ?_
  show Goes p e below _ T0 (mkF m 65 #[.val (.ref aX), .val (.ref aY), .val (.double z1), .second, .val (.double d1), .second, .val (.int (1 : Int32)), .val (.double d2), .second, .val (.double t1), .second] [(.double (FP.dmul h1 t1)), (.double z1)])
  generalize hk1 : (FP.dmul h1 t1) = k1
  show Goes p e below _ T0 (mkF m 65 #[.val (.ref aX), .val (.ref aY), .val (.double z1), .second, .val (.double d1), .second, .val (.int (1 : Int32)), .val (.double d2), .second, .val (.double t1), .second] [(.double k1), (.double z1)])
  rw [hk1] at Dk1
  refine Goes.of (fun _ kont => XS.dload X0.here hx rfl (Jvm.hb hby d1_65) rfl kont) ?_
  show Goes p e below _ T0 (mkF m 67 #[.val (.ref aX), .val (.ref aY), .val (.double z1), .second, .val (.double d1), .second, .val (.int (1 : Int32)), .val (.double d2), .second, .val (.double t1), .second] [(.double d1), (.double k1), (.double z1)])
  refine Goes.of (fun _ kont => XS.dload X0.here hx rfl (Jvm.hb hby d1_67) rfl kont) ?_
  show Goes p e below _ T0 (mkF m 69 #[.val (.ref aX), .val (.ref aY), .val (.double z1), .second, .val (.double d1), .second, .val (.int (1 : Int32)), .val (.double d2), .second, .val (.double t1), .second] [(.double d1), (.double d1), (.double k1), (.double z1)])
  have Dr1 := Ds1
  rw [← hs1] at Dr1
  refine Goes.of (fun _ kont => XS.dmulS X0.here hx rfl (Jvm.hb hby d1_69) rfl Dr1.noNaN rfl kont) ?_
  show Goes p e below _ T0 (mkF m 70 #[.val (.ref aX), .val (.ref aY), .val (.double z1), .second, .val (.double d1), .second, .val (.int (1 : Int32)), .val (.double d2), .second, .val (.double t1), .second] [(.double (FP.dmul d1 d1)), (.double k1), (.double z1)])
  generalize hr1 : (FP.dmul d1 d1) = r1
  show Goes p e below _ T0 (mkF m 70 #[.val (.ref aX), .val (.ref aY), .val (.double z1), .second, .val (.double d1), .second, .val (.int (1 : Int32)), .val (.double d2), .second, .val (.double t1), .second] [(.double r1), (.double k1), (.double z1)])
  rw [hr1] at Dr1
  have Dm1 := own_add Dk1 Dr1 (by unfold tm at t15; omega)
  refine Goes.of (fun _ kont => XS.daddS X0.here hx rfl (Jvm.hb hby d1_70) rfl Dm1.noNaN rfl kont) ?_
  show Goes p e below _ T0 (mkF m 71 #[.val (.ref aX), .val (.ref aY), .val (.double z1), .second, .val (.double d1), .second, .val (.int (1 : Int32)), .val (.double d2), .second, .val (.double t1), .second] [(.double (FP.dadd k1 r1)), (.double z1)])
  generalize hm1 : (FP.dadd k1 r1) = m1
  show Goes p e below _ T0 (mkF m 71 #[.val (.ref aX), .val (.ref aY), .val (.double z1), .second, .val (.double d1), .second, .val (.int (1 : Int32)), .val (.double d2), .second, .val (.double t1), .second] [(.double m1), (.double z1)])
  rw [hm1] at Dm1
  change Dy (tm (a1 - b1) (a2 - b2)) 0 m1 at Dm1
  have Dz2 := own_add Dz1 Dm1 (by omega)
  refine Goes.of (fun _ kont => XS.daddS X0.here hx rfl (Jvm.hb hby d1_71) rfl Dz2.noNaN rfl kont) ?_
  show Goes p e below _ T0 (mkF m 72 #[.val (.ref aX), .val (.ref aY), .val (.double z1), .second, .val (.double d1), .second, .val (.int (1 : Int32)), .val (.double d2), .second, .val (.double t1), .second] [(.double (FP.dadd z1 m1))])
  generalize hz2 : (FP.dadd z1 m1) = z2
  show Goes p e below _ T0 (mkF m 72 #[.val (.ref aX), .val (.ref aY), .val (.double z1), .second, .val (.double d1), .second, .val (.int (1 : Int32)), .val (.double d2), .second, .val (.double t1), .second] [(.double z2)])
  rw [hz2] at Dz2
  refine Goes.of (fun _ kont => XS.dstoreN X0.here hx rfl (Jvm.hb hby d1_72) rfl (l' := #[.val (.ref aX), .val (.ref aY), .val (.double z2), .second, .val (.double d1), .second, .val (.int (1 : Int32)), .val (.double d2), .second, .val (.double t1), .second]) rfl kont) ?_
  show Goes p e below _ T0 (mkF m 73 #[.val (.ref aX), .val (.ref aY), .val (.double z2), .second, .val (.double d1), .second, .val (.int (1 : Int32)), .val (.double d2), .second, .val (.double t1), .second] [])
  refine Goes.of (fun _ kont => XS.dload X0.here hx rfl (Jvm.hb hby d1_73) rfl kont) ?_
  show Goes p e below _ T0 (mkF m 75 #[.val (.ref aX), .val (.ref aY), .val (.double z2), .second, .val (.double d1), .second, .val (.int (1 : Int32)), .val (.double d2), .second, .val (.double t1), .second] [(.double d2)])
  refine Goes.of (fun _ kont => XS.dstore X0.here hx rfl (Jvm.hb hby d1_75) rfl (l' := #[.val (.ref aX), .val (.ref aY), .val (.double z2), .second, .val (.double d2), .second, .val (.int (1 : Int32)), .val (.double d2), .second, .val (.double t1), .second]) rfl kont) ?_
  show Goes p e below _ T0 (mkF m 77 #[.val (.ref aX), .val (.ref aY), .val (.double z2), .second, .val (.double d2), .second, .val (.int (1 : Int32)), .val (.double d2), .second, .val (.double t1), .second] [])
  refine Goes.of (fun _ kont => XS.iinc X0.here hx rfl (Jvm.hb hby d1_77) rfl (l' := #[.val (.ref aX), .val (.ref aY), .val (.double z2), .second, .val (.double d2), .second, .val (.int (2 : Int32)), .val (.double d2), .second, .val (.double t1), .second]) rfl kont) ?_
  show Goes p e below _ T0 (mkF m 80 #[.val (.ref aX), .val (.ref aY), .val (.double z2), .second, .val (.double d2), .second, .val (.int (2 : Int32)), .val (.double d2), .second, .val (.double t1), .second] [])
  refine Goes.of (fun _ kont => XS.goto X0.here hx rfl (pc0 := 80) (pc' := 14) rfl (Jvm.hb hby d1_80) (by decide) (by decide) kont) ?_
  show Goes p e below _ T0 (mkF m 14 #[.val (.ref aX), .val (.ref aY), .val (.double z2), .second, .val (.double d2), .second, .val (.int (2 : Int32)), .val (.double d2), .second, .val (.double t1), .second] [])
  refine Goes.of (fun _ kont => XS.iload X0.here hx rfl (Jvm.hb hby d1_14) rfl kont) ?_
  show Goes p e below _ T0 (mkF m 16 #[.val (.ref aX), .val (.ref aY), .val (.double z2), .second, .val (.double d2), .second, .val (.int (2 : Int32)), .val (.double d2), .second, .val (.double t1), .second] [(.int (2 : Int32))])
  refine Goes.of (fun _ kont => XS.iconst X0.here hx rfl (Jvm.hb hby d1_16) kont) ?_
  show Goes p e below _ T0 (mkF m 17 #[.val (.ref aX), .val (.ref aY), .val (.double z2), .second, .val (.double d2), .second, .val (.int (2 : Int32)), .val (.double d2), .second, .val (.double t1), .second] [(.int (1 : Int32)), (.int (2 : Int32))])
  refine Goes.of (fun _ kont => XS.iadd X0.here hx rfl (Jvm.hb hby d1_17) rfl kont) ?_
  show Goes p e below _ T0 (mkF m 18 #[.val (.ref aX), .val (.ref aY), .val (.double z2), .second, .val (.double d2), .second, .val (.int (2 : Int32)), .val (.double d2), .second, .val (.double t1), .second] [(.int ((2 : Int32) + (1 : Int32)))])
  show Goes p e below _ T0 (mkF m 18 #[.val (.ref aX), .val (.ref aY), .val (.double z2), .second, .val (.double d2), .second, .val (.int (2 : Int32)), .val (.double d2), .second, .val (.double t1), .second] [(.int (3 : Int32))])
  refine Goes.of (fun _ kont => XS.aloadN X0.here hx rfl (Jvm.hb hby d1_18) rfl rfl kont) ?_
  show Goes p e below _ T0 (mkF m 19 #[.val (.ref aX), .val (.ref aY), .val (.double z2), .second, .val (.double d2), .second, .val (.int (2 : Int32)), .val (.double d2), .second, .val (.double t1), .second] [(.ref aX), (.int (3 : Int32))])
  refine goLen X0 hx hZ e0 VX (n := 4) (by show Int32.toInt 4 = ((4 : Nat) : Int); decide) (g := (mkF m 19 #[.val (.ref aX), .val (.ref aY), .val (.double z2), .second, .val (.double d2), .second, .val (.int (2 : Int32)), .val (.double d2), .second, .val (.double t1), .second] [(.ref aX), (.int (3 : Int32))])) rfl rfl (Jvm.hb hby d1_19) ?_
  show Goes p e below _ T0 (mkF m 20 #[.val (.ref aX), .val (.ref aY), .val (.double z2), .second, .val (.double d2), .second, .val (.int (2 : Int32)), .val (.double d2), .second, .val (.double t1), .second] [(.int (4 : Int32)), (.int (3 : Int32))])
  refine Goes.of (fun _ kont => XS.icmpNo X0.here hx rfl (Jvm.hb hby d1_20) rfl (by decide) kont) ?_
  show Goes p e below _ T0 (mkF m 23 #[.val (.ref aX), .val (.ref aY), .val (.double z2), .second, .val (.double d2), .second, .val (.int (2 : Int32)), .val (.double d2), .second, .val (.double t1), .second] [])
  refine Goes.of (fun _ kont => XS.aloadN X0.here hx rfl (Jvm.hb hby d1_23) rfl rfl kont) ?_
  show Goes p e below _ T0 (mkF m 24 #[.val (.ref aX), .val (.ref aY), .val (.double z2), .second, .val (.double d2), .second, .val (.int (2 : Int32)), .val (.double d2), .second, .val (.double t1), .second] [(.ref aX)])
  refine Goes.of (fun _ kont => XS.iload X0.here hx rfl (Jvm.hb hby d1_24) rfl kont) ?_
  show Goes p e below _ T0 (mkF m 26 #[.val (.ref aX), .val (.ref aY), .val (.double z2), .second, .val (.double d2), .second, .val (.int (2 : Int32)), .val (.double d2), .second, .val (.double t1), .second] [(.int (2 : Int32)), (.ref aX)])
  refine Goes.of (fun _ kont => XS.iconst X0.here hx rfl (Jvm.hb hby d1_26) kont) ?_
  show Goes p e below _ T0 (mkF m 27 #[.val (.ref aX), .val (.ref aY), .val (.double z2), .second, .val (.double d2), .second, .val (.int (2 : Int32)), .val (.double d2), .second, .val (.double t1), .second] [(.int (1 : Int32)), (.int (2 : Int32)), (.ref aX)])
  refine Goes.of (fun _ kont => XS.iadd X0.here hx rfl (Jvm.hb hby d1_27) rfl kont) ?_
  show Goes p e below _ T0 (mkF m 28 #[.val (.ref aX), .val (.ref aY), .val (.double z2), .second, .val (.double d2), .second, .val (.int (2 : Int32)), .val (.double d2), .second, .val (.double t1), .second] [(.int ((2 : Int32) + (1 : Int32))), (.ref aX)])
  show Goes p e below _ T0 (mkF m 28 #[.val (.ref aX), .val (.ref aY), .val (.double z2), .second, .val (.double d2), .second, .val (.int (2 : Int32)), .val (.double d2), .second, .val (.double t1), .second] [(.int (3 : Int32)), (.ref aX)])
  refine goLdD X0 hx hZ e0 VX 3 (by decide) (w := x3) rfl (g := (mkF m 28 #[.val (.ref aX), .val (.ref aY), .val (.double z2), .second, .val (.double d2), .second, .val (.int (2 : Int32)), .val (.double d2), .second, .val (.double t1), .second] [(.int (3 : Int32)), (.ref aX)])) rfl rfl (Jvm.hb hby d1_28) ?_
  show Goes p e below _ T0 (mkF m 29 #[.val (.ref aX), .val (.ref aY), .val (.double z2), .second, .val (.double d2), .second, .val (.int (2 : Int32)), .val (.double d2), .second, .val (.double t1), .second] [(.double x3)])
  refine Goes.of (fun _ kont => XS.aloadN X0.here hx rfl (Jvm.hb hby d1_29) rfl rfl kont) ?_
  show Goes p e below _ T0 (mkF m 30 #[.val (.ref aX), .val (.ref aY), .val (.double z2), .second, .val (.double d2), .second, .val (.int (2 : Int32)), .val (.double d2), .second, .val (.double t1), .second] [(.ref aY), (.double x3)])
  refine Goes.of (fun _ kont => XS.iload X0.here hx rfl (Jvm.hb hby d1_30) rfl kont) ?_
  show Goes p e below _ T0 (mkF m 32 #[.val (.ref aX), .val (.ref aY), .val (.double z2), .second, .val (.double d2), .second, .val (.int (2 : Int32)), .val (.double d2), .second, .val (.double t1), .second] [(.int (2 : Int32)), (.ref aY), (.double x3)])
  refine Goes.of (fun _ kont => XS.iconst X0.here hx rfl (Jvm.hb hby d1_32) kont) ?_
  show Goes p e below _ T0 (mkF m 33 #[.val (.ref aX), .val (.ref aY), .val (.double z2), .second, .val (.double d2), .second, .val (.int (2 : Int32)), .val (.double d2), .second, .val (.double t1), .second] [(.int (1 : Int32)), (.int (2 : Int32)), (.ref aY), (.double x3)])
  refine Goes.of (fun _ kont => XS.iadd X0.here hx rfl (Jvm.hb hby d1_33) rfl kont) ?_
  show Goes p e below _ T0 (mkF m 34 #[.val (.ref aX), .val (.ref aY), .val (.double z2), .second, .val (.double d2), .second, .val (.int (2 : Int32)), .val (.double d2), .second, .val (.double t1), .second] [(.int ((2 : Int32) + (1 : Int32))), (.ref aY), (.double x3)])
  show Goes p e below _ T0 (mkF m 34 #[.val (.ref aX), .val (.ref aY), .val (.double z2), .second, .val (.double d2), .second, .val (.int (2 : Int32)), .val (.double d2), .second, .val (.double t1), .second] [(.int (3 : Int32)), (.ref aY), (.double x3)])
  refine goLdD X0 hx hZ e0 VY 3 (by decide) (w := y3) rfl (g := (mkF m 34 #[.val (.ref aX), .val (.ref aY), .val (.double z2), .second, .val (.double d2), .second, .val (.int (2 : Int32)), .val (.double d2), .second, .val (.double t1), .second] [(.int (3 : Int32)), (.ref aY), (.double x3)])) rfl rfl (Jvm.hb hby d1_34) ?_
  show Goes p e below _ T0 (mkF m 35 #[.val (.ref aX), .val (.ref aY), .val (.double z2), .second, .val (.double d2), .second, .val (.int (2 : Int32)), .val (.double d2), .second, .val (.double t1), .second] [(.double y3), (.double x3)])
  have Dd3 := own_sub X3d Y3d (by omega)
  refine Goes.of (fun _ kont => XS.dsubS X0.here hx rfl (Jvm.hb hby d1_35) rfl Dd3.noNaN rfl kont) ?_
  show Goes p e below _ T0 (mkF m 36 #[.val (.ref aX), .val (.ref aY), .val (.double z2), .second, .val (.double d2), .second, .val (.int (2 : Int32)), .val (.double d2), .second, .val (.double t1), .second] [(.double (FP.dsub x3 y3))])
  generalize hd3 : (FP.dsub x3 y3) = d3
  show Goes p e below _ T0 (mkF m 36 #[.val (.ref aX), .val (.ref aY), .val (.double z2), .second, .val (.double d2), .second, .val (.int (2 : Int32)), .val (.double d2), .second, .val (.double t1), .second] [(.double d3)])
  rw [hd3] at Dd3
  obtain ⟨t21, t22, t23, t24, t25⟩ := tm_b (d := (a2 - b2)) (n := (a3 - b3)) (by omega) (by omega)
  refine Goes.of (fun _ kont => XS.dstore X0.here hx rfl (Jvm.hb hby d1_36) rfl (l' := #[.val (.ref aX), .val (.ref aY), .val (.double z2), .second, .val (.double d2), .second, .val (.int (2 : Int32)), .val (.double d3), .second, .val (.double t1), .second]) rfl kont) ?_
  show Goes p e below _ T0 (mkF m 38 #[.val (.ref aX), .val (.ref aY), .val (.double z2), .second, .val (.double d2), .second, .val (.int (2 : Int32)), .val (.double d3), .second, .val (.double t1), .second] [])
  refine Goes.of (fun _ kont => XS.dload X0.here hx rfl (Jvm.hb hby d1_38) rfl kont) ?_
  show Goes p e below _ T0 (mkF m 40 #[.val (.ref aX), .val (.ref aY), .val (.double z2), .second, .val (.double d2), .second, .val (.int (2 : Int32)), .val (.double d3), .second, .val (.double t1), .second] [(.double d2)])
  refine Goes.of (fun _ kont => XS.dload X0.here hx rfl (Jvm.hb hby d1_40) rfl kont) ?_
  show Goes p e below _ T0 (mkF m 42 #[.val (.ref aX), .val (.ref aY), .val (.double z2), .second, .val (.double d2), .second, .val (.int (2 : Int32)), .val (.double d3), .second, .val (.double t1), .second] [(.double d2), (.double d2)])
  have Ds2 := own_mul Dd2 Dd2 (by omega)
  refine Goes.of (fun _ kont => XS.dmulS X0.here hx rfl (Jvm.hb hby d1_42) rfl Ds2.noNaN rfl kont) ?_
  show Goes p e below _ T0 (mkF m 43 #[.val (.ref aX), .val (.ref aY), .val (.double z2), .second, .val (.double d2), .second, .val (.int (2 : Int32)), .val (.double d3), .second, .val (.double t1), .second] [(.double (FP.dmul d2 d2))])
  generalize hs2 : (FP.dmul d2 d2) = s2
  show Goes p e below _ T0 (mkF m 43 #[.val (.ref aX), .val (.ref aY), .val (.double z2), .second, .val (.double d2), .second, .val (.int (2 : Int32)), .val (.double d3), .second, .val (.double t1), .second] [(.double s2)])
  rw [hs2] at Ds2
  refine Goes.of (X0.ldc2DoubleC hx hown (mvT hZ (hw _ (List.mem_of_getElem? (i := 17) rfl))) (g := (mkF m 43 #[.val (.ref aX), .val (.ref aY), .val (.double z2), .second, .val (.double d2), .second, .val (.int (2 : Int32)), .val (.double d3), .second, .val (.double t1), .second] [(.double s2)])) rfl (Jvm.hb hby d1_43)) ?_
  show Goes p e below _ T0 (mkF m 46 #[.val (.ref aX), .val (.ref aY), .val (.double z2), .second, .val (.double d2), .second, .val (.int (2 : Int32)), .val (.double d3), .second, .val (.double t1), .second] [(.double (4611686018427387904 : UInt64)), (.double s2)])
  refine Goes.of (fun _ kont => XS.dload X0.here hx rfl (Jvm.hb hby d1_46) rfl kont) ?_
  show Goes p e below _ T0 (mkF m 48 #[.val (.ref aX), .val (.ref aY), .val (.double z2), .second, .val (.double d2), .second, .val (.int (2 : Int32)), .val (.double d3), .second, .val (.double t1), .second] [(.double d2), (.double (4611686018427387904 : UInt64)), (.double s2)])
  have Dw2 := own_mul own_2 Dd2 (by omega)
  refine Goes.of (fun _ kont => XS.dmulS X0.here hx rfl (Jvm.hb hby d1_48) rfl Dw2.noNaN rfl kont) ?_
  show Goes p e below _ T0 (mkF m 49 #[.val (.ref aX), .val (.ref aY), .val (.double z2), .second, .val (.double d2), .second, .val (.int (2 : Int32)), .val (.double d3), .second, .val (.double t1), .second] [(.double (FP.dmul (4611686018427387904 : UInt64) d2)), (.double s2)])
  generalize hw2 : (FP.dmul (4611686018427387904 : UInt64) d2) = w2
  show Goes p e below _ T0 (mkF m 49 #[.val (.ref aX), .val (.ref aY), .val (.double z2), .second, .val (.double d2), .second, .val (.int (2 : Int32)), .val (.double d3), .second, .val (.double t1), .second] [(.double w2), (.double s2)])
  rw [hw2] at Dw2
  have Dv2 := own_add Ds2 Dw2 (by omega)
  refine Goes.of (fun _ kont => XS.daddS X0.here hx rfl (Jvm.hb hby d1_49) rfl Dv2.noNaN rfl kont) ?_
  show Goes p e below _ T0 (mkF m 50 #[.val (.ref aX), .val (.ref aY), .val (.double z2), .second, .val (.double d2), .second, .val (.int (2 : Int32)), .val (.double d3), .second, .val (.double t1), .second] [(.double (FP.dadd s2 w2))])
  generalize hv2 : (FP.dadd s2 w2) = v2
  show Goes p e below _ T0 (mkF m 50 #[.val (.ref aX), .val (.ref aY), .val (.double z2), .second, .val (.double d2), .second, .val (.int (2 : Int32)), .val (.double d3), .second, .val (.double t1), .second] [(.double v2)])
  rw [hv2] at Dv2
  refine Goes.of (fun _ kont => XS.dload X0.here hx rfl (Jvm.hb hby d1_50) rfl kont) ?_
  show Goes p e below _ T0 (mkF m 52 #[.val (.ref aX), .val (.ref aY), .val (.double z2), .second, .val (.double d2), .second, .val (.int (2 : Int32)), .val (.double d3), .second, .val (.double t1), .second] [(.double d3), (.double v2)])
  have Dt2 := own_sub Dv2 Dd3 (by omega)
  refine Goes.of (fun _ kont => XS.dsubS X0.here hx rfl (Jvm.hb hby d1_52) rfl Dt2.noNaN rfl kont) ?_
  show Goes p e below _ T0 (mkF m 53 #[.val (.ref aX), .val (.ref aY), .val (.double z2), .second, .val (.double d2), .second, .val (.int (2 : Int32)), .val (.double d3), .second, .val (.double t1), .second] [(.double (FP.dsub v2 d3))])
  generalize ht2 : (FP.dsub v2 d3) = t2
  show Goes p e below _ T0 (mkF m 53 #[.val (.ref aX), .val (.ref aY), .val (.double z2), .second, .val (.double d2), .second, .val (.int (2 : Int32)), .val (.double d3), .second, .val (.double t1), .second] [(.double t2)])
  rw [ht2] at Dt2
  refine Goes.of (fun _ kont => XS.dstore X0.here hx rfl (Jvm.hb hby d1_53) rfl (l' := #[.val (.ref aX), .val (.ref aY), .val (.double z2), .second, .val (.double d2), .second, .val (.int (2 : Int32)), .val (.double d3), .second, .val (.double t2), .second]) rfl kont) ?_
  show Goes p e below _ T0 (mkF m 55 #[.val (.ref aX), .val (.ref aY), .val (.double z2), .second, .val (.double d2), .second, .val (.int (2 : Int32)), .val (.double d3), .second, .val (.double t2), .second] [])
  refine Goes.of (fun _ kont => XS.dloadN X0.here hx rfl (Jvm.hb hby d1_55) rfl kont) ?_
  show Goes p e below _ T0 (mkF m 56 #[.val (.ref aX), .val (.ref aY), .val (.double z2), .second, .val (.double d2), .second, .val (.int (2 : Int32)), .val (.double d3), .second, .val (.double t2), .second] [(.double z2)])
  refine Goes.of (X0.ldc2DoubleC hx hown (mvT hZ (hw _ (List.mem_of_getElem? (i := 18) rfl))) (g := (mkF m 56 #[.val (.ref aX), .val (.ref aY), .val (.double z2), .second, .val (.double d2), .second, .val (.int (2 : Int32)), .val (.double d3), .second, .val (.double t2), .second] [(.double z2)])) rfl (Jvm.hb hby d1_56)) ?_
  show Goes p e below _ T0 (mkF m 59 #[.val (.ref aX), .val (.ref aY), .val (.double z2), .second, .val (.double d2), .second, .val (.int (2 : Int32)), .val (.double d3), .second, .val (.double t2), .second] [(.double (4636737291354636288 : UInt64)), (.double z2)])
  refine Goes.of (fun _ kont => XS.dload X0.here hx rfl (Jvm.hb hby d1_59) rfl kont) ?_
  show Goes p e below _ T0 (mkF m 61 #[.val (.ref aX), .val (.ref aY), .val (.double z2), .second, .val (.double d2), .second, .val (.int (2 : Int32)), .val (.double d3), .second, .val (.double t2), .second] [(.double t2), (.double (4636737291354636288 : UInt64)), (.double z2)])
  have Dh2 := own_mul own_100 Dt2 (by omega)
  refine Goes.of (fun _ kont => XS.dmulS X0.here hx rfl (Jvm.hb hby d1_61) rfl Dh2.noNaN rfl kont) ?_
  show Goes p e below _ T0 (mkF m 62 #[.val (.ref aX), .val (.ref aY), .val (.double z2), .second, .val (.double d2), .second, .val (.int (2 : Int32)), .val (.double d3), .second, .val (.double t2), .second] [(.double (FP.dmul (4636737291354636288 : UInt64) t2)), (.double z2)])
  generalize hh2 : (FP.dmul (4636737291354636288 : UInt64) t2) = h2
  show Goes p e below _ T0 (mkF m 62 #[.val (.ref aX), .val (.ref aY), .val (.double z2), .second, .val (.double d2), .second, .val (.int (2 : Int32)), .val (.double d3), .second, .val (.double t2), .second] [(.double h2), (.double z2)])
  rw [hh2] at Dh2
  refine Goes.of (fun _ kont => XS.dload X0.here hx rfl (Jvm.hb hby d1_62) rfl kont) ?_
  show Goes p e below _ T0 (mkF m 64 #[.val (.ref aX), .val (.ref aY), .val (.double z2), .second, .val (.double d2), .second, .val (.int (2 : Int32)), .val (.double d3), .second, .val (.double t2), .second] [(.double t2), (.double h2), (.double z2)])
  have Dk2 := own_mul Dh2 Dt2 (by omega)
  refine Goes.of (fun _ kont => XS.dmulS X0.here hx rfl (Jvm.hb hby d1_64) rfl Dk2.noNaN rfl kont) ?_
  show Goes p e below _ T0 (mkF m 65 #[.val (.ref aX), .val (.ref aY), .val (.double z2), .second, .val (.double d2), .second, .val (.int (2 : Int32)), .val (.double d3), .second, .val (.double t2), .second] [(.double (FP.dmul h2 t2)), (.double z2)])
  generalize hk2 : (FP.dmul h2 t2) = k2
  show Goes p e below _ T0 (mkF m 65 #[.val (.ref aX), .val (.ref aY), .val (.double z2), .second, .val (.double d2), .second, .val (.int (2 : Int32)), .val (.double d3), .second, .val (.double t2), .second] [(.double k2), (.double z2)])
  rw [hk2] at Dk2
  refine Goes.of (fun _ kont => XS.dload X0.here hx rfl (Jvm.hb hby d1_65) rfl kont) ?_
  show Goes p e below _ T0 (mkF m 67 #[.val (.ref aX), .val (.ref aY), .val (.double z2), .second, .val (.double d2), .second, .val (.int (2 : Int32)), .val (.double d3), .second, .val (.double t2), .second] [(.double d2), (.double k2), (.double z2)])
  refine Goes.of (fun _ kont => XS.dload X0.here hx rfl (Jvm.hb hby d1_67) rfl kont) ?_
  show Goes p e below _ T0 (mkF m 69 #[.val (.ref aX), .val (.ref aY), .val (.double z2), .second, .val (.double d2), .second, .val (.int (2 : Int32)), .val (.double d3), .second, .val (.double t2), .second] [(.double d2), (.double d2), (.double k2), (.double z2)])
  have Dr2 := Ds2
  rw [← hs2] at Dr2
  refine Goes.of (fun _ kont => XS.dmulS X0.here hx rfl (Jvm.hb hby d1_69) rfl Dr2.noNaN rfl kont) ?_
  show Goes p e below _ T0 (mkF m 70 #[.val (.ref aX), .val (.ref aY), .val (.double z2), .second, .val (.double d2), .second, .val (.int (2 : Int32)), .val (.double d3), .second, .val (.double t2), .second] [(.double (FP.dmul d2 d2)), (.double k2), (.double z2)])
  generalize hr2 : (FP.dmul d2 d2) = r2
  show Goes p e below _ T0 (mkF m 70 #[.val (.ref aX), .val (.ref aY), .val (.double z2), .second, .val (.double d2), .second, .val (.int (2 : Int32)), .val (.double d3), .second, .val (.double t2), .second] [(.double r2), (.double k2), (.double z2)])
  rw [hr2] at Dr2
  have Dm2 := own_add Dk2 Dr2 (by unfold tm at t25; omega)
  refine Goes.of (fun _ kont => XS.daddS X0.here hx rfl (Jvm.hb hby d1_70) rfl Dm2.noNaN rfl kont) ?_
  show Goes p e below _ T0 (mkF m 71 #[.val (.ref aX), .val (.ref aY), .val (.double z2), .second, .val (.double d2), .second, .val (.int (2 : Int32)), .val (.double d3), .second, .val (.double t2), .second] [(.double (FP.dadd k2 r2)), (.double z2)])
  generalize hm2 : (FP.dadd k2 r2) = m2
  show Goes p e below _ T0 (mkF m 71 #[.val (.ref aX), .val (.ref aY), .val (.double z2), .second, .val (.double d2), .second, .val (.int (2 : Int32)), .val (.double d3), .second, .val (.double t2), .second] [(.double m2), (.double z2)])
  rw [hm2] at Dm2
  change Dy (tm (a2 - b2) (a3 - b3)) 0 m2 at Dm2
  have Dz3 := own_add Dz2 Dm2 (by omega)
  refine Goes.of (fun _ kont => XS.daddS X0.here hx rfl (Jvm.hb hby d1_71) rfl Dz3.noNaN rfl kont) ?_
  show Goes p e below _ T0 (mkF m 72 #[.val (.ref aX), .val (.ref aY), .val (.double z2), .second, .val (.double d2), .second, .val (.int (2 : Int32)), .val (.double d3), .second, .val (.double t2), .second] [(.double (FP.dadd z2 m2))])
  generalize hz3 : (FP.dadd z2 m2) = z3
  show Goes p e below _ T0 (mkF m 72 #[.val (.ref aX), .val (.ref aY), .val (.double z2), .second, .val (.double d2), .second, .val (.int (2 : Int32)), .val (.double d3), .second, .val (.double t2), .second] [(.double z3)])
  rw [hz3] at Dz3
  refine Goes.of (fun _ kont => XS.dstoreN X0.here hx rfl (Jvm.hb hby d1_72) rfl (l' := #[.val (.ref aX), .val (.ref aY), .val (.double z3), .second, .val (.double d2), .second, .val (.int (2 : Int32)), .val (.double d3), .second, .val (.double t2), .second]) rfl kont) ?_
  show Goes p e below _ T0 (mkF m 73 #[.val (.ref aX), .val (.ref aY), .val (.double z3), .second, .val (.double d2), .second, .val (.int (2 : Int32)), .val (.double d3), .second, .val (.double t2), .second] [])
  refine Goes.of (fun _ kont => XS.dload X0.here hx rfl (Jvm.hb hby d1_73) rfl kont) ?_
  show Goes p e below _ T0 (mkF m 75 #[.val (.ref aX), .val (.ref aY), .val (.double z3), .second, .val (.double d2), .second, .val (.int (2 : Int32)), .val (.double d3), .second, .val (.double t2), .second] [(.double d3)])
  refine Goes.of (fun _ kont => XS.dstore X0.here hx rfl (Jvm.hb hby d1_75) rfl (l' := #[.val (.ref aX), .val (.ref aY), .val (.double z3), .second, .val (.double d3), .second, .val (.int (2 : Int32)), .val (.double d3), .second, .val (.double t2), .second]) rfl kont) ?_
  show Goes p e below _ T0 (mkF m 77 #[.val (.ref aX), .val (.ref aY), .val (.double z3), .second, .val (.double d3), .second, .val (.int (2 : Int32)), .val (.double d3), .second, .val (.double t2), .second] [])
  refine Goes.of (fun _ kont => XS.iinc X0.here hx rfl (Jvm.hb hby d1_77) rfl (l' := #[.val (.ref aX), .val (.ref aY), .val (.double z3), .second, .val (.double d3), .second, .val (.int (3 : Int32)), .val (.double d3), .second, .val (.double t2), .second]) rfl kont) ?_
  show Goes p e below _ T0 (mkF m 80 #[.val (.ref aX), .val (.ref aY), .val (.double z3), .second, .val (.double d3), .second, .val (.int (3 : Int32)), .val (.double d3), .second, .val (.double t2), .second] [])
  refine Goes.of (fun _ kont => XS.goto X0.here hx rfl (pc0 := 80) (pc' := 14) rfl (Jvm.hb hby d1_80) (by decide) (by decide) kont) ?_
  show Goes p e below _ T0 (mkF m 14 #[.val (.ref aX), .val (.ref aY), .val (.double z3), .second, .val (.double d3), .second, .val (.int (3 : Int32)), .val (.double d3), .second, .val (.double t2), .second] [])
  refine Goes.of (fun _ kont => XS.iload X0.here hx rfl (Jvm.hb hby d1_14) rfl kont) ?_
  show Goes p e below _ T0 (mkF m 16 #[.val (.ref aX), .val (.ref aY), .val (.double z3), .second, .val (.double d3), .second, .val (.int (3 : Int32)), .val (.double d3), .second, .val (.double t2), .second] [(.int (3 : Int32))])
  refine Goes.of (fun _ kont => XS.iconst X0.here hx rfl (Jvm.hb hby d1_16) kont) ?_
  show Goes p e below _ T0 (mkF m 17 #[.val (.ref aX), .val (.ref aY), .val (.double z3), .second, .val (.double d3), .second, .val (.int (3 : Int32)), .val (.double d3), .second, .val (.double t2), .second] [(.int (1 : Int32)), (.int (3 : Int32))])
  refine Goes.of (fun _ kont => XS.iadd X0.here hx rfl (Jvm.hb hby d1_17) rfl kont) ?_
  show Goes p e below _ T0 (mkF m 18 #[.val (.ref aX), .val (.ref aY), .val (.double z3), .second, .val (.double d3), .second, .val (.int (3 : Int32)), .val (.double d3), .second, .val (.double t2), .second] [(.int ((3 : Int32) + (1 : Int32)))])
  show Goes p e below _ T0 (mkF m 18 #[.val (.ref aX), .val (.ref aY), .val (.double z3), .second, .val (.double d3), .second, .val (.int (3 : Int32)), .val (.double d3), .second, .val (.double t2), .second] [(.int (4 : Int32))])
  refine Goes.of (fun _ kont => XS.aloadN X0.here hx rfl (Jvm.hb hby d1_18) rfl rfl kont) ?_
  show Goes p e below _ T0 (mkF m 19 #[.val (.ref aX), .val (.ref aY), .val (.double z3), .second, .val (.double d3), .second, .val (.int (3 : Int32)), .val (.double d3), .second, .val (.double t2), .second] [(.ref aX), (.int (4 : Int32))])
  refine goLen X0 hx hZ e0 VX (n := 4) (by show Int32.toInt 4 = ((4 : Nat) : Int); decide) (g := (mkF m 19 #[.val (.ref aX), .val (.ref aY), .val (.double z3), .second, .val (.double d3), .second, .val (.int (3 : Int32)), .val (.double d3), .second, .val (.double t2), .second] [(.ref aX), (.int (4 : Int32))])) rfl rfl (Jvm.hb hby d1_19) ?_
  show Goes p e below _ T0 (mkF m 20 #[.val (.ref aX), .val (.ref aY), .val (.double z3), .second, .val (.double d3), .second, .val (.int (3 : Int32)), .val (.double d3), .second, .val (.double t2), .second] [(.int (4 : Int32)), (.int (4 : Int32))])
  refine Goes.of (fun _ kont => XS.icmpYes X0.here hx rfl (pc0 := 20) (pc' := 83) rfl (Jvm.hb hby d1_20) rfl (by decide) (by decide) (by decide) kont) ?_
  show Goes p e below _ T0 (mkF m 83 #[.val (.ref aX), .val (.ref aY), .val (.double z3), .second, .val (.double d3), .second, .val (.int (3 : Int32)), .val (.double d3), .second, .val (.double t2), .second] [])
  refine Goes.of (fun _ kont => XS.dloadN X0.here hx rfl (Jvm.hb hby d1_83) rfl kont) ?_
  show Goes p e below _ T0 (mkF m 84 #[.val (.ref aX), .val (.ref aY), .val (.double z3), .second, .val (.double d3), .second, .val (.int (3 : Int32)), .val (.double d3), .second, .val (.double t2), .second] [(.double z3)])
  exact retD X0 hx hlk hret (Jvm.hb hby d1_84) (by decide) (by decide) ⟨⟨_, rfl, Dz3⟩, N0, e0⟩
theorem ef_0 (m : MethodId) (x0 : Int32) (x1 : Int32) (x2 : Int32) (x3 : Int32) (x4 : Int32) : entryFrame m #[(.int x0), (.int x1), (.int x2), (.int x3), (.int x4)] maxLocals = mkF m 0 #[.val (.int x0), .val (.int x1), .val (.int x2), .val (.int x3), .val (.int x4), .unset, .unset, .unset, .unset, .unset, .unset, .unset, .unset, .unset, .unset, .unset, .unset, .unset, .unset, .unset, .unset, .unset, .unset, .unset, .unset, .unset, .unset, .unset, .unset, .unset, .unset, .unset, .unset, .unset, .unset, .unset] [] := by first | (simp [entryFrame, mkF, argsToLocals, Value.category, maxLocals]; done) | rfl
theorem pn_0 : plainFor (⟨"com/example/memechain/memechain/benchmark/FunctionsShiftedRosenbrockPinLaw", "law", "(IIIII)Z"⟩ : MethodName) = true := plainFor_of_name (by first | (simp [plainName, overriddenIn]; done) | decide +kernel)
set_option maxRecDepth 65536 in
set_option maxHeartbeats 40000000 in
theorem rm0 (l : Launch) (Z : State) (a0 : Array Value) (hw : ∀ d ∈ tables_1, d.before a0 Z = true) (p1 : Int32) (p2 : Int32) (p3 : Int32) (p4 : Int32) (p5 : Int32)  (h0 : Heap) (n0 : Nat) (Z0 : n0 ≤ h0.size) :
    Ct l x code maxLocals ret room_1 Z [(.int p1), (.int p2), (.int p3), (.int p4), (.int p5)] h0 (fun v h L => v = some (.int 1) ∧ Fr n0 L) := by
  refine met pn_0 ?_
  intro p e s m below meth c T0 hx hby hml hown hret hlk hnm hZ X0 e0
  have N0 := Fr.nil n0
  have hret : meth.sig.returnType = some .boolean := hret
  have hml : c.maxLocals = 36 := hml
  have hown : s.vm.findClass "com/example/memechain/memechain/benchmark/FunctionsShiftedRosenbrockPinLaw" = some m.cls := hown
  refine Goes.cast (ef_0 m p1 p2 p3 p4 p5) ?_
  show Goes p e below _ T0 (mkF m 0 #[.val (.int p1), .val (.int p2), .val (.int p3), .val (.int p4), .val (.int p5), .unset, .unset, .unset, .unset, .unset, .unset, .unset, .unset, .unset, .unset, .unset, .unset, .unset, .unset, .unset, .unset, .unset, .unset, .unset, .unset, .unset, .unset, .unset, .unset, .unset, .unset, .unset, .unset, .unset, .unset, .unset] [])
  refine Goes.of (fun _ kont => XS.iloadN X0.here hx rfl (Jvm.hb hby at_0) rfl kont) ?_
  show Goes p e below _ T0 (mkF m 1 #[.val (.int p1), .val (.int p2), .val (.int p3), .val (.int p4), .val (.int p5), .unset, .unset, .unset, .unset, .unset, .unset, .unset, .unset, .unset, .unset, .unset, .unset, .unset, .unset, .unset, .unset, .unset, .unset, .unset, .unset, .unset, .unset, .unset, .unset, .unset, .unset, .unset, .unset, .unset, .unset, .unset] [(.int p1)])
  refine callC X0 hx hZ hown (hw _ (List.mem_of_getElem? (i := 0) rfl)) (hw _ (List.mem_of_getElem? (i := 1) rfl)) (hw _ (List.mem_of_getElem? (i := 2) rfl)) (hw _ (List.mem_of_getElem? (i := 3) rfl)) (by decide) (as := [(.int p1)]) (rm2 l Z a0 hw p1 h0 n0 Z0) 0 (by decide) (by decide) e0 (by decide) (by decide) (g := mkF m 1 #[.val (.int p1), .val (.int p2), .val (.int p3), .val (.int p4), .val (.int p5), .unset, .unset, .unset, .unset, .unset, .unset, .unset, .unset, .unset, .unset, .unset, .unset, .unset, .unset, .unset, .unset, .unset, .unset, .unset, .unset, .unset, .unset, .unset, .unset, .unset, .unset, .unset, .unset, .unset, .unset, .unset] [(.int p1)]) rfl (by rw [hml]; rfl) (rest := []) (lenOf pd_0 rfl) rfl (by show 2 * 0 + _ ≤ _; exact Nat.le_of_eq rfl) (Jvm.hb hby at_1) ?_
  rintro _ T1 L1 X1 ⟨⟨x0, rfl, bx0⟩, N1, e1⟩
  show Goes p e below _ T1 (mkF m 4 #[.val (.int p1), .val (.int p2), .val (.int p3), .val (.int p4), .val (.int p5), .unset, .unset, .unset, .unset, .unset, .unset, .unset, .unset, .unset, .unset, .unset, .unset, .unset, .unset, .unset, .unset, .unset, .unset, .unset, .unset, .unset, .unset, .unset, .unset, .unset, .unset, .unset, .unset, .unset, .unset, .unset] [(.long x0)])
  refine Goes.of (fun _ kont => XT.lstore X1.here hx rfl (Jvm.hb hby at_4) rfl (l' := #[.val (.int p1), .val (.int p2), .val (.int p3), .val (.int p4), .val (.int p5), .val (.long x0), .second, .unset, .unset, .unset, .unset, .unset, .unset, .unset, .unset, .unset, .unset, .unset, .unset, .unset, .unset, .unset, .unset, .unset, .unset, .unset, .unset, .unset, .unset, .unset, .unset, .unset, .unset, .unset, .unset, .unset]) rfl kont) ?_
  show Goes p e below _ T1 (mkF m 6 #[.val (.int p1), .val (.int p2), .val (.int p3), .val (.int p4), .val (.int p5), .val (.long x0), .second, .unset, .unset, .unset, .unset, .unset, .unset, .unset, .unset, .unset, .unset, .unset, .unset, .unset, .unset, .unset, .unset, .unset, .unset, .unset, .unset, .unset, .unset, .unset, .unset, .unset, .unset, .unset, .unset, .unset] [])
  refine Goes.of (fun _ kont => XS.iloadN X1.here hx rfl (Jvm.hb hby at_6) rfl kont) ?_
  show Goes p e below _ T1 (mkF m 7 #[.val (.int p1), .val (.int p2), .val (.int p3), .val (.int p4), .val (.int p5), .val (.long x0), .second, .unset, .unset, .unset, .unset, .unset, .unset, .unset, .unset, .unset, .unset, .unset, .unset, .unset, .unset, .unset, .unset, .unset, .unset, .unset, .unset, .unset, .unset, .unset, .unset, .unset, .unset, .unset, .unset, .unset] [(.int p2)])
  refine callC X1 hx hZ hown (hw _ (List.mem_of_getElem? (i := 0) rfl)) (hw _ (List.mem_of_getElem? (i := 1) rfl)) (hw _ (List.mem_of_getElem? (i := 2) rfl)) (hw _ (List.mem_of_getElem? (i := 3) rfl)) (by decide) (as := [(.int p2)]) (rm2 l Z a0 hw p2 h0 n0 Z0) 0 (by decide) (by decide) e1 (by decide) (by decide) (g := mkF m 7 #[.val (.int p1), .val (.int p2), .val (.int p3), .val (.int p4), .val (.int p5), .val (.long x0), .second, .unset, .unset, .unset, .unset, .unset, .unset, .unset, .unset, .unset, .unset, .unset, .unset, .unset, .unset, .unset, .unset, .unset, .unset, .unset, .unset, .unset, .unset, .unset, .unset, .unset, .unset, .unset, .unset, .unset] [(.int p2)]) rfl (by rw [hml]; rfl) (rest := []) (lenOf pd_0 rfl) rfl (by show 2 * 0 + _ ≤ _; exact Nat.le_of_eq rfl) (Jvm.hb hby at_7) ?_
  rintro _ T2 L2 X2 ⟨⟨x1, rfl, bx1⟩, N2, e2⟩
  show Goes p e below _ T2 (mkF m 10 #[.val (.int p1), .val (.int p2), .val (.int p3), .val (.int p4), .val (.int p5), .val (.long x0), .second, .unset, .unset, .unset, .unset, .unset, .unset, .unset, .unset, .unset, .unset, .unset, .unset, .unset, .unset, .unset, .unset, .unset, .unset, .unset, .unset, .unset, .unset, .unset, .unset, .unset, .unset, .unset, .unset, .unset] [(.long x1)])
  refine Goes.of (fun _ kont => XT.lstore X2.here hx rfl (Jvm.hb hby at_10) rfl (l' := #[.val (.int p1), .val (.int p2), .val (.int p3), .val (.int p4), .val (.int p5), .val (.long x0), .second, .val (.long x1), .second, .unset, .unset, .unset, .unset, .unset, .unset, .unset, .unset, .unset, .unset, .unset, .unset, .unset, .unset, .unset, .unset, .unset, .unset, .unset, .unset, .unset, .unset, .unset, .unset, .unset, .unset, .unset]) rfl kont) ?_
  show Goes p e below _ T2 (mkF m 12 #[.val (.int p1), .val (.int p2), .val (.int p3), .val (.int p4), .val (.int p5), .val (.long x0), .second, .val (.long x1), .second, .unset, .unset, .unset, .unset, .unset, .unset, .unset, .unset, .unset, .unset, .unset, .unset, .unset, .unset, .unset, .unset, .unset, .unset, .unset, .unset, .unset, .unset, .unset, .unset, .unset, .unset, .unset] [])
  refine Goes.of (fun _ kont => XS.iloadN X2.here hx rfl (Jvm.hb hby at_12) rfl kont) ?_
  show Goes p e below _ T2 (mkF m 13 #[.val (.int p1), .val (.int p2), .val (.int p3), .val (.int p4), .val (.int p5), .val (.long x0), .second, .val (.long x1), .second, .unset, .unset, .unset, .unset, .unset, .unset, .unset, .unset, .unset, .unset, .unset, .unset, .unset, .unset, .unset, .unset, .unset, .unset, .unset, .unset, .unset, .unset, .unset, .unset, .unset, .unset, .unset] [(.int p3)])
  refine callC X2 hx hZ hown (hw _ (List.mem_of_getElem? (i := 0) rfl)) (hw _ (List.mem_of_getElem? (i := 1) rfl)) (hw _ (List.mem_of_getElem? (i := 2) rfl)) (hw _ (List.mem_of_getElem? (i := 3) rfl)) (by decide) (as := [(.int p3)]) (rm2 l Z a0 hw p3 h0 n0 Z0) 0 (by decide) (by decide) e2 (by decide) (by decide) (g := mkF m 13 #[.val (.int p1), .val (.int p2), .val (.int p3), .val (.int p4), .val (.int p5), .val (.long x0), .second, .val (.long x1), .second, .unset, .unset, .unset, .unset, .unset, .unset, .unset, .unset, .unset, .unset, .unset, .unset, .unset, .unset, .unset, .unset, .unset, .unset, .unset, .unset, .unset, .unset, .unset, .unset, .unset, .unset, .unset] [(.int p3)]) rfl (by rw [hml]; rfl) (rest := []) (lenOf pd_0 rfl) rfl (by show 2 * 0 + _ ≤ _; exact Nat.le_of_eq rfl) (Jvm.hb hby at_13) ?_
  rintro _ T3 L3 X3 ⟨⟨x2, rfl, bx2⟩, N3, e3⟩
  show Goes p e below _ T3 (mkF m 16 #[.val (.int p1), .val (.int p2), .val (.int p3), .val (.int p4), .val (.int p5), .val (.long x0), .second, .val (.long x1), .second, .unset, .unset, .unset, .unset, .unset, .unset, .unset, .unset, .unset, .unset, .unset, .unset, .unset, .unset, .unset, .unset, .unset, .unset, .unset, .unset, .unset, .unset, .unset, .unset, .unset, .unset, .unset] [(.long x2)])
  refine Goes.of (fun _ kont => XT.lstore X3.here hx rfl (Jvm.hb hby at_16) rfl (l' := #[.val (.int p1), .val (.int p2), .val (.int p3), .val (.int p4), .val (.int p5), .val (.long x0), .second, .val (.long x1), .second, .val (.long x2), .second, .unset, .unset, .unset, .unset, .unset, .unset, .unset, .unset, .unset, .unset, .unset, .unset, .unset, .unset, .unset, .unset, .unset, .unset, .unset, .unset, .unset, .unset, .unset, .unset, .unset]) rfl kont) ?_
  show Goes p e below _ T3 (mkF m 18 #[.val (.int p1), .val (.int p2), .val (.int p3), .val (.int p4), .val (.int p5), .val (.long x0), .second, .val (.long x1), .second, .val (.long x2), .second, .unset, .unset, .unset, .unset, .unset, .unset, .unset, .unset, .unset, .unset, .unset, .unset, .unset, .unset, .unset, .unset, .unset, .unset, .unset, .unset, .unset, .unset, .unset, .unset, .unset] [])
  refine Goes.of (fun _ kont => XS.iloadN X3.here hx rfl (Jvm.hb hby at_18) rfl kont) ?_
  show Goes p e below _ T3 (mkF m 19 #[.val (.int p1), .val (.int p2), .val (.int p3), .val (.int p4), .val (.int p5), .val (.long x0), .second, .val (.long x1), .second, .val (.long x2), .second, .unset, .unset, .unset, .unset, .unset, .unset, .unset, .unset, .unset, .unset, .unset, .unset, .unset, .unset, .unset, .unset, .unset, .unset, .unset, .unset, .unset, .unset, .unset, .unset, .unset] [(.int p4)])
  refine callC X3 hx hZ hown (hw _ (List.mem_of_getElem? (i := 0) rfl)) (hw _ (List.mem_of_getElem? (i := 1) rfl)) (hw _ (List.mem_of_getElem? (i := 2) rfl)) (hw _ (List.mem_of_getElem? (i := 3) rfl)) (by decide) (as := [(.int p4)]) (rm2 l Z a0 hw p4 h0 n0 Z0) 0 (by decide) (by decide) e3 (by decide) (by decide) (g := mkF m 19 #[.val (.int p1), .val (.int p2), .val (.int p3), .val (.int p4), .val (.int p5), .val (.long x0), .second, .val (.long x1), .second, .val (.long x2), .second, .unset, .unset, .unset, .unset, .unset, .unset, .unset, .unset, .unset, .unset, .unset, .unset, .unset, .unset, .unset, .unset, .unset, .unset, .unset, .unset, .unset, .unset, .unset, .unset, .unset] [(.int p4)]) rfl (by rw [hml]; rfl) (rest := []) (lenOf pd_0 rfl) rfl (by show 2 * 0 + _ ≤ _; exact Nat.le_of_eq rfl) (Jvm.hb hby at_19) ?_
  rintro _ T4 L4 X4 ⟨⟨x3, rfl, bx3⟩, N4, e4⟩
  show Goes p e below _ T4 (mkF m 22 #[.val (.int p1), .val (.int p2), .val (.int p3), .val (.int p4), .val (.int p5), .val (.long x0), .second, .val (.long x1), .second, .val (.long x2), .second, .unset, .unset, .unset, .unset, .unset, .unset, .unset, .unset, .unset, .unset, .unset, .unset, .unset, .unset, .unset, .unset, .unset, .unset, .unset, .unset, .unset, .unset, .unset, .unset, .unset] [(.long x3)])
  refine Goes.of (fun _ kont => XT.lstore X4.here hx rfl (Jvm.hb hby at_22) rfl (l' := #[.val (.int p1), .val (.int p2), .val (.int p3), .val (.int p4), .val (.int p5), .val (.long x0), .second, .val (.long x1), .second, .val (.long x2), .second, .val (.long x3), .second, .unset, .unset, .unset, .unset, .unset, .unset, .unset, .unset, .unset, .unset, .unset, .unset, .unset, .unset, .unset, .unset, .unset, .unset, .unset, .unset, .unset, .unset, .unset]) rfl kont) ?_
  show Goes p e below _ T4 (mkF m 24 #[.val (.int p1), .val (.int p2), .val (.int p3), .val (.int p4), .val (.int p5), .val (.long x0), .second, .val (.long x1), .second, .val (.long x2), .second, .val (.long x3), .second, .unset, .unset, .unset, .unset, .unset, .unset, .unset, .unset, .unset, .unset, .unset, .unset, .unset, .unset, .unset, .unset, .unset, .unset, .unset, .unset, .unset, .unset, .unset] [])
  refine Goes.of (fun _ kont => XS.iloadN X4.here hx rfl (Jvm.hb hby at_24) rfl kont) ?_
  show Goes p e below _ T4 (mkF m 25 #[.val (.int p1), .val (.int p2), .val (.int p3), .val (.int p4), .val (.int p5), .val (.long x0), .second, .val (.long x1), .second, .val (.long x2), .second, .val (.long x3), .second, .unset, .unset, .unset, .unset, .unset, .unset, .unset, .unset, .unset, .unset, .unset, .unset, .unset, .unset, .unset, .unset, .unset, .unset, .unset, .unset, .unset, .unset, .unset] [(.int p1)])
  refine callC X4 hx hZ hown (hw _ (List.mem_of_getElem? (i := 4) rfl)) (hw _ (List.mem_of_getElem? (i := 5) rfl)) (hw _ (List.mem_of_getElem? (i := 2) rfl)) (hw _ (List.mem_of_getElem? (i := 6) rfl)) (by decide) (as := [(.int p1)]) (rm3 l Z a0 hw p1 h0 n0 Z0) 0 (by decide) (by decide) e4 (by decide) (by decide) (g := mkF m 25 #[.val (.int p1), .val (.int p2), .val (.int p3), .val (.int p4), .val (.int p5), .val (.long x0), .second, .val (.long x1), .second, .val (.long x2), .second, .val (.long x3), .second, .unset, .unset, .unset, .unset, .unset, .unset, .unset, .unset, .unset, .unset, .unset, .unset, .unset, .unset, .unset, .unset, .unset, .unset, .unset, .unset, .unset, .unset, .unset] [(.int p1)]) rfl (by rw [hml]; rfl) (rest := []) (lenOf pd_0 rfl) rfl (by show 2 * 0 + _ ≤ _; exact Nat.le_of_eq rfl) (Jvm.hb hby at_25) ?_
  rintro _ T5 L5 X5 ⟨⟨o0, rfl, bo0⟩, N5, e5⟩
  show Goes p e below _ T5 (mkF m 28 #[.val (.int p1), .val (.int p2), .val (.int p3), .val (.int p4), .val (.int p5), .val (.long x0), .second, .val (.long x1), .second, .val (.long x2), .second, .val (.long x3), .second, .unset, .unset, .unset, .unset, .unset, .unset, .unset, .unset, .unset, .unset, .unset, .unset, .unset, .unset, .unset, .unset, .unset, .unset, .unset, .unset, .unset, .unset, .unset] [(.long o0)])
  refine Goes.of (fun _ kont => XT.lstore X5.here hx rfl (Jvm.hb hby at_28) rfl (l' := #[.val (.int p1), .val (.int p2), .val (.int p3), .val (.int p4), .val (.int p5), .val (.long x0), .second, .val (.long x1), .second, .val (.long x2), .second, .val (.long x3), .second, .val (.long o0), .second, .unset, .unset, .unset, .unset, .unset, .unset, .unset, .unset, .unset, .unset, .unset, .unset, .unset, .unset, .unset, .unset, .unset, .unset, .unset, .unset, .unset]) rfl kont) ?_
  show Goes p e below _ T5 (mkF m 30 #[.val (.int p1), .val (.int p2), .val (.int p3), .val (.int p4), .val (.int p5), .val (.long x0), .second, .val (.long x1), .second, .val (.long x2), .second, .val (.long x3), .second, .val (.long o0), .second, .unset, .unset, .unset, .unset, .unset, .unset, .unset, .unset, .unset, .unset, .unset, .unset, .unset, .unset, .unset, .unset, .unset, .unset, .unset, .unset, .unset] [])
  refine Goes.of (fun _ kont => XS.iloadN X5.here hx rfl (Jvm.hb hby at_30) rfl kont) ?_
  show Goes p e below _ T5 (mkF m 31 #[.val (.int p1), .val (.int p2), .val (.int p3), .val (.int p4), .val (.int p5), .val (.long x0), .second, .val (.long x1), .second, .val (.long x2), .second, .val (.long x3), .second, .val (.long o0), .second, .unset, .unset, .unset, .unset, .unset, .unset, .unset, .unset, .unset, .unset, .unset, .unset, .unset, .unset, .unset, .unset, .unset, .unset, .unset, .unset, .unset] [(.int p2)])
  refine callC X5 hx hZ hown (hw _ (List.mem_of_getElem? (i := 4) rfl)) (hw _ (List.mem_of_getElem? (i := 5) rfl)) (hw _ (List.mem_of_getElem? (i := 2) rfl)) (hw _ (List.mem_of_getElem? (i := 6) rfl)) (by decide) (as := [(.int p2)]) (rm3 l Z a0 hw p2 h0 n0 Z0) 0 (by decide) (by decide) e5 (by decide) (by decide) (g := mkF m 31 #[.val (.int p1), .val (.int p2), .val (.int p3), .val (.int p4), .val (.int p5), .val (.long x0), .second, .val (.long x1), .second, .val (.long x2), .second, .val (.long x3), .second, .val (.long o0), .second, .unset, .unset, .unset, .unset, .unset, .unset, .unset, .unset, .unset, .unset, .unset, .unset, .unset, .unset, .unset, .unset, .unset, .unset, .unset, .unset, .unset] [(.int p2)]) rfl (by rw [hml]; rfl) (rest := []) (lenOf pd_0 rfl) rfl (by show 2 * 0 + _ ≤ _; exact Nat.le_of_eq rfl) (Jvm.hb hby at_31) ?_
  rintro _ T6 L6 X6 ⟨⟨o1, rfl, bo1⟩, N6, e6⟩
  show Goes p e below _ T6 (mkF m 34 #[.val (.int p1), .val (.int p2), .val (.int p3), .val (.int p4), .val (.int p5), .val (.long x0), .second, .val (.long x1), .second, .val (.long x2), .second, .val (.long x3), .second, .val (.long o0), .second, .unset, .unset, .unset, .unset, .unset, .unset, .unset, .unset, .unset, .unset, .unset, .unset, .unset, .unset, .unset, .unset, .unset, .unset, .unset, .unset, .unset] [(.long o1)])
  refine Goes.of (fun _ kont => XT.lstore X6.here hx rfl (Jvm.hb hby at_34) rfl (l' := #[.val (.int p1), .val (.int p2), .val (.int p3), .val (.int p4), .val (.int p5), .val (.long x0), .second, .val (.long x1), .second, .val (.long x2), .second, .val (.long x3), .second, .val (.long o0), .second, .val (.long o1), .second, .unset, .unset, .unset, .unset, .unset, .unset, .unset, .unset, .unset, .unset, .unset, .unset, .unset, .unset, .unset, .unset, .unset, .unset, .unset]) rfl kont) ?_
  show Goes p e below _ T6 (mkF m 36 #[.val (.int p1), .val (.int p2), .val (.int p3), .val (.int p4), .val (.int p5), .val (.long x0), .second, .val (.long x1), .second, .val (.long x2), .second, .val (.long x3), .second, .val (.long o0), .second, .val (.long o1), .second, .unset, .unset, .unset, .unset, .unset, .unset, .unset, .unset, .unset, .unset, .unset, .unset, .unset, .unset, .unset, .unset, .unset, .unset, .unset] [])
  refine Goes.of (fun _ kont => XS.iloadN X6.here hx rfl (Jvm.hb hby at_36) rfl kont) ?_
  show Goes p e below _ T6 (mkF m 37 #[.val (.int p1), .val (.int p2), .val (.int p3), .val (.int p4), .val (.int p5), .val (.long x0), .second, .val (.long x1), .second, .val (.long x2), .second, .val (.long x3), .second, .val (.long o0), .second, .val (.long o1), .second, .unset, .unset, .unset, .unset, .unset, .unset, .unset, .unset, .unset, .unset, .unset, .unset, .unset, .unset, .unset, .unset, .unset, .unset, .unset] [(.int p3)])
  refine callC X6 hx hZ hown (hw _ (List.mem_of_getElem? (i := 4) rfl)) (hw _ (List.mem_of_getElem? (i := 5) rfl)) (hw _ (List.mem_of_getElem? (i := 2) rfl)) (hw _ (List.mem_of_getElem? (i := 6) rfl)) (by decide) (as := [(.int p3)]) (rm3 l Z a0 hw p3 h0 n0 Z0) 0 (by decide) (by decide) e6 (by decide) (by decide) (g := mkF m 37 #[.val (.int p1), .val (.int p2), .val (.int p3), .val (.int p4), .val (.int p5), .val (.long x0), .second, .val (.long x1), .second, .val (.long x2), .second, .val (.long x3), .second, .val (.long o0), .second, .val (.long o1), .second, .unset, .unset, .unset, .unset, .unset, .unset, .unset, .unset, .unset, .unset, .unset, .unset, .unset, .unset, .unset, .unset, .unset, .unset, .unset] [(.int p3)]) rfl (by rw [hml]; rfl) (rest := []) (lenOf pd_0 rfl) rfl (by show 2 * 0 + _ ≤ _; exact Nat.le_of_eq rfl) (Jvm.hb hby at_37) ?_
  rintro _ T7 L7 X7 ⟨⟨o2, rfl, bo2⟩, N7, e7⟩
  show Goes p e below _ T7 (mkF m 40 #[.val (.int p1), .val (.int p2), .val (.int p3), .val (.int p4), .val (.int p5), .val (.long x0), .second, .val (.long x1), .second, .val (.long x2), .second, .val (.long x3), .second, .val (.long o0), .second, .val (.long o1), .second, .unset, .unset, .unset, .unset, .unset, .unset, .unset, .unset, .unset, .unset, .unset, .unset, .unset, .unset, .unset, .unset, .unset, .unset, .unset] [(.long o2)])
  refine Goes.of (fun _ kont => XT.lstore X7.here hx rfl (Jvm.hb hby at_40) rfl (l' := #[.val (.int p1), .val (.int p2), .val (.int p3), .val (.int p4), .val (.int p5), .val (.long x0), .second, .val (.long x1), .second, .val (.long x2), .second, .val (.long x3), .second, .val (.long o0), .second, .val (.long o1), .second, .val (.long o2), .second, .unset, .unset, .unset, .unset, .unset, .unset, .unset, .unset, .unset, .unset, .unset, .unset, .unset, .unset, .unset, .unset, .unset]) rfl kont) ?_
  show Goes p e below _ T7 (mkF m 42 #[.val (.int p1), .val (.int p2), .val (.int p3), .val (.int p4), .val (.int p5), .val (.long x0), .second, .val (.long x1), .second, .val (.long x2), .second, .val (.long x3), .second, .val (.long o0), .second, .val (.long o1), .second, .val (.long o2), .second, .unset, .unset, .unset, .unset, .unset, .unset, .unset, .unset, .unset, .unset, .unset, .unset, .unset, .unset, .unset, .unset, .unset] [])
  refine Goes.of (fun _ kont => XS.iloadN X7.here hx rfl (Jvm.hb hby at_42) rfl kont) ?_
  show Goes p e below _ T7 (mkF m 43 #[.val (.int p1), .val (.int p2), .val (.int p3), .val (.int p4), .val (.int p5), .val (.long x0), .second, .val (.long x1), .second, .val (.long x2), .second, .val (.long x3), .second, .val (.long o0), .second, .val (.long o1), .second, .val (.long o2), .second, .unset, .unset, .unset, .unset, .unset, .unset, .unset, .unset, .unset, .unset, .unset, .unset, .unset, .unset, .unset, .unset, .unset] [(.int p4)])
  refine callC X7 hx hZ hown (hw _ (List.mem_of_getElem? (i := 4) rfl)) (hw _ (List.mem_of_getElem? (i := 5) rfl)) (hw _ (List.mem_of_getElem? (i := 2) rfl)) (hw _ (List.mem_of_getElem? (i := 6) rfl)) (by decide) (as := [(.int p4)]) (rm3 l Z a0 hw p4 h0 n0 Z0) 0 (by decide) (by decide) e7 (by decide) (by decide) (g := mkF m 43 #[.val (.int p1), .val (.int p2), .val (.int p3), .val (.int p4), .val (.int p5), .val (.long x0), .second, .val (.long x1), .second, .val (.long x2), .second, .val (.long x3), .second, .val (.long o0), .second, .val (.long o1), .second, .val (.long o2), .second, .unset, .unset, .unset, .unset, .unset, .unset, .unset, .unset, .unset, .unset, .unset, .unset, .unset, .unset, .unset, .unset, .unset] [(.int p4)]) rfl (by rw [hml]; rfl) (rest := []) (lenOf pd_0 rfl) rfl (by show 2 * 0 + _ ≤ _; exact Nat.le_of_eq rfl) (Jvm.hb hby at_43) ?_
  rintro _ T8 L8 X8 ⟨⟨o3, rfl, bo3⟩, N8, e8⟩
  show Goes p e below _ T8 (mkF m 46 #[.val (.int p1), .val (.int p2), .val (.int p3), .val (.int p4), .val (.int p5), .val (.long x0), .second, .val (.long x1), .second, .val (.long x2), .second, .val (.long x3), .second, .val (.long o0), .second, .val (.long o1), .second, .val (.long o2), .second, .unset, .unset, .unset, .unset, .unset, .unset, .unset, .unset, .unset, .unset, .unset, .unset, .unset, .unset, .unset, .unset, .unset] [(.long o3)])
  have NN := (Fr.app (Fr.app (Fr.app (Fr.app (Fr.app (Fr.app (Fr.app (Fr.app N0 N1) N2) N3) N4) N5) N6) N7) N8)
  have Dx0 := dy_l2d (n := x0) (by omega)
  have Dx1 := dy_l2d (n := x1) (by omega)
  have Dx2 := dy_l2d (n := x2) (by omega)
  have Dx3 := dy_l2d (n := x3) (by omega)
  have Do0 := dy_l2d (n := o0) (by omega)
  have Do1 := dy_l2d (n := o1) (by omega)
  have Do2 := dy_l2d (n := o2) (by omega)
  have Do3 := dy_l2d (n := o3) (by omega)
  refine Goes.of (fun _ kont => XT.lstore X8.here hx rfl (Jvm.hb hby at_46) rfl (l' := #[.val (.int p1), .val (.int p2), .val (.int p3), .val (.int p4), .val (.int p5), .val (.long x0), .second, .val (.long x1), .second, .val (.long x2), .second, .val (.long x3), .second, .val (.long o0), .second, .val (.long o1), .second, .val (.long o2), .second, .val (.long o3), .second, .unset, .unset, .unset, .unset, .unset, .unset, .unset, .unset, .unset, .unset, .unset, .unset, .unset, .unset, .unset]) rfl kont) ?_
  show Goes p e below _ T8 (mkF m 48 #[.val (.int p1), .val (.int p2), .val (.int p3), .val (.int p4), .val (.int p5), .val (.long x0), .second, .val (.long x1), .second, .val (.long x2), .second, .val (.long x3), .second, .val (.long o0), .second, .val (.long o1), .second, .val (.long o2), .second, .val (.long o3), .second, .unset, .unset, .unset, .unset, .unset, .unset, .unset, .unset, .unset, .unset, .unset, .unset, .unset, .unset, .unset] [])
  refine Goes.of (fun _ kont => XT.lload X8.here hx rfl (Jvm.hb hby at_48) rfl kont) ?_
  show Goes p e below _ T8 (mkF m 50 #[.val (.int p1), .val (.int p2), .val (.int p3), .val (.int p4), .val (.int p5), .val (.long x0), .second, .val (.long x1), .second, .val (.long x2), .second, .val (.long x3), .second, .val (.long o0), .second, .val (.long o1), .second, .val (.long o2), .second, .val (.long o3), .second, .unset, .unset, .unset, .unset, .unset, .unset, .unset, .unset, .unset, .unset, .unset, .unset, .unset, .unset, .unset] [(.long x0)])
  refine Goes.of (fun _ kont => XT.lload X8.here hx rfl (Jvm.hb hby at_50) rfl kont) ?_
  show Goes p e below _ T8 (mkF m 52 #[.val (.int p1), .val (.int p2), .val (.int p3), .val (.int p4), .val (.int p5), .val (.long x0), .second, .val (.long x1), .second, .val (.long x2), .second, .val (.long x3), .second, .val (.long o0), .second, .val (.long o1), .second, .val (.long o2), .second, .val (.long o3), .second, .unset, .unset, .unset, .unset, .unset, .unset, .unset, .unset, .unset, .unset, .unset, .unset, .unset, .unset, .unset] [(.long o0), (.long x0)])
  refine Goes.of (fun _ kont => XT.lsub X8.here hx rfl (Jvm.hb hby at_52) rfl kont) ?_
  show Goes p e below _ T8 (mkF m 53 #[.val (.int p1), .val (.int p2), .val (.int p3), .val (.int p4), .val (.int p5), .val (.long x0), .second, .val (.long x1), .second, .val (.long x2), .second, .val (.long x3), .second, .val (.long o0), .second, .val (.long o1), .second, .val (.long o2), .second, .val (.long o3), .second, .unset, .unset, .unset, .unset, .unset, .unset, .unset, .unset, .unset, .unset, .unset, .unset, .unset, .unset, .unset] [(.long (x0 - o0))])
  refine Goes.of (fun _ kont => XT.lconst X8.here hx rfl (Jvm.hb hby at_53) kont) ?_
  show Goes p e below _ T8 (mkF m 54 #[.val (.int p1), .val (.int p2), .val (.int p3), .val (.int p4), .val (.int p5), .val (.long x0), .second, .val (.long x1), .second, .val (.long x2), .second, .val (.long x3), .second, .val (.long o0), .second, .val (.long o1), .second, .val (.long o2), .second, .val (.long o3), .second, .unset, .unset, .unset, .unset, .unset, .unset, .unset, .unset, .unset, .unset, .unset, .unset, .unset, .unset, .unset] [(.long (1 : Int64)), (.long (x0 - o0))])
  refine Goes.of (fun _ kont => XT.ladd X8.here hx rfl (Jvm.hb hby at_54) rfl kont) ?_
  show Goes p e below _ T8 (mkF m 55 #[.val (.int p1), .val (.int p2), .val (.int p3), .val (.int p4), .val (.int p5), .val (.long x0), .second, .val (.long x1), .second, .val (.long x2), .second, .val (.long x3), .second, .val (.long o0), .second, .val (.long o1), .second, .val (.long o2), .second, .val (.long o3), .second, .unset, .unset, .unset, .unset, .unset, .unset, .unset, .unset, .unset, .unset, .unset, .unset, .unset, .unset, .unset] [(.long ((x0 - o0) + (1 : Int64)))])
  generalize hz0 : ((x0 - o0) + (1 : Int64)) = z0
  show Goes p e below _ T8 (mkF m 55 #[.val (.int p1), .val (.int p2), .val (.int p3), .val (.int p4), .val (.int p5), .val (.long x0), .second, .val (.long x1), .second, .val (.long x2), .second, .val (.long x3), .second, .val (.long o0), .second, .val (.long o1), .second, .val (.long o2), .second, .val (.long o3), .second, .unset, .unset, .unset, .unset, .unset, .unset, .unset, .unset, .unset, .unset, .unset, .unset, .unset, .unset, .unset] [(.long z0)])
  have ez0 := own_z hz0 bx0 bo0
  refine Goes.of (fun _ kont => XT.lstore X8.here hx rfl (Jvm.hb hby at_55) rfl (l' := #[.val (.int p1), .val (.int p2), .val (.int p3), .val (.int p4), .val (.int p5), .val (.long x0), .second, .val (.long x1), .second, .val (.long x2), .second, .val (.long x3), .second, .val (.long o0), .second, .val (.long o1), .second, .val (.long o2), .second, .val (.long o3), .second, .val (.long z0), .second, .unset, .unset, .unset, .unset, .unset, .unset, .unset, .unset, .unset, .unset, .unset, .unset, .unset]) rfl kont) ?_
  show Goes p e below _ T8 (mkF m 57 #[.val (.int p1), .val (.int p2), .val (.int p3), .val (.int p4), .val (.int p5), .val (.long x0), .second, .val (.long x1), .second, .val (.long x2), .second, .val (.long x3), .second, .val (.long o0), .second, .val (.long o1), .second, .val (.long o2), .second, .val (.long o3), .second, .val (.long z0), .second, .unset, .unset, .unset, .unset, .unset, .unset, .unset, .unset, .unset, .unset, .unset, .unset, .unset] [])
  refine Goes.of (fun _ kont => XT.lload X8.here hx rfl (Jvm.hb hby at_57) rfl kont) ?_
  show Goes p e below _ T8 (mkF m 59 #[.val (.int p1), .val (.int p2), .val (.int p3), .val (.int p4), .val (.int p5), .val (.long x0), .second, .val (.long x1), .second, .val (.long x2), .second, .val (.long x3), .second, .val (.long o0), .second, .val (.long o1), .second, .val (.long o2), .second, .val (.long o3), .second, .val (.long z0), .second, .unset, .unset, .unset, .unset, .unset, .unset, .unset, .unset, .unset, .unset, .unset, .unset, .unset] [(.long x1)])
  refine Goes.of (fun _ kont => XT.lload X8.here hx rfl (Jvm.hb hby at_59) rfl kont) ?_
  show Goes p e below _ T8 (mkF m 61 #[.val (.int p1), .val (.int p2), .val (.int p3), .val (.int p4), .val (.int p5), .val (.long x0), .second, .val (.long x1), .second, .val (.long x2), .second, .val (.long x3), .second, .val (.long o0), .second, .val (.long o1), .second, .val (.long o2), .second, .val (.long o3), .second, .val (.long z0), .second, .unset, .unset, .unset, .unset, .unset, .unset, .unset, .unset, .unset, .unset, .unset, .unset, .unset] [(.long o1), (.long x1)])
  refine Goes.of (fun _ kont => XT.lsub X8.here hx rfl (Jvm.hb hby at_61) rfl kont) ?_
  show Goes p e below _ T8 (mkF m 62 #[.val (.int p1), .val (.int p2), .val (.int p3), .val (.int p4), .val (.int p5), .val (.long x0), .second, .val (.long x1), .second, .val (.long x2), .second, .val (.long x3), .second, .val (.long o0), .second, .val (.long o1), .second, .val (.long o2), .second, .val (.long o3), .second, .val (.long z0), .second, .unset, .unset, .unset, .unset, .unset, .unset, .unset, .unset, .unset, .unset, .unset, .unset, .unset] [(.long (x1 - o1))])
  refine Goes.of (fun _ kont => XT.lconst X8.here hx rfl (Jvm.hb hby at_62) kont) ?_
  show Goes p e below _ T8 (mkF m 63 #[.val (.int p1), .val (.int p2), .val (.int p3), .val (.int p4), .val (.int p5), .val (.long x0), .second, .val (.long x1), .second, .val (.long x2), .second, .val (.long x3), .second, .val (.long o0), .second, .val (.long o1), .second, .val (.long o2), .second, .val (.long o3), .second, .val (.long z0), .second, .unset, .unset, .unset, .unset, .unset, .unset, .unset, .unset, .unset, .unset, .unset, .unset, .unset] [(.long (1 : Int64)), (.long (x1 - o1))])
  refine Goes.of (fun _ kont => XT.ladd X8.here hx rfl (Jvm.hb hby at_63) rfl kont) ?_
  show Goes p e below _ T8 (mkF m 64 #[.val (.int p1), .val (.int p2), .val (.int p3), .val (.int p4), .val (.int p5), .val (.long x0), .second, .val (.long x1), .second, .val (.long x2), .second, .val (.long x3), .second, .val (.long o0), .second, .val (.long o1), .second, .val (.long o2), .second, .val (.long o3), .second, .val (.long z0), .second, .unset, .unset, .unset, .unset, .unset, .unset, .unset, .unset, .unset, .unset, .unset, .unset, .unset] [(.long ((x1 - o1) + (1 : Int64)))])
  generalize hz1 : ((x1 - o1) + (1 : Int64)) = z1
  show Goes p e below _ T8 (mkF m 64 #[.val (.int p1), .val (.int p2), .val (.int p3), .val (.int p4), .val (.int p5), .val (.long x0), .second, .val (.long x1), .second, .val (.long x2), .second, .val (.long x3), .second, .val (.long o0), .second, .val (.long o1), .second, .val (.long o2), .second, .val (.long o3), .second, .val (.long z0), .second, .unset, .unset, .unset, .unset, .unset, .unset, .unset, .unset, .unset, .unset, .unset, .unset, .unset] [(.long z1)])
  have ez1 := own_z hz1 bx1 bo1
  refine Goes.of (fun _ kont => XT.lstore X8.here hx rfl (Jvm.hb hby at_64) rfl (l' := #[.val (.int p1), .val (.int p2), .val (.int p3), .val (.int p4), .val (.int p5), .val (.long x0), .second, .val (.long x1), .second, .val (.long x2), .second, .val (.long x3), .second, .val (.long o0), .second, .val (.long o1), .second, .val (.long o2), .second, .val (.long o3), .second, .val (.long z0), .second, .val (.long z1), .second, .unset, .unset, .unset, .unset, .unset, .unset, .unset, .unset, .unset, .unset, .unset]) rfl kont) ?_
  show Goes p e below _ T8 (mkF m 66 #[.val (.int p1), .val (.int p2), .val (.int p3), .val (.int p4), .val (.int p5), .val (.long x0), .second, .val (.long x1), .second, .val (.long x2), .second, .val (.long x3), .second, .val (.long o0), .second, .val (.long o1), .second, .val (.long o2), .second, .val (.long o3), .second, .val (.long z0), .second, .val (.long z1), .second, .unset, .unset, .unset, .unset, .unset, .unset, .unset, .unset, .unset, .unset, .unset] [])
  refine Goes.of (fun _ kont => XT.lload X8.here hx rfl (Jvm.hb hby at_66) rfl kont) ?_
  show Goes p e below _ T8 (mkF m 68 #[.val (.int p1), .val (.int p2), .val (.int p3), .val (.int p4), .val (.int p5), .val (.long x0), .second, .val (.long x1), .second, .val (.long x2), .second, .val (.long x3), .second, .val (.long o0), .second, .val (.long o1), .second, .val (.long o2), .second, .val (.long o3), .second, .val (.long z0), .second, .val (.long z1), .second, .unset, .unset, .unset, .unset, .unset, .unset, .unset, .unset, .unset, .unset, .unset] [(.long x2)])
  refine Goes.of (fun _ kont => XT.lload X8.here hx rfl (Jvm.hb hby at_68) rfl kont) ?_
  show Goes p e below _ T8 (mkF m 70 #[.val (.int p1), .val (.int p2), .val (.int p3), .val (.int p4), .val (.int p5), .val (.long x0), .second, .val (.long x1), .second, .val (.long x2), .second, .val (.long x3), .second, .val (.long o0), .second, .val (.long o1), .second, .val (.long o2), .second, .val (.long o3), .second, .val (.long z0), .second, .val (.long z1), .second, .unset, .unset, .unset, .unset, .unset, .unset, .unset, .unset, .unset, .unset, .unset] [(.long o2), (.long x2)])
  refine Goes.of (fun _ kont => XT.lsub X8.here hx rfl (Jvm.hb hby at_70) rfl kont) ?_
  show Goes p e below _ T8 (mkF m 71 #[.val (.int p1), .val (.int p2), .val (.int p3), .val (.int p4), .val (.int p5), .val (.long x0), .second, .val (.long x1), .second, .val (.long x2), .second, .val (.long x3), .second, .val (.long o0), .second, .val (.long o1), .second, .val (.long o2), .second, .val (.long o3), .second, .val (.long z0), .second, .val (.long z1), .second, .unset, .unset, .unset, .unset, .unset, .unset, .unset, .unset, .unset, .unset, .unset] [(.long (x2 - o2))])
  refine Goes.of (fun _ kont => XT.lconst X8.here hx rfl (Jvm.hb hby at_71) kont) ?_
  show Goes p e below _ T8 (mkF m 72 #[.val (.int p1), .val (.int p2), .val (.int p3), .val (.int p4), .val (.int p5), .val (.long x0), .second, .val (.long x1), .second, .val (.long x2), .second, .val (.long x3), .second, .val (.long o0), .second, .val (.long o1), .second, .val (.long o2), .second, .val (.long o3), .second, .val (.long z0), .second, .val (.long z1), .second, .unset, .unset, .unset, .unset, .unset, .unset, .unset, .unset, .unset, .unset, .unset] [(.long (1 : Int64)), (.long (x2 - o2))])
  refine Goes.of (fun _ kont => XT.ladd X8.here hx rfl (Jvm.hb hby at_72) rfl kont) ?_
  show Goes p e below _ T8 (mkF m 73 #[.val (.int p1), .val (.int p2), .val (.int p3), .val (.int p4), .val (.int p5), .val (.long x0), .second, .val (.long x1), .second, .val (.long x2), .second, .val (.long x3), .second, .val (.long o0), .second, .val (.long o1), .second, .val (.long o2), .second, .val (.long o3), .second, .val (.long z0), .second, .val (.long z1), .second, .unset, .unset, .unset, .unset, .unset, .unset, .unset, .unset, .unset, .unset, .unset] [(.long ((x2 - o2) + (1 : Int64)))])
  generalize hz2 : ((x2 - o2) + (1 : Int64)) = z2
  show Goes p e below _ T8 (mkF m 73 #[.val (.int p1), .val (.int p2), .val (.int p3), .val (.int p4), .val (.int p5), .val (.long x0), .second, .val (.long x1), .second, .val (.long x2), .second, .val (.long x3), .second, .val (.long o0), .second, .val (.long o1), .second, .val (.long o2), .second, .val (.long o3), .second, .val (.long z0), .second, .val (.long z1), .second, .unset, .unset, .unset, .unset, .unset, .unset, .unset, .unset, .unset, .unset, .unset] [(.long z2)])
  have ez2 := own_z hz2 bx2 bo2
  refine Goes.of (fun _ kont => XT.lstore X8.here hx rfl (Jvm.hb hby at_73) rfl (l' := #[.val (.int p1), .val (.int p2), .val (.int p3), .val (.int p4), .val (.int p5), .val (.long x0), .second, .val (.long x1), .second, .val (.long x2), .second, .val (.long x3), .second, .val (.long o0), .second, .val (.long o1), .second, .val (.long o2), .second, .val (.long o3), .second, .val (.long z0), .second, .val (.long z1), .second, .val (.long z2), .second, .unset, .unset, .unset, .unset, .unset, .unset, .unset, .unset, .unset]) rfl kont) ?_
  show Goes p e below _ T8 (mkF m 75 #[.val (.int p1), .val (.int p2), .val (.int p3), .val (.int p4), .val (.int p5), .val (.long x0), .second, .val (.long x1), .second, .val (.long x2), .second, .val (.long x3), .second, .val (.long o0), .second, .val (.long o1), .second, .val (.long o2), .second, .val (.long o3), .second, .val (.long z0), .second, .val (.long z1), .second, .val (.long z2), .second, .unset, .unset, .unset, .unset, .unset, .unset, .unset, .unset, .unset] [])
  refine Goes.of (fun _ kont => XT.lload X8.here hx rfl (Jvm.hb hby at_75) rfl kont) ?_
  show Goes p e below _ T8 (mkF m 77 #[.val (.int p1), .val (.int p2), .val (.int p3), .val (.int p4), .val (.int p5), .val (.long x0), .second, .val (.long x1), .second, .val (.long x2), .second, .val (.long x3), .second, .val (.long o0), .second, .val (.long o1), .second, .val (.long o2), .second, .val (.long o3), .second, .val (.long z0), .second, .val (.long z1), .second, .val (.long z2), .second, .unset, .unset, .unset, .unset, .unset, .unset, .unset, .unset, .unset] [(.long x3)])
  refine Goes.of (fun _ kont => XT.lload X8.here hx rfl (Jvm.hb hby at_77) rfl kont) ?_
  show Goes p e below _ T8 (mkF m 79 #[.val (.int p1), .val (.int p2), .val (.int p3), .val (.int p4), .val (.int p5), .val (.long x0), .second, .val (.long x1), .second, .val (.long x2), .second, .val (.long x3), .second, .val (.long o0), .second, .val (.long o1), .second, .val (.long o2), .second, .val (.long o3), .second, .val (.long z0), .second, .val (.long z1), .second, .val (.long z2), .second, .unset, .unset, .unset, .unset, .unset, .unset, .unset, .unset, .unset] [(.long o3), (.long x3)])
  refine Goes.of (fun _ kont => XT.lsub X8.here hx rfl (Jvm.hb hby at_79) rfl kont) ?_
  show Goes p e below _ T8 (mkF m 80 #[.val (.int p1), .val (.int p2), .val (.int p3), .val (.int p4), .val (.int p5), .val (.long x0), .second, .val (.long x1), .second, .val (.long x2), .second, .val (.long x3), .second, .val (.long o0), .second, .val (.long o1), .second, .val (.long o2), .second, .val (.long o3), .second, .val (.long z0), .second, .val (.long z1), .second, .val (.long z2), .second, .unset, .unset, .unset, .unset, .unset, .unset, .unset, .unset, .unset] [(.long (x3 - o3))])
  refine Goes.of (fun _ kont => XT.lconst X8.here hx rfl (Jvm.hb hby at_80) kont) ?_
  show Goes p e below _ T8 (mkF m 81 #[.val (.int p1), .val (.int p2), .val (.int p3), .val (.int p4), .val (.int p5), .val (.long x0), .second, .val (.long x1), .second, .val (.long x2), .second, .val (.long x3), .second, .val (.long o0), .second, .val (.long o1), .second, .val (.long o2), .second, .val (.long o3), .second, .val (.long z0), .second, .val (.long z1), .second, .val (.long z2), .second, .unset, .unset, .unset, .unset, .unset, .unset, .unset, .unset, .unset] [(.long (1 : Int64)), (.long (x3 - o3))])
  refine Goes.of (fun _ kont => XT.ladd X8.here hx rfl (Jvm.hb hby at_81) rfl kont) ?_
  show Goes p e below _ T8 (mkF m 82 #[.val (.int p1), .val (.int p2), .val (.int p3), .val (.int p4), .val (.int p5), .val (.long x0), .second, .val (.long x1), .second, .val (.long x2), .second, .val (.long x3), .second, .val (.long o0), .second, .val (.long o1), .second, .val (.long o2), .second, .val (.long o3), .second, .val (.long z0), .second, .val (.long z1), .second, .val (.long z2), .second, .unset, .unset, .unset, .unset, .unset, .unset, .unset, .unset, .unset] [(.long ((x3 - o3) + (1 : Int64)))])
  generalize hz3 : ((x3 - o3) + (1 : Int64)) = z3
  show Goes p e below _ T8 (mkF m 82 #[.val (.int p1), .val (.int p2), .val (.int p3), .val (.int p4), .val (.int p5), .val (.long x0), .second, .val (.long x1), .second, .val (.long x2), .second, .val (.long x3), .second, .val (.long o0), .second, .val (.long o1), .second, .val (.long o2), .second, .val (.long o3), .second, .val (.long z0), .second, .val (.long z1), .second, .val (.long z2), .second, .unset, .unset, .unset, .unset, .unset, .unset, .unset, .unset, .unset] [(.long z3)])
  have ez3 := own_z hz3 bx3 bo3
  refine Goes.of (fun _ kont => XT.lstore X8.here hx rfl (Jvm.hb hby at_82) rfl (l' := #[.val (.int p1), .val (.int p2), .val (.int p3), .val (.int p4), .val (.int p5), .val (.long x0), .second, .val (.long x1), .second, .val (.long x2), .second, .val (.long x3), .second, .val (.long o0), .second, .val (.long o1), .second, .val (.long o2), .second, .val (.long o3), .second, .val (.long z0), .second, .val (.long z1), .second, .val (.long z2), .second, .val (.long z3), .second, .unset, .unset, .unset, .unset, .unset, .unset, .unset]) rfl kont) ?_
  show Goes p e below _ T8 (mkF m 84 #[.val (.int p1), .val (.int p2), .val (.int p3), .val (.int p4), .val (.int p5), .val (.long x0), .second, .val (.long x1), .second, .val (.long x2), .second, .val (.long x3), .second, .val (.long o0), .second, .val (.long o1), .second, .val (.long o2), .second, .val (.long o3), .second, .val (.long z0), .second, .val (.long z1), .second, .val (.long z2), .second, .val (.long z3), .second, .unset, .unset, .unset, .unset, .unset, .unset, .unset] [])
  refine Goes.of (fun _ kont => XS.iconst X8.here hx rfl (Jvm.hb hby at_84) kont) ?_
  show Goes p e below _ T8 (mkF m 85 #[.val (.int p1), .val (.int p2), .val (.int p3), .val (.int p4), .val (.int p5), .val (.long x0), .second, .val (.long x1), .second, .val (.long x2), .second, .val (.long x3), .second, .val (.long o0), .second, .val (.long o1), .second, .val (.long o2), .second, .val (.long o3), .second, .val (.long z0), .second, .val (.long z1), .second, .val (.long z2), .second, .val (.long z3), .second, .unset, .unset, .unset, .unset, .unset, .unset, .unset] [(.int (2 : Int32))])
  refine Goes.of (fun _ kont => XS.iload X8.here hx rfl (Jvm.hb hby at_85) rfl kont) ?_
  show Goes p e below _ T8 (mkF m 87 #[.val (.int p1), .val (.int p2), .val (.int p3), .val (.int p4), .val (.int p5), .val (.long x0), .second, .val (.long x1), .second, .val (.long x2), .second, .val (.long x3), .second, .val (.long o0), .second, .val (.long o1), .second, .val (.long o2), .second, .val (.long o3), .second, .val (.long z0), .second, .val (.long z1), .second, .val (.long z2), .second, .val (.long z3), .second, .unset, .unset, .unset, .unset, .unset, .unset, .unset] [(.int p5), (.int (2 : Int32))])
  refine Goes.of (X8.ldcInt hx hown (mvT hZ (hw _ (List.mem_of_getElem? (i := 7) rfl))) (g := (mkF m 87 #[.val (.int p1), .val (.int p2), .val (.int p3), .val (.int p4), .val (.int p5), .val (.long x0), .second, .val (.long x1), .second, .val (.long x2), .second, .val (.long x3), .second, .val (.long o0), .second, .val (.long o1), .second, .val (.long o2), .second, .val (.long o3), .second, .val (.long z0), .second, .val (.long z1), .second, .val (.long z2), .second, .val (.long z3), .second, .unset, .unset, .unset, .unset, .unset, .unset, .unset] [(.int p5), (.int (2 : Int32))])) rfl (Jvm.hb hby at_87)) ?_
  show Goes p e below _ T8 (mkF m 89 #[.val (.int p1), .val (.int p2), .val (.int p3), .val (.int p4), .val (.int p5), .val (.long x0), .second, .val (.long x1), .second, .val (.long x2), .second, .val (.long x3), .second, .val (.long o0), .second, .val (.long o1), .second, .val (.long o2), .second, .val (.long o3), .second, .val (.long z0), .second, .val (.long z1), .second, .val (.long z2), .second, .val (.long z3), .second, .unset, .unset, .unset, .unset, .unset, .unset, .unset] [(.int (2147483647 : Int32)), (.int p5), (.int (2 : Int32))])
  refine Goes.of (fun _ kont => XS.iand X8.here hx rfl (Jvm.hb hby at_89) rfl kont) ?_
  show Goes p e below _ T8 (mkF m 90 #[.val (.int p1), .val (.int p2), .val (.int p3), .val (.int p4), .val (.int p5), .val (.long x0), .second, .val (.long x1), .second, .val (.long x2), .second, .val (.long x3), .second, .val (.long o0), .second, .val (.long o1), .second, .val (.long o2), .second, .val (.long o3), .second, .val (.long z0), .second, .val (.long z1), .second, .val (.long z2), .second, .val (.long z3), .second, .unset, .unset, .unset, .unset, .unset, .unset, .unset] [(.int (p5 &&& (2147483647 : Int32))), (.int (2 : Int32))])
  refine Goes.of (fun _ kont => XS.iconst X8.here hx rfl (Jvm.hb hby at_90) kont) ?_
  show Goes p e below _ T8 (mkF m 91 #[.val (.int p1), .val (.int p2), .val (.int p3), .val (.int p4), .val (.int p5), .val (.long x0), .second, .val (.long x1), .second, .val (.long x2), .second, .val (.long x3), .second, .val (.long o0), .second, .val (.long o1), .second, .val (.long o2), .second, .val (.long o3), .second, .val (.long z0), .second, .val (.long z1), .second, .val (.long z2), .second, .val (.long z3), .second, .unset, .unset, .unset, .unset, .unset, .unset, .unset] [(.int (3 : Int32)), (.int (p5 &&& (2147483647 : Int32))), (.int (2 : Int32))])
  refine Goes.of (fun _ kont => XS.irem X8.here hx rfl (Jvm.hb hby at_91) rfl (by decide) kont) ?_
  show Goes p e below _ T8 (mkF m 92 #[.val (.int p1), .val (.int p2), .val (.int p3), .val (.int p4), .val (.int p5), .val (.long x0), .second, .val (.long x1), .second, .val (.long x2), .second, .val (.long x3), .second, .val (.long o0), .second, .val (.long o1), .second, .val (.long o2), .second, .val (.long o3), .second, .val (.long z0), .second, .val (.long z1), .second, .val (.long z2), .second, .val (.long z3), .second, .unset, .unset, .unset, .unset, .unset, .unset, .unset] [(.int ((p5 &&& (2147483647 : Int32)) - (p5 &&& (2147483647 : Int32)) / (3 : Int32) * (3 : Int32))), (.int (2 : Int32))])
  refine Goes.of (fun _ kont => XS.iadd X8.here hx rfl (Jvm.hb hby at_92) rfl kont) ?_
  show Goes p e below _ T8 (mkF m 93 #[.val (.int p1), .val (.int p2), .val (.int p3), .val (.int p4), .val (.int p5), .val (.long x0), .second, .val (.long x1), .second, .val (.long x2), .second, .val (.long x3), .second, .val (.long o0), .second, .val (.long o1), .second, .val (.long o2), .second, .val (.long o3), .second, .val (.long z0), .second, .val (.long z1), .second, .val (.long z2), .second, .val (.long z3), .second, .unset, .unset, .unset, .unset, .unset, .unset, .unset] [(.int ((2 : Int32) + ((p5 &&& (2147483647 : Int32)) - (p5 &&& (2147483647 : Int32)) / (3 : Int32) * (3 : Int32))))])
  generalize hdim : ((2 : Int32) + ((p5 &&& (2147483647 : Int32)) - (p5 &&& (2147483647 : Int32)) / (3 : Int32) * (3 : Int32))) = dim
  show Goes p e below _ T8 (mkF m 93 #[.val (.int p1), .val (.int p2), .val (.int p3), .val (.int p4), .val (.int p5), .val (.long x0), .second, .val (.long x1), .second, .val (.long x2), .second, .val (.long x3), .second, .val (.long o0), .second, .val (.long o1), .second, .val (.long o2), .second, .val (.long o3), .second, .val (.long z0), .second, .val (.long z1), .second, .val (.long z2), .second, .val (.long z3), .second, .unset, .unset, .unset, .unset, .unset, .unset, .unset] [(.int dim)])
  refine Goes.of (fun _ kont => XS.istore X8.here hx rfl (Jvm.hb hby at_93) rfl (l' := #[.val (.int p1), .val (.int p2), .val (.int p3), .val (.int p4), .val (.int p5), .val (.long x0), .second, .val (.long x1), .second, .val (.long x2), .second, .val (.long x3), .second, .val (.long o0), .second, .val (.long o1), .second, .val (.long o2), .second, .val (.long o3), .second, .val (.long z0), .second, .val (.long z1), .second, .val (.long z2), .second, .val (.long z3), .second, .val (.int dim), .unset, .unset, .unset, .unset, .unset, .unset]) rfl kont) ?_
  show Goes p e below _ T8 (mkF m 95 #[.val (.int p1), .val (.int p2), .val (.int p3), .val (.int p4), .val (.int p5), .val (.long x0), .second, .val (.long x1), .second, .val (.long x2), .second, .val (.long x3), .second, .val (.long o0), .second, .val (.long o1), .second, .val (.long o2), .second, .val (.long o3), .second, .val (.long z0), .second, .val (.long z1), .second, .val (.long z2), .second, .val (.long z3), .second, .val (.int dim), .unset, .unset, .unset, .unset, .unset, .unset] [])
  rcases own_dim hdim with rfl | rfl | rfl
  · show Goes p e below _ T8 (mkF m 95 #[.val (.int p1), .val (.int p2), .val (.int p3), .val (.int p4), .val (.int p5), .val (.long x0), .second, .val (.long x1), .second, .val (.long x2), .second, .val (.long x3), .second, .val (.long o0), .second, .val (.long o1), .second, .val (.long o2), .second, .val (.long o3), .second, .val (.long z0), .second, .val (.long z1), .second, .val (.long z2), .second, .val (.long z3), .second, .val (.int (2 : Int32)), .unset, .unset, .unset, .unset, .unset, .unset] [])
    refine Goes.of (fun _ kont => XS.iload X8.here hx rfl (Jvm.hb hby at_95) rfl kont) ?_
    show Goes p e below _ T8 (mkF m 97 #[.val (.int p1), .val (.int p2), .val (.int p3), .val (.int p4), .val (.int p5), .val (.long x0), .second, .val (.long x1), .second, .val (.long x2), .second, .val (.long x3), .second, .val (.long o0), .second, .val (.long o1), .second, .val (.long o2), .second, .val (.long o3), .second, .val (.long z0), .second, .val (.long z1), .second, .val (.long z2), .second, .val (.long z3), .second, .val (.int (2 : Int32)), .unset, .unset, .unset, .unset, .unset, .unset] [(.int (2 : Int32))])
    refine Goes.of (fun _ kont => XS.iconst X8.here hx rfl (Jvm.hb hby at_97) kont) ?_
    show Goes p e below _ T8 (mkF m 98 #[.val (.int p1), .val (.int p2), .val (.int p3), .val (.int p4), .val (.int p5), .val (.long x0), .second, .val (.long x1), .second, .val (.long x2), .second, .val (.long x3), .second, .val (.long o0), .second, .val (.long o1), .second, .val (.long o2), .second, .val (.long o3), .second, .val (.long z0), .second, .val (.long z1), .second, .val (.long z2), .second, .val (.long z3), .second, .val (.int (2 : Int32)), .unset, .unset, .unset, .unset, .unset, .unset] [(.int (2 : Int32)), (.int (2 : Int32))])
    refine Goes.of (fun _ kont => XS.icmpNo X8.here hx rfl (Jvm.hb hby at_98) rfl (by decide) kont) ?_
    show Goes p e below _ T8 (mkF m 101 #[.val (.int p1), .val (.int p2), .val (.int p3), .val (.int p4), .val (.int p5), .val (.long x0), .second, .val (.long x1), .second, .val (.long x2), .second, .val (.long x3), .second, .val (.long o0), .second, .val (.long o1), .second, .val (.long o2), .second, .val (.long o3), .second, .val (.long z0), .second, .val (.long z1), .second, .val (.long z2), .second, .val (.long z3), .second, .val (.int (2 : Int32)), .unset, .unset, .unset, .unset, .unset, .unset] [])
    refine Goes.of (fun _ kont => XS.iconst X8.here hx rfl (Jvm.hb hby at_101) kont) ?_
    show Goes p e below _ T8 (mkF m 102 #[.val (.int p1), .val (.int p2), .val (.int p3), .val (.int p4), .val (.int p5), .val (.long x0), .second, .val (.long x1), .second, .val (.long x2), .second, .val (.long x3), .second, .val (.long o0), .second, .val (.long o1), .second, .val (.long o2), .second, .val (.long o3), .second, .val (.long z0), .second, .val (.long z1), .second, .val (.long z2), .second, .val (.long z3), .second, .val (.int (2 : Int32)), .unset, .unset, .unset, .unset, .unset, .unset] [(.int (2 : Int32))])
    refine goNewD X8 hx hZ (hw _ (List.mem_of_getElem? (i := 8) rfl)) e8 (g := mkF m 102 #[.val (.int p1), .val (.int p2), .val (.int p3), .val (.int p4), .val (.int p5), .val (.long x0), .second, .val (.long x1), .second, .val (.long x2), .second, .val (.long x3), .second, .val (.long o0), .second, .val (.long o1), .second, .val (.long o2), .second, .val (.long o3), .second, .val (.long z0), .second, .val (.long z1), .second, .val (.long z2), .second, .val (.long z3), .second, .val (.int (2 : Int32)), .unset, .unset, .unset, .unset, .unset, .unset] [(.int (2 : Int32))]) rfl (Jvm.hb hby at_102) rfl 2 (by decide) (by decide) (by decide) (by decide) ?_
    intro T9 h9 ax gax X9 e9 E9 V_ax
    have ge_ax : n0 ≤ ax := by rw [gax]; exact Z0
    have Z9 : n0 ≤ h9.size := Nat.le_trans Z0 E9.1
    show Goes p e below _ T9 (mkF m 104 #[.val (.int p1), .val (.int p2), .val (.int p3), .val (.int p4), .val (.int p5), .val (.long x0), .second, .val (.long x1), .second, .val (.long x2), .second, .val (.long x3), .second, .val (.long o0), .second, .val (.long o1), .second, .val (.long o2), .second, .val (.long o3), .second, .val (.long z0), .second, .val (.long z1), .second, .val (.long z2), .second, .val (.long z3), .second, .val (.int (2 : Int32)), .unset, .unset, .unset, .unset, .unset, .unset] [(.ref ax)])
    refine Goes.of (fun _ kont => XS.dup X9.here hx rfl (Jvm.hb hby at_104) rfl rfl kont) ?_
    show Goes p e below _ T9 (mkF m 105 #[.val (.int p1), .val (.int p2), .val (.int p3), .val (.int p4), .val (.int p5), .val (.long x0), .second, .val (.long x1), .second, .val (.long x2), .second, .val (.long x3), .second, .val (.long o0), .second, .val (.long o1), .second, .val (.long o2), .second, .val (.long o3), .second, .val (.long z0), .second, .val (.long z1), .second, .val (.long z2), .second, .val (.long z3), .second, .val (.int (2 : Int32)), .unset, .unset, .unset, .unset, .unset, .unset] [(.ref ax), (.ref ax)])
    refine Goes.of (fun _ kont => XS.iconst X9.here hx rfl (Jvm.hb hby at_105) kont) ?_
    show Goes p e below _ T9 (mkF m 106 #[.val (.int p1), .val (.int p2), .val (.int p3), .val (.int p4), .val (.int p5), .val (.long x0), .second, .val (.long x1), .second, .val (.long x2), .second, .val (.long x3), .second, .val (.long o0), .second, .val (.long o1), .second, .val (.long o2), .second, .val (.long o3), .second, .val (.long z0), .second, .val (.long z1), .second, .val (.long z2), .second, .val (.long z3), .second, .val (.int (2 : Int32)), .unset, .unset, .unset, .unset, .unset, .unset] [(.int (0 : Int32)), (.ref ax), (.ref ax)])
    refine Goes.of (fun _ kont => XT.lload X9.here hx rfl (Jvm.hb hby at_106) rfl kont) ?_
    show Goes p e below _ T9 (mkF m 108 #[.val (.int p1), .val (.int p2), .val (.int p3), .val (.int p4), .val (.int p5), .val (.long x0), .second, .val (.long x1), .second, .val (.long x2), .second, .val (.long x3), .second, .val (.long o0), .second, .val (.long o1), .second, .val (.long o2), .second, .val (.long o3), .second, .val (.long z0), .second, .val (.long z1), .second, .val (.long z2), .second, .val (.long z3), .second, .val (.int (2 : Int32)), .unset, .unset, .unset, .unset, .unset, .unset] [(.long x0), (.int (0 : Int32)), (.ref ax), (.ref ax)])
    refine Goes.of (fun _ kont => XS.l2dS X9.here hx rfl (Jvm.hb hby at_108) rfl rfl kont) ?_
    show Goes p e below _ T9 (mkF m 109 #[.val (.int p1), .val (.int p2), .val (.int p3), .val (.int p4), .val (.int p5), .val (.long x0), .second, .val (.long x1), .second, .val (.long x2), .second, .val (.long x3), .second, .val (.long o0), .second, .val (.long o1), .second, .val (.long o2), .second, .val (.long o3), .second, .val (.long z0), .second, .val (.long z1), .second, .val (.long z2), .second, .val (.long z3), .second, .val (.int (2 : Int32)), .unset, .unset, .unset, .unset, .unset, .unset] [(.double (FP.l2d x0)), (.int (0 : Int32)), (.ref ax), (.ref ax)])
    refine goStD X9 hx hZ e9 V_ax 0 (by decide) (by show 0 < 2; decide) (g := (mkF m 109 #[.val (.int p1), .val (.int p2), .val (.int p3), .val (.int p4), .val (.int p5), .val (.long x0), .second, .val (.long x1), .second, .val (.long x2), .second, .val (.long x3), .second, .val (.long o0), .second, .val (.long o1), .second, .val (.long o2), .second, .val (.long o3), .second, .val (.long z0), .second, .val (.long z1), .second, .val (.long z2), .second, .val (.long z3), .second, .val (.int (2 : Int32)), .unset, .unset, .unset, .unset, .unset, .unset] [(.double (FP.l2d x0)), (.int (0 : Int32)), (.ref ax), (.ref ax)])) rfl rfl (Jvm.hb hby at_109) NN ge_ax ?_
    intro T10 h10 L10 X10 e10 N10 K10 V_ax_10
    replace V_ax_10 : DA Z h10 ax [(FP.l2d x0), 0] := V_ax_10
    have Z10 : n0 ≤ h10.size := Nat.le_trans ge_ax (Nat.le_of_lt V_ax_10.lt)
    show Goes p e below _ T10 (mkF m 110 #[.val (.int p1), .val (.int p2), .val (.int p3), .val (.int p4), .val (.int p5), .val (.long x0), .second, .val (.long x1), .second, .val (.long x2), .second, .val (.long x3), .second, .val (.long o0), .second, .val (.long o1), .second, .val (.long o2), .second, .val (.long o3), .second, .val (.long z0), .second, .val (.long z1), .second, .val (.long z2), .second, .val (.long z3), .second, .val (.int (2 : Int32)), .unset, .unset, .unset, .unset, .unset, .unset] [(.ref ax)])
    refine Goes.of (fun _ kont => XS.dup X10.here hx rfl (Jvm.hb hby at_110) rfl rfl kont) ?_
    show Goes p e below _ T10 (mkF m 111 #[.val (.int p1), .val (.int p2), .val (.int p3), .val (.int p4), .val (.int p5), .val (.long x0), .second, .val (.long x1), .second, .val (.long x2), .second, .val (.long x3), .second, .val (.long o0), .second, .val (.long o1), .second, .val (.long o2), .second, .val (.long o3), .second, .val (.long z0), .second, .val (.long z1), .second, .val (.long z2), .second, .val (.long z3), .second, .val (.int (2 : Int32)), .unset, .unset, .unset, .unset, .unset, .unset] [(.ref ax), (.ref ax)])
    refine Goes.of (fun _ kont => XS.iconst X10.here hx rfl (Jvm.hb hby at_111) kont) ?_
    show Goes p e below _ T10 (mkF m 112 #[.val (.int p1), .val (.int p2), .val (.int p3), .val (.int p4), .val (.int p5), .val (.long x0), .second, .val (.long x1), .second, .val (.long x2), .second, .val (.long x3), .second, .val (.long o0), .second, .val (.long o1), .second, .val (.long o2), .second, .val (.long o3), .second, .val (.long z0), .second, .val (.long z1), .second, .val (.long z2), .second, .val (.long z3), .second, .val (.int (2 : Int32)), .unset, .unset, .unset, .unset, .unset, .unset] [(.int (1 : Int32)), (.ref ax), (.ref ax)])
    refine Goes.of (fun _ kont => XT.lload X10.here hx rfl (Jvm.hb hby at_112) rfl kont) ?_
    show Goes p e below _ T10 (mkF m 114 #[.val (.int p1), .val (.int p2), .val (.int p3), .val (.int p4), .val (.int p5), .val (.long x0), .second, .val (.long x1), .second, .val (.long x2), .second, .val (.long x3), .second, .val (.long o0), .second, .val (.long o1), .second, .val (.long o2), .second, .val (.long o3), .second, .val (.long z0), .second, .val (.long z1), .second, .val (.long z2), .second, .val (.long z3), .second, .val (.int (2 : Int32)), .unset, .unset, .unset, .unset, .unset, .unset] [(.long x1), (.int (1 : Int32)), (.ref ax), (.ref ax)])
    refine Goes.of (fun _ kont => XS.l2dS X10.here hx rfl (Jvm.hb hby at_114) rfl rfl kont) ?_
    show Goes p e below _ T10 (mkF m 115 #[.val (.int p1), .val (.int p2), .val (.int p3), .val (.int p4), .val (.int p5), .val (.long x0), .second, .val (.long x1), .second, .val (.long x2), .second, .val (.long x3), .second, .val (.long o0), .second, .val (.long o1), .second, .val (.long o2), .second, .val (.long o3), .second, .val (.long z0), .second, .val (.long z1), .second, .val (.long z2), .second, .val (.long z3), .second, .val (.int (2 : Int32)), .unset, .unset, .unset, .unset, .unset, .unset] [(.double (FP.l2d x1)), (.int (1 : Int32)), (.ref ax), (.ref ax)])
    refine goStD X10 hx hZ e10 V_ax_10 1 (by decide) (by show 1 < 2; decide) (g := (mkF m 115 #[.val (.int p1), .val (.int p2), .val (.int p3), .val (.int p4), .val (.int p5), .val (.long x0), .second, .val (.long x1), .second, .val (.long x2), .second, .val (.long x3), .second, .val (.long o0), .second, .val (.long o1), .second, .val (.long o2), .second, .val (.long o3), .second, .val (.long z0), .second, .val (.long z1), .second, .val (.long z2), .second, .val (.long z3), .second, .val (.int (2 : Int32)), .unset, .unset, .unset, .unset, .unset, .unset] [(.double (FP.l2d x1)), (.int (1 : Int32)), (.ref ax), (.ref ax)])) rfl rfl (Jvm.hb hby at_115) N10 ge_ax ?_
    intro T11 h11 L11 X11 e11 N11 K11 V_ax_11
    replace V_ax_11 : DA Z h11 ax [(FP.l2d x0), (FP.l2d x1)] := V_ax_11
    have Z11 : n0 ≤ h11.size := Nat.le_trans ge_ax (Nat.le_of_lt V_ax_11.lt)
    show Goes p e below _ T11 (mkF m 116 #[.val (.int p1), .val (.int p2), .val (.int p3), .val (.int p4), .val (.int p5), .val (.long x0), .second, .val (.long x1), .second, .val (.long x2), .second, .val (.long x3), .second, .val (.long o0), .second, .val (.long o1), .second, .val (.long o2), .second, .val (.long o3), .second, .val (.long z0), .second, .val (.long z1), .second, .val (.long z2), .second, .val (.long z3), .second, .val (.int (2 : Int32)), .unset, .unset, .unset, .unset, .unset, .unset] [(.ref ax)])
    refine Goes.of (fun _ kont => XS.astore X11.here hx rfl (Jvm.hb hby at_116) rfl rfl (l' := #[.val (.int p1), .val (.int p2), .val (.int p3), .val (.int p4), .val (.int p5), .val (.long x0), .second, .val (.long x1), .second, .val (.long x2), .second, .val (.long x3), .second, .val (.long o0), .second, .val (.long o1), .second, .val (.long o2), .second, .val (.long o3), .second, .val (.long z0), .second, .val (.long z1), .second, .val (.long z2), .second, .val (.long z3), .second, .val (.int (2 : Int32)), .val (.ref ax), .unset, .unset, .unset, .unset, .unset]) rfl kont) ?_
    show Goes p e below _ T11 (mkF m 118 #[.val (.int p1), .val (.int p2), .val (.int p3), .val (.int p4), .val (.int p5), .val (.long x0), .second, .val (.long x1), .second, .val (.long x2), .second, .val (.long x3), .second, .val (.long o0), .second, .val (.long o1), .second, .val (.long o2), .second, .val (.long o3), .second, .val (.long z0), .second, .val (.long z1), .second, .val (.long z2), .second, .val (.long z3), .second, .val (.int (2 : Int32)), .val (.ref ax), .unset, .unset, .unset, .unset, .unset] [])
    refine Goes.of (fun _ kont => XS.iconst X11.here hx rfl (Jvm.hb hby at_118) kont) ?_
    show Goes p e below _ T11 (mkF m 119 #[.val (.int p1), .val (.int p2), .val (.int p3), .val (.int p4), .val (.int p5), .val (.long x0), .second, .val (.long x1), .second, .val (.long x2), .second, .val (.long x3), .second, .val (.long o0), .second, .val (.long o1), .second, .val (.long o2), .second, .val (.long o3), .second, .val (.long z0), .second, .val (.long z1), .second, .val (.long z2), .second, .val (.long z3), .second, .val (.int (2 : Int32)), .val (.ref ax), .unset, .unset, .unset, .unset, .unset] [(.int (2 : Int32))])
    refine goNewD X11 hx hZ (hw _ (List.mem_of_getElem? (i := 8) rfl)) e11 (g := mkF m 119 #[.val (.int p1), .val (.int p2), .val (.int p3), .val (.int p4), .val (.int p5), .val (.long x0), .second, .val (.long x1), .second, .val (.long x2), .second, .val (.long x3), .second, .val (.long o0), .second, .val (.long o1), .second, .val (.long o2), .second, .val (.long o3), .second, .val (.long z0), .second, .val (.long z1), .second, .val (.long z2), .second, .val (.long z3), .second, .val (.int (2 : Int32)), .val (.ref ax), .unset, .unset, .unset, .unset, .unset] [(.int (2 : Int32))]) rfl (Jvm.hb hby at_119) rfl 2 (by decide) (by decide) (by decide) (by decide) ?_
    intro T12 h12 ay gay X12 e12 E12 V_ay
    have ge_ay : n0 ≤ ay := by rw [gay]; exact Z11
    have Z12 : n0 ≤ h12.size := Nat.le_trans Z11 E12.1
    have ne_ax_ay : ax ≠ ay := by rw [gay]; exact Nat.ne_of_lt V_ax_11.lt
    have V_ax_12 := V_ax_11.ext E12
    show Goes p e below _ T12 (mkF m 121 #[.val (.int p1), .val (.int p2), .val (.int p3), .val (.int p4), .val (.int p5), .val (.long x0), .second, .val (.long x1), .second, .val (.long x2), .second, .val (.long x3), .second, .val (.long o0), .second, .val (.long o1), .second, .val (.long o2), .second, .val (.long o3), .second, .val (.long z0), .second, .val (.long z1), .second, .val (.long z2), .second, .val (.long z3), .second, .val (.int (2 : Int32)), .val (.ref ax), .unset, .unset, .unset, .unset, .unset] [(.ref ay)])
    refine Goes.of (fun _ kont => XS.dup X12.here hx rfl (Jvm.hb hby at_121) rfl rfl kont) ?_
    show Goes p e below _ T12 (mkF m 122 #[.val (.int p1), .val (.int p2), .val (.int p3), .val (.int p4), .val (.int p5), .val (.long x0), .second, .val (.long x1), .second, .val (.long x2), .second, .val (.long x3), .second, .val (.long o0), .second, .val (.long o1), .second, .val (.long o2), .second, .val (.long o3), .second, .val (.long z0), .second, .val (.long z1), .second, .val (.long z2), .second, .val (.long z3), .second, .val (.int (2 : Int32)), .val (.ref ax), .unset, .unset, .unset, .unset, .unset] [(.ref ay), (.ref ay)])
    refine Goes.of (fun _ kont => XS.iconst X12.here hx rfl (Jvm.hb hby at_122) kont) ?_
    show Goes p e below _ T12 (mkF m 123 #[.val (.int p1), .val (.int p2), .val (.int p3), .val (.int p4), .val (.int p5), .val (.long x0), .second, .val (.long x1), .second, .val (.long x2), .second, .val (.long x3), .second, .val (.long o0), .second, .val (.long o1), .second, .val (.long o2), .second, .val (.long o3), .second, .val (.long z0), .second, .val (.long z1), .second, .val (.long z2), .second, .val (.long z3), .second, .val (.int (2 : Int32)), .val (.ref ax), .unset, .unset, .unset, .unset, .unset] [(.int (0 : Int32)), (.ref ay), (.ref ay)])
    refine Goes.of (fun _ kont => XT.lload X12.here hx rfl (Jvm.hb hby at_123) rfl kont) ?_
    show Goes p e below _ T12 (mkF m 125 #[.val (.int p1), .val (.int p2), .val (.int p3), .val (.int p4), .val (.int p5), .val (.long x0), .second, .val (.long x1), .second, .val (.long x2), .second, .val (.long x3), .second, .val (.long o0), .second, .val (.long o1), .second, .val (.long o2), .second, .val (.long o3), .second, .val (.long z0), .second, .val (.long z1), .second, .val (.long z2), .second, .val (.long z3), .second, .val (.int (2 : Int32)), .val (.ref ax), .unset, .unset, .unset, .unset, .unset] [(.long o0), (.int (0 : Int32)), (.ref ay), (.ref ay)])
    refine Goes.of (fun _ kont => XS.l2dS X12.here hx rfl (Jvm.hb hby at_125) rfl rfl kont) ?_
    show Goes p e below _ T12 (mkF m 126 #[.val (.int p1), .val (.int p2), .val (.int p3), .val (.int p4), .val (.int p5), .val (.long x0), .second, .val (.long x1), .second, .val (.long x2), .second, .val (.long x3), .second, .val (.long o0), .second, .val (.long o1), .second, .val (.long o2), .second, .val (.long o3), .second, .val (.long z0), .second, .val (.long z1), .second, .val (.long z2), .second, .val (.long z3), .second, .val (.int (2 : Int32)), .val (.ref ax), .unset, .unset, .unset, .unset, .unset] [(.double (FP.l2d o0)), (.int (0 : Int32)), (.ref ay), (.ref ay)])
    refine goStD X12 hx hZ e12 V_ay 0 (by decide) (by show 0 < 2; decide) (g := (mkF m 126 #[.val (.int p1), .val (.int p2), .val (.int p3), .val (.int p4), .val (.int p5), .val (.long x0), .second, .val (.long x1), .second, .val (.long x2), .second, .val (.long x3), .second, .val (.long o0), .second, .val (.long o1), .second, .val (.long o2), .second, .val (.long o3), .second, .val (.long z0), .second, .val (.long z1), .second, .val (.long z2), .second, .val (.long z3), .second, .val (.int (2 : Int32)), .val (.ref ax), .unset, .unset, .unset, .unset, .unset] [(.double (FP.l2d o0)), (.int (0 : Int32)), (.ref ay), (.ref ay)])) rfl rfl (Jvm.hb hby at_126) N11 ge_ay ?_
    intro T13 h13 L13 X13 e13 N13 K13 V_ay_13
    replace V_ay_13 : DA Z h13 ay [(FP.l2d o0), 0] := V_ay_13
    have V_ax_13 := K13 _ _ ne_ax_ay V_ax_12
    have Z13 : n0 ≤ h13.size := Nat.le_trans ge_ay (Nat.le_of_lt V_ay_13.lt)
    show Goes p e below _ T13 (mkF m 127 #[.val (.int p1), .val (.int p2), .val (.int p3), .val (.int p4), .val (.int p5), .val (.long x0), .second, .val (.long x1), .second, .val (.long x2), .second, .val (.long x3), .second, .val (.long o0), .second, .val (.long o1), .second, .val (.long o2), .second, .val (.long o3), .second, .val (.long z0), .second, .val (.long z1), .second, .val (.long z2), .second, .val (.long z3), .second, .val (.int (2 : Int32)), .val (.ref ax), .unset, .unset, .unset, .unset, .unset] [(.ref ay)])
    refine Goes.of (fun _ kont => XS.dup X13.here hx rfl (Jvm.hb hby at_127) rfl rfl kont) ?_
    show Goes p e below _ T13 (mkF m 128 #[.val (.int p1), .val (.int p2), .val (.int p3), .val (.int p4), .val (.int p5), .val (.long x0), .second, .val (.long x1), .second, .val (.long x2), .second, .val (.long x3), .second, .val (.long o0), .second, .val (.long o1), .second, .val (.long o2), .second, .val (.long o3), .second, .val (.long z0), .second, .val (.long z1), .second, .val (.long z2), .second, .val (.long z3), .second, .val (.int (2 : Int32)), .val (.ref ax), .unset, .unset, .unset, .unset, .unset] [(.ref ay), (.ref ay)])
    refine Goes.of (fun _ kont => XS.iconst X13.here hx rfl (Jvm.hb hby at_128) kont) ?_
    show Goes p e below _ T13 (mkF m 129 #[.val (.int p1), .val (.int p2), .val (.int p3), .val (.int p4), .val (.int p5), .val (.long x0), .second, .val (.long x1), .second, .val (.long x2), .second, .val (.long x3), .second, .val (.long o0), .second, .val (.long o1), .second, .val (.long o2), .second, .val (.long o3), .second, .val (.long z0), .second, .val (.long z1), .second, .val (.long z2), .second, .val (.long z3), .second, .val (.int (2 : Int32)), .val (.ref ax), .unset, .unset, .unset, .unset, .unset] [(.int (1 : Int32)), (.ref ay), (.ref ay)])
    refine Goes.of (fun _ kont => XT.lload X13.here hx rfl (Jvm.hb hby at_129) rfl kont) ?_
    show Goes p e below _ T13 (mkF m 131 #[.val (.int p1), .val (.int p2), .val (.int p3), .val (.int p4), .val (.int p5), .val (.long x0), .second, .val (.long x1), .second, .val (.long x2), .second, .val (.long x3), .second, .val (.long o0), .second, .val (.long o1), .second, .val (.long o2), .second, .val (.long o3), .second, .val (.long z0), .second, .val (.long z1), .second, .val (.long z2), .second, .val (.long z3), .second, .val (.int (2 : Int32)), .val (.ref ax), .unset, .unset, .unset, .unset, .unset] [(.long o1), (.int (1 : Int32)), (.ref ay), (.ref ay)])
    refine Goes.of (fun _ kont => XS.l2dS X13.here hx rfl (Jvm.hb hby at_131) rfl rfl kont) ?_
    show Goes p e below _ T13 (mkF m 132 #[.val (.int p1), .val (.int p2), .val (.int p3), .val (.int p4), .val (.int p5), .val (.long x0), .second, .val (.long x1), .second, .val (.long x2), .second, .val (.long x3), .second, .val (.long o0), .second, .val (.long o1), .second, .val (.long o2), .second, .val (.long o3), .second, .val (.long z0), .second, .val (.long z1), .second, .val (.long z2), .second, .val (.long z3), .second, .val (.int (2 : Int32)), .val (.ref ax), .unset, .unset, .unset, .unset, .unset] [(.double (FP.l2d o1)), (.int (1 : Int32)), (.ref ay), (.ref ay)])
    refine goStD X13 hx hZ e13 V_ay_13 1 (by decide) (by show 1 < 2; decide) (g := (mkF m 132 #[.val (.int p1), .val (.int p2), .val (.int p3), .val (.int p4), .val (.int p5), .val (.long x0), .second, .val (.long x1), .second, .val (.long x2), .second, .val (.long x3), .second, .val (.long o0), .second, .val (.long o1), .second, .val (.long o2), .second, .val (.long o3), .second, .val (.long z0), .second, .val (.long z1), .second, .val (.long z2), .second, .val (.long z3), .second, .val (.int (2 : Int32)), .val (.ref ax), .unset, .unset, .unset, .unset, .unset] [(.double (FP.l2d o1)), (.int (1 : Int32)), (.ref ay), (.ref ay)])) rfl rfl (Jvm.hb hby at_132) N13 ge_ay ?_
    intro T14 h14 L14 X14 e14 N14 K14 V_ay_14
    replace V_ay_14 : DA Z h14 ay [(FP.l2d o0), (FP.l2d o1)] := V_ay_14
    have V_ax_14 := K14 _ _ ne_ax_ay V_ax_13
    have Z14 : n0 ≤ h14.size := Nat.le_trans ge_ay (Nat.le_of_lt V_ay_14.lt)
    show Goes p e below _ T14 (mkF m 133 #[.val (.int p1), .val (.int p2), .val (.int p3), .val (.int p4), .val (.int p5), .val (.long x0), .second, .val (.long x1), .second, .val (.long x2), .second, .val (.long x3), .second, .val (.long o0), .second, .val (.long o1), .second, .val (.long o2), .second, .val (.long o3), .second, .val (.long z0), .second, .val (.long z1), .second, .val (.long z2), .second, .val (.long z3), .second, .val (.int (2 : Int32)), .val (.ref ax), .unset, .unset, .unset, .unset, .unset] [(.ref ay)])
    refine Goes.of (fun _ kont => XS.astore X14.here hx rfl (Jvm.hb hby at_133) rfl rfl (l' := #[.val (.int p1), .val (.int p2), .val (.int p3), .val (.int p4), .val (.int p5), .val (.long x0), .second, .val (.long x1), .second, .val (.long x2), .second, .val (.long x3), .second, .val (.long o0), .second, .val (.long o1), .second, .val (.long o2), .second, .val (.long o3), .second, .val (.long z0), .second, .val (.long z1), .second, .val (.long z2), .second, .val (.long z3), .second, .val (.int (2 : Int32)), .val (.ref ax), .val (.ref ay), .unset, .unset, .unset, .unset]) rfl kont) ?_
    show Goes p e below _ T14 (mkF m 135 #[.val (.int p1), .val (.int p2), .val (.int p3), .val (.int p4), .val (.int p5), .val (.long x0), .second, .val (.long x1), .second, .val (.long x2), .second, .val (.long x3), .second, .val (.long o0), .second, .val (.long o1), .second, .val (.long o2), .second, .val (.long o3), .second, .val (.long z0), .second, .val (.long z1), .second, .val (.long z2), .second, .val (.long z3), .second, .val (.int (2 : Int32)), .val (.ref ax), .val (.ref ay), .unset, .unset, .unset, .unset] [])
    refine Goes.of (fun _ kont => XT.lload X14.here hx rfl (Jvm.hb hby at_135) rfl kont) ?_
    show Goes p e below _ T14 (mkF m 137 #[.val (.int p1), .val (.int p2), .val (.int p3), .val (.int p4), .val (.int p5), .val (.long x0), .second, .val (.long x1), .second, .val (.long x2), .second, .val (.long x3), .second, .val (.long o0), .second, .val (.long o1), .second, .val (.long o2), .second, .val (.long o3), .second, .val (.long z0), .second, .val (.long z1), .second, .val (.long z2), .second, .val (.long z3), .second, .val (.int (2 : Int32)), .val (.ref ax), .val (.ref ay), .unset, .unset, .unset, .unset] [(.long z0)])
    refine Goes.of (fun _ kont => XT.lload X14.here hx rfl (Jvm.hb hby at_137) rfl kont) ?_
    show Goes p e below _ T14 (mkF m 139 #[.val (.int p1), .val (.int p2), .val (.int p3), .val (.int p4), .val (.int p5), .val (.long x0), .second, .val (.long x1), .second, .val (.long x2), .second, .val (.long x3), .second, .val (.long o0), .second, .val (.long o1), .second, .val (.long o2), .second, .val (.long o3), .second, .val (.long z0), .second, .val (.long z1), .second, .val (.long z2), .second, .val (.long z3), .second, .val (.int (2 : Int32)), .val (.ref ax), .val (.ref ay), .unset, .unset, .unset, .unset] [(.long z1), (.long z0)])
    refine callC X14 hx hZ hown (hw _ (List.mem_of_getElem? (i := 9) rfl)) (hw _ (List.mem_of_getElem? (i := 10) rfl)) (hw _ (List.mem_of_getElem? (i := 2) rfl)) (hw _ (List.mem_of_getElem? (i := 11) rfl)) (by decide) (as := [(.long z0), (.long z1)]) (rm4 l Z a0 hw z0 z1 h14 n0 Z14 (by omega) (by omega)) 0 (by decide) (by decide) e14 (by decide) (by decide) (g := mkF m 139 #[.val (.int p1), .val (.int p2), .val (.int p3), .val (.int p4), .val (.int p5), .val (.long x0), .second, .val (.long x1), .second, .val (.long x2), .second, .val (.long x3), .second, .val (.long o0), .second, .val (.long o1), .second, .val (.long o2), .second, .val (.long o3), .second, .val (.long z0), .second, .val (.long z1), .second, .val (.long z2), .second, .val (.long z3), .second, .val (.int (2 : Int32)), .val (.ref ax), .val (.ref ay), .unset, .unset, .unset, .unset] [(.long z1), (.long z0)]) rfl (by rw [hml]; rfl) (rest := []) (lenOf pd_1 rfl) rfl (by show 2 * 0 + _ ≤ _; exact Nat.le_of_eq rfl) (Jvm.hb hby at_139) ?_
    rintro _ T15 L15 X15 ⟨⟨t0, rfl, et0⟩, N15, e15⟩
    show Goes p e below _ T15 (mkF m 142 #[.val (.int p1), .val (.int p2), .val (.int p3), .val (.int p4), .val (.int p5), .val (.long x0), .second, .val (.long x1), .second, .val (.long x2), .second, .val (.long x3), .second, .val (.long o0), .second, .val (.long o1), .second, .val (.long o2), .second, .val (.long o3), .second, .val (.long z0), .second, .val (.long z1), .second, .val (.long z2), .second, .val (.long z3), .second, .val (.int (2 : Int32)), .val (.ref ax), .val (.ref ay), .unset, .unset, .unset, .unset] [(.long t0)])
    rw [tm_z (x0.toInt - o0.toInt) (x1.toInt - o1.toInt) _ _ ez0 ez1] at et0
    have bt0 := (tm_b (d := (x0.toInt - o0.toInt)) (n := (x1.toInt - o1.toInt)) (by omega) (by omega)).2.2.2.2
    have NN0 := Fr.app N14 N15
    refine Goes.of (fun _ kont => XT.lstore X15.here hx rfl (Jvm.hb hby at_142) rfl (l' := #[.val (.int p1), .val (.int p2), .val (.int p3), .val (.int p4), .val (.int p5), .val (.long x0), .second, .val (.long x1), .second, .val (.long x2), .second, .val (.long x3), .second, .val (.long o0), .second, .val (.long o1), .second, .val (.long o2), .second, .val (.long o3), .second, .val (.long z0), .second, .val (.long z1), .second, .val (.long z2), .second, .val (.long z3), .second, .val (.int (2 : Int32)), .val (.ref ax), .val (.ref ay), .val (.long t0), .second, .unset, .unset]) rfl kont) ?_
    show Goes p e below _ T15 (mkF m 144 #[.val (.int p1), .val (.int p2), .val (.int p3), .val (.int p4), .val (.int p5), .val (.long x0), .second, .val (.long x1), .second, .val (.long x2), .second, .val (.long x3), .second, .val (.long o0), .second, .val (.long o1), .second, .val (.long o2), .second, .val (.long o3), .second, .val (.long z0), .second, .val (.long z1), .second, .val (.long z2), .second, .val (.long z3), .second, .val (.int (2 : Int32)), .val (.ref ax), .val (.ref ay), .val (.long t0), .second, .unset, .unset] [])
    refine Goes.of (fun _ kont => XS.goto X15.here hx rfl (pc0 := 144) (pc' := 302) rfl (Jvm.hb hby at_144) (by decide) (by decide) kont) ?_
    show Goes p e below _ T15 (mkF m 302 #[.val (.int p1), .val (.int p2), .val (.int p3), .val (.int p4), .val (.int p5), .val (.long x0), .second, .val (.long x1), .second, .val (.long x2), .second, .val (.long x3), .second, .val (.long o0), .second, .val (.long o1), .second, .val (.long o2), .second, .val (.long o3), .second, .val (.long z0), .second, .val (.long z1), .second, .val (.long z2), .second, .val (.long z3), .second, .val (.int (2 : Int32)), .val (.ref ax), .val (.ref ay), .val (.long t0), .second, .unset, .unset] [])
    refine Goes.of (fun _ kont => XS.aload X15.here hx rfl (Jvm.hb hby at_302) rfl rfl kont) ?_
    show Goes p e below _ T15 (mkF m 304 #[.val (.int p1), .val (.int p2), .val (.int p3), .val (.int p4), .val (.int p5), .val (.long x0), .second, .val (.long x1), .second, .val (.long x2), .second, .val (.long x3), .second, .val (.long o0), .second, .val (.long o1), .second, .val (.long o2), .second, .val (.long o3), .second, .val (.long z0), .second, .val (.long z1), .second, .val (.long z2), .second, .val (.long z3), .second, .val (.int (2 : Int32)), .val (.ref ax), .val (.ref ay), .val (.long t0), .second, .unset, .unset] [(.ref ax)])
    refine Goes.of (fun _ kont => XS.aload X15.here hx rfl (Jvm.hb hby at_304) rfl rfl kont) ?_
    show Goes p e below _ T15 (mkF m 306 #[.val (.int p1), .val (.int p2), .val (.int p3), .val (.int p4), .val (.int p5), .val (.long x0), .second, .val (.long x1), .second, .val (.long x2), .second, .val (.long x3), .second, .val (.long o0), .second, .val (.long o1), .second, .val (.long o2), .second, .val (.long o3), .second, .val (.long z0), .second, .val (.long z1), .second, .val (.long z2), .second, .val (.long z3), .second, .val (.int (2 : Int32)), .val (.ref ax), .val (.ref ay), .val (.long t0), .second, .unset, .unset] [(.ref ay), (.ref ax)])
    refine callC X15 hx hZ hown (hw _ (List.mem_of_getElem? (i := 13) rfl)) (hw _ (List.mem_of_getElem? (i := 14) rfl)) (hw _ (List.mem_of_getElem? (i := 15) rfl)) (hw _ (List.mem_of_getElem? (i := 16) rfl)) (by decide) (as := [(.ref ax), (.ref ay)]) (rm1_2 l Z a0 hw ax ay (FP.l2d x0) (FP.l2d o0) x0.toInt o0.toInt (FP.l2d x1) (FP.l2d o1) x1.toInt o1.toInt h14 n0 Z14 V_ax_14 V_ay_14 Dx0 Do0 bx0 bo0 Dx1 Do1 bx1 bo1) 0 (by decide) (by decide) e15 (by decide) (by decide) (g := mkF m 306 #[.val (.int p1), .val (.int p2), .val (.int p3), .val (.int p4), .val (.int p5), .val (.long x0), .second, .val (.long x1), .second, .val (.long x2), .second, .val (.long x3), .second, .val (.long o0), .second, .val (.long o1), .second, .val (.long o2), .second, .val (.long o3), .second, .val (.long z0), .second, .val (.long z1), .second, .val (.long z2), .second, .val (.long z3), .second, .val (.int (2 : Int32)), .val (.ref ax), .val (.ref ay), .val (.long t0), .second, .unset, .unset] [(.ref ay), (.ref ax)]) rfl (by rw [hml]; rfl) (rest := []) (lenOf pd_2 rfl) rfl (by show 2 * 0 + _ ≤ _; exact Nat.le_of_eq rfl) (Jvm.hb hby at_306) ?_
    rintro _ T16 L16 X16 ⟨⟨zz16, rfl, Dz16⟩, N16, e16⟩
    show Goes p e below _ T16 (mkF m 309 #[.val (.int p1), .val (.int p2), .val (.int p3), .val (.int p4), .val (.int p5), .val (.long x0), .second, .val (.long x1), .second, .val (.long x2), .second, .val (.long x3), .second, .val (.long o0), .second, .val (.long o1), .second, .val (.long o2), .second, .val (.long o3), .second, .val (.long z0), .second, .val (.long z1), .second, .val (.long z2), .second, .val (.long z3), .second, .val (.int (2 : Int32)), .val (.ref ax), .val (.ref ay), .val (.long t0), .second, .unset, .unset] [(.double zz16)])
    refine Goes.of (fun _ kont => XS.dstore X16.here hx rfl (Jvm.hb hby at_309) rfl (l' := #[.val (.int p1), .val (.int p2), .val (.int p3), .val (.int p4), .val (.int p5), .val (.long x0), .second, .val (.long x1), .second, .val (.long x2), .second, .val (.long x3), .second, .val (.long o0), .second, .val (.long o1), .second, .val (.long o2), .second, .val (.long o3), .second, .val (.long z0), .second, .val (.long z1), .second, .val (.long z2), .second, .val (.long z3), .second, .val (.int (2 : Int32)), .val (.ref ax), .val (.ref ay), .val (.long t0), .second, .val (.double zz16), .second]) rfl kont) ?_
    show Goes p e below _ T16 (mkF m 311 #[.val (.int p1), .val (.int p2), .val (.int p3), .val (.int p4), .val (.int p5), .val (.long x0), .second, .val (.long x1), .second, .val (.long x2), .second, .val (.long x3), .second, .val (.long o0), .second, .val (.long o1), .second, .val (.long o2), .second, .val (.long o3), .second, .val (.long z0), .second, .val (.long z1), .second, .val (.long z2), .second, .val (.long z3), .second, .val (.int (2 : Int32)), .val (.ref ax), .val (.ref ay), .val (.long t0), .second, .val (.double zz16), .second] [])
    refine Goes.of (fun _ kont => XS.dload X16.here hx rfl (Jvm.hb hby at_311) rfl kont) ?_
    show Goes p e below _ T16 (mkF m 313 #[.val (.int p1), .val (.int p2), .val (.int p3), .val (.int p4), .val (.int p5), .val (.long x0), .second, .val (.long x1), .second, .val (.long x2), .second, .val (.long x3), .second, .val (.long o0), .second, .val (.long o1), .second, .val (.long o2), .second, .val (.long o3), .second, .val (.long z0), .second, .val (.long z1), .second, .val (.long z2), .second, .val (.long z3), .second, .val (.int (2 : Int32)), .val (.ref ax), .val (.ref ay), .val (.long t0), .second, .val (.double zz16), .second] [(.double zz16)])
    refine Goes.of (fun _ kont => XT.lload X16.here hx rfl (Jvm.hb hby at_313) rfl kont) ?_
    show Goes p e below _ T16 (mkF m 315 #[.val (.int p1), .val (.int p2), .val (.int p3), .val (.int p4), .val (.int p5), .val (.long x0), .second, .val (.long x1), .second, .val (.long x2), .second, .val (.long x3), .second, .val (.long o0), .second, .val (.long o1), .second, .val (.long o2), .second, .val (.long o3), .second, .val (.long z0), .second, .val (.long z1), .second, .val (.long z2), .second, .val (.long z3), .second, .val (.int (2 : Int32)), .val (.ref ax), .val (.ref ay), .val (.long t0), .second, .val (.double zz16), .second] [(.long t0), (.double zz16)])
    refine Goes.of (fun _ kont => XS.l2dS X16.here hx rfl (Jvm.hb hby at_315) rfl rfl kont) ?_
    show Goes p e below _ T16 (mkF m 316 #[.val (.int p1), .val (.int p2), .val (.int p3), .val (.int p4), .val (.int p5), .val (.long x0), .second, .val (.long x1), .second, .val (.long x2), .second, .val (.long x3), .second, .val (.long o0), .second, .val (.long o1), .second, .val (.long o2), .second, .val (.long o3), .second, .val (.long z0), .second, .val (.long z1), .second, .val (.long z2), .second, .val (.long z3), .second, .val (.int (2 : Int32)), .val (.ref ax), .val (.ref ay), .val (.long t0), .second, .val (.double zz16), .second] [(.double (FP.l2d t0)), (.double zz16)])
    refine Goes.of (fun _ kont => XS.dcmpS X16.here hx rfl (Jvm.hb hby at_316) rfl rfl kont) ?_
    show Goes p e below _ T16 (mkF m 317 #[.val (.int p1), .val (.int p2), .val (.int p3), .val (.int p4), .val (.int p5), .val (.long x0), .second, .val (.long x1), .second, .val (.long x2), .second, .val (.long x3), .second, .val (.long o0), .second, .val (.long o1), .second, .val (.long o2), .second, .val (.long o3), .second, .val (.long z0), .second, .val (.long z1), .second, .val (.long z2), .second, .val (.long z3), .second, .val (.int (2 : Int32)), .val (.ref ax), .val (.ref ay), .val (.long t0), .second, .val (.double zz16), .second] [(.int (cmpValue (FP.dcmp zz16 (FP.l2d t0)) .l))])
    have De := dy_l2d (n := t0) (by rw [et0]; omega)
    rw [et0] at De
    refine Goes.of (fun _ kont => XS.ifNo X16.here hx rfl (Jvm.hb hby at_317) rfl (by rw [dy_eq Dz16 De rfl]; decide) kont) ?_
    show Goes p e below _ T16 (mkF m 320 #[.val (.int p1), .val (.int p2), .val (.int p3), .val (.int p4), .val (.int p5), .val (.long x0), .second, .val (.long x1), .second, .val (.long x2), .second, .val (.long x3), .second, .val (.long o0), .second, .val (.long o1), .second, .val (.long o2), .second, .val (.long o3), .second, .val (.long z0), .second, .val (.long z1), .second, .val (.long z2), .second, .val (.long z3), .second, .val (.int (2 : Int32)), .val (.ref ax), .val (.ref ay), .val (.long t0), .second, .val (.double zz16), .second] [])
    refine Goes.of (fun _ kont => XS.iconst X16.here hx rfl (Jvm.hb hby at_320) kont) ?_
    show Goes p e below _ T16 (mkF m 321 #[.val (.int p1), .val (.int p2), .val (.int p3), .val (.int p4), .val (.int p5), .val (.long x0), .second, .val (.long x1), .second, .val (.long x2), .second, .val (.long x3), .second, .val (.long o0), .second, .val (.long o1), .second, .val (.long o2), .second, .val (.long o3), .second, .val (.long z0), .second, .val (.long z1), .second, .val (.long z2), .second, .val (.long z3), .second, .val (.int (2 : Int32)), .val (.ref ax), .val (.ref ay), .val (.long t0), .second, .val (.double zz16), .second] [(.int (1 : Int32))])
    refine Goes.of (fun _ kont => XS.goto X16.here hx rfl (pc0 := 321) (pc' := 325) rfl (Jvm.hb hby at_321) (by decide) (by decide) kont) ?_
    show Goes p e below _ T16 (mkF m 325 #[.val (.int p1), .val (.int p2), .val (.int p3), .val (.int p4), .val (.int p5), .val (.long x0), .second, .val (.long x1), .second, .val (.long x2), .second, .val (.long x3), .second, .val (.long o0), .second, .val (.long o1), .second, .val (.long o2), .second, .val (.long o3), .second, .val (.long z0), .second, .val (.long z1), .second, .val (.long z2), .second, .val (.long z3), .second, .val (.int (2 : Int32)), .val (.ref ax), .val (.ref ay), .val (.long t0), .second, .val (.double zz16), .second] [(.int (1 : Int32))])
    exact retB X16 hx hlk (t := .boolean) hret (by simp) (Jvm.hb hby at_325) (by decide) (by decide) ⟨rfl, Fr.app NN0 N16⟩
  · show Goes p e below _ T8 (mkF m 95 #[.val (.int p1), .val (.int p2), .val (.int p3), .val (.int p4), .val (.int p5), .val (.long x0), .second, .val (.long x1), .second, .val (.long x2), .second, .val (.long x3), .second, .val (.long o0), .second, .val (.long o1), .second, .val (.long o2), .second, .val (.long o3), .second, .val (.long z0), .second, .val (.long z1), .second, .val (.long z2), .second, .val (.long z3), .second, .val (.int (3 : Int32)), .unset, .unset, .unset, .unset, .unset, .unset] [])
    refine Goes.of (fun _ kont => XS.iload X8.here hx rfl (Jvm.hb hby at_95) rfl kont) ?_
    show Goes p e below _ T8 (mkF m 97 #[.val (.int p1), .val (.int p2), .val (.int p3), .val (.int p4), .val (.int p5), .val (.long x0), .second, .val (.long x1), .second, .val (.long x2), .second, .val (.long x3), .second, .val (.long o0), .second, .val (.long o1), .second, .val (.long o2), .second, .val (.long o3), .second, .val (.long z0), .second, .val (.long z1), .second, .val (.long z2), .second, .val (.long z3), .second, .val (.int (3 : Int32)), .unset, .unset, .unset, .unset, .unset, .unset] [(.int (3 : Int32))])
    refine Goes.of (fun _ kont => XS.iconst X8.here hx rfl (Jvm.hb hby at_97) kont) ?_
    show Goes p e below _ T8 (mkF m 98 #[.val (.int p1), .val (.int p2), .val (.int p3), .val (.int p4), .val (.int p5), .val (.long x0), .second, .val (.long x1), .second, .val (.long x2), .second, .val (.long x3), .second, .val (.long o0), .second, .val (.long o1), .second, .val (.long o2), .second, .val (.long o3), .second, .val (.long z0), .second, .val (.long z1), .second, .val (.long z2), .second, .val (.long z3), .second, .val (.int (3 : Int32)), .unset, .unset, .unset, .unset, .unset, .unset] [(.int (2 : Int32)), (.int (3 : Int32))])
    refine Goes.of (fun _ kont => XS.icmpYes X8.here hx rfl (pc0 := 98) (pc' := 147) rfl (Jvm.hb hby at_98) rfl (by decide) (by decide) (by decide) kont) ?_
    show Goes p e below _ T8 (mkF m 147 #[.val (.int p1), .val (.int p2), .val (.int p3), .val (.int p4), .val (.int p5), .val (.long x0), .second, .val (.long x1), .second, .val (.long x2), .second, .val (.long x3), .second, .val (.long o0), .second, .val (.long o1), .second, .val (.long o2), .second, .val (.long o3), .second, .val (.long z0), .second, .val (.long z1), .second, .val (.long z2), .second, .val (.long z3), .second, .val (.int (3 : Int32)), .unset, .unset, .unset, .unset, .unset, .unset] [])
    refine Goes.of (fun _ kont => XS.iload X8.here hx rfl (Jvm.hb hby at_147) rfl kont) ?_
    show Goes p e below _ T8 (mkF m 149 #[.val (.int p1), .val (.int p2), .val (.int p3), .val (.int p4), .val (.int p5), .val (.long x0), .second, .val (.long x1), .second, .val (.long x2), .second, .val (.long x3), .second, .val (.long o0), .second, .val (.long o1), .second, .val (.long o2), .second, .val (.long o3), .second, .val (.long z0), .second, .val (.long z1), .second, .val (.long z2), .second, .val (.long z3), .second, .val (.int (3 : Int32)), .unset, .unset, .unset, .unset, .unset, .unset] [(.int (3 : Int32))])
    refine Goes.of (fun _ kont => XS.iconst X8.here hx rfl (Jvm.hb hby at_149) kont) ?_
    show Goes p e below _ T8 (mkF m 150 #[.val (.int p1), .val (.int p2), .val (.int p3), .val (.int p4), .val (.int p5), .val (.long x0), .second, .val (.long x1), .second, .val (.long x2), .second, .val (.long x3), .second, .val (.long o0), .second, .val (.long o1), .second, .val (.long o2), .second, .val (.long o3), .second, .val (.long z0), .second, .val (.long z1), .second, .val (.long z2), .second, .val (.long z3), .second, .val (.int (3 : Int32)), .unset, .unset, .unset, .unset, .unset, .unset] [(.int (3 : Int32)), (.int (3 : Int32))])
    refine Goes.of (fun _ kont => XS.icmpNo X8.here hx rfl (Jvm.hb hby at_150) rfl (by decide) kont) ?_
    show Goes p e below _ T8 (mkF m 153 #[.val (.int p1), .val (.int p2), .val (.int p3), .val (.int p4), .val (.int p5), .val (.long x0), .second, .val (.long x1), .second, .val (.long x2), .second, .val (.long x3), .second, .val (.long o0), .second, .val (.long o1), .second, .val (.long o2), .second, .val (.long o3), .second, .val (.long z0), .second, .val (.long z1), .second, .val (.long z2), .second, .val (.long z3), .second, .val (.int (3 : Int32)), .unset, .unset, .unset, .unset, .unset, .unset] [])
    refine Goes.of (fun _ kont => XS.iconst X8.here hx rfl (Jvm.hb hby at_153) kont) ?_
    show Goes p e below _ T8 (mkF m 154 #[.val (.int p1), .val (.int p2), .val (.int p3), .val (.int p4), .val (.int p5), .val (.long x0), .second, .val (.long x1), .second, .val (.long x2), .second, .val (.long x3), .second, .val (.long o0), .second, .val (.long o1), .second, .val (.long o2), .second, .val (.long o3), .second, .val (.long z0), .second, .val (.long z1), .second, .val (.long z2), .second, .val (.long z3), .second, .val (.int (3 : Int32)), .unset, .unset, .unset, .unset, .unset, .unset] [(.int (3 : Int32))])
    refine goNewD X8 hx hZ (hw _ (List.mem_of_getElem? (i := 8) rfl)) e8 (g := mkF m 154 #[.val (.int p1), .val (.int p2), .val (.int p3), .val (.int p4), .val (.int p5), .val (.long x0), .second, .val (.long x1), .second, .val (.long x2), .second, .val (.long x3), .second, .val (.long o0), .second, .val (.long o1), .second, .val (.long o2), .second, .val (.long o3), .second, .val (.long z0), .second, .val (.long z1), .second, .val (.long z2), .second, .val (.long z3), .second, .val (.int (3 : Int32)), .unset, .unset, .unset, .unset, .unset, .unset] [(.int (3 : Int32))]) rfl (Jvm.hb hby at_154) rfl 3 (by decide) (by decide) (by decide) (by decide) ?_
    intro T17 h17 ax gax X17 e17 E17 V_ax
    have ge_ax : n0 ≤ ax := by rw [gax]; exact Z0
    have Z17 : n0 ≤ h17.size := Nat.le_trans Z0 E17.1
    show Goes p e below _ T17 (mkF m 156 #[.val (.int p1), .val (.int p2), .val (.int p3), .val (.int p4), .val (.int p5), .val (.long x0), .second, .val (.long x1), .second, .val (.long x2), .second, .val (.long x3), .second, .val (.long o0), .second, .val (.long o1), .second, .val (.long o2), .second, .val (.long o3), .second, .val (.long z0), .second, .val (.long z1), .second, .val (.long z2), .second, .val (.long z3), .second, .val (.int (3 : Int32)), .unset, .unset, .unset, .unset, .unset, .unset] [(.ref ax)])
    refine Goes.of (fun _ kont => XS.dup X17.here hx rfl (Jvm.hb hby at_156) rfl rfl kont) ?_
    show Goes p e below _ T17 (mkF m 157 #[.val (.int p1), .val (.int p2), .val (.int p3), .val (.int p4), .val (.int p5), .val (.long x0), .second, .val (.long x1), .second, .val (.long x2), .second, .val (.long x3), .second, .val (.long o0), .second, .val (.long o1), .second, .val (.long o2), .second, .val (.long o3), .second, .val (.long z0), .second, .val (.long z1), .second, .val (.long z2), .second, .val (.long z3), .second, .val (.int (3 : Int32)), .unset, .unset, .unset, .unset, .unset, .unset] [(.ref ax), (.ref ax)])
    refine Goes.of (fun _ kont => XS.iconst X17.here hx rfl (Jvm.hb hby at_157) kont) ?_
    show Goes p e below _ T17 (mkF m 158 #[.val (.int p1), .val (.int p2), .val (.int p3), .val (.int p4), .val (.int p5), .val (.long x0), .second, .val (.long x1), .second, .val (.long x2), .second, .val (.long x3), .second, .val (.long o0), .second, .val (.long o1), .second, .val (.long o2), .second, .val (.long o3), .second, .val (.long z0), .second, .val (.long z1), .second, .val (.long z2), .second, .val (.long z3), .second, .val (.int (3 : Int32)), .unset, .unset, .unset, .unset, .unset, .unset] [(.int (0 : Int32)), (.ref ax), (.ref ax)])
    refine Goes.of (fun _ kont => XT.lload X17.here hx rfl (Jvm.hb hby at_158) rfl kont) ?_
    show Goes p e below _ T17 (mkF m 160 #[.val (.int p1), .val (.int p2), .val (.int p3), .val (.int p4), .val (.int p5), .val (.long x0), .second, .val (.long x1), .second, .val (.long x2), .second, .val (.long x3), .second, .val (.long o0), .second, .val (.long o1), .second, .val (.long o2), .second, .val (.long o3), .second, .val (.long z0), .second, .val (.long z1), .second, .val (.long z2), .second, .val (.long z3), .second, .val (.int (3 : Int32)), .unset, .unset, .unset, .unset, .unset, .unset] [(.long x0), (.int (0 : Int32)), (.ref ax), (.ref ax)])
    refine Goes.of (fun _ kont => XS.l2dS X17.here hx rfl (Jvm.hb hby at_160) rfl rfl kont) ?_
    show Goes p e below _ T17 (mkF m 161 #[.val (.int p1), .val (.int p2), .val (.int p3), .val (.int p4), .val (.int p5), .val (.long x0), .second, .val (.long x1), .second, .val (.long x2), .second, .val (.long x3), .second, .val (.long o0), .second, .val (.long o1), .second, .val (.long o2), .second, .val (.long o3), .second, .val (.long z0), .second, .val (.long z1), .second, .val (.long z2), .second, .val (.long z3), .second, .val (.int (3 : Int32)), .unset, .unset, .unset, .unset, .unset, .unset] [(.double (FP.l2d x0)), (.int (0 : Int32)), (.ref ax), (.ref ax)])
    refine goStD X17 hx hZ e17 V_ax 0 (by decide) (by show 0 < 3; decide) (g := (mkF m 161 #[.val (.int p1), .val (.int p2), .val (.int p3), .val (.int p4), .val (.int p5), .val (.long x0), .second, .val (.long x1), .second, .val (.long x2), .second, .val (.long x3), .second, .val (.long o0), .second, .val (.long o1), .second, .val (.long o2), .second, .val (.long o3), .second, .val (.long z0), .second, .val (.long z1), .second, .val (.long z2), .second, .val (.long z3), .second, .val (.int (3 : Int32)), .unset, .unset, .unset, .unset, .unset, .unset] [(.double (FP.l2d x0)), (.int (0 : Int32)), (.ref ax), (.ref ax)])) rfl rfl (Jvm.hb hby at_161) NN ge_ax ?_
    intro T18 h18 L18 X18 e18 N18 K18 V_ax_18
    replace V_ax_18 : DA Z h18 ax [(FP.l2d x0), 0, 0] := V_ax_18
    have Z18 : n0 ≤ h18.size := Nat.le_trans ge_ax (Nat.le_of_lt V_ax_18.lt)
    show Goes p e below _ T18 (mkF m 162 #[.val (.int p1), .val (.int p2), .val (.int p3), .val (.int p4), .val (.int p5), .val (.long x0), .second, .val (.long x1), .second, .val (.long x2), .second, .val (.long x3), .second, .val (.long o0), .second, .val (.long o1), .second, .val (.long o2), .second, .val (.long o3), .second, .val (.long z0), .second, .val (.long z1), .second, .val (.long z2), .second, .val (.long z3), .second, .val (.int (3 : Int32)), .unset, .unset, .unset, .unset, .unset, .unset] [(.ref ax)])
    refine Goes.of (fun _ kont => XS.dup X18.here hx rfl (Jvm.hb hby at_162) rfl rfl kont) ?_
    show Goes p e below _ T18 (mkF m 163 #[.val (.int p1), .val (.int p2), .val (.int p3), .val (.int p4), .val (.int p5), .val (.long x0), .second, .val (.long x1), .second, .val (.long x2), .second, .val (.long x3), .second, .val (.long o0), .second, .val (.long o1), .second, .val (.long o2), .second, .val (.long o3), .second, .val (.long z0), .second, .val (.long z1), .second, .val (.long z2), .second, .val (.long z3), .second, .val (.int (3 : Int32)), .unset, .unset, .unset, .unset, .unset, .unset] [(.ref ax), (.ref ax)])
    refine Goes.of (fun _ kont => XS.iconst X18.here hx rfl (Jvm.hb hby at_163) kont) ?_
    show Goes p e below _ T18 (mkF m 164 #[.val (.int p1), .val (.int p2), .val (.int p3), .val (.int p4), .val (.int p5), .val (.long x0), .second, .val (.long x1), .second, .val (.long x2), .second, .val (.long x3), .second, .val (.long o0), .second, .val (.long o1), .second, .val (.long o2), .second, .val (.long o3), .second, .val (.long z0), .second, .val (.long z1), .second, .val (.long z2), .second, .val (.long z3), .second, .val (.int (3 : Int32)), .unset, .unset, .unset, .unset, .unset, .unset] [(.int (1 : Int32)), (.ref ax), (.ref ax)])
    refine Goes.of (fun _ kont => XT.lload X18.here hx rfl (Jvm.hb hby at_164) rfl kont) ?_
    show Goes p e below _ T18 (mkF m 166 #[.val (.int p1), .val (.int p2), .val (.int p3), .val (.int p4), .val (.int p5), .val (.long x0), .second, .val (.long x1), .second, .val (.long x2), .second, .val (.long x3), .second, .val (.long o0), .second, .val (.long o1), .second, .val (.long o2), .second, .val (.long o3), .second, .val (.long z0), .second, .val (.long z1), .second, .val (.long z2), .second, .val (.long z3), .second, .val (.int (3 : Int32)), .unset, .unset, .unset, .unset, .unset, .unset] [(.long x1), (.int (1 : Int32)), (.ref ax), (.ref ax)])
    refine Goes.of (fun _ kont => XS.l2dS X18.here hx rfl (Jvm.hb hby at_166) rfl rfl kont) ?_
    show Goes p e below _ T18 (mkF m 167 #[.val (.int p1), .val (.int p2), .val (.int p3), .val (.int p4), .val (.int p5), .val (.long x0), .second, .val (.long x1), .second, .val (.long x2), .second, .val (.long x3), .second, .val (.long o0), .second, .val (.long o1), .second, .val (.long o2), .second, .val (.long o3), .second, .val (.long z0), .second, .val (.long z1), .second, .val (.long z2), .second, .val (.long z3), .second, .val (.int (3 : Int32)), .unset, .unset, .unset, .unset, .unset, .unset] [(.double (FP.l2d x1)), (.int (1 : Int32)), (.ref ax), (.ref ax)])
    refine goStD X18 hx hZ e18 V_ax_18 1 (by decide) (by show 1 < 3; decide) (g := (mkF m 167 #[.val (.int p1), .val (.int p2), .val (.int p3), .val (.int p4), .val (.int p5), .val (.long x0), .second, .val (.long x1), .second, .val (.long x2), .second, .val (.long x3), .second, .val (.long o0), .second, .val (.long o1), .second, .val (.long o2), .second, .val (.long o3), .second, .val (.long z0), .second, .val (.long z1), .second, .val (.long z2), .second, .val (.long z3), .second, .val (.int (3 : Int32)), .unset, .unset, .unset, .unset, .unset, .unset] [(.double (FP.l2d x1)), (.int (1 : Int32)), (.ref ax), (.ref ax)])) rfl rfl (Jvm.hb hby at_167) N18 ge_ax ?_
    intro T19 h19 L19 X19 e19 N19 K19 V_ax_19
    replace V_ax_19 : DA Z h19 ax [(FP.l2d x0), (FP.l2d x1), 0] := V_ax_19
    have Z19 : n0 ≤ h19.size := Nat.le_trans ge_ax (Nat.le_of_lt V_ax_19.lt)
    show Goes p e below _ T19 (mkF m 168 #[.val (.int p1), .val (.int p2), .val (.int p3), .val (.int p4), .val (.int p5), .val (.long x0), .second, .val (.long x1), .second, .val (.long x2), .second, .val (.long x3), .second, .val (.long o0), .second, .val (.long o1), .second, .val (.long o2), .second, .val (.long o3), .second, .val (.long z0), .second, .val (.long z1), .second, .val (.long z2), .second, .val (.long z3), .second, .val (.int (3 : Int32)), .unset, .unset, .unset, .unset, .unset, .unset] [(.ref ax)])
    refine Goes.of (fun _ kont => XS.dup X19.here hx rfl (Jvm.hb hby at_168) rfl rfl kont) ?_
    show Goes p e below _ T19 (mkF m 169 #[.val (.int p1), .val (.int p2), .val (.int p3), .val (.int p4), .val (.int p5), .val (.long x0), .second, .val (.long x1), .second, .val (.long x2), .second, .val (.long x3), .second, .val (.long o0), .second, .val (.long o1), .second, .val (.long o2), .second, .val (.long o3), .second, .val (.long z0), .second, .val (.long z1), .second, .val (.long z2), .second, .val (.long z3), .second, .val (.int (3 : Int32)), .unset, .unset, .unset, .unset, .unset, .unset] [(.ref ax), (.ref ax)])
    refine Goes.of (fun _ kont => XS.iconst X19.here hx rfl (Jvm.hb hby at_169) kont) ?_
    show Goes p e below _ T19 (mkF m 170 #[.val (.int p1), .val (.int p2), .val (.int p3), .val (.int p4), .val (.int p5), .val (.long x0), .second, .val (.long x1), .second, .val (.long x2), .second, .val (.long x3), .second, .val (.long o0), .second, .val (.long o1), .second, .val (.long o2), .second, .val (.long o3), .second, .val (.long z0), .second, .val (.long z1), .second, .val (.long z2), .second, .val (.long z3), .second, .val (.int (3 : Int32)), .unset, .unset, .unset, .unset, .unset, .unset] [(.int (2 : Int32)), (.ref ax), (.ref ax)])
    refine Goes.of (fun _ kont => XT.lload X19.here hx rfl (Jvm.hb hby at_170) rfl kont) ?_
    show Goes p e below _ T19 (mkF m 172 #[.val (.int p1), .val (.int p2), .val (.int p3), .val (.int p4), .val (.int p5), .val (.long x0), .second, .val (.long x1), .second, .val (.long x2), .second, .val (.long x3), .second, .val (.long o0), .second, .val (.long o1), .second, .val (.long o2), .second, .val (.long o3), .second, .val (.long z0), .second, .val (.long z1), .second, .val (.long z2), .second, .val (.long z3), .second, .val (.int (3 : Int32)), .unset, .unset, .unset, .unset, .unset, .unset] [(.long x2), (.int (2 : Int32)), (.ref ax), (.ref ax)])
    refine Goes.of (fun _ kont => XS.l2dS X19.here hx rfl (Jvm.hb hby at_172) rfl rfl kont) ?_
    show Goes p e below _ T19 (mkF m 173 #[.val (.int p1), .val (.int p2), .val (.int p3), .val (.int p4), .val (.int p5), .val (.long x0), .second, .val (.long x1), .second, .val (.long x2), .second, .val (.long x3), .second, .val (.long o0), .second, .val (.long o1), .second, .val (.long o2), .second, .val (.long o3), .second, .val (.long z0), .second, .val (.long z1), .second, .val (.long z2), .second, .val (.long z3), .second, .val (.int (3 : Int32)), .unset, .unset, .unset, .unset, .unset, .unset] [(.double (FP.l2d x2)), (.int (2 : Int32)), (.ref ax), (.ref ax)])
    refine goStD X19 hx hZ e19 V_ax_19 2 (by decide) (by show 2 < 3; decide) (g := (mkF m 173 #[.val (.int p1), .val (.int p2), .val (.int p3), .val (.int p4), .val (.int p5), .val (.long x0), .second, .val (.long x1), .second, .val (.long x2), .second, .val (.long x3), .second, .val (.long o0), .second, .val (.long o1), .second, .val (.long o2), .second, .val (.long o3), .second, .val (.long z0), .second, .val (.long z1), .second, .val (.long z2), .second, .val (.long z3), .second, .val (.int (3 : Int32)), .unset, .unset, .unset, .unset, .unset, .unset] [(.double (FP.l2d x2)), (.int (2 : Int32)), (.ref ax), (.ref ax)])) rfl rfl (Jvm.hb hby at_173) N19 ge_ax ?_
    intro T20 h20 L20 X20 e20 N20 K20 V_ax_20
    replace V_ax_20 : DA Z h20 ax [(FP.l2d x0), (FP.l2d x1), (FP.l2d x2)] := V_ax_20
    have Z20 : n0 ≤ h20.size := Nat.le_trans ge_ax (Nat.le_of_lt V_ax_20.lt)
    show Goes p e below _ T20 (mkF m 174 #[.val (.int p1), .val (.int p2), .val (.int p3), .val (.int p4), .val (.int p5), .val (.long x0), .second, .val (.long x1), .second, .val (.long x2), .second, .val (.long x3), .second, .val (.long o0), .second, .val (.long o1), .second, .val (.long o2), .second, .val (.long o3), .second, .val (.long z0), .second, .val (.long z1), .second, .val (.long z2), .second, .val (.long z3), .second, .val (.int (3 : Int32)), .unset, .unset, .unset, .unset, .unset, .unset] [(.ref ax)])
    refine Goes.of (fun _ kont => XS.astore X20.here hx rfl (Jvm.hb hby at_174) rfl rfl (l' := #[.val (.int p1), .val (.int p2), .val (.int p3), .val (.int p4), .val (.int p5), .val (.long x0), .second, .val (.long x1), .second, .val (.long x2), .second, .val (.long x3), .second, .val (.long o0), .second, .val (.long o1), .second, .val (.long o2), .second, .val (.long o3), .second, .val (.long z0), .second, .val (.long z1), .second, .val (.long z2), .second, .val (.long z3), .second, .val (.int (3 : Int32)), .val (.ref ax), .unset, .unset, .unset, .unset, .unset]) rfl kont) ?_
    show Goes p e below _ T20 (mkF m 176 #[.val (.int p1), .val (.int p2), .val (.int p3), .val (.int p4), .val (.int p5), .val (.long x0), .second, .val (.long x1), .second, .val (.long x2), .second, .val (.long x3), .second, .val (.long o0), .second, .val (.long o1), .second, .val (.long o2), .second, .val (.long o3), .second, .val (.long z0), .second, .val (.long z1), .second, .val (.long z2), .second, .val (.long z3), .second, .val (.int (3 : Int32)), .val (.ref ax), .unset, .unset, .unset, .unset, .unset] [])
    refine Goes.of (fun _ kont => XS.iconst X20.here hx rfl (Jvm.hb hby at_176) kont) ?_
    show Goes p e below _ T20 (mkF m 177 #[.val (.int p1), .val (.int p2), .val (.int p3), .val (.int p4), .val (.int p5), .val (.long x0), .second, .val (.long x1), .second, .val (.long x2), .second, .val (.long x3), .second, .val (.long o0), .second, .val (.long o1), .second, .val (.long o2), .second, .val (.long o3), .second, .val (.long z0), .second, .val (.long z1), .second, .val (.long z2), .second, .val (.long z3), .second, .val (.int (3 : Int32)), .val (.ref ax), .unset, .unset, .unset, .unset, .unset] [(.int (3 : Int32))])
    refine goNewD X20 hx hZ (hw _ (List.mem_of_getElem? (i := 8) rfl)) e20 (g := mkF m 177 #[.val (.int p1), .val (.int p2), .val (.int p3), .val (.int p4), .val (.int p5), .val (.long x0), .second, .val (.long x1), .second, .val (.long x2), .second, .val (.long x3), .second, .val (.long o0), .second, .val (.long o1), .second, .val (.long o2), .second, .val (.long o3), .second, .val (.long z0), .second, .val (.long z1), .second, .val (.long z2), .second, .val (.long z3), .second, .val (.int (3 : Int32)), .val (.ref ax), .unset, .unset, .unset, .unset, .unset] [(.int (3 : Int32))]) rfl (Jvm.hb hby at_177) rfl 3 (by decide) (by decide) (by decide) (by decide) ?_
    intro T21 h21 ay gay X21 e21 E21 V_ay
    have ge_ay : n0 ≤ ay := by rw [gay]; exact Z20
    have Z21 : n0 ≤ h21.size := Nat.le_trans Z20 E21.1
    have ne_ax_ay : ax ≠ ay := by rw [gay]; exact Nat.ne_of_lt V_ax_20.lt
    have V_ax_21 := V_ax_20.ext E21
    show Goes p e below _ T21 (mkF m 179 #[.val (.int p1), .val (.int p2), .val (.int p3), .val (.int p4), .val (.int p5), .val (.long x0), .second, .val (.long x1), .second, .val (.long x2), .second, .val (.long x3), .second, .val (.long o0), .second, .val (.long o1), .second, .val (.long o2), .second, .val (.long o3), .second, .val (.long z0), .second, .val (.long z1), .second, .val (.long z2), .second, .val (.long z3), .second, .val (.int (3 : Int32)), .val (.ref ax), .unset, .unset, .unset, .unset, .unset] [(.ref ay)])
    refine Goes.of (fun _ kont => XS.dup X21.here hx rfl (Jvm.hb hby at_179) rfl rfl kont) ?_
    show Goes p e below _ T21 (mkF m 180 #[.val (.int p1), .val (.int p2), .val (.int p3), .val (.int p4), .val (.int p5), .val (.long x0), .second, .val (.long x1), .second, .val (.long x2), .second, .val (.long x3), .second, .val (.long o0), .second, .val (.long o1), .second, .val (.long o2), .second, .val (.long o3), .second, .val (.long z0), .second, .val (.long z1), .second, .val (.long z2), .second, .val (.long z3), .second, .val (.int (3 : Int32)), .val (.ref ax), .unset, .unset, .unset, .unset, .unset] [(.ref ay), (.ref ay)])
    refine Goes.of (fun _ kont => XS.iconst X21.here hx rfl (Jvm.hb hby at_180) kont) ?_
    show Goes p e below _ T21 (mkF m 181 #[.val (.int p1), .val (.int p2), .val (.int p3), .val (.int p4), .val (.int p5), .val (.long x0), .second, .val (.long x1), .second, .val (.long x2), .second, .val (.long x3), .second, .val (.long o0), .second, .val (.long o1), .second, .val (.long o2), .second, .val (.long o3), .second, .val (.long z0), .second, .val (.long z1), .second, .val (.long z2), .second, .val (.long z3), .second, .val (.int (3 : Int32)), .val (.ref ax), .unset, .unset, .unset, .unset, .unset] [(.int (0 : Int32)), (.ref ay), (.ref ay)])
    refine Goes.of (fun _ kont => XT.lload X21.here hx rfl (Jvm.hb hby at_181) rfl kont) ?_
    show Goes p e below _ T21 (mkF m 183 #[.val (.int p1), .val (.int p2), .val (.int p3), .val (.int p4), .val (.int p5), .val (.long x0), .second, .val (.long x1), .second, .val (.long x2), .second, .val (.long x3), .second, .val (.long o0), .second, .val (.long o1), .second, .val (.long o2), .second, .val (.long o3), .second, .val (.long z0), .second, .val (.long z1), .second, .val (.long z2), .second, .val (.long z3), .second, .val (.int (3 : Int32)), .val (.ref ax), .unset, .unset, .unset, .unset, .unset] [(.long o0), (.int (0 : Int32)), (.ref ay), (.ref ay)])
    refine Goes.of (fun _ kont => XS.l2dS X21.here hx rfl (Jvm.hb hby at_183) rfl rfl kont) ?_
    show Goes p e below _ T21 (mkF m 184 #[.val (.int p1), .val (.int p2), .val (.int p3), .val (.int p4), .val (.int p5), .val (.long x0), .second, .val (.long x1), .second, .val (.long x2), .second, .val (.long x3), .second, .val (.long o0), .second, .val (.long o1), .second, .val (.long o2), .second, .val (.long o3), .second, .val (.long z0), .second, .val (.long z1), .second, .val (.long z2), .second, .val (.long z3), .second, .val (.int (3 : Int32)), .val (.ref ax), .unset, .unset, .unset, .unset, .unset] [(.double (FP.l2d o0)), (.int (0 : Int32)), (.ref ay), (.ref ay)])
    refine goStD X21 hx hZ e21 V_ay 0 (by decide) (by show 0 < 3; decide) (g := (mkF m 184 #[.val (.int p1), .val (.int p2), .val (.int p3), .val (.int p4), .val (.int p5), .val (.long x0), .second, .val (.long x1), .second, .val (.long x2), .second, .val (.long x3), .second, .val (.long o0), .second, .val (.long o1), .second, .val (.long o2), .second, .val (.long o3), .second, .val (.long z0), .second, .val (.long z1), .second, .val (.long z2), .second, .val (.long z3), .second, .val (.int (3 : Int32)), .val (.ref ax), .unset, .unset, .unset, .unset, .unset] [(.double (FP.l2d o0)), (.int (0 : Int32)), (.ref ay), (.ref ay)])) rfl rfl (Jvm.hb hby at_184) N20 ge_ay ?_
    intro T22 h22 L22 X22 e22 N22 K22 V_ay_22
    replace V_ay_22 : DA Z h22 ay [(FP.l2d o0), 0, 0] := V_ay_22
    have V_ax_22 := K22 _ _ ne_ax_ay V_ax_21
    have Z22 : n0 ≤ h22.size := Nat.le_trans ge_ay (Nat.le_of_lt V_ay_22.lt)
    show Goes p e below _ T22 (mkF m 185 #[.val (.int p1), .val (.int p2), .val (.int p3), .val (.int p4), .val (.int p5), .val (.long x0), .second, .val (.long x1), .second, .val (.long x2), .second, .val (.long x3), .second, .val (.long o0), .second, .val (.long o1), .second, .val (.long o2), .second, .val (.long o3), .second, .val (.long z0), .second, .val (.long z1), .second, .val (.long z2), .second, .val (.long z3), .second, .val (.int (3 : Int32)), .val (.ref ax), .unset, .unset, .unset, .unset, .unset] [(.ref ay)])
    refine Goes.of (fun _ kont => XS.dup X22.here hx rfl (Jvm.hb hby at_185) rfl rfl kont) ?_
    show Goes p e below _ T22 (mkF m 186 #[.val (.int p1), .val (.int p2), .val (.int p3), .val (.int p4), .val (.int p5), .val (.long x0), .second, .val (.long x1), .second, .val (.long x2), .second, .val (.long x3), .second, .val (.long o0), .second, .val (.long o1), .second, .val (.long o2), .second, .val (.long o3), .second, .val (.long z0), .second, .val (.long z1), .second, .val (.long z2), .second, .val (.long z3), .second, .val (.int (3 : Int32)), .val (.ref ax), .unset, .unset, .unset, .unset, .unset] [(.ref ay), (.ref ay)])
    refine Goes.of (fun _ kont => XS.iconst X22.here hx rfl (Jvm.hb hby at_186) kont) ?_
    show Goes p e below _ T22 (mkF m 187 #[.val (.int p1), .val (.int p2), .val (.int p3), .val (.int p4), .val (.int p5), .val (.long x0), .second, .val (.long x1), .second, .val (.long x2), .second, .val (.long x3), .second, .val (.long o0), .second, .val (.long o1), .second, .val (.long o2), .second, .val (.long o3), .second, .val (.long z0), .second, .val (.long z1), .second, .val (.long z2), .second, .val (.long z3), .second, .val (.int (3 : Int32)), .val (.ref ax), .unset, .unset, .unset, .unset, .unset] [(.int (1 : Int32)), (.ref ay), (.ref ay)])
    refine Goes.of (fun _ kont => XT.lload X22.here hx rfl (Jvm.hb hby at_187) rfl kont) ?_
    show Goes p e below _ T22 (mkF m 189 #[.val (.int p1), .val (.int p2), .val (.int p3), .val (.int p4), .val (.int p5), .val (.long x0), .second, .val (.long x1), .second, .val (.long x2), .second, .val (.long x3), .second, .val (.long o0), .second, .val (.long o1), .second, .val (.long o2), .second, .val (.long o3), .second, .val (.long z0), .second, .val (.long z1), .second, .val (.long z2), .second, .val (.long z3), .second, .val (.int (3 : Int32)), .val (.ref ax), .unset, .unset, .unset, .unset, .unset] [(.long o1), (.int (1 : Int32)), (.ref ay), (.ref ay)])
    refine Goes.of (fun _ kont => XS.l2dS X22.here hx rfl (Jvm.hb hby at_189) rfl rfl kont) ?_
    show Goes p e below _ T22 (mkF m 190 #[.val (.int p1), .val (.int p2), .val (.int p3), .val (.int p4), .val (.int p5), .val (.long x0), .second, .val (.long x1), .second, .val (.long x2), .second, .val (.long x3), .second, .val (.long o0), .second, .val (.long o1), .second, .val (.long o2), .second, .val (.long o3), .second, .val (.long z0), .second, .val (.long z1), .second, .val (.long z2), .second, .val (.long z3), .second, .val (.int (3 : Int32)), .val (.ref ax), .unset, .unset, .unset, .unset, .unset] [(.double (FP.l2d o1)), (.int (1 : Int32)), (.ref ay), (.ref ay)])
    refine goStD X22 hx hZ e22 V_ay_22 1 (by decide) (by show 1 < 3; decide) (g := (mkF m 190 #[.val (.int p1), .val (.int p2), .val (.int p3), .val (.int p4), .val (.int p5), .val (.long x0), .second, .val (.long x1), .second, .val (.long x2), .second, .val (.long x3), .second, .val (.long o0), .second, .val (.long o1), .second, .val (.long o2), .second, .val (.long o3), .second, .val (.long z0), .second, .val (.long z1), .second, .val (.long z2), .second, .val (.long z3), .second, .val (.int (3 : Int32)), .val (.ref ax), .unset, .unset, .unset, .unset, .unset] [(.double (FP.l2d o1)), (.int (1 : Int32)), (.ref ay), (.ref ay)])) rfl rfl (Jvm.hb hby at_190) N22 ge_ay ?_
    intro T23 h23 L23 X23 e23 N23 K23 V_ay_23
    replace V_ay_23 : DA Z h23 ay [(FP.l2d o0), (FP.l2d o1), 0] := V_ay_23
    have V_ax_23 := K23 _ _ ne_ax_ay V_ax_22
    have Z23 : n0 ≤ h23.size := Nat.le_trans ge_ay (Nat.le_of_lt V_ay_23.lt)
    show Goes p e below _ T23 (mkF m 191 #[.val (.int p1), .val (.int p2), .val (.int p3), .val (.int p4), .val (.int p5), .val (.long x0), .second, .val (.long x1), .second, .val (.long x2), .second, .val (.long x3), .second, .val (.long o0), .second, .val (.long o1), .second, .val (.long o2), .second, .val (.long o3), .second, .val (.long z0), .second, .val (.long z1), .second, .val (.long z2), .second, .val (.long z3), .second, .val (.int (3 : Int32)), .val (.ref ax), .unset, .unset, .unset, .unset, .unset] [(.ref ay)])
    refine Goes.of (fun _ kont => XS.dup X23.here hx rfl (Jvm.hb hby at_191) rfl rfl kont) ?_
    show Goes p e below _ T23 (mkF m 192 #[.val (.int p1), .val (.int p2), .val (.int p3), .val (.int p4), .val (.int p5), .val (.long x0), .second, .val (.long x1), .second, .val (.long x2), .second, .val (.long x3), .second, .val (.long o0), .second, .val (.long o1), .second, .val (.long o2), .second, .val (.long o3), .second, .val (.long z0), .second, .val (.long z1), .second, .val (.long z2), .second, .val (.long z3), .second, .val (.int (3 : Int32)), .val (.ref ax), .unset, .unset, .unset, .unset, .unset] [(.ref ay), (.ref ay)])
    refine Goes.of (fun _ kont => XS.iconst X23.here hx rfl (Jvm.hb hby at_192) kont) ?_
    show Goes p e below _ T23 (mkF m 193 #[.val (.int p1), .val (.int p2), .val (.int p3), .val (.int p4), .val (.int p5), .val (.long x0), .second, .val (.long x1), .second, .val (.long x2), .second, .val (.long x3), .second, .val (.long o0), .second, .val (.long o1), .second, .val (.long o2), .second, .val (.long o3), .second, .val (.long z0), .second, .val (.long z1), .second, .val (.long z2), .second, .val (.long z3), .second, .val (.int (3 : Int32)), .val (.ref ax), .unset, .unset, .unset, .unset, .unset] [(.int (2 : Int32)), (.ref ay), (.ref ay)])
    refine Goes.of (fun _ kont => XT.lload X23.here hx rfl (Jvm.hb hby at_193) rfl kont) ?_
    show Goes p e below _ T23 (mkF m 195 #[.val (.int p1), .val (.int p2), .val (.int p3), .val (.int p4), .val (.int p5), .val (.long x0), .second, .val (.long x1), .second, .val (.long x2), .second, .val (.long x3), .second, .val (.long o0), .second, .val (.long o1), .second, .val (.long o2), .second, .val (.long o3), .second, .val (.long z0), .second, .val (.long z1), .second, .val (.long z2), .second, .val (.long z3), .second, .val (.int (3 : Int32)), .val (.ref ax), .unset, .unset, .unset, .unset, .unset] [(.long o2), (.int (2 : Int32)), (.ref ay), (.ref ay)])
    refine Goes.of (fun _ kont => XS.l2dS X23.here hx rfl (Jvm.hb hby at_195) rfl rfl kont) ?_
    show Goes p e below _ T23 (mkF m 196 #[.val (.int p1), .val (.int p2), .val (.int p3), .val (.int p4), .val (.int p5), .val (.long x0), .second, .val (.long x1), .second, .val (.long x2), .second, .val (.long x3), .second, .val (.long o0), .second, .val (.long o1), .second, .val (.long o2), .second, .val (.long o3), .second, .val (.long z0), .second, .val (.long z1), .second, .val (.long z2), .second, .val (.long z3), .second, .val (.int (3 : Int32)), .val (.ref ax), .unset, .unset, .unset, .unset, .unset] [(.double (FP.l2d o2)), (.int (2 : Int32)), (.ref ay), (.ref ay)])
    refine goStD X23 hx hZ e23 V_ay_23 2 (by decide) (by show 2 < 3; decide) (g := (mkF m 196 #[.val (.int p1), .val (.int p2), .val (.int p3), .val (.int p4), .val (.int p5), .val (.long x0), .second, .val (.long x1), .second, .val (.long x2), .second, .val (.long x3), .second, .val (.long o0), .second, .val (.long o1), .second, .val (.long o2), .second, .val (.long o3), .second, .val (.long z0), .second, .val (.long z1), .second, .val (.long z2), .second, .val (.long z3), .second, .val (.int (3 : Int32)), .val (.ref ax), .unset, .unset, .unset, .unset, .unset] [(.double (FP.l2d o2)), (.int (2 : Int32)), (.ref ay), (.ref ay)])) rfl rfl (Jvm.hb hby at_196) N23 ge_ay ?_
    intro T24 h24 L24 X24 e24 N24 K24 V_ay_24
    replace V_ay_24 : DA Z h24 ay [(FP.l2d o0), (FP.l2d o1), (FP.l2d o2)] := V_ay_24
    have V_ax_24 := K24 _ _ ne_ax_ay V_ax_23
    have Z24 : n0 ≤ h24.size := Nat.le_trans ge_ay (Nat.le_of_lt V_ay_24.lt)
    show Goes p e below _ T24 (mkF m 197 #[.val (.int p1), .val (.int p2), .val (.int p3), .val (.int p4), .val (.int p5), .val (.long x0), .second, .val (.long x1), .second, .val (.long x2), .second, .val (.long x3), .second, .val (.long o0), .second, .val (.long o1), .second, .val (.long o2), .second, .val (.long o3), .second, .val (.long z0), .second, .val (.long z1), .second, .val (.long z2), .second, .val (.long z3), .second, .val (.int (3 : Int32)), .val (.ref ax), .unset, .unset, .unset, .unset, .unset] [(.ref ay)])
    refine Goes.of (fun _ kont => XS.astore X24.here hx rfl (Jvm.hb hby at_197) rfl rfl (l' := #[.val (.int p1), .val (.int p2), .val (.int p3), .val (.int p4), .val (.int p5), .val (.long x0), .second, .val (.long x1), .second, .val (.long x2), .second, .val (.long x3), .second, .val (.long o0), .second, .val (.long o1), .second, .val (.long o2), .second, .val (.long o3), .second, .val (.long z0), .second, .val (.long z1), .second, .val (.long z2), .second, .val (.long z3), .second, .val (.int (3 : Int32)), .val (.ref ax), .val (.ref ay), .unset, .unset, .unset, .unset]) rfl kont) ?_
    show Goes p e below _ T24 (mkF m 199 #[.val (.int p1), .val (.int p2), .val (.int p3), .val (.int p4), .val (.int p5), .val (.long x0), .second, .val (.long x1), .second, .val (.long x2), .second, .val (.long x3), .second, .val (.long o0), .second, .val (.long o1), .second, .val (.long o2), .second, .val (.long o3), .second, .val (.long z0), .second, .val (.long z1), .second, .val (.long z2), .second, .val (.long z3), .second, .val (.int (3 : Int32)), .val (.ref ax), .val (.ref ay), .unset, .unset, .unset, .unset] [])
    refine Goes.of (fun _ kont => XT.lload X24.here hx rfl (Jvm.hb hby at_199) rfl kont) ?_
    show Goes p e below _ T24 (mkF m 201 #[.val (.int p1), .val (.int p2), .val (.int p3), .val (.int p4), .val (.int p5), .val (.long x0), .second, .val (.long x1), .second, .val (.long x2), .second, .val (.long x3), .second, .val (.long o0), .second, .val (.long o1), .second, .val (.long o2), .second, .val (.long o3), .second, .val (.long z0), .second, .val (.long z1), .second, .val (.long z2), .second, .val (.long z3), .second, .val (.int (3 : Int32)), .val (.ref ax), .val (.ref ay), .unset, .unset, .unset, .unset] [(.long z0)])
    refine Goes.of (fun _ kont => XT.lload X24.here hx rfl (Jvm.hb hby at_201) rfl kont) ?_
    show Goes p e below _ T24 (mkF m 203 #[.val (.int p1), .val (.int p2), .val (.int p3), .val (.int p4), .val (.int p5), .val (.long x0), .second, .val (.long x1), .second, .val (.long x2), .second, .val (.long x3), .second, .val (.long o0), .second, .val (.long o1), .second, .val (.long o2), .second, .val (.long o3), .second, .val (.long z0), .second, .val (.long z1), .second, .val (.long z2), .second, .val (.long z3), .second, .val (.int (3 : Int32)), .val (.ref ax), .val (.ref ay), .unset, .unset, .unset, .unset] [(.long z1), (.long z0)])
    refine callC X24 hx hZ hown (hw _ (List.mem_of_getElem? (i := 9) rfl)) (hw _ (List.mem_of_getElem? (i := 10) rfl)) (hw _ (List.mem_of_getElem? (i := 2) rfl)) (hw _ (List.mem_of_getElem? (i := 11) rfl)) (by decide) (as := [(.long z0), (.long z1)]) (rm4 l Z a0 hw z0 z1 h24 n0 Z24 (by omega) (by omega)) 0 (by decide) (by decide) e24 (by decide) (by decide) (g := mkF m 203 #[.val (.int p1), .val (.int p2), .val (.int p3), .val (.int p4), .val (.int p5), .val (.long x0), .second, .val (.long x1), .second, .val (.long x2), .second, .val (.long x3), .second, .val (.long o0), .second, .val (.long o1), .second, .val (.long o2), .second, .val (.long o3), .second, .val (.long z0), .second, .val (.long z1), .second, .val (.long z2), .second, .val (.long z3), .second, .val (.int (3 : Int32)), .val (.ref ax), .val (.ref ay), .unset, .unset, .unset, .unset] [(.long z1), (.long z0)]) rfl (by rw [hml]; rfl) (rest := []) (lenOf pd_1 rfl) rfl (by show 2 * 0 + _ ≤ _; exact Nat.le_of_eq rfl) (Jvm.hb hby at_203) ?_
    rintro _ T25 L25 X25 ⟨⟨t0, rfl, et0⟩, N25, e25⟩
    show Goes p e below _ T25 (mkF m 206 #[.val (.int p1), .val (.int p2), .val (.int p3), .val (.int p4), .val (.int p5), .val (.long x0), .second, .val (.long x1), .second, .val (.long x2), .second, .val (.long x3), .second, .val (.long o0), .second, .val (.long o1), .second, .val (.long o2), .second, .val (.long o3), .second, .val (.long z0), .second, .val (.long z1), .second, .val (.long z2), .second, .val (.long z3), .second, .val (.int (3 : Int32)), .val (.ref ax), .val (.ref ay), .unset, .unset, .unset, .unset] [(.long t0)])
    rw [tm_z (x0.toInt - o0.toInt) (x1.toInt - o1.toInt) _ _ ez0 ez1] at et0
    have bt0 := (tm_b (d := (x0.toInt - o0.toInt)) (n := (x1.toInt - o1.toInt)) (by omega) (by omega)).2.2.2.2
    have NN0 := Fr.app N24 N25
    refine Goes.of (fun _ kont => XT.lload X25.here hx rfl (Jvm.hb hby at_206) rfl kont) ?_
    show Goes p e below _ T25 (mkF m 208 #[.val (.int p1), .val (.int p2), .val (.int p3), .val (.int p4), .val (.int p5), .val (.long x0), .second, .val (.long x1), .second, .val (.long x2), .second, .val (.long x3), .second, .val (.long o0), .second, .val (.long o1), .second, .val (.long o2), .second, .val (.long o3), .second, .val (.long z0), .second, .val (.long z1), .second, .val (.long z2), .second, .val (.long z3), .second, .val (.int (3 : Int32)), .val (.ref ax), .val (.ref ay), .unset, .unset, .unset, .unset] [(.long z1), (.long t0)])
    refine Goes.of (fun _ kont => XT.lload X25.here hx rfl (Jvm.hb hby at_208) rfl kont) ?_
    show Goes p e below _ T25 (mkF m 210 #[.val (.int p1), .val (.int p2), .val (.int p3), .val (.int p4), .val (.int p5), .val (.long x0), .second, .val (.long x1), .second, .val (.long x2), .second, .val (.long x3), .second, .val (.long o0), .second, .val (.long o1), .second, .val (.long o2), .second, .val (.long o3), .second, .val (.long z0), .second, .val (.long z1), .second, .val (.long z2), .second, .val (.long z3), .second, .val (.int (3 : Int32)), .val (.ref ax), .val (.ref ay), .unset, .unset, .unset, .unset] [(.long z2), (.long z1), (.long t0)])
    refine callC X25 hx hZ hown (hw _ (List.mem_of_getElem? (i := 9) rfl)) (hw _ (List.mem_of_getElem? (i := 10) rfl)) (hw _ (List.mem_of_getElem? (i := 2) rfl)) (hw _ (List.mem_of_getElem? (i := 11) rfl)) (by decide) (as := [(.long z1), (.long z2)]) (rm4 l Z a0 hw z1 z2 h24 n0 Z24 (by omega) (by omega)) 2 (by decide) (by decide) e25 (by decide) (by decide) (g := mkF m 210 #[.val (.int p1), .val (.int p2), .val (.int p3), .val (.int p4), .val (.int p5), .val (.long x0), .second, .val (.long x1), .second, .val (.long x2), .second, .val (.long x3), .second, .val (.long o0), .second, .val (.long o1), .second, .val (.long o2), .second, .val (.long o3), .second, .val (.long z0), .second, .val (.long z1), .second, .val (.long z2), .second, .val (.long z3), .second, .val (.int (3 : Int32)), .val (.ref ax), .val (.ref ay), .unset, .unset, .unset, .unset] [(.long z2), (.long z1), (.long t0)]) rfl (by rw [hml]; rfl) (rest := [(.long t0)]) (lenOf pd_1 rfl) rfl (by show 2 * 0 + _ ≤ _; exact Nat.le_of_eq rfl) (Jvm.hb hby at_210) ?_
    rintro _ T26 L26 X26 ⟨⟨t1, rfl, et1⟩, N26, e26⟩
    show Goes p e below _ T26 (mkF m 213 #[.val (.int p1), .val (.int p2), .val (.int p3), .val (.int p4), .val (.int p5), .val (.long x0), .second, .val (.long x1), .second, .val (.long x2), .second, .val (.long x3), .second, .val (.long o0), .second, .val (.long o1), .second, .val (.long o2), .second, .val (.long o3), .second, .val (.long z0), .second, .val (.long z1), .second, .val (.long z2), .second, .val (.long z3), .second, .val (.int (3 : Int32)), .val (.ref ax), .val (.ref ay), .unset, .unset, .unset, .unset] [(.long t1), (.long t0)])
    rw [tm_z (x1.toInt - o1.toInt) (x2.toInt - o2.toInt) _ _ ez1 ez2] at et1
    have bt1 := (tm_b (d := (x1.toInt - o1.toInt)) (n := (x2.toInt - o2.toInt)) (by omega) (by omega)).2.2.2.2
    have NN1 := Fr.app NN0 N26
    refine Goes.of (fun _ kont => XT.ladd X26.here hx rfl (Jvm.hb hby at_213) rfl kont) ?_
    show Goes p e below _ T26 (mkF m 214 #[.val (.int p1), .val (.int p2), .val (.int p3), .val (.int p4), .val (.int p5), .val (.long x0), .second, .val (.long x1), .second, .val (.long x2), .second, .val (.long x3), .second, .val (.long o0), .second, .val (.long o1), .second, .val (.long o2), .second, .val (.long o3), .second, .val (.long z0), .second, .val (.long z1), .second, .val (.long z2), .second, .val (.long z3), .second, .val (.int (3 : Int32)), .val (.ref ax), .val (.ref ay), .unset, .unset, .unset, .unset] [(.long (t0 + t1))])
    generalize hex : (t0 + t1) = ex
    show Goes p e below _ T26 (mkF m 214 #[.val (.int p1), .val (.int p2), .val (.int p3), .val (.int p4), .val (.int p5), .val (.long x0), .second, .val (.long x1), .second, .val (.long x2), .second, .val (.long x3), .second, .val (.long o0), .second, .val (.long o1), .second, .val (.long o2), .second, .val (.long o3), .second, .val (.long z0), .second, .val (.long z1), .second, .val (.long z2), .second, .val (.long z3), .second, .val (.int (3 : Int32)), .val (.ref ax), .val (.ref ay), .unset, .unset, .unset, .unset] [(.long ex)])
    have eex := own_ladd hex (by omega) (by omega)
    rw [et0, et1] at eex
    refine Goes.of (fun _ kont => XT.lstore X26.here hx rfl (Jvm.hb hby at_214) rfl (l' := #[.val (.int p1), .val (.int p2), .val (.int p3), .val (.int p4), .val (.int p5), .val (.long x0), .second, .val (.long x1), .second, .val (.long x2), .second, .val (.long x3), .second, .val (.long o0), .second, .val (.long o1), .second, .val (.long o2), .second, .val (.long o3), .second, .val (.long z0), .second, .val (.long z1), .second, .val (.long z2), .second, .val (.long z3), .second, .val (.int (3 : Int32)), .val (.ref ax), .val (.ref ay), .val (.long ex), .second, .unset, .unset]) rfl kont) ?_
    show Goes p e below _ T26 (mkF m 216 #[.val (.int p1), .val (.int p2), .val (.int p3), .val (.int p4), .val (.int p5), .val (.long x0), .second, .val (.long x1), .second, .val (.long x2), .second, .val (.long x3), .second, .val (.long o0), .second, .val (.long o1), .second, .val (.long o2), .second, .val (.long o3), .second, .val (.long z0), .second, .val (.long z1), .second, .val (.long z2), .second, .val (.long z3), .second, .val (.int (3 : Int32)), .val (.ref ax), .val (.ref ay), .val (.long ex), .second, .unset, .unset] [])
    refine Goes.of (fun _ kont => XS.goto X26.here hx rfl (pc0 := 216) (pc' := 302) rfl (Jvm.hb hby at_216) (by decide) (by decide) kont) ?_
    show Goes p e below _ T26 (mkF m 302 #[.val (.int p1), .val (.int p2), .val (.int p3), .val (.int p4), .val (.int p5), .val (.long x0), .second, .val (.long x1), .second, .val (.long x2), .second, .val (.long x3), .second, .val (.long o0), .second, .val (.long o1), .second, .val (.long o2), .second, .val (.long o3), .second, .val (.long z0), .second, .val (.long z1), .second, .val (.long z2), .second, .val (.long z3), .second, .val (.int (3 : Int32)), .val (.ref ax), .val (.ref ay), .val (.long ex), .second, .unset, .unset] [])
    refine Goes.of (fun _ kont => XS.aload X26.here hx rfl (Jvm.hb hby at_302) rfl rfl kont) ?_
    show Goes p e below _ T26 (mkF m 304 #[.val (.int p1), .val (.int p2), .val (.int p3), .val (.int p4), .val (.int p5), .val (.long x0), .second, .val (.long x1), .second, .val (.long x2), .second, .val (.long x3), .second, .val (.long o0), .second, .val (.long o1), .second, .val (.long o2), .second, .val (.long o3), .second, .val (.long z0), .second, .val (.long z1), .second, .val (.long z2), .second, .val (.long z3), .second, .val (.int (3 : Int32)), .val (.ref ax), .val (.ref ay), .val (.long ex), .second, .unset, .unset] [(.ref ax)])
    refine Goes.of (fun _ kont => XS.aload X26.here hx rfl (Jvm.hb hby at_304) rfl rfl kont) ?_
    show Goes p e below _ T26 (mkF m 306 #[.val (.int p1), .val (.int p2), .val (.int p3), .val (.int p4), .val (.int p5), .val (.long x0), .second, .val (.long x1), .second, .val (.long x2), .second, .val (.long x3), .second, .val (.long o0), .second, .val (.long o1), .second, .val (.long o2), .second, .val (.long o3), .second, .val (.long z0), .second, .val (.long z1), .second, .val (.long z2), .second, .val (.long z3), .second, .val (.int (3 : Int32)), .val (.ref ax), .val (.ref ay), .val (.long ex), .second, .unset, .unset] [(.ref ay), (.ref ax)])
    refine callC X26 hx hZ hown (hw _ (List.mem_of_getElem? (i := 13) rfl)) (hw _ (List.mem_of_getElem? (i := 14) rfl)) (hw _ (List.mem_of_getElem? (i := 15) rfl)) (hw _ (List.mem_of_getElem? (i := 16) rfl)) (by decide) (as := [(.ref ax), (.ref ay)]) (rm1_3 l Z a0 hw ax ay (FP.l2d x0) (FP.l2d o0) x0.toInt o0.toInt (FP.l2d x1) (FP.l2d o1) x1.toInt o1.toInt (FP.l2d x2) (FP.l2d o2) x2.toInt o2.toInt h24 n0 Z24 V_ax_24 V_ay_24 Dx0 Do0 bx0 bo0 Dx1 Do1 bx1 bo1 Dx2 Do2 bx2 bo2) 0 (by decide) (by decide) e26 (by decide) (by decide) (g := mkF m 306 #[.val (.int p1), .val (.int p2), .val (.int p3), .val (.int p4), .val (.int p5), .val (.long x0), .second, .val (.long x1), .second, .val (.long x2), .second, .val (.long x3), .second, .val (.long o0), .second, .val (.long o1), .second, .val (.long o2), .second, .val (.long o3), .second, .val (.long z0), .second, .val (.long z1), .second, .val (.long z2), .second, .val (.long z3), .second, .val (.int (3 : Int32)), .val (.ref ax), .val (.ref ay), .val (.long ex), .second, .unset, .unset] [(.ref ay), (.ref ax)]) rfl (by rw [hml]; rfl) (rest := []) (lenOf pd_2 rfl) rfl (by show 2 * 0 + _ ≤ _; exact Nat.le_of_eq rfl) (Jvm.hb hby at_306) ?_
    rintro _ T27 L27 X27 ⟨⟨zz27, rfl, Dz27⟩, N27, e27⟩
    show Goes p e below _ T27 (mkF m 309 #[.val (.int p1), .val (.int p2), .val (.int p3), .val (.int p4), .val (.int p5), .val (.long x0), .second, .val (.long x1), .second, .val (.long x2), .second, .val (.long x3), .second, .val (.long o0), .second, .val (.long o1), .second, .val (.long o2), .second, .val (.long o3), .second, .val (.long z0), .second, .val (.long z1), .second, .val (.long z2), .second, .val (.long z3), .second, .val (.int (3 : Int32)), .val (.ref ax), .val (.ref ay), .val (.long ex), .second, .unset, .unset] [(.double zz27)])
    refine Goes.of (fun _ kont => XS.dstore X27.here hx rfl (Jvm.hb hby at_309) rfl (l' := #[.val (.int p1), .val (.int p2), .val (.int p3), .val (.int p4), .val (.int p5), .val (.long x0), .second, .val (.long x1), .second, .val (.long x2), .second, .val (.long x3), .second, .val (.long o0), .second, .val (.long o1), .second, .val (.long o2), .second, .val (.long o3), .second, .val (.long z0), .second, .val (.long z1), .second, .val (.long z2), .second, .val (.long z3), .second, .val (.int (3 : Int32)), .val (.ref ax), .val (.ref ay), .val (.long ex), .second, .val (.double zz27), .second]) rfl kont) ?_
    show Goes p e below _ T27 (mkF m 311 #[.val (.int p1), .val (.int p2), .val (.int p3), .val (.int p4), .val (.int p5), .val (.long x0), .second, .val (.long x1), .second, .val (.long x2), .second, .val (.long x3), .second, .val (.long o0), .second, .val (.long o1), .second, .val (.long o2), .second, .val (.long o3), .second, .val (.long z0), .second, .val (.long z1), .second, .val (.long z2), .second, .val (.long z3), .second, .val (.int (3 : Int32)), .val (.ref ax), .val (.ref ay), .val (.long ex), .second, .val (.double zz27), .second] [])
    refine Goes.of (fun _ kont => XS.dload X27.here hx rfl (Jvm.hb hby at_311) rfl kont) ?_
    show Goes p e below _ T27 (mkF m 313 #[.val (.int p1), .val (.int p2), .val (.int p3), .val (.int p4), .val (.int p5), .val (.long x0), .second, .val (.long x1), .second, .val (.long x2), .second, .val (.long x3), .second, .val (.long o0), .second, .val (.long o1), .second, .val (.long o2), .second, .val (.long o3), .second, .val (.long z0), .second, .val (.long z1), .second, .val (.long z2), .second, .val (.long z3), .second, .val (.int (3 : Int32)), .val (.ref ax), .val (.ref ay), .val (.long ex), .second, .val (.double zz27), .second] [(.double zz27)])
    refine Goes.of (fun _ kont => XT.lload X27.here hx rfl (Jvm.hb hby at_313) rfl kont) ?_
    show Goes p e below _ T27 (mkF m 315 #[.val (.int p1), .val (.int p2), .val (.int p3), .val (.int p4), .val (.int p5), .val (.long x0), .second, .val (.long x1), .second, .val (.long x2), .second, .val (.long x3), .second, .val (.long o0), .second, .val (.long o1), .second, .val (.long o2), .second, .val (.long o3), .second, .val (.long z0), .second, .val (.long z1), .second, .val (.long z2), .second, .val (.long z3), .second, .val (.int (3 : Int32)), .val (.ref ax), .val (.ref ay), .val (.long ex), .second, .val (.double zz27), .second] [(.long ex), (.double zz27)])
    refine Goes.of (fun _ kont => XS.l2dS X27.here hx rfl (Jvm.hb hby at_315) rfl rfl kont) ?_
    show Goes p e below _ T27 (mkF m 316 #[.val (.int p1), .val (.int p2), .val (.int p3), .val (.int p4), .val (.int p5), .val (.long x0), .second, .val (.long x1), .second, .val (.long x2), .second, .val (.long x3), .second, .val (.long o0), .second, .val (.long o1), .second, .val (.long o2), .second, .val (.long o3), .second, .val (.long z0), .second, .val (.long z1), .second, .val (.long z2), .second, .val (.long z3), .second, .val (.int (3 : Int32)), .val (.ref ax), .val (.ref ay), .val (.long ex), .second, .val (.double zz27), .second] [(.double (FP.l2d ex)), (.double zz27)])
    refine Goes.of (fun _ kont => XS.dcmpS X27.here hx rfl (Jvm.hb hby at_316) rfl rfl kont) ?_
    show Goes p e below _ T27 (mkF m 317 #[.val (.int p1), .val (.int p2), .val (.int p3), .val (.int p4), .val (.int p5), .val (.long x0), .second, .val (.long x1), .second, .val (.long x2), .second, .val (.long x3), .second, .val (.long o0), .second, .val (.long o1), .second, .val (.long o2), .second, .val (.long o3), .second, .val (.long z0), .second, .val (.long z1), .second, .val (.long z2), .second, .val (.long z3), .second, .val (.int (3 : Int32)), .val (.ref ax), .val (.ref ay), .val (.long ex), .second, .val (.double zz27), .second] [(.int (cmpValue (FP.dcmp zz27 (FP.l2d ex)) .l))])
    have De := dy_l2d (n := ex) (by rw [eex]; omega)
    rw [eex] at De
    refine Goes.of (fun _ kont => XS.ifNo X27.here hx rfl (Jvm.hb hby at_317) rfl (by rw [dy_eq Dz27 De rfl]; decide) kont) ?_
    show Goes p e below _ T27 (mkF m 320 #[.val (.int p1), .val (.int p2), .val (.int p3), .val (.int p4), .val (.int p5), .val (.long x0), .second, .val (.long x1), .second, .val (.long x2), .second, .val (.long x3), .second, .val (.long o0), .second, .val (.long o1), .second, .val (.long o2), .second, .val (.long o3), .second, .val (.long z0), .second, .val (.long z1), .second, .val (.long z2), .second, .val (.long z3), .second, .val (.int (3 : Int32)), .val (.ref ax), .val (.ref ay), .val (.long ex), .second, .val (.double zz27), .second] [])
    refine Goes.of (fun _ kont => XS.iconst X27.here hx rfl (Jvm.hb hby at_320) kont) ?_
    show Goes p e below _ T27 (mkF m 321 #[.val (.int p1), .val (.int p2), .val (.int p3), .val (.int p4), .val (.int p5), .val (.long x0), .second, .val (.long x1), .second, .val (.long x2), .second, .val (.long x3), .second, .val (.long o0), .second, .val (.long o1), .second, .val (.long o2), .second, .val (.long o3), .second, .val (.long z0), .second, .val (.long z1), .second, .val (.long z2), .second, .val (.long z3), .second, .val (.int (3 : Int32)), .val (.ref ax), .val (.ref ay), .val (.long ex), .second, .val (.double zz27), .second] [(.int (1 : Int32))])
    refine Goes.of (fun _ kont => XS.goto X27.here hx rfl (pc0 := 321) (pc' := 325) rfl (Jvm.hb hby at_321) (by decide) (by decide) kont) ?_
    show Goes p e below _ T27 (mkF m 325 #[.val (.int p1), .val (.int p2), .val (.int p3), .val (.int p4), .val (.int p5), .val (.long x0), .second, .val (.long x1), .second, .val (.long x2), .second, .val (.long x3), .second, .val (.long o0), .second, .val (.long o1), .second, .val (.long o2), .second, .val (.long o3), .second, .val (.long z0), .second, .val (.long z1), .second, .val (.long z2), .second, .val (.long z3), .second, .val (.int (3 : Int32)), .val (.ref ax), .val (.ref ay), .val (.long ex), .second, .val (.double zz27), .second] [(.int (1 : Int32))])
    exact retB X27 hx hlk (t := .boolean) hret (by simp) (Jvm.hb hby at_325) (by decide) (by decide) ⟨rfl, Fr.app NN1 N27⟩
  · show Goes p e below _ T8 (mkF m 95 #[.val (.int p1), .val (.int p2), .val (.int p3), .val (.int p4), .val (.int p5), .val (.long x0), .second, .val (.long x1), .second, .val (.long x2), .second, .val (.long x3), .second, .val (.long o0), .second, .val (.long o1), .second, .val (.long o2), .second, .val (.long o3), .second, .val (.long z0), .second, .val (.long z1), .second, .val (.long z2), .second, .val (.long z3), .second, .val (.int (4 : Int32)), .unset, .unset, .unset, .unset, .unset, .unset] [])
    refine Goes.of (fun _ kont => XS.iload X8.here hx rfl (Jvm.hb hby at_95) rfl kont) ?_
    show Goes p e below _ T8 (mkF m 97 #[.val (.int p1), .val (.int p2), .val (.int p3), .val (.int p4), .val (.int p5), .val (.long x0), .second, .val (.long x1), .second, .val (.long x2), .second, .val (.long x3), .second, .val (.long o0), .second, .val (.long o1), .second, .val (.long o2), .second, .val (.long o3), .second, .val (.long z0), .second, .val (.long z1), .second, .val (.long z2), .second, .val (.long z3), .second, .val (.int (4 : Int32)), .unset, .unset, .unset, .unset, .unset, .unset] [(.int (4 : Int32))])
    refine Goes.of (fun _ kont => XS.iconst X8.here hx rfl (Jvm.hb hby at_97) kont) ?_
    show Goes p e below _ T8 (mkF m 98 #[.val (.int p1), .val (.int p2), .val (.int p3), .val (.int p4), .val (.int p5), .val (.long x0), .second, .val (.long x1), .second, .val (.long x2), .second, .val (.long x3), .second, .val (.long o0), .second, .val (.long o1), .second, .val (.long o2), .second, .val (.long o3), .second, .val (.long z0), .second, .val (.long z1), .second, .val (.long z2), .second, .val (.long z3), .second, .val (.int (4 : Int32)), .unset, .unset, .unset, .unset, .unset, .unset] [(.int (2 : Int32)), (.int (4 : Int32))])
    refine Goes.of (fun _ kont => XS.icmpYes X8.here hx rfl (pc0 := 98) (pc' := 147) rfl (Jvm.hb hby at_98) rfl (by decide) (by decide) (by decide) kont) ?_
    show Goes p e below _ T8 (mkF m 147 #[.val (.int p1), .val (.int p2), .val (.int p3), .val (.int p4), .val (.int p5), .val (.long x0), .second, .val (.long x1), .second, .val (.long x2), .second, .val (.long x3), .second, .val (.long o0), .second, .val (.long o1), .second, .val (.long o2), .second, .val (.long o3), .second, .val (.long z0), .second, .val (.long z1), .second, .val (.long z2), .second, .val (.long z3), .second, .val (.int (4 : Int32)), .unset, .unset, .unset, .unset, .unset, .unset] [])
    refine Goes.of (fun _ kont => XS.iload X8.here hx rfl (Jvm.hb hby at_147) rfl kont) ?_
    show Goes p e below _ T8 (mkF m 149 #[.val (.int p1), .val (.int p2), .val (.int p3), .val (.int p4), .val (.int p5), .val (.long x0), .second, .val (.long x1), .second, .val (.long x2), .second, .val (.long x3), .second, .val (.long o0), .second, .val (.long o1), .second, .val (.long o2), .second, .val (.long o3), .second, .val (.long z0), .second, .val (.long z1), .second, .val (.long z2), .second, .val (.long z3), .second, .val (.int (4 : Int32)), .unset, .unset, .unset, .unset, .unset, .unset] [(.int (4 : Int32))])
    refine Goes.of (fun _ kont => XS.iconst X8.here hx rfl (Jvm.hb hby at_149) kont) ?_
    show Goes p e below _ T8 (mkF m 150 #[.val (.int p1), .val (.int p2), .val (.int p3), .val (.int p4), .val (.int p5), .val (.long x0), .second, .val (.long x1), .second, .val (.long x2), .second, .val (.long x3), .second, .val (.long o0), .second, .val (.long o1), .second, .val (.long o2), .second, .val (.long o3), .second, .val (.long z0), .second, .val (.long z1), .second, .val (.long z2), .second, .val (.long z3), .second, .val (.int (4 : Int32)), .unset, .unset, .unset, .unset, .unset, .unset] [(.int (3 : Int32)), (.int (4 : Int32))])
    refine Goes.of (fun _ kont => XS.icmpYes X8.here hx rfl (pc0 := 150) (pc' := 219) rfl (Jvm.hb hby at_150) rfl (by decide) (by decide) (by decide) kont) ?_
    show Goes p e below _ T8 (mkF m 219 #[.val (.int p1), .val (.int p2), .val (.int p3), .val (.int p4), .val (.int p5), .val (.long x0), .second, .val (.long x1), .second, .val (.long x2), .second, .val (.long x3), .second, .val (.long o0), .second, .val (.long o1), .second, .val (.long o2), .second, .val (.long o3), .second, .val (.long z0), .second, .val (.long z1), .second, .val (.long z2), .second, .val (.long z3), .second, .val (.int (4 : Int32)), .unset, .unset, .unset, .unset, .unset, .unset] [])
    refine Goes.of (fun _ kont => XS.iconst X8.here hx rfl (Jvm.hb hby at_219) kont) ?_
    show Goes p e below _ T8 (mkF m 220 #[.val (.int p1), .val (.int p2), .val (.int p3), .val (.int p4), .val (.int p5), .val (.long x0), .second, .val (.long x1), .second, .val (.long x2), .second, .val (.long x3), .second, .val (.long o0), .second, .val (.long o1), .second, .val (.long o2), .second, .val (.long o3), .second, .val (.long z0), .second, .val (.long z1), .second, .val (.long z2), .second, .val (.long z3), .second, .val (.int (4 : Int32)), .unset, .unset, .unset, .unset, .unset, .unset] [(.int (4 : Int32))])
    refine goNewD X8 hx hZ (hw _ (List.mem_of_getElem? (i := 8) rfl)) e8 (g := mkF m 220 #[.val (.int p1), .val (.int p2), .val (.int p3), .val (.int p4), .val (.int p5), .val (.long x0), .second, .val (.long x1), .second, .val (.long x2), .second, .val (.long x3), .second, .val (.long o0), .second, .val (.long o1), .second, .val (.long o2), .second, .val (.long o3), .second, .val (.long z0), .second, .val (.long z1), .second, .val (.long z2), .second, .val (.long z3), .second, .val (.int (4 : Int32)), .unset, .unset, .unset, .unset, .unset, .unset] [(.int (4 : Int32))]) rfl (Jvm.hb hby at_220) rfl 4 (by decide) (by decide) (by decide) (by decide) ?_
    intro T28 h28 ax gax X28 e28 E28 V_ax
    have ge_ax : n0 ≤ ax := by rw [gax]; exact Z0
    have Z28 : n0 ≤ h28.size := Nat.le_trans Z0 E28.1
    show Goes p e below _ T28 (mkF m 222 #[.val (.int p1), .val (.int p2), .val (.int p3), .val (.int p4), .val (.int p5), .val (.long x0), .second, .val (.long x1), .second, .val (.long x2), .second, .val (.long x3), .second, .val (.long o0), .second, .val (.long o1), .second, .val (.long o2), .second, .val (.long o3), .second, .val (.long z0), .second, .val (.long z1), .second, .val (.long z2), .second, .val (.long z3), .second, .val (.int (4 : Int32)), .unset, .unset, .unset, .unset, .unset, .unset] [(.ref ax)])
    refine Goes.of (fun _ kont => XS.dup X28.here hx rfl (Jvm.hb hby at_222) rfl rfl kont) ?_
    show Goes p e below _ T28 (mkF m 223 #[.val (.int p1), .val (.int p2), .val (.int p3), .val (.int p4), .val (.int p5), .val (.long x0), .second, .val (.long x1), .second, .val (.long x2), .second, .val (.long x3), .second, .val (.long o0), .second, .val (.long o1), .second, .val (.long o2), .second, .val (.long o3), .second, .val (.long z0), .second, .val (.long z1), .second, .val (.long z2), .second, .val (.long z3), .second, .val (.int (4 : Int32)), .unset, .unset, .unset, .unset, .unset, .unset] [(.ref ax), (.ref ax)])
    refine Goes.of (fun _ kont => XS.iconst X28.here hx rfl (Jvm.hb hby at_223) kont) ?_
    show Goes p e below _ T28 (mkF m 224 #[.val (.int p1), .val (.int p2), .val (.int p3), .val (.int p4), .val (.int p5), .val (.long x0), .second, .val (.long x1), .second, .val (.long x2), .second, .val (.long x3), .second, .val (.long o0), .second, .val (.long o1), .second, .val (.long o2), .second, .val (.long o3), .second, .val (.long z0), .second, .val (.long z1), .second, .val (.long z2), .second, .val (.long z3), .second, .val (.int (4 : Int32)), .unset, .unset, .unset, .unset, .unset, .unset] [(.int (0 : Int32)), (.ref ax), (.ref ax)])
    refine Goes.of (fun _ kont => XT.lload X28.here hx rfl (Jvm.hb hby at_224) rfl kont) ?_
    show Goes p e below _ T28 (mkF m 226 #[.val (.int p1), .val (.int p2), .val (.int p3), .val (.int p4), .val (.int p5), .val (.long x0), .second, .val (.long x1), .second, .val (.long x2), .second, .val (.long x3), .second, .val (.long o0), .second, .val (.long o1), .second, .val (.long o2), .second, .val (.long o3), .second, .val (.long z0), .second, .val (.long z1), .second, .val (.long z2), .second, .val (.long z3), .second, .val (.int (4 : Int32)), .unset, .unset, .unset, .unset, .unset, .unset] [(.long x0), (.int (0 : Int32)), (.ref ax), (.ref ax)])
    refine Goes.of (fun _ kont => XS.l2dS X28.here hx rfl (Jvm.hb hby at_226) rfl rfl kont) ?_
    show Goes p e below _ T28 (mkF m 227 #[.val (.int p1), .val (.int p2), .val (.int p3), .val (.int p4), .val (.int p5), .val (.long x0), .second, .val (.long x1), .second, .val (.long x2), .second, .val (.long x3), .second, .val (.long o0), .second, .val (.long o1), .second, .val (.long o2), .second, .val (.long o3), .second, .val (.long z0), .second, .val (.long z1), .second, .val (.long z2), .second, .val (.long z3), .second, .val (.int (4 : Int32)), .unset, .unset, .unset, .unset, .unset, .unset] [(.double (FP.l2d x0)), (.int (0 : Int32)), (.ref ax), (.ref ax)])
    refine goStD X28 hx hZ e28 V_ax 0 (by decide) (by show 0 < 4; decide) (g := (mkF m 227 #[.val (.int p1), .val (.int p2), .val (.int p3), .val (.int p4), .val (.int p5), .val (.long x0), .second, .val (.long x1), .second, .val (.long x2), .second, .val (.long x3), .second, .val (.long o0), .second, .val (.long o1), .second, .val (.long o2), .second, .val (.long o3), .second, .val (.long z0), .second, .val (.long z1), .second, .val (.long z2), .second, .val (.long z3), .second, .val (.int (4 : Int32)), .unset, .unset, .unset, .unset, .unset, .unset] [(.double (FP.l2d x0)), (.int (0 : Int32)), (.ref ax), (.ref ax)])) rfl rfl (Jvm.hb hby at_227) NN ge_ax ?_
    intro T29 h29 L29 X29 e29 N29 K29 V_ax_29
    replace V_ax_29 : DA Z h29 ax [(FP.l2d x0), 0, 0, 0] := V_ax_29
    have Z29 : n0 ≤ h29.size := Nat.le_trans ge_ax (Nat.le_of_lt V_ax_29.lt)
    show Goes p e below _ T29 (mkF m 228 #[.val (.int p1), .val (.int p2), .val (.int p3), .val (.int p4), .val (.int p5), .val (.long x0), .second, .val (.long x1), .second, .val (.long x2), .second, .val (.long x3), .second, .val (.long o0), .second, .val (.long o1), .second, .val (.long o2), .second, .val (.long o3), .second, .val (.long z0), .second, .val (.long z1), .second, .val (.long z2), .second, .val (.long z3), .second, .val (.int (4 : Int32)), .unset, .unset, .unset, .unset, .unset, .unset] [(.ref ax)])
    refine Goes.of (fun _ kont => XS.dup X29.here hx rfl (Jvm.hb hby at_228) rfl rfl kont) ?_
    show Goes p e below _ T29 (mkF m 229 #[.val (.int p1), .val (.int p2), .val (.int p3), .val (.int p4), .val (.int p5), .val (.long x0), .second, .val (.long x1), .second, .val (.long x2), .second, .val (.long x3), .second, .val (.long o0), .second, .val (.long o1), .second, .val (.long o2), .second, .val (.long o3), .second, .val (.long z0), .second, .val (.long z1), .second, .val (.long z2), .second, .val (.long z3), .second, .val (.int (4 : Int32)), .unset, .unset, .unset, .unset, .unset, .unset] [(.ref ax), (.ref ax)])
    refine Goes.of (fun _ kont => XS.iconst X29.here hx rfl (Jvm.hb hby at_229) kont) ?_
    show Goes p e below _ T29 (mkF m 230 #[.val (.int p1), .val (.int p2), .val (.int p3), .val (.int p4), .val (.int p5), .val (.long x0), .second, .val (.long x1), .second, .val (.long x2), .second, .val (.long x3), .second, .val (.long o0), .second, .val (.long o1), .second, .val (.long o2), .second, .val (.long o3), .second, .val (.long z0), .second, .val (.long z1), .second, .val (.long z2), .second, .val (.long z3), .second, .val (.int (4 : Int32)), .unset, .unset, .unset, .unset, .unset, .unset] [(.int (1 : Int32)), (.ref ax), (.ref ax)])
    refine Goes.of (fun _ kont => XT.lload X29.here hx rfl (Jvm.hb hby at_230) rfl kont) ?_
    show Goes p e below _ T29 (mkF m 232 #[.val (.int p1), .val (.int p2), .val (.int p3), .val (.int p4), .val (.int p5), .val (.long x0), .second, .val (.long x1), .second, .val (.long x2), .second, .val (.long x3), .second, .val (.long o0), .second, .val (.long o1), .second, .val (.long o2), .second, .val (.long o3), .second, .val (.long z0), .second, .val (.long z1), .second, .val (.long z2), .second, .val (.long z3), .second, .val (.int (4 : Int32)), .unset, .unset, .unset, .unset, .unset, .unset] [(.long x1), (.int (1 : Int32)), (.ref ax), (.ref ax)])
    refine Goes.of (fun _ kont => XS.l2dS X29.here hx rfl (Jvm.hb hby at_232) rfl rfl kont) ?_
    show Goes p e below _ T29 (mkF m 233 #[.val (.int p1), .val (.int p2), .val (.int p3), .val (.int p4), .val (.int p5), .val (.long x0), .second, .val (.long x1), .second, .val (.long x2), .second, .val (.long x3), .second, .val (.long o0), .second, .val (.long o1), .second, .val (.long o2), .second, .val (.long o3), .second, .val (.long z0), .second, .val (.long z1), .second, .val (.long z2), .second, .val (.long z3), .second, .val (.int (4 : Int32)), .unset, .unset, .unset, .unset, .unset, .unset] [(.double (FP.l2d x1)), (.int (1 : Int32)), (.ref ax), (.ref ax)])
    refine goStD X29 hx hZ e29 V_ax_29 1 (by decide) (by show 1 < 4; decide) (g := (mkF m 233 #[.val (.int p1), .val (.int p2), .val (.int p3), .val (.int p4), .val (.int p5), .val (.long x0), .second, .val (.long x1), .second, .val (.long x2), .second, .val (.long x3), .second, .val (.long o0), .second, .val (.long o1), .second, .val (.long o2), .second, .val (.long o3), .second, .val (.long z0), .second, .val (.long z1), .second, .val (.long z2), .second, .val (.long z3), .second, .val (.int (4 : Int32)), .unset, .unset, .unset, .unset, .unset, .unset] [(.double (FP.l2d x1)), (.int (1 : Int32)), (.ref ax), (.ref ax)])) rfl rfl (Jvm.hb hby at_233) N29 ge_ax ?_
    intro T30 h30 L30 X30 e30 N30 K30 V_ax_30
    replace V_ax_30 : DA Z h30 ax [(FP.l2d x0), (FP.l2d x1), 0, 0] := V_ax_30
    have Z30 : n0 ≤ h30.size := Nat.le_trans ge_ax (Nat.le_of_lt V_ax_30.lt)
    show Goes p e below _ T30 (mkF m 234 #[.val (.int p1), .val (.int p2), .val (.int p3), .val (.int p4), .val (.int p5), .val (.long x0), .second, .val (.long x1), .second, .val (.long x2), .second, .val (.long x3), .second, .val (.long o0), .second, .val (.long o1), .second, .val (.long o2), .second, .val (.long o3), .second, .val (.long z0), .second, .val (.long z1), .second, .val (.long z2), .second, .val (.long z3), .second, .val (.int (4 : Int32)), .unset, .unset, .unset, .unset, .unset, .unset] [(.ref ax)])
    refine Goes.of (fun _ kont => XS.dup X30.here hx rfl (Jvm.hb hby at_234) rfl rfl kont) ?_
    show Goes p e below _ T30 (mkF m 235 #[.val (.int p1), .val (.int p2), .val (.int p3), .val (.int p4), .val (.int p5), .val (.long x0), .second, .val (.long x1), .second, .val (.long x2), .second, .val (.long x3), .second, .val (.long o0), .second, .val (.long o1), .second, .val (.long o2), .second, .val (.long o3), .second, .val (.long z0), .second, .val (.long z1), .second, .val (.long z2), .second, .val (.long z3), .second, .val (.int (4 : Int32)), .unset, .unset, .unset, .unset, .unset, .unset] [(.ref ax), (.ref ax)])
    refine Goes.of (fun _ kont => XS.iconst X30.here hx rfl (Jvm.hb hby at_235) kont) ?_
    show Goes p e below _ T30 (mkF m 236 #[.val (.int p1), .val (.int p2), .val (.int p3), .val (.int p4), .val (.int p5), .val (.long x0), .second, .val (.long x1), .second, .val (.long x2), .second, .val (.long x3), .second, .val (.long o0), .second, .val (.long o1), .second, .val (.long o2), .second, .val (.long o3), .second, .val (.long z0), .second, .val (.long z1), .second, .val (.long z2), .second, .val (.long z3), .second, .val (.int (4 : Int32)), .unset, .unset, .unset, .unset, .unset, .unset] [(.int (2 : Int32)), (.ref ax), (.ref ax)])
    refine Goes.of (fun _ kont => XT.lload X30.here hx rfl (Jvm.hb hby at_236) rfl kont) ?_
    show Goes p e below _ T30 (mkF m 238 #[.val (.int p1), .val (.int p2), .val (.int p3), .val (.int p4), .val (.int p5), .val (.long x0), .second, .val (.long x1), .second, .val (.long x2), .second, .val (.long x3), .second, .val (.long o0), .second, .val (.long o1), .second, .val (.long o2), .second, .val (.long o3), .second, .val (.long z0), .second, .val (.long z1), .second, .val (.long z2), .second, .val (.long z3), .second, .val (.int (4 : Int32)), .unset, .unset, .unset, .unset, .unset, .unset] [(.long x2), (.int (2 : Int32)), (.ref ax), (.ref ax)])
    refine Goes.of (fun _ kont => XS.l2dS X30.here hx rfl (Jvm.hb hby at_238) rfl rfl kont) ?_
    show Goes p e below _ T30 (mkF m 239 #[.val (.int p1), .val (.int p2), .val (.int p3), .val (.int p4), .val (.int p5), .val (.long x0), .second, .val (.long x1), .second, .val (.long x2), .second, .val (.long x3), .second, .val (.long o0), .second, .val (.long o1), .second, .val (.long o2), .second, .val (.long o3), .second, .val (.long z0), .second, .val (.long z1), .second, .val (.long z2), .second, .val (.long z3), .second, .val (.int (4 : Int32)), .unset, .unset, .unset, .unset, .unset, .unset] [(.double (FP.l2d x2)), (.int (2 : Int32)), (.ref ax), (.ref ax)])
    refine goStD X30 hx hZ e30 V_ax_30 2 (by decide) (by show 2 < 4; decide) (g := (mkF m 239 #[.val (.int p1), .val (.int p2), .val (.int p3), .val (.int p4), .val (.int p5), .val (.long x0), .second, .val (.long x1), .second, .val (.long x2), .second, .val (.long x3), .second, .val (.long o0), .second, .val (.long o1), .second, .val (.long o2), .second, .val (.long o3), .second, .val (.long z0), .second, .val (.long z1), .second, .val (.long z2), .second, .val (.long z3), .second, .val (.int (4 : Int32)), .unset, .unset, .unset, .unset, .unset, .unset] [(.double (FP.l2d x2)), (.int (2 : Int32)), (.ref ax), (.ref ax)])) rfl rfl (Jvm.hb hby at_239) N30 ge_ax ?_
    intro T31 h31 L31 X31 e31 N31 K31 V_ax_31
    replace V_ax_31 : DA Z h31 ax [(FP.l2d x0), (FP.l2d x1), (FP.l2d x2), 0] := V_ax_31
    have Z31 : n0 ≤ h31.size := Nat.le_trans ge_ax (Nat.le_of_lt V_ax_31.lt)
    show Goes p e below _ T31 (mkF m 240 #[.val (.int p1), .val (.int p2), .val (.int p3), .val (.int p4), .val (.int p5), .val (.long x0), .second, .val (.long x1), .second, .val (.long x2), .second, .val (.long x3), .second, .val (.long o0), .second, .val (.long o1), .second, .val (.long o2), .second, .val (.long o3), .second, .val (.long z0), .second, .val (.long z1), .second, .val (.long z2), .second, .val (.long z3), .second, .val (.int (4 : Int32)), .unset, .unset, .unset, .unset, .unset, .unset] [(.ref ax)])
    refine Goes.of (fun _ kont => XS.dup X31.here hx rfl (Jvm.hb hby at_240) rfl rfl kont) ?_
    show Goes p e below _ T31 (mkF m 241 #[.val (.int p1), .val (.int p2), .val (.int p3), .val (.int p4), .val (.int p5), .val (.long x0), .second, .val (.long x1), .second, .val (.long x2), .second, .val (.long x3), .second, .val (.long o0), .second, .val (.long o1), .second, .val (.long o2), .second, .val (.long o3), .second, .val (.long z0), .second, .val (.long z1), .second, .val (.long z2), .second, .val (.long z3), .second, .val (.int (4 : Int32)), .unset, .unset, .unset, .unset, .unset, .unset] [(.ref ax), (.ref ax)])
    refine Goes.of (fun _ kont => XS.iconst X31.here hx rfl (Jvm.hb hby at_241) kont) ?_
    show Goes p e below _ T31 (mkF m 242 #[.val (.int p1), .val (.int p2), .val (.int p3), .val (.int p4), .val (.int p5), .val (.long x0), .second, .val (.long x1), .second, .val (.long x2), .second, .val (.long x3), .second, .val (.long o0), .second, .val (.long o1), .second, .val (.long o2), .second, .val (.long o3), .second, .val (.long z0), .second, .val (.long z1), .second, .val (.long z2), .second, .val (.long z3), .second, .val (.int (4 : Int32)), .unset, .unset, .unset, .unset, .unset, .unset] [(.int (3 : Int32)), (.ref ax), (.ref ax)])
    refine Goes.of (fun _ kont => XT.lload X31.here hx rfl (Jvm.hb hby at_242) rfl kont) ?_
    show Goes p e below _ T31 (mkF m 244 #[.val (.int p1), .val (.int p2), .val (.int p3), .val (.int p4), .val (.int p5), .val (.long x0), .second, .val (.long x1), .second, .val (.long x2), .second, .val (.long x3), .second, .val (.long o0), .second, .val (.long o1), .second, .val (.long o2), .second, .val (.long o3), .second, .val (.long z0), .second, .val (.long z1), .second, .val (.long z2), .second, .val (.long z3), .second, .val (.int (4 : Int32)), .unset, .unset, .unset, .unset, .unset, .unset] [(.long x3), (.int (3 : Int32)), (.ref ax), (.ref ax)])
    refine Goes.of (fun _ kont => XS.l2dS X31.here hx rfl (Jvm.hb hby at_244) rfl rfl kont) ?_
    show Goes p e below _ T31 (mkF m 245 #[.val (.int p1), .val (.int p2), .val (.int p3), .val (.int p4), .val (.int p5), .val (.long x0), .second, .val (.long x1), .second, .val (.long x2), .second, .val (.long x3), .second, .val (.long o0), .second, .val (.long o1), .second, .val (.long o2), .second, .val (.long o3), .second, .val (.long z0), .second, .val (.long z1), .second, .val (.long z2), .second, .val (.long z3), .second, .val (.int (4 : Int32)), .unset, .unset, .unset, .unset, .unset, .unset] [(.double (FP.l2d x3)), (.int (3 : Int32)), (.ref ax), (.ref ax)])
    refine goStD X31 hx hZ e31 V_ax_31 3 (by decide) (by show 3 < 4; decide) (g := (mkF m 245 #[.val (.int p1), .val (.int p2), .val (.int p3), .val (.int p4), .val (.int p5), .val (.long x0), .second, .val (.long x1), .second, .val (.long x2), .second, .val (.long x3), .second, .val (.long o0), .second, .val (.long o1), .second, .val (.long o2), .second, .val (.long o3), .second, .val (.long z0), .second, .val (.long z1), .second, .val (.long z2), .second, .val (.long z3), .second, .val (.int (4 : Int32)), .unset, .unset, .unset, .unset, .unset, .unset] [(.double (FP.l2d x3)), (.int (3 : Int32)), (.ref ax), (.ref ax)])) rfl rfl (Jvm.hb hby at_245) N31 ge_ax ?_
    intro T32 h32 L32 X32 e32 N32 K32 V_ax_32
    replace V_ax_32 : DA Z h32 ax [(FP.l2d x0), (FP.l2d x1), (FP.l2d x2), (FP.l2d x3)] := V_ax_32
    have Z32 : n0 ≤ h32.size := Nat.le_trans ge_ax (Nat.le_of_lt V_ax_32.lt)
    show Goes p e below _ T32 (mkF m 246 #[.val (.int p1), .val (.int p2), .val (.int p3), .val (.int p4), .val (.int p5), .val (.long x0), .second, .val (.long x1), .second, .val (.long x2), .second, .val (.long x3), .second, .val (.long o0), .second, .val (.long o1), .second, .val (.long o2), .second, .val (.long o3), .second, .val (.long z0), .second, .val (.long z1), .second, .val (.long z2), .second, .val (.long z3), .second, .val (.int (4 : Int32)), .unset, .unset, .unset, .unset, .unset, .unset] [(.ref ax)])
    refine Goes.of (fun _ kont => XS.astore X32.here hx rfl (Jvm.hb hby at_246) rfl rfl (l' := #[.val (.int p1), .val (.int p2), .val (.int p3), .val (.int p4), .val (.int p5), .val (.long x0), .second, .val (.long x1), .second, .val (.long x2), .second, .val (.long x3), .second, .val (.long o0), .second, .val (.long o1), .second, .val (.long o2), .second, .val (.long o3), .second, .val (.long z0), .second, .val (.long z1), .second, .val (.long z2), .second, .val (.long z3), .second, .val (.int (4 : Int32)), .val (.ref ax), .unset, .unset, .unset, .unset, .unset]) rfl kont) ?_
    show Goes p e below _ T32 (mkF m 248 #[.val (.int p1), .val (.int p2), .val (.int p3), .val (.int p4), .val (.int p5), .val (.long x0), .second, .val (.long x1), .second, .val (.long x2), .second, .val (.long x3), .second, .val (.long o0), .second, .val (.long o1), .second, .val (.long o2), .second, .val (.long o3), .second, .val (.long z0), .second, .val (.long z1), .second, .val (.long z2), .second, .val (.long z3), .second, .val (.int (4 : Int32)), .val (.ref ax), .unset, .unset, .unset, .unset, .unset] [])
    refine Goes.of (fun _ kont => XS.iconst X32.here hx rfl (Jvm.hb hby at_248) kont) ?_
    show Goes p e below _ T32 (mkF m 249 #[.val (.int p1), .val (.int p2), .val (.int p3), .val (.int p4), .val (.int p5), .val (.long x0), .second, .val (.long x1), .second, .val (.long x2), .second, .val (.long x3), .second, .val (.long o0), .second, .val (.long o1), .second, .val (.long o2), .second, .val (.long o3), .second, .val (.long z0), .second, .val (.long z1), .second, .val (.long z2), .second, .val (.long z3), .second, .val (.int (4 : Int32)), .val (.ref ax), .unset, .unset, .unset, .unset, .unset] [(.int (4 : Int32))])
    refine goNewD X32 hx hZ (hw _ (List.mem_of_getElem? (i := 8) rfl)) e32 (g := mkF m 249 #[.val (.int p1), .val (.int p2), .val (.int p3), .val (.int p4), .val (.int p5), .val (.long x0), .second, .val (.long x1), .second, .val (.long x2), .second, .val (.long x3), .second, .val (.long o0), .second, .val (.long o1), .second, .val (.long o2), .second, .val (.long o3), .second, .val (.long z0), .second, .val (.long z1), .second, .val (.long z2), .second, .val (.long z3), .second, .val (.int (4 : Int32)), .val (.ref ax), .unset, .unset, .unset, .unset, .unset] [(.int (4 : Int32))]) rfl (Jvm.hb hby at_249) rfl 4 (by decide) (by decide) (by decide) (by decide) ?_
    intro T33 h33 ay gay X33 e33 E33 V_ay
    have ge_ay : n0 ≤ ay := by rw [gay]; exact Z32
    have Z33 : n0 ≤ h33.size := Nat.le_trans Z32 E33.1
    have ne_ax_ay : ax ≠ ay := by rw [gay]; exact Nat.ne_of_lt V_ax_32.lt
    have V_ax_33 := V_ax_32.ext E33
    show Goes p e below _ T33 (mkF m 251 #[.val (.int p1), .val (.int p2), .val (.int p3), .val (.int p4), .val (.int p5), .val (.long x0), .second, .val (.long x1), .second, .val (.long x2), .second, .val (.long x3), .second, .val (.long o0), .second, .val (.long o1), .second, .val (.long o2), .second, .val (.long o3), .second, .val (.long z0), .second, .val (.long z1), .second, .val (.long z2), .second, .val (.long z3), .second, .val (.int (4 : Int32)), .val (.ref ax), .unset, .unset, .unset, .unset, .unset] [(.ref ay)])
    refine Goes.of (fun _ kont => XS.dup X33.here hx rfl (Jvm.hb hby at_251) rfl rfl kont) ?_
    show Goes p e below _ T33 (mkF m 252 #[.val (.int p1), .val (.int p2), .val (.int p3), .val (.int p4), .val (.int p5), .val (.long x0), .second, .val (.long x1), .second, .val (.long x2), .second, .val (.long x3), .second, .val (.long o0), .second, .val (.long o1), .second, .val (.long o2), .second, .val (.long o3), .second, .val (.long z0), .second, .val (.long z1), .second, .val (.long z2), .second, .val (.long z3), .second, .val (.int (4 : Int32)), .val (.ref ax), .unset, .unset, .unset, .unset, .unset] [(.ref ay), (.ref ay)])
    refine Goes.of (fun _ kont => XS.iconst X33.here hx rfl (Jvm.hb hby at_252) kont) ?_
    show Goes p e below _ T33 (mkF m 253 #[.val (.int p1), .val (.int p2), .val (.int p3), .val (.int p4), .val (.int p5), .val (.long x0), .second, .val (.long x1), .second, .val (.long x2), .second, .val (.long x3), .second, .val (.long o0), .second, .val (.long o1), .second, .val (.long o2), .second, .val (.long o3), .second, .val (.long z0), .second, .val (.long z1), .second, .val (.long z2), .second, .val (.long z3), .second, .val (.int (4 : Int32)), .val (.ref ax), .unset, .unset, .unset, .unset, .unset] [(.int (0 : Int32)), (.ref ay), (.ref ay)])
    refine Goes.of (fun _ kont => XT.lload X33.here hx rfl (Jvm.hb hby at_253) rfl kont) ?_
    show Goes p e below _ T33 (mkF m 255 #[.val (.int p1), .val (.int p2), .val (.int p3), .val (.int p4), .val (.int p5), .val (.long x0), .second, .val (.long x1), .second, .val (.long x2), .second, .val (.long x3), .second, .val (.long o0), .second, .val (.long o1), .second, .val (.long o2), .second, .val (.long o3), .second, .val (.long z0), .second, .val (.long z1), .second, .val (.long z2), .second, .val (.long z3), .second, .val (.int (4 : Int32)), .val (.ref ax), .unset, .unset, .unset, .unset, .unset] [(.long o0), (.int (0 : Int32)), (.ref ay), (.ref ay)])
    refine Goes.of (fun _ kont => XS.l2dS X33.here hx rfl (Jvm.hb hby at_255) rfl rfl kont) ?_
    show Goes p e below _ T33 (mkF m 256 #[.val (.int p1), .val (.int p2), .val (.int p3), .val (.int p4), .val (.int p5), .val (.long x0), .second, .val (.long x1), .second, .val (.long x2), .second, .val (.long x3), .second, .val (.long o0), .second, .val (.long o1), .second, .val (.long o2), .second, .val (.long o3), .second, .val (.long z0), .second, .val (.long z1), .second, .val (.long z2), .second, .val (.long z3), .second, .val (.int (4 : Int32)), .val (.ref ax), .unset, .unset, .unset, .unset, .unset] [(.double (FP.l2d o0)), (.int (0 : Int32)), (.ref ay), (.ref ay)])
    refine goStD X33 hx hZ e33 V_ay 0 (by decide) (by show 0 < 4; decide) (g := (mkF m 256 #[.val (.int p1), .val (.int p2), .val (.int p3), .val (.int p4), .val (.int p5), .val (.long x0), .second, .val (.long x1), .second, .val (.long x2), .second, .val (.long x3), .second, .val (.long o0), .second, .val (.long o1), .second, .val (.long o2), .second, .val (.long o3), .second, .val (.long z0), .second, .val (.long z1), .second, .val (.long z2), .second, .val (.long z3), .second, .val (.int (4 : Int32)), .val (.ref ax), .unset, .unset, .unset, .unset, .unset] [(.double (FP.l2d o0)), (.int (0 : Int32)), (.ref ay), (.ref ay)])) rfl rfl (Jvm.hb hby at_256) N32 ge_ay ?_
    intro T34 h34 L34 X34 e34 N34 K34 V_ay_34
    replace V_ay_34 : DA Z h34 ay [(FP.l2d o0), 0, 0, 0] := V_ay_34
    have V_ax_34 := K34 _ _ ne_ax_ay V_ax_33
    have Z34 : n0 ≤ h34.size := Nat.le_trans ge_ay (Nat.le_of_lt V_ay_34.lt)
    show Goes p e below _ T34 (mkF m 257 #[.val (.int p1), .val (.int p2), .val (.int p3), .val (.int p4), .val (.int p5), .val (.long x0), .second, .val (.long x1), .second, .val (.long x2), .second, .val (.long x3), .second, .val (.long o0), .second, .val (.long o1), .second, .val (.long o2), .second, .val (.long o3), .second, .val (.long z0), .second, .val (.long z1), .second, .val (.long z2), .second, .val (.long z3), .second, .val (.int (4 : Int32)), .val (.ref ax), .unset, .unset, .unset, .unset, .unset] [(.ref ay)])
    refine Goes.of (fun _ kont => XS.dup X34.here hx rfl (Jvm.hb hby at_257) rfl rfl kont) ?_
    show Goes p e below _ T34 (mkF m 258 #[.val (.int p1), .val (.int p2), .val (.int p3), .val (.int p4), .val (.int p5), .val (.long x0), .second, .val (.long x1), .second, .val (.long x2), .second, .val (.long x3), .second, .val (.long o0), .second, .val (.long o1), .second, .val (.long o2), .second, .val (.long o3), .second, .val (.long z0), .second, .val (.long z1), .second, .val (.long z2), .second, .val (.long z3), .second, .val (.int (4 : Int32)), .val (.ref ax), .unset, .unset, .unset, .unset, .unset] [(.ref ay), (.ref ay)])
    refine Goes.of (fun _ kont => XS.iconst X34.here hx rfl (Jvm.hb hby at_258) kont) ?_
    show Goes p e below _ T34 (mkF m 259 #[.val (.int p1), .val (.int p2), .val (.int p3), .val (.int p4), .val (.int p5), .val (.long x0), .second, .val (.long x1), .second, .val (.long x2), .second, .val (.long x3), .second, .val (.long o0), .second, .val (.long o1), .second, .val (.long o2), .second, .val (.long o3), .second, .val (.long z0), .second, .val (.long z1), .second, .val (.long z2), .second, .val (.long z3), .second, .val (.int (4 : Int32)), .val (.ref ax), .unset, .unset, .unset, .unset, .unset] [(.int (1 : Int32)), (.ref ay), (.ref ay)])
    refine Goes.of (fun _ kont => XT.lload X34.here hx rfl (Jvm.hb hby at_259) rfl kont) ?_
    show Goes p e below _ T34 (mkF m 261 #[.val (.int p1), .val (.int p2), .val (.int p3), .val (.int p4), .val (.int p5), .val (.long x0), .second, .val (.long x1), .second, .val (.long x2), .second, .val (.long x3), .second, .val (.long o0), .second, .val (.long o1), .second, .val (.long o2), .second, .val (.long o3), .second, .val (.long z0), .second, .val (.long z1), .second, .val (.long z2), .second, .val (.long z3), .second, .val (.int (4 : Int32)), .val (.ref ax), .unset, .unset, .unset, .unset, .unset] [(.long o1), (.int (1 : Int32)), (.ref ay), (.ref ay)])
    refine Goes.of (fun _ kont => XS.l2dS X34.here hx rfl (Jvm.hb hby at_261) rfl rfl kont) ?_
    show Goes p e below _ T34 (mkF m 262 #[.val (.int p1), .val (.int p2), .val (.int p3), .val (.int p4), .val (.int p5), .val (.long x0), .second, .val (.long x1), .second, .val (.long x2), .second, .val (.long x3), .second, .val (.long o0), .second, .val (.long o1), .second, .val (.long o2), .second, .val (.long o3), .second, .val (.long z0), .second, .val (.long z1), .second, .val (.long z2), .second, .val (.long z3), .second, .val (.int (4 : Int32)), .val (.ref ax), .unset, .unset, .unset, .unset, .unset] [(.double (FP.l2d o1)), (.int (1 : Int32)), (.ref ay), (.ref ay)])
    refine goStD X34 hx hZ e34 V_ay_34 1 (by decide) (by show 1 < 4; decide) (g := (mkF m 262 #[.val (.int p1), .val (.int p2), .val (.int p3), .val (.int p4), .val (.int p5), .val (.long x0), .second, .val (.long x1), .second, .val (.long x2), .second, .val (.long x3), .second, .val (.long o0), .second, .val (.long o1), .second, .val (.long o2), .second, .val (.long o3), .second, .val (.long z0), .second, .val (.long z1), .second, .val (.long z2), .second, .val (.long z3), .second, .val (.int (4 : Int32)), .val (.ref ax), .unset, .unset, .unset, .unset, .unset] [(.double (FP.l2d o1)), (.int (1 : Int32)), (.ref ay), (.ref ay)])) rfl rfl (Jvm.hb hby at_262) N34 ge_ay ?_
    intro T35 h35 L35 X35 e35 N35 K35 V_ay_35
    replace V_ay_35 : DA Z h35 ay [(FP.l2d o0), (FP.l2d o1), 0, 0] := V_ay_35
    have V_ax_35 := K35 _ _ ne_ax_ay V_ax_34
    have Z35 : n0 ≤ h35.size := Nat.le_trans ge_ay (Nat.le_of_lt V_ay_35.lt)
    show Goes p e below _ T35 (mkF m 263 #[.val (.int p1), .val (.int p2), .val (.int p3), .val (.int p4), .val (.int p5), .val (.long x0), .second, .val (.long x1), .second, .val (.long x2), .second, .val (.long x3), .second, .val (.long o0), .second, .val (.long o1), .second, .val (.long o2), .second, .val (.long o3), .second, .val (.long z0), .second, .val (.long z1), .second, .val (.long z2), .second, .val (.long z3), .second, .val (.int (4 : Int32)), .val (.ref ax), .unset, .unset, .unset, .unset, .unset] [(.ref ay)])
    refine Goes.of (fun _ kont => XS.dup X35.here hx rfl (Jvm.hb hby at_263) rfl rfl kont) ?_
    show Goes p e below _ T35 (mkF m 264 #[.val (.int p1), .val (.int p2), .val (.int p3), .val (.int p4), .val (.int p5), .val (.long x0), .second, .val (.long x1), .second, .val (.long x2), .second, .val (.long x3), .second, .val (.long o0), .second, .val (.long o1), .second, .val (.long o2), .second, .val (.long o3), .second, .val (.long z0), .second, .val (.long z1), .second, .val (.long z2), .second, .val (.long z3), .second, .val (.int (4 : Int32)), .val (.ref ax), .unset, .unset, .unset, .unset, .unset] [(.ref ay), (.ref ay)])
    refine Goes.of (fun _ kont => XS.iconst X35.here hx rfl (Jvm.hb hby at_264) kont) ?_
    show Goes p e below _ T35 (mkF m 265 #[.val (.int p1), .val (.int p2), .val (.int p3), .val (.int p4), .val (.int p5), .val (.long x0), .second, .val (.long x1), .second, .val (.long x2), .second, .val (.long x3), .second, .val (.long o0), .second, .val (.long o1), .second, .val (.long o2), .second, .val (.long o3), .second, .val (.long z0), .second, .val (.long z1), .second, .val (.long z2), .second, .val (.long z3), .second, .val (.int (4 : Int32)), .val (.ref ax), .unset, .unset, .unset, .unset, .unset] [(.int (2 : Int32)), (.ref ay), (.ref ay)])
    refine Goes.of (fun _ kont => XT.lload X35.here hx rfl (Jvm.hb hby at_265) rfl kont) ?_
    show Goes p e below _ T35 (mkF m 267 #[.val (.int p1), .val (.int p2), .val (.int p3), .val (.int p4), .val (.int p5), .val (.long x0), .second, .val (.long x1), .second, .val (.long x2), .second, .val (.long x3), .second, .val (.long o0), .second, .val (.long o1), .second, .val (.long o2), .second, .val (.long o3), .second, .val (.long z0), .second, .val (.long z1), .second, .val (.long z2), .second, .val (.long z3), .second, .val (.int (4 : Int32)), .val (.ref ax), .unset, .unset, .unset, .unset, .unset] [(.long o2), (.int (2 : Int32)), (.ref ay), (.ref ay)])
    refine Goes.of (fun _ kont => XS.l2dS X35.here hx rfl (Jvm.hb hby at_267) rfl rfl kont) ?_
    show Goes p e below _ T35 (mkF m 268 #[.val (.int p1), .val (.int p2), .val (.int p3), .val (.int p4), .val (.int p5), .val (.long x0), .second, .val (.long x1), .second, .val (.long x2), .second, .val (.long x3), .second, .val (.long o0), .second, .val (.long o1), .second, .val (.long o2), .second, .val (.long o3), .second, .val (.long z0), .second, .val (.long z1), .second, .val (.long z2), .second, .val (.long z3), .second, .val (.int (4 : Int32)), .val (.ref ax), .unset, .unset, .unset, .unset, .unset] [(.double (FP.l2d o2)), (.int (2 : Int32)), (.ref ay), (.ref ay)])
    refine goStD X35 hx hZ e35 V_ay_35 2 (by decide) (by show 2 < 4; decide) (g := (mkF m 268 #[.val (.int p1), .val (.int p2), .val (.int p3), .val (.int p4), .val (.int p5), .val (.long x0), .second, .val (.long x1), .second, .val (.long x2), .second, .val (.long x3), .second, .val (.long o0), .second, .val (.long o1), .second, .val (.long o2), .second, .val (.long o3), .second, .val (.long z0), .second, .val (.long z1), .second, .val (.long z2), .second, .val (.long z3), .second, .val (.int (4 : Int32)), .val (.ref ax), .unset, .unset, .unset, .unset, .unset] [(.double (FP.l2d o2)), (.int (2 : Int32)), (.ref ay), (.ref ay)])) rfl rfl (Jvm.hb hby at_268) N35 ge_ay ?_
    intro T36 h36 L36 X36 e36 N36 K36 V_ay_36
    replace V_ay_36 : DA Z h36 ay [(FP.l2d o0), (FP.l2d o1), (FP.l2d o2), 0] := V_ay_36
    have V_ax_36 := K36 _ _ ne_ax_ay V_ax_35
    have Z36 : n0 ≤ h36.size := Nat.le_trans ge_ay (Nat.le_of_lt V_ay_36.lt)
    show Goes p e below _ T36 (mkF m 269 #[.val (.int p1), .val (.int p2), .val (.int p3), .val (.int p4), .val (.int p5), .val (.long x0), .second, .val (.long x1), .second, .val (.long x2), .second, .val (.long x3), .second, .val (.long o0), .second, .val (.long o1), .second, .val (.long o2), .second, .val (.long o3), .second, .val (.long z0), .second, .val (.long z1), .second, .val (.long z2), .second, .val (.long z3), .second, .val (.int (4 : Int32)), .val (.ref ax), .unset, .unset, .unset, .unset, .unset] [(.ref ay)])
    refine Goes.of (fun _ kont => XS.dup X36.here hx rfl (Jvm.hb hby at_269) rfl rfl kont) ?_
    show Goes p e below _ T36 (mkF m 270 #[.val (.int p1), .val (.int p2), .val (.int p3), .val (.int p4), .val (.int p5), .val (.long x0), .second, .val (.long x1), .second, .val (.long x2), .second, .val (.long x3), .second, .val (.long o0), .second, .val (.long o1), .second, .val (.long o2), .second, .val (.long o3), .second, .val (.long z0), .second, .val (.long z1), .second, .val (.long z2), .second, .val (.long z3), .second, .val (.int (4 : Int32)), .val (.ref ax), .unset, .unset, .unset, .unset, .unset] [(.ref ay), (.ref ay)])
    refine Goes.of (fun _ kont => XS.iconst X36.here hx rfl (Jvm.hb hby at_270) kont) ?_
    show Goes p e below _ T36 (mkF m 271 #[.val (.int p1), .val (.int p2), .val (.int p3), .val (.int p4), .val (.int p5), .val (.long x0), .second, .val (.long x1), .second, .val (.long x2), .second, .val (.long x3), .second, .val (.long o0), .second, .val (.long o1), .second, .val (.long o2), .second, .val (.long o3), .second, .val (.long z0), .second, .val (.long z1), .second, .val (.long z2), .second, .val (.long z3), .second, .val (.int (4 : Int32)), .val (.ref ax), .unset, .unset, .unset, .unset, .unset] [(.int (3 : Int32)), (.ref ay), (.ref ay)])
    refine Goes.of (fun _ kont => XT.lload X36.here hx rfl (Jvm.hb hby at_271) rfl kont) ?_
    show Goes p e below _ T36 (mkF m 273 #[.val (.int p1), .val (.int p2), .val (.int p3), .val (.int p4), .val (.int p5), .val (.long x0), .second, .val (.long x1), .second, .val (.long x2), .second, .val (.long x3), .second, .val (.long o0), .second, .val (.long o1), .second, .val (.long o2), .second, .val (.long o3), .second, .val (.long z0), .second, .val (.long z1), .second, .val (.long z2), .second, .val (.long z3), .second, .val (.int (4 : Int32)), .val (.ref ax), .unset, .unset, .unset, .unset, .unset] [(.long o3), (.int (3 : Int32)), (.ref ay), (.ref ay)])
    refine Goes.of (fun _ kont => XS.l2dS X36.here hx rfl (Jvm.hb hby at_273) rfl rfl kont) ?_
    show Goes p e below _ T36 (mkF m 274 #[.val (.int p1), .val (.int p2), .val (.int p3), .val (.int p4), .val (.int p5), .val (.long x0), .second, .val (.long x1), .second, .val (.long x2), .second, .val (.long x3), .second, .val (.long o0), .second, .val (.long o1), .second, .val (.long o2), .second, .val (.long o3), .second, .val (.long z0), .second, .val (.long z1), .second, .val (.long z2), .second, .val (.long z3), .second, .val (.int (4 : Int32)), .val (.ref ax), .unset, .unset, .unset, .unset, .unset] [(.double (FP.l2d o3)), (.int (3 : Int32)), (.ref ay), (.ref ay)])
    refine goStD X36 hx hZ e36 V_ay_36 3 (by decide) (by show 3 < 4; decide) (g := (mkF m 274 #[.val (.int p1), .val (.int p2), .val (.int p3), .val (.int p4), .val (.int p5), .val (.long x0), .second, .val (.long x1), .second, .val (.long x2), .second, .val (.long x3), .second, .val (.long o0), .second, .val (.long o1), .second, .val (.long o2), .second, .val (.long o3), .second, .val (.long z0), .second, .val (.long z1), .second, .val (.long z2), .second, .val (.long z3), .second, .val (.int (4 : Int32)), .val (.ref ax), .unset, .unset, .unset, .unset, .unset] [(.double (FP.l2d o3)), (.int (3 : Int32)), (.ref ay), (.ref ay)])) rfl rfl (Jvm.hb hby at_274) N36 ge_ay ?_
    intro T37 h37 L37 X37 e37 N37 K37 V_ay_37
    replace V_ay_37 : DA Z h37 ay [(FP.l2d o0), (FP.l2d o1), (FP.l2d o2), (FP.l2d o3)] := V_ay_37
    have V_ax_37 := K37 _ _ ne_ax_ay V_ax_36
    have Z37 : n0 ≤ h37.size := Nat.le_trans ge_ay (Nat.le_of_lt V_ay_37.lt)
    show Goes p e below _ T37 (mkF m 275 #[.val (.int p1), .val (.int p2), .val (.int p3), .val (.int p4), .val (.int p5), .val (.long x0), .second, .val (.long x1), .second, .val (.long x2), .second, .val (.long x3), .second, .val (.long o0), .second, .val (.long o1), .second, .val (.long o2), .second, .val (.long o3), .second, .val (.long z0), .second, .val (.long z1), .second, .val (.long z2), .second, .val (.long z3), .second, .val (.int (4 : Int32)), .val (.ref ax), .unset, .unset, .unset, .unset, .unset] [(.ref ay)])
    refine Goes.of (fun _ kont => XS.astore X37.here hx rfl (Jvm.hb hby at_275) rfl rfl (l' := #[.val (.int p1), .val (.int p2), .val (.int p3), .val (.int p4), .val (.int p5), .val (.long x0), .second, .val (.long x1), .second, .val (.long x2), .second, .val (.long x3), .second, .val (.long o0), .second, .val (.long o1), .second, .val (.long o2), .second, .val (.long o3), .second, .val (.long z0), .second, .val (.long z1), .second, .val (.long z2), .second, .val (.long z3), .second, .val (.int (4 : Int32)), .val (.ref ax), .val (.ref ay), .unset, .unset, .unset, .unset]) rfl kont) ?_
    show Goes p e below _ T37 (mkF m 277 #[.val (.int p1), .val (.int p2), .val (.int p3), .val (.int p4), .val (.int p5), .val (.long x0), .second, .val (.long x1), .second, .val (.long x2), .second, .val (.long x3), .second, .val (.long o0), .second, .val (.long o1), .second, .val (.long o2), .second, .val (.long o3), .second, .val (.long z0), .second, .val (.long z1), .second, .val (.long z2), .second, .val (.long z3), .second, .val (.int (4 : Int32)), .val (.ref ax), .val (.ref ay), .unset, .unset, .unset, .unset] [])
    refine Goes.of (fun _ kont => XT.lload X37.here hx rfl (Jvm.hb hby at_277) rfl kont) ?_
    show Goes p e below _ T37 (mkF m 279 #[.val (.int p1), .val (.int p2), .val (.int p3), .val (.int p4), .val (.int p5), .val (.long x0), .second, .val (.long x1), .second, .val (.long x2), .second, .val (.long x3), .second, .val (.long o0), .second, .val (.long o1), .second, .val (.long o2), .second, .val (.long o3), .second, .val (.long z0), .second, .val (.long z1), .second, .val (.long z2), .second, .val (.long z3), .second, .val (.int (4 : Int32)), .val (.ref ax), .val (.ref ay), .unset, .unset, .unset, .unset] [(.long z0)])
    refine Goes.of (fun _ kont => XT.lload X37.here hx rfl (Jvm.hb hby at_279) rfl kont) ?_
    show Goes p e below _ T37 (mkF m 281 #[.val (.int p1), .val (.int p2), .val (.int p3), .val (.int p4), .val (.int p5), .val (.long x0), .second, .val (.long x1), .second, .val (.long x2), .second, .val (.long x3), .second, .val (.long o0), .second, .val (.long o1), .second, .val (.long o2), .second, .val (.long o3), .second, .val (.long z0), .second, .val (.long z1), .second, .val (.long z2), .second, .val (.long z3), .second, .val (.int (4 : Int32)), .val (.ref ax), .val (.ref ay), .unset, .unset, .unset, .unset] [(.long z1), (.long z0)])
    refine callC X37 hx hZ hown (hw _ (List.mem_of_getElem? (i := 9) rfl)) (hw _ (List.mem_of_getElem? (i := 10) rfl)) (hw _ (List.mem_of_getElem? (i := 2) rfl)) (hw _ (List.mem_of_getElem? (i := 11) rfl)) (by decide) (as := [(.long z0), (.long z1)]) (rm4 l Z a0 hw z0 z1 h37 n0 Z37 (by omega) (by omega)) 0 (by decide) (by decide) e37 (by decide) (by decide) (g := mkF m 281 #[.val (.int p1), .val (.int p2), .val (.int p3), .val (.int p4), .val (.int p5), .val (.long x0), .second, .val (.long x1), .second, .val (.long x2), .second, .val (.long x3), .second, .val (.long o0), .second, .val (.long o1), .second, .val (.long o2), .second, .val (.long o3), .second, .val (.long z0), .second, .val (.long z1), .second, .val (.long z2), .second, .val (.long z3), .second, .val (.int (4 : Int32)), .val (.ref ax), .val (.ref ay), .unset, .unset, .unset, .unset] [(.long z1), (.long z0)]) rfl (by rw [hml]; rfl) (rest := []) (lenOf pd_1 rfl) rfl (by show 2 * 0 + _ ≤ _; exact Nat.le_of_eq rfl) (Jvm.hb hby at_281) ?_
    rintro _ T38 L38 X38 ⟨⟨t0, rfl, et0⟩, N38, e38⟩
    show Goes p e below _ T38 (mkF m 284 #[.val (.int p1), .val (.int p2), .val (.int p3), .val (.int p4), .val (.int p5), .val (.long x0), .second, .val (.long x1), .second, .val (.long x2), .second, .val (.long x3), .second, .val (.long o0), .second, .val (.long o1), .second, .val (.long o2), .second, .val (.long o3), .second, .val (.long z0), .second, .val (.long z1), .second, .val (.long z2), .second, .val (.long z3), .second, .val (.int (4 : Int32)), .val (.ref ax), .val (.ref ay), .unset, .unset, .unset, .unset] [(.long t0)])
    rw [tm_z (x0.toInt - o0.toInt) (x1.toInt - o1.toInt) _ _ ez0 ez1] at et0
    have bt0 := (tm_b (d := (x0.toInt - o0.toInt)) (n := (x1.toInt - o1.toInt)) (by omega) (by omega)).2.2.2.2
    have NN0 := Fr.app N37 N38
    refine Goes.of (fun _ kont => XT.lload X38.here hx rfl (Jvm.hb hby at_284) rfl kont) ?_
    show Goes p e below _ T38 (mkF m 286 #[.val (.int p1), .val (.int p2), .val (.int p3), .val (.int p4), .val (.int p5), .val (.long x0), .second, .val (.long x1), .second, .val (.long x2), .second, .val (.long x3), .second, .val (.long o0), .second, .val (.long o1), .second, .val (.long o2), .second, .val (.long o3), .second, .val (.long z0), .second, .val (.long z1), .second, .val (.long z2), .second, .val (.long z3), .second, .val (.int (4 : Int32)), .val (.ref ax), .val (.ref ay), .unset, .unset, .unset, .unset] [(.long z1), (.long t0)])
    refine Goes.of (fun _ kont => XT.lload X38.here hx rfl (Jvm.hb hby at_286) rfl kont) ?_
    show Goes p e below _ T38 (mkF m 288 #[.val (.int p1), .val (.int p2), .val (.int p3), .val (.int p4), .val (.int p5), .val (.long x0), .second, .val (.long x1), .second, .val (.long x2), .second, .val (.long x3), .second, .val (.long o0), .second, .val (.long o1), .second, .val (.long o2), .second, .val (.long o3), .second, .val (.long z0), .second, .val (.long z1), .second, .val (.long z2), .second, .val (.long z3), .second, .val (.int (4 : Int32)), .val (.ref ax), .val (.ref ay), .unset, .unset, .unset, .unset] [(.long z2), (.long z1), (.long t0)])
    refine callC X38 hx hZ hown (hw _ (List.mem_of_getElem? (i := 9) rfl)) (hw _ (List.mem_of_getElem? (i := 10) rfl)) (hw _ (List.mem_of_getElem? (i := 2) rfl)) (hw _ (List.mem_of_getElem? (i := 11) rfl)) (by decide) (as := [(.long z1), (.long z2)]) (rm4 l Z a0 hw z1 z2 h37 n0 Z37 (by omega) (by omega)) 2 (by decide) (by decide) e38 (by decide) (by decide) (g := mkF m 288 #[.val (.int p1), .val (.int p2), .val (.int p3), .val (.int p4), .val (.int p5), .val (.long x0), .second, .val (.long x1), .second, .val (.long x2), .second, .val (.long x3), .second, .val (.long o0), .second, .val (.long o1), .second, .val (.long o2), .second, .val (.long o3), .second, .val (.long z0), .second, .val (.long z1), .second, .val (.long z2), .second, .val (.long z3), .second, .val (.int (4 : Int32)), .val (.ref ax), .val (.ref ay), .unset, .unset, .unset, .unset] [(.long z2), (.long z1), (.long t0)]) rfl (by rw [hml]; rfl) (rest := [(.long t0)]) (lenOf pd_1 rfl) rfl (by show 2 * 0 + _ ≤ _; exact Nat.le_of_eq rfl) (Jvm.hb hby at_288) ?_
    rintro _ T39 L39 X39 ⟨⟨t1, rfl, et1⟩, N39, e39⟩
    show Goes p e below _ T39 (mkF m 291 #[.val (.int p1), .val (.int p2), .val (.int p3), .val (.int p4), .val (.int p5), .val (.long x0), .second, .val (.long x1), .second, .val (.long x2), .second, .val (.long x3), .second, .val (.long o0), .second, .val (.long o1), .second, .val (.long o2), .second, .val (.long o3), .second, .val (.long z0), .second, .val (.long z1), .second, .val (.long z2), .second, .val (.long z3), .second, .val (.int (4 : Int32)), .val (.ref ax), .val (.ref ay), .unset, .unset, .unset, .unset] [(.long t1), (.long t0)])
    rw [tm_z (x1.toInt - o1.toInt) (x2.toInt - o2.toInt) _ _ ez1 ez2] at et1
    have bt1 := (tm_b (d := (x1.toInt - o1.toInt)) (n := (x2.toInt - o2.toInt)) (by omega) (by omega)).2.2.2.2
    have NN1 := Fr.app NN0 N39
    refine Goes.of (fun _ kont => XT.ladd X39.here hx rfl (Jvm.hb hby at_291) rfl kont) ?_
    show Goes p e below _ T39 (mkF m 292 #[.val (.int p1), .val (.int p2), .val (.int p3), .val (.int p4), .val (.int p5), .val (.long x0), .second, .val (.long x1), .second, .val (.long x2), .second, .val (.long x3), .second, .val (.long o0), .second, .val (.long o1), .second, .val (.long o2), .second, .val (.long o3), .second, .val (.long z0), .second, .val (.long z1), .second, .val (.long z2), .second, .val (.long z3), .second, .val (.int (4 : Int32)), .val (.ref ax), .val (.ref ay), .unset, .unset, .unset, .unset] [(.long (t0 + t1))])
    generalize hs1 : (t0 + t1) = s1
    show Goes p e below _ T39 (mkF m 292 #[.val (.int p1), .val (.int p2), .val (.int p3), .val (.int p4), .val (.int p5), .val (.long x0), .second, .val (.long x1), .second, .val (.long x2), .second, .val (.long x3), .second, .val (.long o0), .second, .val (.long o1), .second, .val (.long o2), .second, .val (.long o3), .second, .val (.long z0), .second, .val (.long z1), .second, .val (.long z2), .second, .val (.long z3), .second, .val (.int (4 : Int32)), .val (.ref ax), .val (.ref ay), .unset, .unset, .unset, .unset] [(.long s1)])
    refine Goes.of (fun _ kont => XT.lload X39.here hx rfl (Jvm.hb hby at_292) rfl kont) ?_
    show Goes p e below _ T39 (mkF m 294 #[.val (.int p1), .val (.int p2), .val (.int p3), .val (.int p4), .val (.int p5), .val (.long x0), .second, .val (.long x1), .second, .val (.long x2), .second, .val (.long x3), .second, .val (.long o0), .second, .val (.long o1), .second, .val (.long o2), .second, .val (.long o3), .second, .val (.long z0), .second, .val (.long z1), .second, .val (.long z2), .second, .val (.long z3), .second, .val (.int (4 : Int32)), .val (.ref ax), .val (.ref ay), .unset, .unset, .unset, .unset] [(.long z2), (.long s1)])
    refine Goes.of (fun _ kont => XT.lload X39.here hx rfl (Jvm.hb hby at_294) rfl kont) ?_
    show Goes p e below _ T39 (mkF m 296 #[.val (.int p1), .val (.int p2), .val (.int p3), .val (.int p4), .val (.int p5), .val (.long x0), .second, .val (.long x1), .second, .val (.long x2), .second, .val (.long x3), .second, .val (.long o0), .second, .val (.long o1), .second, .val (.long o2), .second, .val (.long o3), .second, .val (.long z0), .second, .val (.long z1), .second, .val (.long z2), .second, .val (.long z3), .second, .val (.int (4 : Int32)), .val (.ref ax), .val (.ref ay), .unset, .unset, .unset, .unset] [(.long z3), (.long z2), (.long s1)])
    refine callC X39 hx hZ hown (hw _ (List.mem_of_getElem? (i := 9) rfl)) (hw _ (List.mem_of_getElem? (i := 10) rfl)) (hw _ (List.mem_of_getElem? (i := 2) rfl)) (hw _ (List.mem_of_getElem? (i := 11) rfl)) (by decide) (as := [(.long z2), (.long z3)]) (rm4 l Z a0 hw z2 z3 h37 n0 Z37 (by omega) (by omega)) 2 (by decide) (by decide) e39 (by decide) (by decide) (g := mkF m 296 #[.val (.int p1), .val (.int p2), .val (.int p3), .val (.int p4), .val (.int p5), .val (.long x0), .second, .val (.long x1), .second, .val (.long x2), .second, .val (.long x3), .second, .val (.long o0), .second, .val (.long o1), .second, .val (.long o2), .second, .val (.long o3), .second, .val (.long z0), .second, .val (.long z1), .second, .val (.long z2), .second, .val (.long z3), .second, .val (.int (4 : Int32)), .val (.ref ax), .val (.ref ay), .unset, .unset, .unset, .unset] [(.long z3), (.long z2), (.long s1)]) rfl (by rw [hml]; rfl) (rest := [(.long s1)]) (lenOf pd_1 rfl) rfl (by show 2 * 0 + _ ≤ _; exact Nat.le_of_eq rfl) (Jvm.hb hby at_296) ?_
    rintro _ T40 L40 X40 ⟨⟨t2, rfl, et2⟩, N40, e40⟩
    show Goes p e below _ T40 (mkF m 299 #[.val (.int p1), .val (.int p2), .val (.int p3), .val (.int p4), .val (.int p5), .val (.long x0), .second, .val (.long x1), .second, .val (.long x2), .second, .val (.long x3), .second, .val (.long o0), .second, .val (.long o1), .second, .val (.long o2), .second, .val (.long o3), .second, .val (.long z0), .second, .val (.long z1), .second, .val (.long z2), .second, .val (.long z3), .second, .val (.int (4 : Int32)), .val (.ref ax), .val (.ref ay), .unset, .unset, .unset, .unset] [(.long t2), (.long s1)])
    rw [tm_z (x2.toInt - o2.toInt) (x3.toInt - o3.toInt) _ _ ez2 ez3] at et2
    have bt2 := (tm_b (d := (x2.toInt - o2.toInt)) (n := (x3.toInt - o3.toInt)) (by omega) (by omega)).2.2.2.2
    have NN2 := Fr.app NN1 N40
    refine Goes.of (fun _ kont => XT.ladd X40.here hx rfl (Jvm.hb hby at_299) rfl kont) ?_
    show Goes p e below _ T40 (mkF m 300 #[.val (.int p1), .val (.int p2), .val (.int p3), .val (.int p4), .val (.int p5), .val (.long x0), .second, .val (.long x1), .second, .val (.long x2), .second, .val (.long x3), .second, .val (.long o0), .second, .val (.long o1), .second, .val (.long o2), .second, .val (.long o3), .second, .val (.long z0), .second, .val (.long z1), .second, .val (.long z2), .second, .val (.long z3), .second, .val (.int (4 : Int32)), .val (.ref ax), .val (.ref ay), .unset, .unset, .unset, .unset] [(.long (s1 + t2))])
    generalize hex : (s1 + t2) = ex
    show Goes p e below _ T40 (mkF m 300 #[.val (.int p1), .val (.int p2), .val (.int p3), .val (.int p4), .val (.int p5), .val (.long x0), .second, .val (.long x1), .second, .val (.long x2), .second, .val (.long x3), .second, .val (.long o0), .second, .val (.long o1), .second, .val (.long o2), .second, .val (.long o3), .second, .val (.long z0), .second, .val (.long z1), .second, .val (.long z2), .second, .val (.long z3), .second, .val (.int (4 : Int32)), .val (.ref ax), .val (.ref ay), .unset, .unset, .unset, .unset] [(.long ex)])
    have es1 := own_ladd hs1 (by omega) (by omega)
    rw [et0, et1] at es1
    have eex := own_ladd hex (by omega) (by omega)
    rw [es1, et2] at eex
    refine Goes.of (fun _ kont => XT.lstore X40.here hx rfl (Jvm.hb hby at_300) rfl (l' := #[.val (.int p1), .val (.int p2), .val (.int p3), .val (.int p4), .val (.int p5), .val (.long x0), .second, .val (.long x1), .second, .val (.long x2), .second, .val (.long x3), .second, .val (.long o0), .second, .val (.long o1), .second, .val (.long o2), .second, .val (.long o3), .second, .val (.long z0), .second, .val (.long z1), .second, .val (.long z2), .second, .val (.long z3), .second, .val (.int (4 : Int32)), .val (.ref ax), .val (.ref ay), .val (.long ex), .second, .unset, .unset]) rfl kont) ?_
    show Goes p e below _ T40 (mkF m 302 #[.val (.int p1), .val (.int p2), .val (.int p3), .val (.int p4), .val (.int p5), .val (.long x0), .second, .val (.long x1), .second, .val (.long x2), .second, .val (.long x3), .second, .val (.long o0), .second, .val (.long o1), .second, .val (.long o2), .second, .val (.long o3), .second, .val (.long z0), .second, .val (.long z1), .second, .val (.long z2), .second, .val (.long z3), .second, .val (.int (4 : Int32)), .val (.ref ax), .val (.ref ay), .val (.long ex), .second, .unset, .unset] [])
    refine Goes.of (fun _ kont => XS.aload X40.here hx rfl (Jvm.hb hby at_302) rfl rfl kont) ?_
    show Goes p e below _ T40 (mkF m 304 #[.val (.int p1), .val (.int p2), .val (.int p3), .val (.int p4), .val (.int p5), .val (.long x0), .second, .val (.long x1), .second, .val (.long x2), .second, .val (.long x3), .second, .val (.long o0), .second, .val (.long o1), .second, .val (.long o2), .second, .val (.long o3), .second, .val (.long z0), .second, .val (.long z1), .second, .val (.long z2), .second, .val (.long z3), .second, .val (.int (4 : Int32)), .val (.ref ax), .val (.ref ay), .val (.long ex), .second, .unset, .unset] [(.ref ax)])
    refine Goes.of (fun _ kont => XS.aload X40.here hx rfl (Jvm.hb hby at_304) rfl rfl kont) ?_
    show Goes p e below _ T40 (mkF m 306 #[.val (.int p1), .val (.int p2), .val (.int p3), .val (.int p4), .val (.int p5), .val (.long x0), .second, .val (.long x1), .second, .val (.long x2), .second, .val (.long x3), .second, .val (.long o0), .second, .val (.long o1), .second, .val (.long o2), .second, .val (.long o3), .second, .val (.long z0), .second, .val (.long z1), .second, .val (.long z2), .second, .val (.long z3), .second, .val (.int (4 : Int32)), .val (.ref ax), .val (.ref ay), .val (.long ex), .second, .unset, .unset] [(.ref ay), (.ref ax)])
    refine callC X40 hx hZ hown (hw _ (List.mem_of_getElem? (i := 13) rfl)) (hw _ (List.mem_of_getElem? (i := 14) rfl)) (hw _ (List.mem_of_getElem? (i := 15) rfl)) (hw _ (List.mem_of_getElem? (i := 16) rfl)) (by decide) (as := [(.ref ax), (.ref ay)]) (rm1_4 l Z a0 hw ax ay (FP.l2d x0) (FP.l2d o0) x0.toInt o0.toInt (FP.l2d x1) (FP.l2d o1) x1.toInt o1.toInt (FP.l2d x2) (FP.l2d o2) x2.toInt o2.toInt (FP.l2d x3) (FP.l2d o3) x3.toInt o3.toInt h37 n0 Z37 V_ax_37 V_ay_37 Dx0 Do0 bx0 bo0 Dx1 Do1 bx1 bo1 Dx2 Do2 bx2 bo2 Dx3 Do3 bx3 bo3) 0 (by decide) (by decide) e40 (by decide) (by decide) (g := mkF m 306 #[.val (.int p1), .val (.int p2), .val (.int p3), .val (.int p4), .val (.int p5), .val (.long x0), .second, .val (.long x1), .second, .val (.long x2), .second, .val (.long x3), .second, .val (.long o0), .second, .val (.long o1), .second, .val (.long o2), .second, .val (.long o3), .second, .val (.long z0), .second, .val (.long z1), .second, .val (.long z2), .second, .val (.long z3), .second, .val (.int (4 : Int32)), .val (.ref ax), .val (.ref ay), .val (.long ex), .second, .unset, .unset] [(.ref ay), (.ref ax)]) rfl (by rw [hml]; rfl) (rest := []) (lenOf pd_2 rfl) rfl (by show 2 * 0 + _ ≤ _; exact Nat.le_of_eq rfl) (Jvm.hb hby at_306) ?_
    rintro _ T41 L41 X41 ⟨⟨zz41, rfl, Dz41⟩, N41, e41⟩
    show Goes p e below _ T41 (mkF m 309 #[.val (.int p1), .val (.int p2), .val (.int p3), .val (.int p4), .val (.int p5), .val (.long x0), .second, .val (.long x1), .second, .val (.long x2), .second, .val (.long x3), .second, .val (.long o0), .second, .val (.long o1), .second, .val (.long o2), .second, .val (.long o3), .second, .val (.long z0), .second, .val (.long z1), .second, .val (.long z2), .second, .val (.long z3), .second, .val (.int (4 : Int32)), .val (.ref ax), .val (.ref ay), .val (.long ex), .second, .unset, .unset] [(.double zz41)])
    refine Goes.of (fun _ kont => XS.dstore X41.here hx rfl (Jvm.hb hby at_309) rfl (l' := #[.val (.int p1), .val (.int p2), .val (.int p3), .val (.int p4), .val (.int p5), .val (.long x0), .second, .val (.long x1), .second, .val (.long x2), .second, .val (.long x3), .second, .val (.long o0), .second, .val (.long o1), .second, .val (.long o2), .second, .val (.long o3), .second, .val (.long z0), .second, .val (.long z1), .second, .val (.long z2), .second, .val (.long z3), .second, .val (.int (4 : Int32)), .val (.ref ax), .val (.ref ay), .val (.long ex), .second, .val (.double zz41), .second]) rfl kont) ?_
    show Goes p e below _ T41 (mkF m 311 #[.val (.int p1), .val (.int p2), .val (.int p3), .val (.int p4), .val (.int p5), .val (.long x0), .second, .val (.long x1), .second, .val (.long x2), .second, .val (.long x3), .second, .val (.long o0), .second, .val (.long o1), .second, .val (.long o2), .second, .val (.long o3), .second, .val (.long z0), .second, .val (.long z1), .second, .val (.long z2), .second, .val (.long z3), .second, .val (.int (4 : Int32)), .val (.ref ax), .val (.ref ay), .val (.long ex), .second, .val (.double zz41), .second] [])
    refine Goes.of (fun _ kont => XS.dload X41.here hx rfl (Jvm.hb hby at_311) rfl kont) ?_
    show Goes p e below _ T41 (mkF m 313 #[.val (.int p1), .val (.int p2), .val (.int p3), .val (.int p4), .val (.int p5), .val (.long x0), .second, .val (.long x1), .second, .val (.long x2), .second, .val (.long x3), .second, .val (.long o0), .second, .val (.long o1), .second, .val (.long o2), .second, .val (.long o3), .second, .val (.long z0), .second, .val (.long z1), .second, .val (.long z2), .second, .val (.long z3), .second, .val (.int (4 : Int32)), .val (.ref ax), .val (.ref ay), .val (.long ex), .second, .val (.double zz41), .second] [(.double zz41)])
    refine Goes.of (fun _ kont => XT.lload X41.here hx rfl (Jvm.hb hby at_313) rfl kont) ?_
    show Goes p e below _ T41 (mkF m 315 #[.val (.int p1), .val (.int p2), .val (.int p3), .val (.int p4), .val (.int p5), .val (.long x0), .second, .val (.long x1), .second, .val (.long x2), .second, .val (.long x3), .second, .val (.long o0), .second, .val (.long o1), .second, .val (.long o2), .second, .val (.long o3), .second, .val (.long z0), .second, .val (.long z1), .second, .val (.long z2), .second, .val (.long z3), .second, .val (.int (4 : Int32)), .val (.ref ax), .val (.ref ay), .val (.long ex), .second, .val (.double zz41), .second] [(.long ex), (.double zz41)])
    refine Goes.of (fun _ kont => XS.l2dS X41.here hx rfl (Jvm.hb hby at_315) rfl rfl kont) ?_
    show Goes p e below _ T41 (mkF m 316 #[.val (.int p1), .val (.int p2), .val (.int p3), .val (.int p4), .val (.int p5), .val (.long x0), .second, .val (.long x1), .second, .val (.long x2), .second, .val (.long x3), .second, .val (.long o0), .second, .val (.long o1), .second, .val (.long o2), .second, .val (.long o3), .second, .val (.long z0), .second, .val (.long z1), .second, .val (.long z2), .second, .val (.long z3), .second, .val (.int (4 : Int32)), .val (.ref ax), .val (.ref ay), .val (.long ex), .second, .val (.double zz41), .second] [(.double (FP.l2d ex)), (.double zz41)])
    refine Goes.of (fun _ kont => XS.dcmpS X41.here hx rfl (Jvm.hb hby at_316) rfl rfl kont) ?_
    show Goes p e below _ T41 (mkF m 317 #[.val (.int p1), .val (.int p2), .val (.int p3), .val (.int p4), .val (.int p5), .val (.long x0), .second, .val (.long x1), .second, .val (.long x2), .second, .val (.long x3), .second, .val (.long o0), .second, .val (.long o1), .second, .val (.long o2), .second, .val (.long o3), .second, .val (.long z0), .second, .val (.long z1), .second, .val (.long z2), .second, .val (.long z3), .second, .val (.int (4 : Int32)), .val (.ref ax), .val (.ref ay), .val (.long ex), .second, .val (.double zz41), .second] [(.int (cmpValue (FP.dcmp zz41 (FP.l2d ex)) .l))])
    have De := dy_l2d (n := ex) (by rw [eex]; omega)
    rw [eex] at De
    refine Goes.of (fun _ kont => XS.ifNo X41.here hx rfl (Jvm.hb hby at_317) rfl (by rw [dy_eq Dz41 De rfl]; decide) kont) ?_
    show Goes p e below _ T41 (mkF m 320 #[.val (.int p1), .val (.int p2), .val (.int p3), .val (.int p4), .val (.int p5), .val (.long x0), .second, .val (.long x1), .second, .val (.long x2), .second, .val (.long x3), .second, .val (.long o0), .second, .val (.long o1), .second, .val (.long o2), .second, .val (.long o3), .second, .val (.long z0), .second, .val (.long z1), .second, .val (.long z2), .second, .val (.long z3), .second, .val (.int (4 : Int32)), .val (.ref ax), .val (.ref ay), .val (.long ex), .second, .val (.double zz41), .second] [])
    refine Goes.of (fun _ kont => XS.iconst X41.here hx rfl (Jvm.hb hby at_320) kont) ?_
    show Goes p e below _ T41 (mkF m 321 #[.val (.int p1), .val (.int p2), .val (.int p3), .val (.int p4), .val (.int p5), .val (.long x0), .second, .val (.long x1), .second, .val (.long x2), .second, .val (.long x3), .second, .val (.long o0), .second, .val (.long o1), .second, .val (.long o2), .second, .val (.long o3), .second, .val (.long z0), .second, .val (.long z1), .second, .val (.long z2), .second, .val (.long z3), .second, .val (.int (4 : Int32)), .val (.ref ax), .val (.ref ay), .val (.long ex), .second, .val (.double zz41), .second] [(.int (1 : Int32))])
    refine Goes.of (fun _ kont => XS.goto X41.here hx rfl (pc0 := 321) (pc' := 325) rfl (Jvm.hb hby at_321) (by decide) (by decide) kont) ?_
    show Goes p e below _ T41 (mkF m 325 #[.val (.int p1), .val (.int p2), .val (.int p3), .val (.int p4), .val (.int p5), .val (.long x0), .second, .val (.long x1), .second, .val (.long x2), .second, .val (.long x3), .second, .val (.long o0), .second, .val (.long o1), .second, .val (.long o2), .second, .val (.long o3), .second, .val (.long z0), .second, .val (.long z1), .second, .val (.long z2), .second, .val (.long z3), .second, .val (.int (4 : Int32)), .val (.ref ax), .val (.ref ay), .val (.long ex), .second, .val (.double zz41), .second] [(.int (1 : Int32))])
    exact retB X41 hx hlk (t := .boolean) hret (by simp) (Jvm.hb hby at_325) (by decide) (by decide) ⟨rfl, Fr.app NN2 N41⟩
set_option maxRecDepth 65536 in
set_option maxHeartbeats 40000000 in
theorem comes_1 {Post : Tables → Env → Array Value → State → Outcome → State → Prop} (hpost : ∀ tb e args s v u, (limb_1_1.after args s (.returned v) u = true ∧ limb_1_2.after args s (.returned v) u = true ∧ True) → FrameEnd s (.returned v) u (Jvm.fieldLocs frame_1_writes args s ++ Jvm.arrayLocs frame_1_arrays args s ++ Jvm.staticLocs frame_1_statics s) 16 128 → Post tb e args s (.returned v) u) :
    ArmFor flags0 classFile x code maxLocals ret World_1 tables_1 room_1 Calls_1 rest_1 Pre_1 Post := by
  intro l hfl _ _ p e ha hc hk s m args below hf hA hF happ hP
  obtain ⟨hcalls, hrest, hpre⟩ := hP
  obtain ⟨-, -, -, hnamed, -, -, -, hat⟩ := (Spec.applies_iff hf).mp happ
  obtain ⟨hg, hn⟩ := and_e (Cond.before_iff.mp (show (Jvm.Cond.and given_1 narrow_1).before args s = true from hpre))
  obtain ⟨g0, r0⟩ := and_e hg
  obtain ⟨g1, r1⟩ := and_e r0
  obtain ⟨g2, r2⟩ := and_e r1
  obtain ⟨g3, r3⟩ := and_e r2
  obtain ⟨g4, r4⟩ := and_e r3
  obtain ⟨w0, w1, w2, w3, w4, rfl⟩ : ∃ w0 w1 w2 w3 w4 : Value, args = #[w0, w1, w2, w3, w4] := by
    have hs : args.size = 5 := by simpa [Cond.value, given_1] using g0
    obtain ⟨L⟩ := args
    match L, hs with
    | [w0, w1, w2, w3, w4], _ => exact ⟨w0, w1, w2, w3, w4, rfl⟩
  have hw := fun d (hd : d ∈ tables_1) => atoms_spec (ws := Jvm.Cond.code x code maxLocals ret :: tables_1) hat d (List.mem_cons_of_mem _ hd)
  obtain ⟨i0, ei0⟩ := is_v g1
  obtain rfl : w0 = (.int i0) := Option.some.inj ei0
  obtain ⟨i1, ei1⟩ := is_v g2
  obtain rfl : w1 = (.int i1) := Option.some.inj ei1
  obtain ⟨i2, ei2⟩ := is_v g3
  obtain rfl : w2 = (.int i2) := Option.some.inj ei2
  obtain ⟨i3, ei3⟩ := is_v g4
  obtain rfl : w3 = (.int i3) := Option.some.inj ei3
  obtain ⟨i4, ei4⟩ := is_v r4
  obtain rfl : w4 = (.int i4) := Option.some.inj ei4
  obtain ⟨n, o, h1, h2, h3, _, L, rfl, ⟨rfl, N⟩, hq⟩ := rm0 l s _ hw i0 i1 i2 i3 i4 s.heap s.heap.size (Nat.le_refl _) tables_1 p e ha hc hk s m _ below hf ((Spec.applies_iff_loose hf).mp happ).1 ⟨rfl, State.Warmed39.refl s, rfl⟩ trivial
  refine ⟨n, _, h1, h2, h3, hpost _ _ _ _ _ _ ⟨Cond.after_iff.mpr rfl, Cond.after_iff.mpr (eq_i res_at (Term.int_eval (1)) rfl), trivial⟩ ⟨hq.1, hq.2.1, (hq.2.2.sift fun y hy => Or.inr (N y hy)).mono (by decide) (by decide)⟩⟩
theorem main_1_1 : Claimed_1_1 := comes_1 fun _ _ _ _ _ _ h hF => ⟨h.1, hF⟩
theorem main_1_2 : Claimed_1_2 := comes_1 fun _ _ _ _ _ _ h hF => ⟨h.2.1, hF⟩
end Jvm.Pilot.@@N@@
namespace Jvm.Pilot.@@N@@
open Jvm Jvm.ClassFile Sem Op Lib Jvm.Free Jvm.Stand Jvm.Pilot.@@N@@.Jvm.D
/-! MADE BY PROGRAM (witnessworld.py) out of the Statement's table words and the real class files: 11 classes; the members and pool entries that the words name. The judged class is class 1, her method 4. -/
namespace start1
open Jvm.ClassFile
def u (s : String) : CpInfo := .utf8 (stringToUtf16 s)
/-- a pool by its gaps: so many unusable entries, then the entry; so many at the end -/
def gap : Nat → List CpInfo → List CpInfo
  | 0, r => r
  | n + 1, r => .unusable :: gap n r
def poolList (es : List (Nat × CpInfo)) (last : Nat) : List CpInfo := es.foldr (fun e r => gap e.1 (e.2 :: r)) (gap last [])
def pool (es : List (Nat × CpInfo)) (last : Nat) : Array CpInfo := ⟨poolList es last⟩
def fileOf (pool : Array CpInfo) (this : Nat) (attrs : Array Attribute := #[]) (ms : Array MethodInfo := #[]) (fl : Nat := 33) (sup : Nat := 0) (ifs : Array Nat := #[]) (fds : Array FieldInfo := #[]) : ClassFile where
  minorVersion := 0
  majorVersion := 65
  constantPool := pool
  accessFlags := fl
  thisClass := this
  superClass := sup
  interfaces := ifs
  fields := fds
  methods := ms
  attributes := attrs
def plain (name : String) (sup : Option ClassId) : Class where
  name := name
  kind := .ordinary
  loader := none
  accessFlags := 33
  super := sup
  interfaces := #[]
  cf := none
  fields := #[]
  methods := #[]
  instanceTypes := #[]
  staticTypes := #[]
  resolved := #[]
  callSites := []
  init := .initialized
  statics := none
  mirror := none

def pool0 : Array CpInfo := pool [(5, u "<init>"), (0, u "()V"), (1, .class_ 10), (1, u "java/lang/Object")] 113

def k0m0 : Method := { name := "<init>", desc := "()V", sig := { parameters := [], returnType := none }, accessFlags := 1, code := none }
/-- java/lang/Object -/
def k0 : Class := { plain "java/lang/Object" none with
  accessFlags := 33
  interfaces := #[]
  cf := some (fileOf pool0 8 #[] #[{ accessFlags := 1, nameIndex := 5, descriptorIndex := 6, attributes := #[] }] 33 0 #[] #[])
  fields := #[]
  methods := #[k0m0]
  instanceTypes := #[]
  staticTypes := #[]
  resolved := Array.replicate 124 none
  statics := none }

def pool1 : Array CpInfo := pool [(2, .class_ 4), (1, u "java/lang/Object"), (0, u "<init>"), (0, u "()V"), (0, .long 100), (1, .methodref 10 11), (0, .class_ 12), (0, .nameAndType 13 14), (0, u "com/example/memechain/memechain/benchmark/FunctionsShiftedRosenbrockPinLaw"), (0, u "coord"), (0, u "(I)J"), (0, .methodref 10 16), (0, .nameAndType 17 14), (0, u "shiftOf"), (0, .integer 2147483647), (0, .methodref 10 20), (0, .nameAndType 21 22), (0, u "term"), (0, u "(JJ)J"), (0, .methodref 24 25), (0, .class_ 26), (0, .nameAndType 27 28), (0, u "com/example/memechain/memechain/benchmark/Functions"), (0, u "shiftedRosenbrock"), (0, u "([D[D)D"), (2, u "law"), (0, u "(IIIII)Z")] 5

def k1m0 : Method := { name := "<init>", desc := "()V", sig := { parameters := [], returnType := none }, accessFlags := 1, code := none }
def k1c1 : Code := { maxStack := 6, maxLocals := 8, code := method_2_code, exceptionTable := #[], attributes := #[] }
def k1m1 : Method := { name := "term", desc := "(JJ)J", sig := { parameters := [.long, .long], returnType := some .long }, accessFlags := 10, code := some k1c1 }
def k1c2 : Code := { maxStack := 2, maxLocals := 1, code := method_3_code, exceptionTable := #[], attributes := #[] }
def k1m2 : Method := { name := "coord", desc := "(I)J", sig := { parameters := [.int], returnType := some .long }, accessFlags := 10, code := some k1c2 }
def k1c3 : Code := { maxStack := 2, maxLocals := 1, code := method_4_code, exceptionTable := #[], attributes := #[] }
def k1m3 : Method := { name := "shiftOf", desc := "(I)J", sig := { parameters := [.int], returnType := some .long }, accessFlags := 10, code := some k1c3 }
def k1c4 : Code := { maxStack := 6, maxLocals := 36, code := code, exceptionTable := #[], attributes := #[] }
def k1m4 : Method := { name := "law", desc := "(IIIII)Z", sig := { parameters := [.int, .int, .int, .int, .int], returnType := some .boolean }, accessFlags := 9, code := some k1c4 }
/-- com/example/memechain/memechain/benchmark/FunctionsShiftedRosenbrockPinLaw -/
def k1 : Class := { plain "com/example/memechain/memechain/benchmark/FunctionsShiftedRosenbrockPinLaw" (some 0) with
  accessFlags := 49
  interfaces := #[]
  cf := some (fileOf pool1 10 #[] #[{ accessFlags := 1, nameIndex := 5, descriptorIndex := 6, attributes := #[] }, { accessFlags := 10, nameIndex := 21, descriptorIndex := 22, attributes := #[] }, { accessFlags := 10, nameIndex := 13, descriptorIndex := 14, attributes := #[] }, { accessFlags := 10, nameIndex := 17, descriptorIndex := 14, attributes := #[] }, { accessFlags := 9, nameIndex := 31, descriptorIndex := 32, attributes := #[] }] 49 2 #[] #[])
  fields := #[]
  methods := #[k1m0, k1m1, k1m2, k1m3, k1m4]
  instanceTypes := #[]
  staticTypes := #[]
  resolved := Array.replicate 38 none
  statics := none }

def pool2 : Array CpInfo := pool [(4, .class_ 6), (1, u "java/lang/Object"), (0, u "<init>"), (0, u "()V"), (0, .class_ 10), (0, u "com/example/memechain/memechain/benchmark/Functions"), (35, u "CEC2008"), (0, u "Ljava/util/List;"), (10, u "SCALABILITY"), (6, u "ALL"), (40, u "SUITES"), (0, u "Ljava/util/Map;"), (11, .double 4611686018427387904), (14, .double 4636737291354636288), (18, u "([D[D)D"), (51, .class_ 207), (1, u "com/example/memechain/memechain/benchmark/Functions$ShiftedError"), (104, u "CEC2008_MAX_DIMENSION"), (0, u "I"), (2, u "PAIRS_MIN_DIMENSION"), (1, u "SMALLEST_SAFE_SQUARES"), (0, u "D"), (0, u "UNLIMITED"), (21, u "shiftedRosenbrock"), (18, .class_ 362), (0, u "com/example/memechain/memechain/benchmark/Functions$UnshiftedError")] 66

def k2m0 : Method := { name := "<init>", desc := "()V", sig := { parameters := [], returnType := none }, accessFlags := 2, code := none }
def k2c1 : Code := { maxStack := 8, maxLocals := 11, code := prog_26_method_14_code, exceptionTable := #[], attributes := #[] }
def k2m1 : Method := { name := "shiftedRosenbrock", desc := "([D[D)D", sig := { parameters := [(.array .double), (.array .double)], returnType := some .double }, accessFlags := 8, code := some k2c1 }
/-- com/example/memechain/memechain/benchmark/Functions -/
def k2 : Class := { plain "com/example/memechain/memechain/benchmark/Functions" (some 0) with
  accessFlags := 49
  interfaces := #[]
  cf := some (fileOf pool2 9 #[.nestMembers #[361, 205]] #[{ accessFlags := 2, nameIndex := 7, descriptorIndex := 8, attributes := #[] }, { accessFlags := 8, nameIndex := 342, descriptorIndex := 153, attributes := #[] }] 49 4 #[] #[{ accessFlags := 26, nameIndex := 312, descriptorIndex := 313, attributes := #[] }, { accessFlags := 26, nameIndex := 316, descriptorIndex := 313, attributes := #[] }, { accessFlags := 26, nameIndex := 318, descriptorIndex := 319, attributes := #[] }, { accessFlags := 26, nameIndex := 320, descriptorIndex := 313, attributes := #[] }, { accessFlags := 26, nameIndex := 46, descriptorIndex := 47, attributes := #[] }, { accessFlags := 26, nameIndex := 58, descriptorIndex := 47, attributes := #[] }, { accessFlags := 26, nameIndex := 65, descriptorIndex := 47, attributes := #[] }, { accessFlags := 26, nameIndex := 106, descriptorIndex := 107, attributes := #[] }])
  fields := #[{ name := "CEC2008_MAX_DIMENSION", type := .int, accessFlags := 26, slot := 0, constantValue := 0 }, { name := "PAIRS_MIN_DIMENSION", type := .int, accessFlags := 26, slot := 1, constantValue := 0 }, { name := "SMALLEST_SAFE_SQUARES", type := .double, accessFlags := 26, slot := 2, constantValue := 0 }, { name := "UNLIMITED", type := .int, accessFlags := 26, slot := 3, constantValue := 0 }, { name := "CEC2008", type := (.object "java/util/List"), accessFlags := 26, slot := 4, constantValue := 0 }, { name := "SCALABILITY", type := (.object "java/util/List"), accessFlags := 26, slot := 5, constantValue := 0 }, { name := "ALL", type := (.object "java/util/List"), accessFlags := 26, slot := 6, constantValue := 0 }, { name := "SUITES", type := (.object "java/util/Map"), accessFlags := 26, slot := 7, constantValue := 0 }]
  methods := #[k2m0, k2m1]
  instanceTypes := #[]
  staticTypes := #[.int, .int, .double, .int, (.object "java/util/List"), (.object "java/util/List"), (.object "java/util/List"), (.object "java/util/Map")]
  resolved := Array.replicate 429 none
  statics := none }

def pool3 : Array CpInfo := pool [(1, u "java/lang/Cloneable"), (0, .class_ 1), (0, u "java/lang/Object"), (0, .class_ 3)] 3

/-- java/lang/Cloneable -/
def k3 : Class := { plain "java/lang/Cloneable" (some 0) with
  accessFlags := 1537
  interfaces := #[]
  cf := some (fileOf pool3 2 #[] #[] 1537 4 #[] #[])
  fields := #[]
  methods := #[]
  instanceTypes := #[]
  staticTypes := #[]
  resolved := Array.replicate 8 none
  statics := none }

def pool4 : Array CpInfo := pool [(1, u "java/io/Serializable"), (0, .class_ 1), (0, u "java/lang/Object"), (0, .class_ 3)] 3

/-- java/io/Serializable -/
def k4 : Class := { plain "java/io/Serializable" (some 0) with
  accessFlags := 1537
  interfaces := #[]
  cf := some (fileOf pool4 2 #[] #[] 1537 4 #[] #[])
  fields := #[]
  methods := #[]
  instanceTypes := #[]
  staticTypes := #[]
  resolved := Array.replicate 8 none
  statics := none }

/-- the primitive byte -/
def k5 : Class := { plain "byte" none with kind := .primitive 'B', accessFlags := 0x411 }
/-- [B -/
def k6 : Class := { plain "[B" (some 0) with kind := .array 5 .byte, interfaces := #[3, 4], accessFlags := 1041 }

/-- the primitive double -/
def k7 : Class := { plain "double" none with kind := .primitive 'D', accessFlags := 0x411 }
/-- [D -/
def k8 : Class := { plain "[D" (some 0) with kind := .array 7 .double, interfaces := #[3, 4], accessFlags := 1041 }

/-- the primitive int -/
def k9 : Class := { plain "int" none with kind := .primitive 'I', accessFlags := 0x411 }
/-- [I -/
def k10 : Class := { plain "[I" (some 0) with kind := .array 9 .int, interfaces := #[3, 4], accessFlags := 1041 }

def heap : Heap := #[]
def classes : Array Class := #[k0, k1, k2, k3, k4, k5, k6, k7, k8, k9, k10]
def interned : List (Array UInt16 × Addr) := []
def slotsUsed : Nat := 0
def theMethod : MethodId := ⟨1, 4⟩
def args0 : Array Value := #[.int 5, .int 3, .int 7, .int 2, .int 2]
def aboutOver (below : List Frame) : State where
  vm := { classes := classes, interned := interned.toArray }
  heap := heap
  slotsUsed := slotsUsed
  threads := #[{ frames := .invoking theMethod args0 :: below }]
def below0 : List Frame := [.native { method := ⟨0, 0⟩, args := #[] }]
def about1 : State := aboutOver below0
def p0 : Program := .bare "" "" ""
def e0 : Env := launch0.env 0 0 0
theorem w_frames : about1.frames = Frame.invoking theMethod args0 :: below0 := rfl
set_option maxRecDepth 65536 in
theorem w_args : argsFit about1.vm theMethod args0 = true := by decide +kernel
set_option maxRecDepth 65536 in
theorem w_heap : heapFits about1 = true := by decide +kernel
set_option maxRecDepth 65536 in
theorem w_runnable : about1.curStatus? = some .runnable := by decide +kernel
set_option maxRecDepth 65536 in
theorem w_alone : about1.alone = true := by decide +kernel
set_option maxRecDepth 65536 in
theorem w_named : about1.methodNamed? x = some theMethod := by decide +kernel
set_option maxRecDepth 65536 in
theorem w_hears : about1.hears theMethod below0 = true := by decide +kernel
set_option maxRecDepth 65536 in
theorem w_ripe : about1.ripe theMethod args0 below0 = true := by decide +kernel
theorem w_running : about1.status = .running := rfl
set_option maxRecDepth 65536 in
theorem w_room : about1.hasRoom e0.platform room_1 = true :=
  launch0.hasRoom_least _ room_1 (by decide +kernel) (by decide +kernel) (by decide +kernel) (by decide +kernel) (by decide +kernel) (by decide +kernel)
theorem allAtoms_all (ts : List Jvm.Cond) (a : Array Jvm.Value) (st : Jvm.State) : (allAtoms ts).before a st = ts.all (fun c => c.before a st) := by
  induction ts with
  | nil => rfl
  | cons c t ih =>
    show (Jvm.Cond.and c (allAtoms t)).before a st = _
    rw [Jvm.Cond.before_and, ih, List.all_cons]
def words1 : List Jvm.Cond := Jvm.Cond.code x code maxLocals ret :: tables_1
/-- a 'code' word, met by the world's own term for the bytes: nothing is compared byte by byte -/
theorem code_word {y : MethodName} {bytes : ByteArray} {mx : Nat} {rt : Option FieldType} {a : Array Value} {s : State} {m : MethodId} {meth : Method} {c : Code} (h1 : s.methodNamed? y = some m) (h2 : s.vm.method? m = some meth) (h3 : meth.code = some c) (h4 : c.code = bytes)
    (h5 : (c.maxLocals == mx && c.exceptionTable.isEmpty && decide (c.maxStack ≤ mostOperands) && decide (meth.sig.returnType = rt) && !meth.locks && decide (parseMethodDescriptor y.desc = some meth.sig)) = true) : (Jvm.Cond.code y bytes mx rt).before a s = true := by
  simp only [Bool.and_eq_true, beq_iff_eq, Bool.not_eq_true', decide_eq_true_eq] at h5
  obtain ⟨⟨⟨⟨⟨g1, g2⟩, g3⟩, g4⟩, g5⟩, g6⟩ := h5
  simp [Cond.before, Cond.holds, Cond.value, h1, h2, h3, h4, g1, g2, g3, g4, g5, g6]
def isCode : Jvm.Cond → Bool
  | .code _ _ _ _ => true
  | _ => false
theorem all_split {L : List Jvm.Cond} {P : Jvm.Cond → Bool} (h1 : L.all (fun c => isCode c || P c) = true) (h2 : ∀ c ∈ L.filter isCode, P c = true) : L.all P = true := by
  refine List.all_eq_true.mpr fun c hc => ?_
  have h := List.all_eq_true.mp h1 c hc
  rcases Bool.eq_false_or_eq_true (isCode c) with hi | hi
  · exact h2 c (List.mem_filter.mpr ⟨hc, hi⟩)
  · simpa [hi] using h
set_option maxRecDepth 65536 in
theorem w_c0 : (Jvm.Cond.code x code maxLocals ret).before args0 about1 = true := code_word (m := ⟨1, 4⟩) (meth := k1m4) (c := k1c4) (by decide +kernel) rfl rfl rfl (by decide +kernel)
set_option maxRecDepth 65536 in
theorem w_c1 : (Jvm.Cond.code ({ cls := "com/example/memechain/memechain/benchmark/FunctionsShiftedRosenbrockPinLaw", name := "coord", desc := "(I)J" } : Jvm.MethodName) method_3_code (1 : Nat) (Option.some Jvm.ClassFile.FieldType.long)).before args0 about1 = true := code_word (m := ⟨1, 2⟩) (meth := k1m2) (c := k1c2) (by decide +kernel) rfl rfl rfl (by decide +kernel)
set_option maxRecDepth 65536 in
theorem w_c2 : (Jvm.Cond.code ({ cls := "com/example/memechain/memechain/benchmark/FunctionsShiftedRosenbrockPinLaw", name := "shiftOf", desc := "(I)J" } : Jvm.MethodName) method_4_code (1 : Nat) (Option.some Jvm.ClassFile.FieldType.long)).before args0 about1 = true := code_word (m := ⟨1, 3⟩) (meth := k1m3) (c := k1c3) (by decide +kernel) rfl rfl rfl (by decide +kernel)
set_option maxRecDepth 65536 in
theorem w_c3 : (Jvm.Cond.code ({ cls := "com/example/memechain/memechain/benchmark/FunctionsShiftedRosenbrockPinLaw", name := "term", desc := "(JJ)J" } : Jvm.MethodName) method_2_code (8 : Nat) (Option.some Jvm.ClassFile.FieldType.long)).before args0 about1 = true := code_word (m := ⟨1, 1⟩) (meth := k1m1) (c := k1c1) (by decide +kernel) rfl rfl rfl (by decide +kernel)
set_option maxRecDepth 65536 in
theorem w_c4 : (Jvm.Cond.code ({ cls := "com/example/memechain/memechain/benchmark/Functions", name := "shiftedRosenbrock", desc := "([D[D)D" } : Jvm.MethodName) prog_26_method_14_code (11 : Nat) (Option.some Jvm.ClassFile.FieldType.double)).before args0 about1 = true := code_word (m := ⟨2, 1⟩) (meth := k2m1) (c := k2c1) (by decide +kernel) rfl rfl rfl (by decide +kernel)
def codes1 : List Jvm.Cond := [Jvm.Cond.code x code maxLocals ret, Jvm.Cond.code ({ cls := "com/example/memechain/memechain/benchmark/FunctionsShiftedRosenbrockPinLaw", name := "coord", desc := "(I)J" } : Jvm.MethodName) method_3_code (1 : Nat) (Option.some Jvm.ClassFile.FieldType.long), Jvm.Cond.code ({ cls := "com/example/memechain/memechain/benchmark/FunctionsShiftedRosenbrockPinLaw", name := "shiftOf", desc := "(I)J" } : Jvm.MethodName) method_4_code (1 : Nat) (Option.some Jvm.ClassFile.FieldType.long), Jvm.Cond.code ({ cls := "com/example/memechain/memechain/benchmark/FunctionsShiftedRosenbrockPinLaw", name := "term", desc := "(JJ)J" } : Jvm.MethodName) method_2_code (8 : Nat) (Option.some Jvm.ClassFile.FieldType.long), Jvm.Cond.code ({ cls := "com/example/memechain/memechain/benchmark/Functions", name := "shiftedRosenbrock", desc := "([D[D)D" } : Jvm.MethodName) prog_26_method_14_code (11 : Nat) (Option.some Jvm.ClassFile.FieldType.double)]
set_option maxRecDepth 65536 in
theorem codes_eq : words1.filter isCode = codes1 := rfl
theorem w_codes : ∀ c ∈ words1.filter isCode, c.before args0 about1 = true := by
  rw [codes_eq]
  intro c hc
  simp only [codes1, List.mem_cons, List.not_mem_nil, or_false] at hc
  rcases hc with rfl | rfl | rfl | rfl | rfl
  · exact w_c0
  · exact w_c1
  · exact w_c2
  · exact w_c3
  · exact w_c4
set_option maxRecDepth 65536 in
theorem w_t1 : words1.all (fun c => isCode c || c.before args0 about1) = true := by decide +kernel
theorem w_tables : (allAtoms (Jvm.Cond.code x code maxLocals ret :: tables_1)).before args0 about1 = true := by
  rw [allAtoms_all]
  show words1.all (fun c => c.before args0 about1) = true
  refine all_split ?_ w_codes
  rw [w_t1]
set_option maxRecDepth 65536 in
theorem w_case : (Jvm.Cond.and given_1 narrow_1).before args0 about1 = true := by decide +kernel
theorem w_applies : (headSpec (Jvm.Cond.code x code maxLocals ret :: tables_1) room_1).applies x e0.platform about1 = true :=
  (Spec.applies_iff w_frames).mpr ⟨w_running, w_runnable, w_alone, w_named, w_hears, w_ripe, w_room, w_tables⟩
theorem atStart : AtStart classFile x code maxLocals ret World_1 tables_1 room_1 Calls_1 rest_1 Pre_1 launch0 p0 e0 about1 theMethod args0 below0 :=
  ⟨lists_1, trivial, launch0.admits_env _ _ _, launch0.least_env, fairChoices_fair.cas, fairChoices_fair.clock, w_frames, w_args, w_heap, w_applies, trivial, trivial, w_case⟩
end start1
theorem witness_1 : WitnessClaimed_1 := ⟨start1.p0, start1.e0, start1.about1, start1.theMethod, start1.args0, start1.below0, start1.atStart⟩
end Jvm.Pilot.@@N@@
