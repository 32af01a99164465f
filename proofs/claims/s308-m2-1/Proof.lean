import JvmDerived
import JvmDerived.Pilot.@@N@@Statement
import JvmDerived.Pilot.@@N@@Code
set_option linter.unusedVariables false
set_option linter.unusedSimpArgs false
@@BLOCK:NumsL.lean.txt@@
namespace Jvm.Pilot.@@N@@
open Jvm Jvm.ClassFile Sem Op Lib Jvm.Free Jvm.Stand Jvm.LawKit Jvm.RoadKit Bundle Jvm.Pilot.@@N@@.Jvm.D
namespace Own
open Jvm.FP Jvm.Free.Fl
/-- the datum with its exponent less by e -/
def sh (e : Int) : Core.Datum → Core.Datum
  | .nan => .nan
  | .inf s => .inf s
  | .fin s c q => .fin s c (q - e)
/-- d is the number i * 2 ^ e -/
def Dyd (i e : Int) (d : Core.Datum) : Prop := Core.Whole i (sh e d)
def Dy (i e : Int) (a : UInt64) : Prop := Dyd i e (Core.val64 a)
theorem sh_zero (d : Core.Datum) : sh 0 d = d := by cases d <;> simp [sh]
theorem dyd_whole {i : Int} {d : Core.Datum} : Dyd i 0 d ↔ Core.Whole i d := by unfold Dyd; rw [sh_zero]
theorem dy_of_int {i : Int} {a : UInt64} (h : Core.DInt i a) : Dy i 0 a := dyd_whole.mpr h
theorem dy_i2d (n : Int32) : Dy n.toInt 0 (FP.i2d n) := dy_of_int (Core.i2d_int n)
theorem dy_l2d {n : Int64} (h : n.toInt.natAbs ≤ 2 ^ 53) : Dy n.toInt 0 (FP.l2d n) := dy_of_int (Core.l2d_int h)
theorem Dyd.ne_nan {i e : Int} {d : Core.Datum} (h : Dyd i e d) : d ≠ .nan := by rintro rfl; exact h.elim
theorem Dy.noNaN {i e : Int} {a : UInt64} (h : Dy i e a) : NoNaN64 a := val64_no.mpr h.ne_nan
theorem Dy.fin {i e : Int} {a : UInt64} (h : Dy i e a) : Fin64 a := by
  refine fin64_core.mpr ?_
  unfold Dy at h
  revert h
  unfold Core.DFin
  cases Core.val64 a with
  | nan => exact fun h => h.elim
  | inf => exact fun h => h.elim
  | fin s c q => exact fun _ => ⟨s, c, q, rfl⟩
theorem sh_sum (e : Int) (x y : Core.Datum) : sh e (Core.exactSum x y) = Core.exactSum (sh e x) (sh e y) := by
  cases x with
  | nan => rfl
  | inf s =>
    cases y with
    | nan => rfl
    | inf t => by_cases h : s = t <;> simp only [Core.exactSum, sh, h, if_true, if_false]
    | fin t d r => rfl
  | fin s c q =>
    cases y with
    | nan => rfl
    | inf t => rfl
    | fin t d r =>
      have h1 : min (q - e) (r - e) = min q r - e := by omega
      have h2 : Core.sumUnits s c (q - e) t d (r - e) (min q r - e) = Core.sumUnits s c q t d r (min q r) := by
        unfold Core.sumUnits Core.inUnits
        rw [show q - e - (min q r - e) = q - min q r by omega, show r - e - (min q r - e) = r - min q r by omega]
      simp only [Core.exactSum, sh, h1, h2]
theorem sh_negate (e : Int) (x : Core.Datum) : sh e (Core.negate x) = Core.negate (sh e x) := by cases x <;> rfl
theorem sh_product (e f : Int) (x y : Core.Datum) : sh (e + f) (Core.exactProduct x y) = Core.exactProduct (sh e x) (sh f y) := by
  cases x with
  | nan => rfl
  | inf s =>
    cases y with
    | nan => rfl
    | inf t => rfl
    | fin t d r => by_cases h : d = 0 <;> simp only [Core.exactProduct, sh, h, if_true, if_false]
  | fin s c q =>
    cases y with
    | nan => rfl
    | inf t => by_cases h : c = 0 <;> simp only [Core.exactProduct, sh, h, if_true, if_false]
    | fin t d r => simp only [Core.exactProduct, sh]; rw [show q + r - (e + f) = q - e + (r - f) by omega]
theorem sh_order (e : Int) (x y : Core.Datum) : Core.order (sh e x) (sh e y) = Core.order x y := by
  cases x with
  | nan => rfl
  | inf s => cases y <;> rfl
  | fin s c q =>
    cases y with
    | nan => rfl
    | inf t => rfl
    | fin t d r =>
      have h1 : min (q - e) (r - e) = min q r - e := by omega
      simp only [Core.order, sh, h1, Core.inUnits]
      rw [show q - e - (min q r - e) = q - min q r by omega, show r - e - (min q r - e) = r - min q r by omega]
/-- finer units -/
theorem dyd_finer {i e : Int} {d : Core.Datum} (k : Nat) (h : Dyd i e d) : Dyd (i * ((2 ^ k : Nat) : Int)) (e - k) d := by
  cases d with
  | nan => exact h.elim
  | inf => exact h.elim
  | fin s c q =>
    have h0 : Core.signed s (c * 2 ^ (q - e).toNat) = i * ((2 ^ (-(q - e)).toNat : Nat) : Int) := h
    show Core.signed s (c * 2 ^ (q - (e - k)).toNat) = i * ((2 ^ k : Nat) : Int) * ((2 ^ (-(q - (e - k))).toNat : Nat) : Int)
    have p2 : ((2 ^ (q - e).toNat : Nat) : Int) ≠ 0 := by have := Nat.two_pow_pos (q - e).toNat; omega
    refine Int.eq_of_mul_eq_mul_right p2 ?_
    have ex : (-(q - e)).toNat + (q - (e - k)).toNat = k + (-(q - (e - k))).toNat + (q - e).toNat := by omega
    calc Core.signed s (c * 2 ^ (q - (e - k)).toNat) * ((2 ^ (q - e).toNat : Nat) : Int)
        = Core.signed s (c * 2 ^ (q - e).toNat) * ((2 ^ (q - (e - k)).toNat : Nat) : Int) := by
          rw [← Core.signed_mul, ← Core.signed_mul]; congr 1; ac_rfl
      _ = i * (((2 ^ ((-(q - e)).toNat + (q - (e - k)).toNat) : Nat)) : Int) := by rw [h0, Nat.pow_add, Int.natCast_mul, Int.mul_assoc]
      _ = i * ((2 ^ k : Nat) : Int) * ((2 ^ (-(q - (e - k))).toNat : Nat) : Int) * ((2 ^ (q - e).toNat : Nat) : Int) := by
          rw [ex, Nat.pow_add, Nat.pow_add, Int.natCast_mul, Int.natCast_mul]; ac_rfl
theorem Dy.finer {i e : Int} {a : UInt64} (k : Nat) (h : Dy i e a) : Dy (i * ((2 ^ k : Nat) : Int)) (e - k) a := dyd_finer k h
theorem Dy.to {i e i' e' : Int} {a : UInt64} (h : Dy i e a) (k : Nat) (h1 : e' = e - k) (h2 : i' = i * ((2 ^ k : Nat) : Int)) : Dy i' e' a := by subst h1 h2; exact h.finer k
/-- what is small enough rounds to itself -/
theorem dyd_ratio {s : Bool} {i e : Int} (hs : Core.signed s i.natAbs = i) (hi : i.natAbs < 2 ^ 53) (h1 : -1074 ≤ e) (h2 : e ≤ 971) : Dyd i e (Core.roundRatio Core.b64 s i.natAbs 1 e) := by
  obtain ⟨c', q', h3, h4⟩ := Core.round_exact Core.good_b64 s (c := i.natAbs) (q := e) hi h1 h2
  have e2 : Core.roundRatio Core.b64 s i.natAbs 1 e = .fin s c' q' := h3
  have hf : Core.fits Core.b64 (.fin s c' q') := h3 ▸ Core.round_fits Core.good_b64 _
  have hq : -1074 ≤ q' := hf.2.1
  rw [e2]
  show Core.signed s (c' * 2 ^ (q' - e).toNat) = i * ((2 ^ (-(q' - e)).toNat : Nat) : Int)
  have h5 : c' * 2 ^ (q' - -1074).toNat = i.natAbs * 2 ^ (e - -1074).toNat := h4
  have key : c' * 2 ^ (q' - e).toNat = i.natAbs * 2 ^ (-(q' - e)).toNat := by
    by_cases hle : e ≤ q'
    · have x1 : (q' - -1074).toNat = (q' - e).toNat + (e - -1074).toNat := by omega
      have x2 : (-(q' - e)).toNat = 0 := by omega
      rw [x1, Nat.pow_add, ← Nat.mul_assoc] at h5
      rw [x2, Nat.pow_zero, Nat.mul_one]
      exact Nat.eq_of_mul_eq_mul_right (Nat.two_pow_pos _) h5
    · have x1 : (e - -1074).toNat = (-(q' - e)).toNat + (q' - -1074).toNat := by omega
      have x2 : (q' - e).toNat = 0 := by omega
      rw [x1, Nat.pow_add, ← Nat.mul_assoc] at h5
      rw [x2, Nat.pow_zero, Nat.mul_one]
      exact Nat.eq_of_mul_eq_mul_right (Nat.two_pow_pos _) h5
  rw [key, Core.signed_mul, hs]
theorem signed_of_whole {i : Int} {s : Bool} {c : Nat} {q : Int} (h : Core.Whole i (.fin s c q)) : Core.signed s i.natAbs = i := by
  by_cases hi : i = 0
  · subst hi; exact Core.signed_zero s
  · rw [Core.whole_sign h hi]
    unfold Core.signed
    by_cases h : i < 0 <;> simp [h] <;> omega
theorem dyd_round {i e : Int} {d : Core.Datum} (hi : i.natAbs < 2 ^ 53) (h1 : -1074 ≤ e) (h2 : e ≤ 971) (h : Dyd i e d) : Dyd i e (Core.round Core.b64 d) := by
  cases d with
  | nan => exact h.elim
  | inf => exact h.elim
  | fin s c q =>
    have hw : Core.Whole i (.fin s c (q - e)) := h
    have hn := Core.whole_natAbs hw
    have e1 : Core.round Core.b64 (.fin s c q) = Core.roundRatio Core.b64 s i.natAbs 1 e := by
      refine Core.roundRatio_congr (by decide) (by decide) ?_
      rw [show (e - q).toNat = (-(q - e)).toNat by omega]; simpa using hn
    rw [e1]
    exact dyd_ratio (signed_of_whole hw) hi h1 h2
theorem dy_add {i j e : Int} {a b : UInt64} (ha : Dy i e a) (hb : Dy j e b) (hi : (i + j).natAbs < 2 ^ 53) (h1 : -1074 ≤ e) (h2 : e ≤ 971) : Dy (i + j) e (FP.dadd a b) := by
  show Dyd _ _ (Core.val64 (Core.dadd a b))
  rw [Core.val64_dadd]
  refine dyd_round hi h1 h2 ?_
  unfold Dyd
  rw [sh_sum]
  exact Core.whole_sum ha hb
theorem dy_sub {i j e : Int} {a b : UInt64} (ha : Dy i e a) (hb : Dy j e b) (hi : (i - j).natAbs < 2 ^ 53) (h1 : -1074 ≤ e) (h2 : e ≤ 971) : Dy (i - j) e (FP.dsub a b) := by
  show Dyd _ _ (Core.val64 (Core.dsub a b))
  rw [Core.val64_dsub]
  refine dyd_round hi h1 h2 ?_
  unfold Dyd
  rw [sh_sum, sh_negate]
  exact Core.whole_sum ha (Core.whole_negate hb)
theorem dy_mul {i j e f : Int} {a b : UInt64} (ha : Dy i e a) (hb : Dy j f b) (hi : (i * j).natAbs < 2 ^ 53) (h1 : -1074 ≤ e + f) (h2 : e + f ≤ 971) : Dy (i * j) (e + f) (FP.dmul a b) := by
  show Dyd _ _ (Core.val64 (Core.dmul a b))
  rw [Core.val64_dmul]
  refine dyd_round hi h1 h2 ?_
  unfold Dyd
  rw [sh_product]
  exact Core.whole_product ha hb
theorem dyd_quot {i j m e f : Int} {x y : Core.Datum} (hx : Dyd i e x) (hy : Dyd j f y) (hj : j ≠ 0) (hm : i = j * m) (hb : m.natAbs < 2 ^ 53) (h1 : -1074 ≤ e - f) (h2 : e - f ≤ 971) : Dyd m (e - f) (Core.quotient Core.b64 x y) := by
  cases x with
  | nan => exact hx.elim
  | inf => exact hx.elim
  | fin s c q =>
  cases y with
  | nan => exact hy.elim
  | inf => exact hy.elim
  | fin t d r =>
    have wx : Core.Whole i (.fin s c (q - e)) := hx
    have wy : Core.Whole j (.fin t d (r - f)) := hy
    have hd : d ≠ 0 := fun h => hj ((Core.whole_zero wy).mp h)
    have nx := Core.whole_natAbs wx
    have ny := Core.whole_natAbs wy
    have hn : i.natAbs = j.natAbs * m.natAbs := by rw [hm, Int.natAbs_mul]
    simp only [Core.quotient]
    rw [if_neg hd]
    have e1 : Core.roundRatio Core.b64 (s != t) c d (q - r) = Core.roundRatio Core.b64 (s != t) m.natAbs 1 (e - f) := by
      refine Core.roundRatio_congr (Nat.pos_of_ne_zero hd) (by decide) ?_
      rw [Nat.mul_one]
      refine Nat.eq_of_mul_eq_mul_right (Nat.mul_pos (Nat.two_pow_pos (q - e).toNat) (Nat.two_pow_pos (r - f).toNat)) ?_
      have ex : (-(q - e)).toNat + (q - r - (e - f)).toNat + (r - f).toNat = (-(r - f)).toNat + (e - f - (q - r)).toNat + (q - e).toNat := by omega
      calc c * 2 ^ (q - r - (e - f)).toNat * (2 ^ (q - e).toNat * 2 ^ (r - f).toNat)
          = (c * 2 ^ (q - e).toNat) * (2 ^ (q - r - (e - f)).toNat * 2 ^ (r - f).toNat) := by ac_rfl
        _ = j.natAbs * m.natAbs * 2 ^ ((-(q - e)).toNat + (q - r - (e - f)).toNat + (r - f).toNat) := by rw [nx, hn, Nat.pow_add, Nat.pow_add]; ac_rfl
        _ = m.natAbs * (j.natAbs * 2 ^ (-(r - f)).toNat) * (2 ^ (e - f - (q - r)).toNat * 2 ^ (q - e).toNat) := by rw [ex, Nat.pow_add, Nat.pow_add]; ac_rfl
        _ = m.natAbs * d * 2 ^ (e - f - (q - r)).toNat * (2 ^ (q - e).toNat * 2 ^ (r - f).toNat) := by rw [← ny]; ac_rfl
    rw [e1]
    refine dyd_ratio ?_ hb h1 h2
    have si := signed_of_whole wx
    have sj := signed_of_whole wy
    have hj0 : (j.natAbs : Int) ≠ 0 := by omega
    refine Int.eq_of_mul_eq_mul_left hj0 ?_
    rw [hn] at si
    have k1 : Core.signed s (j.natAbs * m.natAbs) = Core.signed t j.natAbs * m := by rw [si, sj, hm]
    cases s <;> cases t <;> simp only [Core.signed, bne_self_eq_false, Bool.false_bne, Bool.bne_false, Bool.false_eq_true, if_false, if_true, Int.natCast_mul, Int.neg_mul, Int.mul_neg, Int.neg_inj] at k1 ⊢ <;> omega
theorem dy_div {i j m e f : Int} {a b : UInt64} (ha : Dy i e a) (hb : Dy j f b) (hj : j ≠ 0) (hm : i = j * m) (hi : m.natAbs < 2 ^ 53) (h1 : -1074 ≤ e - f) (h2 : e - f ≤ 971) : Dy m (e - f) (FP.ddiv a b) := by
  show Dyd _ _ (Core.val64 (Core.ddiv a b))
  rw [Core.val64_ddiv]
  exact dyd_quot ha hb hj hm hi h1 h2
theorem dy_cmp {i j e : Int} {a b : UInt64} (ha : Dy i e a) (hb : Dy j e b) : FP.dcmp a b = some (compare i j) := by
  show Core.order (Core.val64 a) (Core.val64 b) = _
  rw [← sh_order e]
  exact Core.order_whole ha hb
theorem cmp_lt {i j : Int} (h : i < j) : compare i j = .lt := by simp [compare, compareOfLessAndEq, h]
theorem cmp_eq {i j : Int} (h : i = j) : compare i j = .eq := by simp [compare, compareOfLessAndEq, h]
theorem cmp_gt {i j : Int} (h : j < i) : compare i j = .gt := by simp only [compare, compareOfLessAndEq]; rw [if_neg (by omega), if_neg (by omega)]
theorem dy_lt {i j e : Int} {a b : UInt64} (ha : Dy i e a) (hb : Dy j e b) (h : i < j) : FP.dcmp a b = some .lt := by rw [dy_cmp ha hb, cmp_lt h]
theorem dy_eq {i j e : Int} {a b : UInt64} (ha : Dy i e a) (hb : Dy j e b) (h : i = j) : FP.dcmp a b = some .eq := by rw [dy_cmp ha hb, cmp_eq h]
theorem dy_gt {i j e : Int} {a b : UInt64} (ha : Dy i e a) (hb : Dy j e b) (h : j < i) : FP.dcmp a b = some .gt := by rw [dy_cmp ha hb, cmp_gt h]
theorem dy_zero (e : Int) : Dy 0 e FP.dconst0 := by
  show Dyd 0 e (Core.val64 Core.dconst0)
  rw [Core.val64_dconst0]
  show Core.signed false (0 * _) = 0 * _
  rw [Nat.zero_mul, Int.zero_mul]; rfl
theorem dy_one : Dy 1 0 FP.dconst1 := by
  show Dyd 1 0 (Core.val64 Core.dconst1)
  rw [Core.val64_dconst1]
  show Core.signed false (2 ^ 52 * 2 ^ ((-52 : Int) - 0).toNat) = 1 * ((2 ^ (-((-52 : Int) - 0)).toNat : Nat) : Int)
  decide +kernel
end Own
namespace Own
theorem irem_nn {x y : Int32} (hx : 0 ≤ x.toInt) (hy : 0 < y.toInt) : (x - x / y * y).toInt = x.toInt % y.toInt := by
  have hd : (x / y).toInt = x.toInt / y.toInt := by rw [Jvm.Kit.i32_div (by omega), Int.tdiv_eq_ediv_of_nonneg hx]
  have b1 := x.toInt_lt
  have b2 : x.toInt / y.toInt * y.toInt ≤ x.toInt := Int.ediv_mul_le _ (by omega)
  have b3 : 0 ≤ x.toInt / y.toInt * y.toInt := Int.mul_nonneg (Int.ediv_nonneg hx (by omega)) (by omega)
  have hm : (x / y * y).toInt = x.toInt / y.toInt * y.toInt := by rw [Jvm.Kit.i32_mul (by rw [hd]; omega) (by rw [hd]; omega), hd]
  rw [Jvm.Kit.i32_sub (by rw [hm]; omega) (by rw [hm]; omega), hm]
  have := Int.mul_ediv_add_emod x.toInt y.toInt
  rw [Int.mul_comm] at this
  omega
theorem irem_t {x y : Int32} (hy : 0 < y.toInt) : (x - x / y * y).toInt = x.toInt.tmod y.toInt := by
  have hd : (x / y).toInt = x.toInt.tdiv y.toInt := Jvm.Kit.i32_div (by omega)
  have b1 := x.toInt_lt
  have b0 := x.le_toInt
  have k : y.toInt * x.toInt.tdiv y.toInt + x.toInt.tmod y.toInt = x.toInt := Int.mul_tdiv_add_tmod _ _
  have k2 : (y.toInt * x.toInt.tdiv y.toInt).natAbs ≤ x.toInt.natAbs := by
    rw [Int.natAbs_mul, Int.natAbs_tdiv]; exact Nat.mul_div_le _ _
  have t3 : (x.toInt.tmod y.toInt).natAbs < y.toInt.natAbs := by
    rw [Int.natAbs_tmod]; exact Nat.mod_lt _ (by omega)
  have b4 := y.toInt_lt
  have hm : (x / y * y).toInt = y.toInt * x.toInt.tdiv y.toInt := by
    have q : (x / y).toInt * y.toInt = y.toInt * x.toInt.tdiv y.toInt := by rw [hd, Int.mul_comm]
    by_cases hz : -2 ^ 31 ≤ (x / y).toInt * y.toInt ∧ (x / y).toInt * y.toInt < 2 ^ 31
    · rw [Jvm.Kit.i32_mul hz.1 hz.2, q]
    · exfalso
      have e1 : x.toInt.natAbs ≤ 2 ^ 31 := by omega
      by_cases hs : 0 ≤ x.toInt
      · have t1 : 0 ≤ x.toInt.tmod y.toInt := Int.tmod_nonneg _ hs
        omega
      · omega
  rw [Jvm.Kit.i32_sub (by rw [hm]; omega) (by rw [hm]; omega), hm]
  omega
theorem hlt {x : Int32} (h : ifCond.holds .lt x = true) : x.toInt < 0 := by
  simpa [ifCond.holds, Int32.lt_iff_toInt_lt] using h
theorem hge {x : Int32} (h : ifCond.holds .lt x = false) : 0 ≤ x.toInt := by
  simpa [ifCond.holds, Int32.lt_iff_toInt_lt] using h
theorem cgt {x y : Int32} (h : if_icmp.holds .gt x y = true) : y.toInt < x.toInt := by
  simpa [if_icmp.holds, Int32.lt_iff_toInt_lt] using h
theorem cle {x y : Int32} (h : if_icmp.holds .gt x y = false) : x.toInt ≤ y.toInt := by
  simpa [if_icmp.holds, Int32.lt_iff_toInt_lt] using h
theorem one_shl (k : Int32) (h1 : 0 ≤ k.toInt) (h2 : k.toInt ≤ 30) : ((1 : Int32) <<< (k &&& 31)).toInt = ((2 ^ k.toInt.toNat : Nat) : Int) := by
  have all : ∀ j : Fin 31, ((1 : Int32) <<< (Int32.ofNat j.val &&& 31)).toInt = ((2 ^ j.val : Nat) : Int) := by decide
  have e : k = Int32.ofNat k.toInt.toNat := by
    apply Int32.toInt_inj.mp
    rw [Int32.toInt_ofNat_of_lt (by omega)]
    omega
  have := all ⟨k.toInt.toNat, by omega⟩
  simp only at this
  rw [← e] at this
  exact this
end Own
namespace Own
section Walks
variable {p : Program} {l : Launch} {e : Env} {R : Room} {s : State} {m : MethodId} {args : Array Value} {below : List Frame} {meth : Method} {c : Code} {T T' : State} {locs : List Loc} {cells slots : Nat} {Z : State} {a0 : Array Value} {h : Heap}
/-- from the frame g on top of T the run comes to a state that G holds of -/
def Goes (p : Program) (e : Env) (below : List Frame) (G : State → Prop) (T : State) (g : JFrame) : Prop := ∃ t, Steps p.tables e below (T.setTop g) t ∧ G t
theorem Goes.of {G : State → Prop} {g g' : JFrame} (f : ∀ t, Steps p.tables e below (T'.setTop g') t → Steps p.tables e below (T.setTop g) t) (k : Goes p e below G T' g') : Goes p e below G T g := by
  obtain ⟨t, h1, h2⟩ := k
  exact ⟨t, f t h1, h2⟩
theorem Goes.cast {G : State → Prop} {g g' : JFrame} (q : g = g') (k : Goes p e below G T g') : Goes p e below G T g := q ▸ k
/-- the method has returned, with what Q says -/
def Fini (s : State) (below : List Frame) (Q : Option Value → Heap → List Loc → Prop) (kc ks : Nat) (t : State) : Prop := t.status = .running ∧ ∃ v L, Ended t below (.returned v) ∧ Q v t.heap L ∧ FrameEnd s (.returned v) t L kc ks
/-- a contract: called with as on the heap h0, the method returns with what Q says, and takes the room rm -/
def Ct (l : Launch) (y : MethodName) (bytes : ByteArray) (maxL : Nat) (ret : Option FieldType) (rm : Room) (Z : State) (as : List Value) (h0 : Heap) (Q : Option Value → Heap → List Loc → Prop) : Prop :=
  ∀ ws : List Jvm.Cond, MetFree l y (head1 (Jvm.Cond.code y bytes maxL ret :: ws) rm) (fun a U => a = as.toArray ∧ Z.Warmed39 U.vm ∧ U.heap = h0) (fun _ _ _ _ _ => True) (fun _ U o U' => ∃ v L, o = .returned v ∧ Q v U'.heap L ∧ FrameEnd U o U' L rm.cells rm.slots)
theorem met {l : Launch} {y : MethodName} {bytes : ByteArray} {maxL : Nat} {ret : Option FieldType} {rm : Room} {Z : State} {as : List Value} {h0 : Heap} {Q : Option Value → Heap → List Loc → Prop} (hp : plainFor y = true)
    (walk : ∀ (p : Program) (e : Env) (s : State) (m : MethodId) (below : List Frame) (meth : Method) (c : Code) (T : State), p.tables.exec = Jvm.exec → c.code = bytes → c.maxLocals = maxL → s.vm.findClass y.cls = some m.cls → meth.sig.returnType = ret → meth.locks = false → meth.name = y.name → Z.Warmed39 s.vm →
      Stand p l e rm s m as.toArray below meth c T [] 0 0 → T.heap = h0 → Goes p e below (Fini s below Q rm.cells rm.slots) T (entryFrame m as.toArray maxL)) : Ct l y bytes maxL ret rm Z as h0 Q := by
  intro ws
  refine MetFree.of_bodySF hp hisR ?_
  intro p e s m args below meth c s₁ Bd hml0 hP hK
  obtain ⟨rfl, hZ, hh⟩ := hP
  have e0 : s₁.heap = h0 := by rw [← hh, Bd.state]; rfl
  obtain ⟨t, h1, h2, v, L, h3, h4, h5⟩ := walk p e s m below meth c s₁ Bd.exec Bd.bytes hml0 (findClass_of_methodNamed Bd.named) Bd.returns Bd.notSynchronized (name_of_methodNamed Bd.named Bd.method).1 hZ (Stand.of_body Bd) e0
  exact ⟨t, _, h1, h2, h3, v, L, rfl, h4, h5⟩
theorem retB (X : Stand p l e R s m args below meth c T locs cells slots) (hx : p.tables.exec = Jvm.exec) (hlk : meth.locks = false) {pc : Nat} {Ls : Array Slot} {z : Int32} {t : FieldType} {rest : List Value} (hret : meth.sig.returnType = some t) (ht : t = .boolean ∨ t = .byte ∨ t = .char ∨ t = .short) (hd : decode c.code pc = .ok (.ireturn, 1))
    {Q : Option Value → Heap → List Loc → Prop} {kc ks : Nat} (h1 : cells ≤ kc) (h2 : slots ≤ ks) (hQ : Q (some (.int (nar t z))) T.heap locs) : Goes p e below (Fini s below Q kc ks) T (mkF m pc Ls (.int z :: rest)) := by
  obtain ⟨fs, hr, hrun, hended, hW, hsame⟩ := X.leave (v := some (.int (nar t z))) (fun q => by rw [hret] at q; cases q) hlk
  exact ⟨_, retN X hx hret ht hd hr, hrun, _, _, hended, hQ, ⟨_, rfl⟩, hW, hsame.mono h1 h2⟩
theorem retI (X : Stand p l e R s m args below meth c T locs cells slots) (hx : p.tables.exec = Jvm.exec) (hlk : meth.locks = false) {pc : Nat} {Ls : Array Slot} {z : Int32} {rest : List Value} (hret : meth.sig.returnType = some .int) (hd : decode c.code pc = .ok (.ireturn, 1))
    {Q : Option Value → Heap → List Loc → Prop} {kc ks : Nat} (h1 : cells ≤ kc) (h2 : slots ≤ ks) (hQ : Q (some (.int z)) T.heap locs) : Goes p e below (Fini s below Q kc ks) T (mkF m pc Ls (.int z :: rest)) := by
  obtain ⟨fs, hr, hrun, hended, hW, hsame⟩ := X.leave (v := some (.int z)) (fun q => by rw [hret] at q; cases q) hlk
  refine ⟨_, ?_, hrun, _, _, hended, hQ, ⟨_, rfl⟩, hW, hsame.mono h1 h2⟩
  have hm' : T.vm.method? m = some meth := X.method'
  have hn : narrow .int (.int z) = .int z := rfl
  show Steps p.tables e below (T.setTop { method := m, pc := pc, locals := Ls, stack := _ :: rest, locked := none }) _
  jvm_step X.here [X.here.top, hx, hd, hm', hret, hn]
  first | (intro acts; rw [hr _ acts rfl rfl rfl]) | rw [hr _ _ rfl rfl rfl]
  exact Steps.refl _
theorem retJ (X : Stand p l e R s m args below meth c T locs cells slots) (hx : p.tables.exec = Jvm.exec) (hlk : meth.locks = false) {pc : Nat} {Ls : Array Slot} {z : Int64} (hret : meth.sig.returnType = some .long) (hd : decode c.code pc = .ok (.lreturn, 1))
    {Q : Option Value → Heap → List Loc → Prop} {kc ks : Nat} (h1 : cells ≤ kc) (h2 : slots ≤ ks) (hQ : Q (some (.long z)) T.heap locs) : Goes p e below (Fini s below Q kc ks) T (mkF m pc Ls [.long z]) := by
  obtain ⟨fs, hr, hrun, hended, hW, hsame⟩ := X.leave (v := some (.long z)) (fun q => by rw [hret] at q; cases q) hlk
  exact ⟨_, X.lreturnOut hx hret hd hr, hrun, _, _, hended, hQ, ⟨_, rfl⟩, hW, hsame.mono h1 h2⟩
theorem retD (X : Stand p l e R s m args below meth c T locs cells slots) (hx : p.tables.exec = Jvm.exec) (hlk : meth.locks = false) {pc : Nat} {Ls : Array Slot} {z : UInt64} (hret : meth.sig.returnType = some .double) (hd : decode c.code pc = .ok (.dreturn, 1))
    {Q : Option Value → Heap → List Loc → Prop} {kc ks : Nat} (h1 : cells ≤ kc) (h2 : slots ≤ ks) (hQ : Q (some (.double z)) T.heap locs) : Goes p e below (Fini s below Q kc ks) T (mkF m pc Ls [.double z]) := by
  obtain ⟨fs, hr, hrun, hended, hW, hsame⟩ := X.leave (v := some (.double z)) (fun q => by rw [hret] at q; cases q) hlk
  refine ⟨_, ?_, hrun, _, _, hended, hQ, ⟨_, rfl⟩, hW, hsame.mono h1 h2⟩
  have hm' : T.vm.method? m = some meth := X.method'
  show Steps p.tables e below (T.setTop { method := m, pc := pc, locals := Ls, stack := [.double z], locked := none }) _
  jvm_step X.here [X.here.top, hx, hd, hm', hret]
  first | (intro acts; rw [hr _ acts rfl rfl rfl]) | rw [hr _ _ rfl rfl rfl]
  exact Steps.refl _
theorem retV (X : Stand p l e R s m args below meth c T locs cells slots) (hx : p.tables.exec = Jvm.exec) (hlk : meth.locks = false) {pc : Nat} {Ls : Array Slot} {st : List Value} (hret : meth.sig.returnType = none) (hd : decode c.code pc = .ok (.return_, 1))
    {Q : Option Value → Heap → List Loc → Prop} {kc ks : Nat} (h1 : cells ≤ kc) (h2 : slots ≤ ks) (hQ : Q none T.heap locs) : Goes p e below (Fini s below Q kc ks) T (mkF m pc Ls st) := by
  obtain ⟨fs, hr, hrun, hended, hW, hsame⟩ := X.leave (v := none) (fun _ => rfl) hlk
  refine ⟨_, ?_, hrun, _, _, hended, hQ, ⟨_, rfl⟩, hW, hsame.mono h1 h2⟩
  have hm' : T.vm.method? m = some meth := X.method'
  show Steps p.tables e below (T.setTop { method := m, pc := pc, locals := Ls, stack := st, locked := none }) _
  jvm_step X.here [X.here.top, hx, hd, hm', hret]
  first | (intro acts; rw [hr _ acts rfl rfl rfl]) | rw [hr _ _ rfl rfl rfl]
  exact Steps.refl _
theorem retA (X : Stand p l e R s m args below meth c T locs cells slots) (hx : p.tables.exec = Jvm.exec) (hlk : meth.locks = false) {pc : Nat} {Ls : Array Slot} {z : Value} {t : FieldType} {rest : List Value} (hz : z.isRef = true) (hret : meth.sig.returnType = some t) (ht : t.isReference = true) (hd : decode c.code pc = .ok (.areturn, 1))
    {Q : Option Value → Heap → List Loc → Prop} {kc ks : Nat} (h1 : cells ≤ kc) (h2 : slots ≤ ks) (hQ : Q (some z) T.heap locs) : Goes p e below (Fini s below Q kc ks) T (mkF m pc Ls (z :: rest)) := by
  obtain ⟨fs, hr, hrun, hended, hW, hsame⟩ := X.leave (v := some z) (fun q => by rw [hret] at q; cases q) hlk
  refine ⟨_, ?_, hrun, _, _, hended, hQ, ⟨_, rfl⟩, hW, hsame.mono h1 h2⟩
  have hm' : T.vm.method? m = some meth := X.method'
  show Steps p.tables e below (T.setTop { method := m, pc := pc, locals := Ls, stack := z :: rest, locked := none }) _
  jvm_step X.here [X.here.top, hx, hd, hm', hret, hz, ht]
  first | (intro acts; rw [hr _ acts rfl rfl rfl]) | rw [hr _ _ rfl rfl rfl]
  exact Steps.refl _
/-- a static method by its contract -/
theorem callC (X : Stand p l e R s m args below meth c T locs cells slots) (hx : p.tables.exec = Jvm.exec) (hZ : Z.Warmed39 s.vm) {own : String} {index : Nat} {y : MethodName} {bytes : ByteArray} {maxL : Nat} {ret : Option FieldType}
    (hown : s.vm.findClass own = some m.cls) (w1 : (Jvm.Cond.methodLink own index y).before a0 Z = true) (w2 : (Jvm.Cond.static y).before a0 Z = true) (w3 : (Jvm.Cond.initialized y.cls).before a0 Z = true) (w4 : (Jvm.Cond.code y bytes maxL ret).before a0 Z = true)
    (hy : y.cls ≠ "java/lang/invoke/MethodHandle" ∧ y.cls ≠ "java/lang/invoke/VarHandle") {rm : Room} {as : List Value} {Q : Option Value → Heap → List Loc → Prop}
    (hM : Ct l y bytes maxL ret rm Z as h Q)
    (W : Nat) (hf : rm.frames + 1 ≤ R.frames) (hl : W + (maxL + 11) + rm.locals ≤ R.locals) (eT : T.heap = h) (hc : cells + rm.cells ≤ R.cells) (hs : slots + rm.slots ≤ R.slots)
    {g : JFrame} (hg : g.method = m) (hsize : g.locals.size = c.maxLocals) {rest : List Value} (hlen : ∀ sig, parseMethodDescriptor y.desc = some sig → as.length = sig.parameters.length)
    (hst : g.stack = as.reverse ++ rest) (hW : 2 * g.monitorRoom + (rest.map fun v => v.category).sum ≤ W) (hd : decode c.code g.pc = .ok (.invokestatic index, 3)) {G : State → Prop}
    (k : ∀ (v : Option Value) (T' : State) (L : List Loc), Stand p l e R s m args below meth c T' (locs ++ L) (cells + rm.cells) (slots + rm.slots) → Q v T'.heap L → Goes p e below G T' { g with pc := g.pc + 3, stack := v.toList ++ rest }) : Goes p e below G T g := by
  obtain ⟨v, vm1, ⟨U, lo, ce, sl⟩, -, X', ⟨L, hQ, l1, l2, l3⟩, st⟩ := Jvm.LawKit.callS X hx (y := y) hown (mvT hZ w1) (mvT hZ w2) (mvT hZ w3) (mvT hZ w4) hy (backOf (W := W) (hM []) hZ w4 w3 hf hl) (g := g) hg hsize (argsL := as) (rest := rest) hlen hst hW hd (fun _ _ => ⟨rfl, eT, hc, hs⟩)
  dsimp only [Pt.U, Pt.locs, Pt.cells, Pt.slots] at X' l1 l2 l3 st hQ
  subst l1 l2 l3
  exact Goes.of st (k v U L X' hQ)
theorem Goes.via {G : State → Prop} {g g' : JFrame} (f : Steps p.tables e below (T.setTop g) (T'.setTop g')) (k : Goes p e below G T' g') : Goes p e below G T g := by
  obtain ⟨t, h1, h2⟩ := k
  exact ⟨t, f.trans h1, h2⟩
/-- an instance method by its contract -/
theorem callV (X : Stand p l e R s m args below meth c T locs cells slots) (hx : p.tables.exec = Jvm.exec) (hZ : Z.Warmed39 s.vm) {own C : String} {index : Nat} {y z : MethodName} {bytes : ByteArray} {maxL : Nat} {ret : Option FieldType}
    (hown : s.vm.findClass own = some m.cls) (w1 : (Jvm.Cond.methodLink own index y).before a0 Z = true) (w2 : (Jvm.Cond.declares y).before a0 Z = true) (hnf : NotFace s y) (w3 : (Jvm.Cond.selects C y z).before a0 Z = true) (w4 : (Jvm.Cond.instanceMethod z).before a0 Z = true) (w5 : (Jvm.Cond.code z bytes maxL ret).before a0 Z = true) (w6 : (Jvm.Cond.initialized z.cls).before a0 Z = true)
    (hy : y.cls ≠ "java/lang/invoke/MethodHandle" ∧ y.cls ≠ "java/lang/invoke/VarHandle") {b : Addr} (E : Exa Z h b C) {rm : Room} {as : List Value} {Q : Option Value → Heap → List Loc → Prop}
    (hM : Ct l z bytes maxL ret rm Z (.ref b :: as) h Q)
    (W : Nat) (hf : rm.frames + 1 ≤ R.frames) (hl : W + (maxL + 11) + rm.locals ≤ R.locals) (eT : T.heap = h) (hc : cells + rm.cells ≤ R.cells) (hs : slots + rm.slots ≤ R.slots)
    {g : JFrame} (hg : g.method = m) (hsize : g.locals.size = c.maxLocals) {rest : List Value} (hlen : ∀ sig, parseMethodDescriptor y.desc = some sig → as.length = sig.parameters.length)
    (hst : g.stack = as.reverse ++ .ref b :: rest) (hW : 2 * g.monitorRoom + (rest.map fun v => v.category).sum ≤ W) (hd : decode c.code g.pc = .ok (.invokevirtual index, 3)) {G : State → Prop}
    (k : ∀ (v : Option Value) (T' : State) (L : List Loc), Stand p l e R s m args below meth c T' (locs ++ L) (cells + rm.cells) (slots + rm.slots) → Q v T'.heap L → Goes p e below G T' { g with pc := g.pc + 3, stack := v.toList ++ rest }) : Goes p e below G T g := by
  obtain ⟨cq, kq, qa, qb, qc⟩ := isOf hZ eT E
  obtain ⟨v, vm1, ⟨U, lo, ce, sl⟩, -, X', ⟨L, hQ, l1, l2, l3⟩, st⟩ := X.virtualBack hx (y := y) (z := z) hown (mvT hZ w1) (mvT hZ w2) hnf (mvT hZ w3) (mvT hZ w4) hy (backOf (W := W) (hM []) hZ w5 w6 hf hl) qa qc (g := g) hg hsize (Steps.refl _) (argsL := as) (rest := rest) hlen hst hW hd (fun _ _ => ⟨rfl, eT, hc, hs⟩)
  dsimp only [Pt.U, Pt.locs, Pt.cells, Pt.slots] at X' l1 l2 l3 st hQ
  subst l1 l2 l3
  exact Goes.via st (k v U L X' hQ)
/-- a static field is read -/
theorem goS (X : Stand p l e R s m args below meth c T locs cells slots) (hx : p.tables.exec = Jvm.exec) (hZ : Z.Warmed39 s.vm) {own R0 O n d : String} {index : Nat} (hown : s.vm.findClass own = some m.cls) (w : (Jvm.Cond.fieldLink own index R0 n d).before a0 Z = true) (via : Via Z R0 O n d)
    (eT : T.heap = h) {v : Value} (F : Sta Z h O n d v) {g : JFrame} (hg : g.method = m) (hd : decode c.code g.pc = .ok (.getstatic index, 3)) {G : State → Prop}
    (k : ∀ T', Stand p l e R s m args below meth c T' locs cells slots → T'.heap = h → Goes p e below G T' { g with pc := g.pc + 3, stack := v :: g.stack }) : Goes p e below G T g := by
  obtain ⟨T', X', e', st⟩ := getS (host := "") X hx hZ hown w via eT F hg hd
  exact Goes.of st (k T' X' e')
end Walks
end Own
namespace Own
section Arrays
variable {p : Program} {l : Launch} {e : Env} {R : Room} {s : State} {m : MethodId} {args : Array Value} {below : List Frame} {meth : Method} {c : Code} {T T' : State} {locs : List Loc} {cells slots : Nat} {Z : State} {a0 : Array Value} {h h' : Heap} {a b : Addr} {xs ys : List UInt64} {sl : Nat} {v : Value}
/-- at a lies a double[] with the elements xs -/
def DA (Z : State) (h : Heap) (a : Addr) (xs : List UInt64) : Prop := ∃ c : Cell, Arr Z h a c .double ∧ c.slots.size = xs.length ∧ xs.length < 2 ^ 31 ∧ ∀ (i : Nat) (v : UInt64), xs[i]? = some v → c.slots[i]? = some (.double v)
theorem DA.ext (F : DA Z h a xs) (E : Ext h h') : DA Z h' a xs := by obtain ⟨c, A, r⟩ := F; exact ⟨c, A.ext E, r⟩
theorem DA.other (F : DA Z h b xs) (W : Wr h h' a sl v) (q : b ≠ a) : DA Z h' b xs := by obtain ⟨c, A, r⟩ := F; exact ⟨c, A.other W q, r⟩
theorem DA.lt (F : DA Z h a xs) : a < h.size := by obtain ⟨c, A, -⟩ := F; exact A.lt
theorem clamp {j : Int32} {i : Nat} (hj : j.toInt = i) : j.toNatClampNeg = i ∧ ¬ j < 0 := by
  refine ⟨by simp only [Int32.toNatClampNeg]; omega, ?_⟩
  rw [Int32.lt_iff_toInt_lt, show (0 : Int32).toInt = 0 from rfl]; omega
theorem goNewD (X : Stand p l e R s m args below meth c T locs cells slots) (hx : p.tables.exec = Jvm.exec) (hZ : Z.Warmed39 s.vm) (w : (Jvm.Cond.arrayClass .double).before a0 Z = true) (eT : T.heap = h) {g : JFrame} (hg : g.method = m) (hd : decode c.code g.pc = .ok (.newarray .double, 2)) {n : Int32} {rest : List Value} (hs : g.stack = .int n :: rest)
    (k : Nat) (hn : n.toInt = k) (hk : k ≤ 1000) (hc : cells + 1 ≤ R.cells) (hl : slots + k ≤ R.slots) {G : State → Prop}
    (kk : ∀ (T' : State) (h' : Heap) (a : Addr), a = h.size → Stand p l e R s m args below meth c T' locs (cells + 1) (slots + k) → T'.heap = h' → Ext h h' → DA Z h' a (List.replicate k 0) → Goes p e below G T' { g with pc := g.pc + 2, stack := .ref a :: rest }) : Goes p e below G T g := by
  obtain ⟨q1, q2⟩ := clamp hn
  obtain ⟨T', h', cA, X', e', E, A, st⟩ := newP X hx hZ (aty := .double) w eT hg hd hs q2 (cap := k) (by omega) (by omega) hc hl
  refine Goes.of st (kk T' h' _ rfl X' e' E ⟨_, A, ?_, ?_, ?_⟩)
  · rw [sz_new, q1, List.length_replicate]
  · rw [List.length_replicate]; omega
  · intro i v hi
    rw [List.getElem?_replicate] at hi
    split at hi
    · rename_i hlt
      cases hi
      simp only [newA, Array.getElem?_replicate, q1, if_pos hlt]
      rfl
    · cases hi
theorem goStD (X : Stand p l e R s m args below meth c T locs cells slots) (hx : p.tables.exec = Jvm.exec) (hZ : Z.Warmed39 s.vm) (eT : T.heap = h) (A : DA Z h a xs) {j : Int32} (i : Nat) (hj : j.toInt = i) (hi : i < xs.length) {x : UInt64} {g : JFrame} (hg : g.method = m) {rest : List Value}
    (hs : g.stack = .double x :: .int j :: .ref a :: rest) (hd : decode c.code g.pc = .ok (.dastore, 1)) {n0 : Nat} (N : Fr n0 locs) (ge : n0 ≤ a) {G : State → Prop}
    (k : ∀ (T' : State) (h' : Heap) (locs' : List Loc), Stand p l e R s m args below meth c T' locs' cells slots → T'.heap = h' → Fr n0 locs' → (∀ (b : Addr) (ys : List UInt64), b ≠ a → DA Z h b ys → DA Z h' b ys) → DA Z h' a (xs.set i x) → Goes p e below G T' { g with pc := g.pc + 1, stack := rest }) : Goes p e below G T g := by
  obtain ⟨q1, q2⟩ := clamp hj
  obtain ⟨cl, Ar, S, B, H⟩ := A
  have hin : ¬ (j < 0 ∨ cl.slots.size ≤ j.toNatClampNeg) := by rw [q1, S]; exact fun q => q.elim q2 (fun r => by omega)
  obtain ⟨T', h', X', e', W, st⟩ := stD X hx hZ eT Ar (j := j) (x := x) hin hg hs hd
  refine Goes.of st (k T' h' _ X' e' (Fr.snoc X' N ge) (fun b ys q F => F.other W q) ⟨_, Ar.same W, ?_, ?_, ?_⟩)
  · rw [sz_set, S, List.length_set]
  · rw [List.length_set]; exact B
  · intro i' v' hv
    rw [q1]
    by_cases u : i = i'
    · subst u
      rw [List.getElem?_set_self hi] at hv
      cases hv
      simp [Cell.setSlot, S, hi]
    · rw [List.getElem?_set_ne u] at hv
      have := H i' v' hv
      simp only [Cell.setSlot]
      rw [Array.getElem?_setIfInBounds_ne u]; exact this
theorem goLdD (X : Stand p l e R s m args below meth c T locs cells slots) (hx : p.tables.exec = Jvm.exec) (hZ : Z.Warmed39 s.vm) (eT : T.heap = h) (A : DA Z h a xs) {j : Int32} (i : Nat) (hj : j.toInt = i) {w : UInt64} (hv : xs[i]? = some w) {g : JFrame} (hg : g.method = m) {rest : List Value}
    (hs : g.stack = .int j :: .ref a :: rest) (hd : decode c.code g.pc = .ok (.daload, 1)) {G : State → Prop} (k : Goes p e below G T { g with pc := g.pc + 1, stack := .double w :: rest }) : Goes p e below G T g := by
  obtain ⟨q1, q2⟩ := clamp hj
  obtain ⟨cl, Ar, S, B, H⟩ := A
  have hi : i < xs.length := (List.getElem?_eq_some_iff.mp hv).1
  have hin : ¬ (j < 0 ∨ cl.slots.size ≤ j.toNatClampNeg) := by rw [q1, S]; exact fun q => q.elim q2 (fun r => by omega)
  exact Goes.of (fun t => X.daload hx (by rw [eT]; exact Ar.1) (State.isArrayOf_alike hZ.alike Ar.2.1) Ar.2.2 hin (by rw [q1]; exact H i w hv) hg hs hd t) k
theorem goLen (X : Stand p l e R s m args below meth c T locs cells slots) (hx : p.tables.exec = Jvm.exec) (hZ : Z.Warmed39 s.vm) (eT : T.heap = h) (A : DA Z h a xs) {n : Int32} (hn : n.toInt = xs.length) {g : JFrame} (hg : g.method = m) {rest : List Value}
    (hs : g.stack = .ref a :: rest) (hd : decode c.code g.pc = .ok (.arraylength, 1)) {G : State → Prop} (k : Goes p e below G T { g with pc := g.pc + 1, stack := .int n :: rest }) : Goes p e below G T g := by
  obtain ⟨cl, Ar, S, B, H⟩ := A
  have en : cl.slots.size.toInt32 = n := by
    apply Int32.toInt_inj.mp
    rw [S, hn]
    exact len_toInt B
  exact Goes.of (fun t => X.arraylength hx (by rw [eT]; exact Ar.1) (State.isArrayOf_alike hZ.alike Ar.2.1) hg hs hd t) (by rw [en]; exact k)
end Arrays
end Own
open Own
section Law
theorem own_sqb {a : Int} {A : Nat} (ha : a.natAbs ≤ A) : (a * a).natAbs ≤ A * A := by rw [Int.natAbs_mul]; exact Nat.mul_le_mul ha ha
theorem own_add {a b : Int} {x y : UInt64} (hx : Dy a 0 x) (hy : Dy b 0 y) (h : (a + b).natAbs < 2 ^ 53) : Dy (a + b) 0 (FP.dadd x y) := dy_add hx hy h (by decide) (by decide)
theorem own_sq {a : Int} {x : UInt64} (hx : Dy a 0 x) (h : a.natAbs ≤ 4194304) : Dy (a * a) 0 (FP.dmul x x) := by
  have := own_sqb h
  exact dy_mul hx hx (by omega) (by decide) (by decide)
theorem own_small (p : Int32) : (Int32.toInt64 ((p <<< ((11 : Int32) &&& 31)) >>> ((11 : Int32) &&& 31))).toInt.natAbs ≤ 1048576 := by
  rw [Int32.toInt_toInt64, Jvm.Kit.i32_shr _ _ (k := 11) (by decide)]
  have b1 := (p <<< ((11 : Int32) &&& 31)).toInt_lt
  have b2 := (p <<< ((11 : Int32) &&& 31)).le_toInt
  omega
theorem own_rem5 {p n : Int32} (h : (p &&& 2147483647) - (p &&& 2147483647) / 5 * 5 = n) : n = 0 ∨ n = 1 ∨ n = 2 ∨ n = 3 ∨ n = 4 := by
  have e1 : (p &&& 2147483647).toInt = p.toInt % 2 ^ 31 := Jvm.Kit.i32_mask p 2147483647 (k := 31) (by decide) (by decide)
  have e2 := irem_nn (x := p &&& 2147483647) (y := 5) (by omega) (by decide)
  rw [h, show (5 : Int32).toInt = 5 by decide] at e2
  have : n.toInt = 0 ∨ n.toInt = 1 ∨ n.toInt = 2 ∨ n.toInt = 3 ∨ n.toInt = 4 := by omega
  rcases this with q | q | q | q | q
  · exact Or.inl (Int32.toInt_inj.mp q)
  · exact Or.inr (Or.inl (Int32.toInt_inj.mp q))
  · exact Or.inr (Or.inr (Or.inl (Int32.toInt_inj.mp q)))
  · exact Or.inr (Or.inr (Or.inr (Or.inl (Int32.toInt_inj.mp q))))
  · exact Or.inr (Or.inr (Or.inr (Or.inr (Int32.toInt_inj.mp q))))
theorem own_ladd {x y r : Int64} (h : x + y = r) (hx : x.toInt.natAbs ≤ 2 ^ 60) (hy : y.toInt.natAbs ≤ 2 ^ 60) : r.toInt = x.toInt + y.toInt := by
  rw [← h]; exact Jvm.Kit.i64_add (by omega) (by omega)
theorem own_lsq {e x r : Int64} (h : e + x * x = r) (hx : x.toInt.natAbs ≤ 4194304) (he : e.toInt.natAbs ≤ 2 ^ 50) : r.toInt = e.toInt + x.toInt * x.toInt := by
  have := own_sqb hx
  have e1 : (x * x).toInt = x.toInt * x.toInt := Jvm.Kit.i64_mul (by omega) (by omega)
  rw [← h, Jvm.Kit.i64_add (by rw [e1]; omega) (by rw [e1]; omega), e1]
end Law
theorem d2_0 : decode method_2_code 0 = .ok (.iload_n 0, 1) := by decide +kernel
theorem d2_1 : decode method_2_code 1 = .ok (.bipush 11, 2) := by decide +kernel
theorem d2_3 : decode method_2_code 3 = .ok (.ishl, 1) := by decide +kernel
theorem d2_4 : decode method_2_code 4 = .ok (.bipush 11, 2) := by decide +kernel
theorem d2_6 : decode method_2_code 6 = .ok (.ishr, 1) := by decide +kernel
theorem d2_7 : decode method_2_code 7 = .ok (.i2l, 1) := by decide +kernel
theorem d2_8 : decode method_2_code 8 = .ok (.lreturn, 1) := by decide +kernel
theorem d1_0 : decode prog_26_method_20_code 0 = .ok (.dconst 0, 1) := by decide +kernel
theorem d1_1 : decode prog_26_method_20_code 1 = .ok (.dstore_n 1, 1) := by decide +kernel
theorem d1_2 : decode prog_26_method_20_code 2 = .ok (.dconst 0, 1) := by decide +kernel
theorem d1_3 : decode prog_26_method_20_code 3 = .ok (.dstore_n 3, 1) := by decide +kernel
theorem d1_4 : decode prog_26_method_20_code 4 = .ok (.aload_n 0, 1) := by decide +kernel
theorem d1_5 : decode prog_26_method_20_code 5 = .ok (.astore 5, 2) := by decide +kernel
theorem d1_7 : decode prog_26_method_20_code 7 = .ok (.aload 5, 2) := by decide +kernel
theorem d1_9 : decode prog_26_method_20_code 9 = .ok (.arraylength, 1) := by decide +kernel
theorem d1_10 : decode prog_26_method_20_code 10 = .ok (.istore 6, 2) := by decide +kernel
theorem d1_12 : decode prog_26_method_20_code 12 = .ok (.iconst 0, 1) := by decide +kernel
theorem d1_13 : decode prog_26_method_20_code 13 = .ok (.istore 7, 2) := by decide +kernel
theorem d1_15 : decode prog_26_method_20_code 15 = .ok (.iload 7, 2) := by decide +kernel
theorem d1_17 : decode prog_26_method_20_code 17 = .ok (.iload 6, 2) := by decide +kernel
theorem d1_19 : decode prog_26_method_20_code 19 = .ok (.if_icmp .ge 27, 3) := by decide +kernel
theorem d1_46 : decode prog_26_method_20_code 46 = .ok (.dload_n 1, 1) := by decide +kernel
theorem d1_47 : decode prog_26_method_20_code 47 = .ok (.dreturn, 1) := by decide +kernel
theorem d1_22 : decode prog_26_method_20_code 22 = .ok (.aload 5, 2) := by decide +kernel
theorem d1_24 : decode prog_26_method_20_code 24 = .ok (.iload 7, 2) := by decide +kernel
theorem d1_26 : decode prog_26_method_20_code 26 = .ok (.daload, 1) := by decide +kernel
theorem d1_27 : decode prog_26_method_20_code 27 = .ok (.dstore 8, 2) := by decide +kernel
theorem d1_29 : decode prog_26_method_20_code 29 = .ok (.dload_n 3, 1) := by decide +kernel
theorem d1_30 : decode prog_26_method_20_code 30 = .ok (.dload 8, 2) := by decide +kernel
theorem d1_32 : decode prog_26_method_20_code 32 = .ok (.dadd, 1) := by decide +kernel
theorem d1_33 : decode prog_26_method_20_code 33 = .ok (.dstore_n 3, 1) := by decide +kernel
theorem d1_34 : decode prog_26_method_20_code 34 = .ok (.dload_n 1, 1) := by decide +kernel
theorem d1_35 : decode prog_26_method_20_code 35 = .ok (.dload_n 3, 1) := by decide +kernel
theorem d1_36 : decode prog_26_method_20_code 36 = .ok (.dload_n 3, 1) := by decide +kernel
theorem d1_37 : decode prog_26_method_20_code 37 = .ok (.dmul, 1) := by decide +kernel
theorem d1_38 : decode prog_26_method_20_code 38 = .ok (.dadd, 1) := by decide +kernel
theorem d1_39 : decode prog_26_method_20_code 39 = .ok (.dstore_n 1, 1) := by decide +kernel
theorem d1_40 : decode prog_26_method_20_code 40 = .ok (.iinc 7 1, 3) := by decide +kernel
theorem d1_43 : decode prog_26_method_20_code 43 = .ok (.goto (-28), 3) := by decide +kernel
theorem pd_0 : parseMethodDescriptor "(I)J" = some ⟨[.int], some .long⟩ := by decide +kernel
theorem pd_1 : parseMethodDescriptor "([D)D" = some ⟨[(.array .double)], some .double⟩ := by decide +kernel
theorem ef_2 (m : MethodId) (x0 : Int32) : entryFrame m #[(.int x0)] 1 = mkF m 0 #[.val (.int x0)] [] := by first | (simp [entryFrame, mkF, argsToLocals, Value.category]; done) | rfl
theorem pn_2 : plainFor (⟨"com/example/memechain/memechain/benchmark/FunctionsSchwefel12PinLaw", "small", "(I)J"⟩ : MethodName) = true := plainFor_of_name (by first | (simp [plainName, overriddenIn]; done) | decide +kernel)
set_option maxRecDepth 65536 in
set_option maxHeartbeats 40000000 in
theorem rm2 (l : Launch) (Z : State) (a0 : Array Value) (hw : ∀ d ∈ tables_1, d.before a0 Z = true) (p1 : Int32)  (h0 : Heap) (n0 : Nat) (Z0 : n0 ≤ h0.size) :
    Ct l (⟨"com/example/memechain/memechain/benchmark/FunctionsSchwefel12PinLaw", "small", "(I)J"⟩ : MethodName) method_2_code 1 (some .long) ({ frames := 0, cells := 0, slots := 0, locals := 0 } : Room) Z [(.int p1)] h0 (fun v h L => (∃ z : Int64, v = some (.long z) ∧ z.toInt.natAbs ≤ 1048576) ∧ Fr n0 L ∧ h = h0) := by
  refine met pn_2 ?_
  intro p e s m below meth c T0 hx hby hml hown hret hlk hnm hZ X0 e0
  have N0 := Fr.nil n0
  have hown : s.vm.findClass "com/example/memechain/memechain/benchmark/FunctionsSchwefel12PinLaw" = some m.cls := hown
  refine Goes.cast (ef_2 m p1) ?_
  show Goes p e below _ T0 (mkF m 0 #[.val (.int p1)] [])
  refine Goes.of (fun _ kont => XS.iloadN X0.here hx rfl (Jvm.hb hby d2_0) rfl kont) ?_
  show Goes p e below _ T0 (mkF m 1 #[.val (.int p1)] [(.int p1)])
  refine Goes.of (fun _ kont => XS.bipush X0.here hx rfl (Jvm.hb hby d2_1) kont) ?_
  show Goes p e below _ T0 (mkF m 3 #[.val (.int p1)] [(.int (11 : Int32)), (.int p1)])
  refine Goes.of (fun _ kont => XT.ishl X0.here hx rfl (Jvm.hb hby d2_3) rfl kont) ?_
  show Goes p e below _ T0 (mkF m 4 #[.val (.int p1)] [(.int (p1 <<< ((11 : Int32) &&& 31)))])
  refine Goes.of (fun _ kont => XS.bipush X0.here hx rfl (Jvm.hb hby d2_4) kont) ?_
  show Goes p e below _ T0 (mkF m 6 #[.val (.int p1)] [(.int (11 : Int32)), (.int (p1 <<< ((11 : Int32) &&& 31)))])
  refine Goes.of (fun _ kont => XT.ishr X0.here hx rfl (Jvm.hb hby d2_6) rfl kont) ?_
  show Goes p e below _ T0 (mkF m 7 #[.val (.int p1)] [(.int ((p1 <<< ((11 : Int32) &&& 31)) >>> ((11 : Int32) &&& 31)))])
  refine Goes.of (fun _ kont => XT.i2l X0.here hx rfl (Jvm.hb hby d2_7) rfl kont) ?_
  show Goes p e below _ T0 (mkF m 8 #[.val (.int p1)] [(.long (Int32.toInt64 ((p1 <<< ((11 : Int32) &&& 31)) >>> ((11 : Int32) &&& 31))))])
  exact retJ X0 hx hlk hret (Jvm.hb hby d2_8) (by decide) (by decide) ⟨⟨_, rfl, own_small p1⟩, N0, e0⟩
theorem ef_1 (m : MethodId) (x0 : Addr) : entryFrame m #[(.ref x0)] 10 = mkF m 0 #[.val (.ref x0), .unset, .unset, .unset, .unset, .unset, .unset, .unset, .unset, .unset] [] := by first | (simp [entryFrame, mkF, argsToLocals, Value.category]; done) | rfl
theorem pn_1_0 : plainFor (⟨"com/example/memechain/memechain/benchmark/Functions", "schwefel12", "([D)D"⟩ : MethodName) = true := plainFor_of_name (by first | (simp [plainName, overriddenIn]; done) | decide +kernel)
set_option maxRecDepth 65536 in
set_option maxHeartbeats 40000000 in
theorem rm1_0 (l : Launch) (Z : State) (a0 : Array Value) (hw : ∀ d ∈ tables_1, d.before a0 Z = true) (aX : Addr)  (h0 : Heap) (n0 : Nat) (Z0 : n0 ≤ h0.size) (VX : DA Z h0 aX []) :
    Ct l (⟨"com/example/memechain/memechain/benchmark/Functions", "schwefel12", "([D)D"⟩ : MethodName) prog_26_method_20_code 10 (some .double) ({ frames := 0, cells := 0, slots := 0, locals := 0 } : Room) Z [(.ref aX)] h0 (fun v h L => (∃ z, v = some (.double z) ∧ Dy (0) 0 z) ∧ Fr n0 L ∧ h = h0) := by
  refine met pn_1_0 ?_
  intro p e s m below meth c T0 hx hby hml hown hret hlk hnm hZ X0 e0
  have N0 := Fr.nil n0
  have hown : s.vm.findClass "com/example/memechain/memechain/benchmark/Functions" = some m.cls := hown
  refine Goes.cast (ef_1 m aX) ?_
  show Goes p e below _ T0 (mkF m 0 #[.val (.ref aX), .unset, .unset, .unset, .unset, .unset, .unset, .unset, .unset, .unset] [])
  refine Goes.of (fun _ kont => XS.dconst0 X0.here hx rfl (Jvm.hb hby d1_0) rfl kont) ?_
  show Goes p e below _ T0 (mkF m 1 #[.val (.ref aX), .unset, .unset, .unset, .unset, .unset, .unset, .unset, .unset, .unset] [(.double FP.dconst0)])
  refine Goes.of (fun _ kont => XS.dstoreN X0.here hx rfl (Jvm.hb hby d1_1) rfl (l' := #[.val (.ref aX), .val (.double FP.dconst0), .second, .unset, .unset, .unset, .unset, .unset, .unset, .unset]) rfl kont) ?_
  show Goes p e below _ T0 (mkF m 2 #[.val (.ref aX), .val (.double FP.dconst0), .second, .unset, .unset, .unset, .unset, .unset, .unset, .unset] [])
  refine Goes.of (fun _ kont => XS.dconst0 X0.here hx rfl (Jvm.hb hby d1_2) rfl kont) ?_
  show Goes p e below _ T0 (mkF m 3 #[.val (.ref aX), .val (.double FP.dconst0), .second, .unset, .unset, .unset, .unset, .unset, .unset, .unset] [(.double FP.dconst0)])
  refine Goes.of (fun _ kont => XS.dstoreN X0.here hx rfl (Jvm.hb hby d1_3) rfl (l' := #[.val (.ref aX), .val (.double FP.dconst0), .second, .val (.double FP.dconst0), .second, .unset, .unset, .unset, .unset, .unset]) rfl kont) ?_
  show Goes p e below _ T0 (mkF m 4 #[.val (.ref aX), .val (.double FP.dconst0), .second, .val (.double FP.dconst0), .second, .unset, .unset, .unset, .unset, .unset] [])
  refine Goes.of (fun _ kont => XS.aloadN X0.here hx rfl (Jvm.hb hby d1_4) rfl rfl kont) ?_
  show Goes p e below _ T0 (mkF m 5 #[.val (.ref aX), .val (.double FP.dconst0), .second, .val (.double FP.dconst0), .second, .unset, .unset, .unset, .unset, .unset] [(.ref aX)])
  refine Goes.of (fun _ kont => XS.astore X0.here hx rfl (Jvm.hb hby d1_5) rfl rfl (l' := #[.val (.ref aX), .val (.double FP.dconst0), .second, .val (.double FP.dconst0), .second, .val (.ref aX), .unset, .unset, .unset, .unset]) rfl kont) ?_
  show Goes p e below _ T0 (mkF m 7 #[.val (.ref aX), .val (.double FP.dconst0), .second, .val (.double FP.dconst0), .second, .val (.ref aX), .unset, .unset, .unset, .unset] [])
  refine Goes.of (fun _ kont => XS.aload X0.here hx rfl (Jvm.hb hby d1_7) rfl rfl kont) ?_
  show Goes p e below _ T0 (mkF m 9 #[.val (.ref aX), .val (.double FP.dconst0), .second, .val (.double FP.dconst0), .second, .val (.ref aX), .unset, .unset, .unset, .unset] [(.ref aX)])
  refine goLen X0 hx hZ e0 VX (n := 0) (by show Int32.toInt 0 = ((0 : Nat) : Int); decide) (g := (mkF m 9 #[.val (.ref aX), .val (.double FP.dconst0), .second, .val (.double FP.dconst0), .second, .val (.ref aX), .unset, .unset, .unset, .unset] [(.ref aX)])) rfl rfl (Jvm.hb hby d1_9) ?_
  show Goes p e below _ T0 (mkF m 10 #[.val (.ref aX), .val (.double FP.dconst0), .second, .val (.double FP.dconst0), .second, .val (.ref aX), .unset, .unset, .unset, .unset] [(.int (0 : Int32))])
  refine Goes.of (fun _ kont => XS.istore X0.here hx rfl (Jvm.hb hby d1_10) rfl (l' := #[.val (.ref aX), .val (.double FP.dconst0), .second, .val (.double FP.dconst0), .second, .val (.ref aX), .val (.int (0 : Int32)), .unset, .unset, .unset]) rfl kont) ?_
  show Goes p e below _ T0 (mkF m 12 #[.val (.ref aX), .val (.double FP.dconst0), .second, .val (.double FP.dconst0), .second, .val (.ref aX), .val (.int (0 : Int32)), .unset, .unset, .unset] [])
  refine Goes.of (fun _ kont => XS.iconst X0.here hx rfl (Jvm.hb hby d1_12) kont) ?_
  show Goes p e below _ T0 (mkF m 13 #[.val (.ref aX), .val (.double FP.dconst0), .second, .val (.double FP.dconst0), .second, .val (.ref aX), .val (.int (0 : Int32)), .unset, .unset, .unset] [(.int (0 : Int32))])
  refine Goes.of (fun _ kont => XS.istore X0.here hx rfl (Jvm.hb hby d1_13) rfl (l' := #[.val (.ref aX), .val (.double FP.dconst0), .second, .val (.double FP.dconst0), .second, .val (.ref aX), .val (.int (0 : Int32)), .val (.int (0 : Int32)), .unset, .unset]) rfl kont) ?_
  show Goes p e below _ T0 (mkF m 15 #[.val (.ref aX), .val (.double FP.dconst0), .second, .val (.double FP.dconst0), .second, .val (.ref aX), .val (.int (0 : Int32)), .val (.int (0 : Int32)), .unset, .unset] [])
  have Dz0 := dy_zero 0
  have Ds0 := dy_zero 0
  refine Goes.of (fun _ kont => XS.iload X0.here hx rfl (Jvm.hb hby d1_15) rfl kont) ?_
  show Goes p e below _ T0 (mkF m 17 #[.val (.ref aX), .val (.double FP.dconst0), .second, .val (.double FP.dconst0), .second, .val (.ref aX), .val (.int (0 : Int32)), .val (.int (0 : Int32)), .unset, .unset] [(.int (0 : Int32))])
  refine Goes.of (fun _ kont => XS.iload X0.here hx rfl (Jvm.hb hby d1_17) rfl kont) ?_
  show Goes p e below _ T0 (mkF m 19 #[.val (.ref aX), .val (.double FP.dconst0), .second, .val (.double FP.dconst0), .second, .val (.ref aX), .val (.int (0 : Int32)), .val (.int (0 : Int32)), .unset, .unset] [(.int (0 : Int32)), (.int (0 : Int32))])
  refine Goes.of (fun _ kont => XS.icmpYes X0.here hx rfl (pc0 := 19) (pc' := 46) rfl (Jvm.hb hby d1_19) rfl (by decide) (by decide) (by decide) kont) ?_
  show Goes p e below _ T0 (mkF m 46 #[.val (.ref aX), .val (.double FP.dconst0), .second, .val (.double FP.dconst0), .second, .val (.ref aX), .val (.int (0 : Int32)), .val (.int (0 : Int32)), .unset, .unset] [])
  refine Goes.of (fun _ kont => XS.dloadN X0.here hx rfl (Jvm.hb hby d1_46) rfl kont) ?_
  show Goes p e below _ T0 (mkF m 47 #[.val (.ref aX), .val (.double FP.dconst0), .second, .val (.double FP.dconst0), .second, .val (.ref aX), .val (.int (0 : Int32)), .val (.int (0 : Int32)), .unset, .unset] [(.double FP.dconst0)])
  exact retD X0 hx hlk hret (Jvm.hb hby d1_47) (by decide) (by decide) ⟨⟨_, rfl, Dz0⟩, N0, e0⟩
theorem pn_1_1 : plainFor (⟨"com/example/memechain/memechain/benchmark/Functions", "schwefel12", "([D)D"⟩ : MethodName) = true := plainFor_of_name (by first | (simp [plainName, overriddenIn]; done) | decide +kernel)
set_option maxRecDepth 65536 in
set_option maxHeartbeats 40000000 in
theorem rm1_1 (l : Launch) (Z : State) (a0 : Array Value) (hw : ∀ d ∈ tables_1, d.before a0 Z = true) (aX : Addr) (x0 : UInt64) (a0 : Int) (h0 : Heap) (n0 : Nat) (Z0 : n0 ≤ h0.size) (VX : DA Z h0 aX [x0]) (D0 : Dy a0 0 x0) (b0 : a0.natAbs ≤ 1048576) :
    Ct l (⟨"com/example/memechain/memechain/benchmark/Functions", "schwefel12", "([D)D"⟩ : MethodName) prog_26_method_20_code 10 (some .double) ({ frames := 0, cells := 0, slots := 0, locals := 0 } : Room) Z [(.ref aX)] h0 (fun v h L => (∃ z, v = some (.double z) ∧ Dy ((a0) * (a0)) 0 z) ∧ Fr n0 L ∧ h = h0) := by
  refine met pn_1_1 ?_
  intro p e s m below meth c T0 hx hby hml hown hret hlk hnm hZ X0 e0
  have N0 := Fr.nil n0
  have hown : s.vm.findClass "com/example/memechain/memechain/benchmark/Functions" = some m.cls := hown
  refine Goes.cast (ef_1 m aX) ?_
  show Goes p e below _ T0 (mkF m 0 #[.val (.ref aX), .unset, .unset, .unset, .unset, .unset, .unset, .unset, .unset, .unset] [])
  refine Goes.of (fun _ kont => XS.dconst0 X0.here hx rfl (Jvm.hb hby d1_0) rfl kont) ?_
  show Goes p e below _ T0 (mkF m 1 #[.val (.ref aX), .unset, .unset, .unset, .unset, .unset, .unset, .unset, .unset, .unset] [(.double FP.dconst0)])
  refine Goes.of (fun _ kont => XS.dstoreN X0.here hx rfl (Jvm.hb hby d1_1) rfl (l' := #[.val (.ref aX), .val (.double FP.dconst0), .second, .unset, .unset, .unset, .unset, .unset, .unset, .unset]) rfl kont) ?_
  show Goes p e below _ T0 (mkF m 2 #[.val (.ref aX), .val (.double FP.dconst0), .second, .unset, .unset, .unset, .unset, .unset, .unset, .unset] [])
  refine Goes.of (fun _ kont => XS.dconst0 X0.here hx rfl (Jvm.hb hby d1_2) rfl kont) ?_
  show Goes p e below _ T0 (mkF m 3 #[.val (.ref aX), .val (.double FP.dconst0), .second, .unset, .unset, .unset, .unset, .unset, .unset, .unset] [(.double FP.dconst0)])
  refine Goes.of (fun _ kont => XS.dstoreN X0.here hx rfl (Jvm.hb hby d1_3) rfl (l' := #[.val (.ref aX), .val (.double FP.dconst0), .second, .val (.double FP.dconst0), .second, .unset, .unset, .unset, .unset, .unset]) rfl kont) ?_
  show Goes p e below _ T0 (mkF m 4 #[.val (.ref aX), .val (.double FP.dconst0), .second, .val (.double FP.dconst0), .second, .unset, .unset, .unset, .unset, .unset] [])
  refine Goes.of (fun _ kont => XS.aloadN X0.here hx rfl (Jvm.hb hby d1_4) rfl rfl kont) ?_
  show Goes p e below _ T0 (mkF m 5 #[.val (.ref aX), .val (.double FP.dconst0), .second, .val (.double FP.dconst0), .second, .unset, .unset, .unset, .unset, .unset] [(.ref aX)])
  refine Goes.of (fun _ kont => XS.astore X0.here hx rfl (Jvm.hb hby d1_5) rfl rfl (l' := #[.val (.ref aX), .val (.double FP.dconst0), .second, .val (.double FP.dconst0), .second, .val (.ref aX), .unset, .unset, .unset, .unset]) rfl kont) ?_
  show Goes p e below _ T0 (mkF m 7 #[.val (.ref aX), .val (.double FP.dconst0), .second, .val (.double FP.dconst0), .second, .val (.ref aX), .unset, .unset, .unset, .unset] [])
  refine Goes.of (fun _ kont => XS.aload X0.here hx rfl (Jvm.hb hby d1_7) rfl rfl kont) ?_
  show Goes p e below _ T0 (mkF m 9 #[.val (.ref aX), .val (.double FP.dconst0), .second, .val (.double FP.dconst0), .second, .val (.ref aX), .unset, .unset, .unset, .unset] [(.ref aX)])
  refine goLen X0 hx hZ e0 VX (n := 1) (by show Int32.toInt 1 = ((1 : Nat) : Int); decide) (g := (mkF m 9 #[.val (.ref aX), .val (.double FP.dconst0), .second, .val (.double FP.dconst0), .second, .val (.ref aX), .unset, .unset, .unset, .unset] [(.ref aX)])) rfl rfl (Jvm.hb hby d1_9) ?_
  show Goes p e below _ T0 (mkF m 10 #[.val (.ref aX), .val (.double FP.dconst0), .second, .val (.double FP.dconst0), .second, .val (.ref aX), .unset, .unset, .unset, .unset] [(.int (1 : Int32))])
  refine Goes.of (fun _ kont => XS.istore X0.here hx rfl (Jvm.hb hby d1_10) rfl (l' := #[.val (.ref aX), .val (.double FP.dconst0), .second, .val (.double FP.dconst0), .second, .val (.ref aX), .val (.int (1 : Int32)), .unset, .unset, .unset]) rfl kont) ?_
  show Goes p e below _ T0 (mkF m 12 #[.val (.ref aX), .val (.double FP.dconst0), .second, .val (.double FP.dconst0), .second, .val (.ref aX), .val (.int (1 : Int32)), .unset, .unset, .unset] [])
  refine Goes.of (fun _ kont => XS.iconst X0.here hx rfl (Jvm.hb hby d1_12) kont) ?_
  show Goes p e below _ T0 (mkF m 13 #[.val (.ref aX), .val (.double FP.dconst0), .second, .val (.double FP.dconst0), .second, .val (.ref aX), .val (.int (1 : Int32)), .unset, .unset, .unset] [(.int (0 : Int32))])
  refine Goes.of (fun _ kont => XS.istore X0.here hx rfl (Jvm.hb hby d1_13) rfl (l' := #[.val (.ref aX), .val (.double FP.dconst0), .second, .val (.double FP.dconst0), .second, .val (.ref aX), .val (.int (1 : Int32)), .val (.int (0 : Int32)), .unset, .unset]) rfl kont) ?_
  show Goes p e below _ T0 (mkF m 15 #[.val (.ref aX), .val (.double FP.dconst0), .second, .val (.double FP.dconst0), .second, .val (.ref aX), .val (.int (1 : Int32)), .val (.int (0 : Int32)), .unset, .unset] [])
  have Dz0 := dy_zero 0
  have Ds0 := dy_zero 0
  refine Goes.of (fun _ kont => XS.iload X0.here hx rfl (Jvm.hb hby d1_15) rfl kont) ?_
  show Goes p e below _ T0 (mkF m 17 #[.val (.ref aX), .val (.double FP.dconst0), .second, .val (.double FP.dconst0), .second, .val (.ref aX), .val (.int (1 : Int32)), .val (.int (0 : Int32)), .unset, .unset] [(.int (0 : Int32))])
  refine Goes.of (fun _ kont => XS.iload X0.here hx rfl (Jvm.hb hby d1_17) rfl kont) ?_
  show Goes p e below _ T0 (mkF m 19 #[.val (.ref aX), .val (.double FP.dconst0), .second, .val (.double FP.dconst0), .second, .val (.ref aX), .val (.int (1 : Int32)), .val (.int (0 : Int32)), .unset, .unset] [(.int (1 : Int32)), (.int (0 : Int32))])
  refine Goes.of (fun _ kont => XS.icmpNo X0.here hx rfl (Jvm.hb hby d1_19) rfl (by decide) kont) ?_
  show Goes p e below _ T0 (mkF m 22 #[.val (.ref aX), .val (.double FP.dconst0), .second, .val (.double FP.dconst0), .second, .val (.ref aX), .val (.int (1 : Int32)), .val (.int (0 : Int32)), .unset, .unset] [])
  refine Goes.of (fun _ kont => XS.aload X0.here hx rfl (Jvm.hb hby d1_22) rfl rfl kont) ?_
  show Goes p e below _ T0 (mkF m 24 #[.val (.ref aX), .val (.double FP.dconst0), .second, .val (.double FP.dconst0), .second, .val (.ref aX), .val (.int (1 : Int32)), .val (.int (0 : Int32)), .unset, .unset] [(.ref aX)])
  refine Goes.of (fun _ kont => XS.iload X0.here hx rfl (Jvm.hb hby d1_24) rfl kont) ?_
  show Goes p e below _ T0 (mkF m 26 #[.val (.ref aX), .val (.double FP.dconst0), .second, .val (.double FP.dconst0), .second, .val (.ref aX), .val (.int (1 : Int32)), .val (.int (0 : Int32)), .unset, .unset] [(.int (0 : Int32)), (.ref aX)])
  refine goLdD X0 hx hZ e0 VX 0 (by decide) (w := x0) rfl (g := (mkF m 26 #[.val (.ref aX), .val (.double FP.dconst0), .second, .val (.double FP.dconst0), .second, .val (.ref aX), .val (.int (1 : Int32)), .val (.int (0 : Int32)), .unset, .unset] [(.int (0 : Int32)), (.ref aX)])) rfl rfl (Jvm.hb hby d1_26) ?_
  show Goes p e below _ T0 (mkF m 27 #[.val (.ref aX), .val (.double FP.dconst0), .second, .val (.double FP.dconst0), .second, .val (.ref aX), .val (.int (1 : Int32)), .val (.int (0 : Int32)), .unset, .unset] [(.double x0)])
  refine Goes.of (fun _ kont => XS.dstore X0.here hx rfl (Jvm.hb hby d1_27) rfl (l' := #[.val (.ref aX), .val (.double FP.dconst0), .second, .val (.double FP.dconst0), .second, .val (.ref aX), .val (.int (1 : Int32)), .val (.int (0 : Int32)), .val (.double x0), .second]) rfl kont) ?_
  show Goes p e below _ T0 (mkF m 29 #[.val (.ref aX), .val (.double FP.dconst0), .second, .val (.double FP.dconst0), .second, .val (.ref aX), .val (.int (1 : Int32)), .val (.int (0 : Int32)), .val (.double x0), .second] [])
  refine Goes.of (fun _ kont => XS.dloadN X0.here hx rfl (Jvm.hb hby d1_29) rfl kont) ?_
  show Goes p e below _ T0 (mkF m 30 #[.val (.ref aX), .val (.double FP.dconst0), .second, .val (.double FP.dconst0), .second, .val (.ref aX), .val (.int (1 : Int32)), .val (.int (0 : Int32)), .val (.double x0), .second] [(.double FP.dconst0)])
  refine Goes.of (fun _ kont => XS.dload X0.here hx rfl (Jvm.hb hby d1_30) rfl kont) ?_
  show Goes p e below _ T0 (mkF m 32 #[.val (.ref aX), .val (.double FP.dconst0), .second, .val (.double FP.dconst0), .second, .val (.ref aX), .val (.int (1 : Int32)), .val (.int (0 : Int32)), .val (.double x0), .second] [(.double x0), (.double FP.dconst0)])
  have Ds1 := own_add Ds0 D0 (by omega)
  refine Goes.of (fun _ kont => XS.daddS X0.here hx rfl (Jvm.hb hby d1_32) rfl Ds1.noNaN rfl kont) ?_
  show Goes p e below _ T0 (mkF m 33 #[.val (.ref aX), .val (.double FP.dconst0), .second, .val (.double FP.dconst0), .second, .val (.ref aX), .val (.int (1 : Int32)), .val (.int (0 : Int32)), .val (.double x0), .second] [(.double (FP.dadd FP.dconst0 x0))])
  generalize hs1 : (FP.dadd FP.dconst0 x0) = s1
  show Goes p e below _ T0 (mkF m 33 #[.val (.ref aX), .val (.double FP.dconst0), .second, .val (.double FP.dconst0), .second, .val (.ref aX), .val (.int (1 : Int32)), .val (.int (0 : Int32)), .val (.double x0), .second] [(.double s1)])
  rw [hs1, Int.zero_add] at Ds1
  refine Goes.of (fun _ kont => XS.dstoreN X0.here hx rfl (Jvm.hb hby d1_33) rfl (l' := #[.val (.ref aX), .val (.double FP.dconst0), .second, .val (.double s1), .second, .val (.ref aX), .val (.int (1 : Int32)), .val (.int (0 : Int32)), .val (.double x0), .second]) rfl kont) ?_
  show Goes p e below _ T0 (mkF m 34 #[.val (.ref aX), .val (.double FP.dconst0), .second, .val (.double s1), .second, .val (.ref aX), .val (.int (1 : Int32)), .val (.int (0 : Int32)), .val (.double x0), .second] [])
  refine Goes.of (fun _ kont => XS.dloadN X0.here hx rfl (Jvm.hb hby d1_34) rfl kont) ?_
  show Goes p e below _ T0 (mkF m 35 #[.val (.ref aX), .val (.double FP.dconst0), .second, .val (.double s1), .second, .val (.ref aX), .val (.int (1 : Int32)), .val (.int (0 : Int32)), .val (.double x0), .second] [(.double FP.dconst0)])
  refine Goes.of (fun _ kont => XS.dloadN X0.here hx rfl (Jvm.hb hby d1_35) rfl kont) ?_
  show Goes p e below _ T0 (mkF m 36 #[.val (.ref aX), .val (.double FP.dconst0), .second, .val (.double s1), .second, .val (.ref aX), .val (.int (1 : Int32)), .val (.int (0 : Int32)), .val (.double x0), .second] [(.double s1), (.double FP.dconst0)])
  refine Goes.of (fun _ kont => XS.dloadN X0.here hx rfl (Jvm.hb hby d1_36) rfl kont) ?_
  show Goes p e below _ T0 (mkF m 37 #[.val (.ref aX), .val (.double FP.dconst0), .second, .val (.double s1), .second, .val (.ref aX), .val (.int (1 : Int32)), .val (.int (0 : Int32)), .val (.double x0), .second] [(.double s1), (.double s1), (.double FP.dconst0)])
  have Dq1 := own_sq Ds1 (by omega)
  refine Goes.of (fun _ kont => XS.dmulS X0.here hx rfl (Jvm.hb hby d1_37) rfl Dq1.noNaN rfl kont) ?_
  show Goes p e below _ T0 (mkF m 38 #[.val (.ref aX), .val (.double FP.dconst0), .second, .val (.double s1), .second, .val (.ref aX), .val (.int (1 : Int32)), .val (.int (0 : Int32)), .val (.double x0), .second] [(.double (FP.dmul s1 s1)), (.double FP.dconst0)])
  generalize hq1 : (FP.dmul s1 s1) = q1
  show Goes p e below _ T0 (mkF m 38 #[.val (.ref aX), .val (.double FP.dconst0), .second, .val (.double s1), .second, .val (.ref aX), .val (.int (1 : Int32)), .val (.int (0 : Int32)), .val (.double x0), .second] [(.double q1), (.double FP.dconst0)])
  rw [hq1] at Dq1
  have Dz1 := own_add Dz0 Dq1 (by have := own_sqb (a := a0) (A := 4194304) (by omega); omega)
  refine Goes.of (fun _ kont => XS.daddS X0.here hx rfl (Jvm.hb hby d1_38) rfl Dz1.noNaN rfl kont) ?_
  show Goes p e below _ T0 (mkF m 39 #[.val (.ref aX), .val (.double FP.dconst0), .second, .val (.double s1), .second, .val (.ref aX), .val (.int (1 : Int32)), .val (.int (0 : Int32)), .val (.double x0), .second] [(.double (FP.dadd FP.dconst0 q1))])
  generalize hz1 : (FP.dadd FP.dconst0 q1) = z1
  show Goes p e below _ T0 (mkF m 39 #[.val (.ref aX), .val (.double FP.dconst0), .second, .val (.double s1), .second, .val (.ref aX), .val (.int (1 : Int32)), .val (.int (0 : Int32)), .val (.double x0), .second] [(.double z1)])
  rw [hz1, Int.zero_add] at Dz1
  refine Goes.of (fun _ kont => XS.dstoreN X0.here hx rfl (Jvm.hb hby d1_39) rfl (l' := #[.val (.ref aX), .val (.double z1), .second, .val (.double s1), .second, .val (.ref aX), .val (.int (1 : Int32)), .val (.int (0 : Int32)), .val (.double x0), .second]) rfl kont) ?_
  show Goes p e below _ T0 (mkF m 40 #[.val (.ref aX), .val (.double z1), .second, .val (.double s1), .second, .val (.ref aX), .val (.int (1 : Int32)), .val (.int (0 : Int32)), .val (.double x0), .second] [])
  refine Goes.of (fun _ kont => XS.iinc X0.here hx rfl (Jvm.hb hby d1_40) rfl (l' := #[.val (.ref aX), .val (.double z1), .second, .val (.double s1), .second, .val (.ref aX), .val (.int (1 : Int32)), .val (.int (1 : Int32)), .val (.double x0), .second]) rfl kont) ?_
  show Goes p e below _ T0 (mkF m 43 #[.val (.ref aX), .val (.double z1), .second, .val (.double s1), .second, .val (.ref aX), .val (.int (1 : Int32)), .val (.int (1 : Int32)), .val (.double x0), .second] [])
  refine Goes.of (fun _ kont => XS.goto X0.here hx rfl (pc0 := 43) (pc' := 15) rfl (Jvm.hb hby d1_43) (by decide) (by decide) kont) ?_
  show Goes p e below _ T0 (mkF m 15 #[.val (.ref aX), .val (.double z1), .second, .val (.double s1), .second, .val (.ref aX), .val (.int (1 : Int32)), .val (.int (1 : Int32)), .val (.double x0), .second] [])
  refine Goes.of (fun _ kont => XS.iload X0.here hx rfl (Jvm.hb hby d1_15) rfl kont) ?_
  show Goes p e below _ T0 (mkF m 17 #[.val (.ref aX), .val (.double z1), .second, .val (.double s1), .second, .val (.ref aX), .val (.int (1 : Int32)), .val (.int (1 : Int32)), .val (.double x0), .second] [(.int (1 : Int32))])
  refine Goes.of (fun _ kont => XS.iload X0.here hx rfl (Jvm.hb hby d1_17) rfl kont) ?_
  show Goes p e below _ T0 (mkF m 19 #[.val (.ref aX), .val (.double z1), .second, .val (.double s1), .second, .val (.ref aX), .val (.int (1 : Int32)), .val (.int (1 : Int32)), .val (.double x0), .second] [(.int (1 : Int32)), (.int (1 : Int32))])
  refine Goes.of (fun _ kont => XS.icmpYes X0.here hx rfl (pc0 := 19) (pc' := 46) rfl (Jvm.hb hby d1_19) rfl (by decide) (by decide) (by decide) kont) ?_
  show Goes p e below _ T0 (mkF m 46 #[.val (.ref aX), .val (.double z1), .second, .val (.double s1), .second, .val (.ref aX), .val (.int (1 : Int32)), .val (.int (1 : Int32)), .val (.double x0), .second] [])
  refine Goes.of (fun _ kont => XS.dloadN X0.here hx rfl (Jvm.hb hby d1_46) rfl kont) ?_
  show Goes p e below _ T0 (mkF m 47 #[.val (.ref aX), .val (.double z1), .second, .val (.double s1), .second, .val (.ref aX), .val (.int (1 : Int32)), .val (.int (1 : Int32)), .val (.double x0), .second] [(.double z1)])
  exact retD X0 hx hlk hret (Jvm.hb hby d1_47) (by decide) (by decide) ⟨⟨_, rfl, Dz1⟩, N0, e0⟩
theorem pn_1_2 : plainFor (⟨"com/example/memechain/memechain/benchmark/Functions", "schwefel12", "([D)D"⟩ : MethodName) = true := plainFor_of_name (by first | (simp [plainName, overriddenIn]; done) | decide +kernel)
set_option maxRecDepth 65536 in
set_option maxHeartbeats 40000000 in
theorem rm1_2 (l : Launch) (Z : State) (a0 : Array Value) (hw : ∀ d ∈ tables_1, d.before a0 Z = true) (aX : Addr) (x0 : UInt64) (a0 : Int) (x1 : UInt64) (a1 : Int) (h0 : Heap) (n0 : Nat) (Z0 : n0 ≤ h0.size) (VX : DA Z h0 aX [x0, x1]) (D0 : Dy a0 0 x0) (b0 : a0.natAbs ≤ 1048576) (D1 : Dy a1 0 x1) (b1 : a1.natAbs ≤ 1048576) :
    Ct l (⟨"com/example/memechain/memechain/benchmark/Functions", "schwefel12", "([D)D"⟩ : MethodName) prog_26_method_20_code 10 (some .double) ({ frames := 0, cells := 0, slots := 0, locals := 0 } : Room) Z [(.ref aX)] h0 (fun v h L => (∃ z, v = some (.double z) ∧ Dy ((a0) * (a0) + (a0 + a1) * (a0 + a1)) 0 z) ∧ Fr n0 L ∧ h = h0) := by
  refine met pn_1_2 ?_
  intro p e s m below meth c T0 hx hby hml hown hret hlk hnm hZ X0 e0
  have N0 := Fr.nil n0
  have hown : s.vm.findClass "com/example/memechain/memechain/benchmark/Functions" = some m.cls := hown
  refine Goes.cast (ef_1 m aX) ?_
  show Goes p e below _ T0 (mkF m 0 #[.val (.ref aX), .unset, .unset, .unset, .unset, .unset, .unset, .unset, .unset, .unset] [])
  refine Goes.of (fun _ kont => XS.dconst0 X0.here hx rfl (Jvm.hb hby d1_0) rfl kont) ?_
  show Goes p e below _ T0 (mkF m 1 #[.val (.ref aX), .unset, .unset, .unset, .unset, .unset, .unset, .unset, .unset, .unset] [(.double FP.dconst0)])
  refine Goes.of (fun _ kont => XS.dstoreN X0.here hx rfl (Jvm.hb hby d1_1) rfl (l' := #[.val (.ref aX), .val (.double FP.dconst0), .second, .unset, .unset, .unset, .unset, .unset, .unset, .unset]) rfl kont) ?_
  show Goes p e below _ T0 (mkF m 2 #[.val (.ref aX), .val (.double FP.dconst0), .second, .unset, .unset, .unset, .unset, .unset, .unset, .unset] [])
  refine Goes.of (fun _ kont => XS.dconst0 X0.here hx rfl (Jvm.hb hby d1_2) rfl kont) ?_
  show Goes p e below _ T0 (mkF m 3 #[.val (.ref aX), .val (.double FP.dconst0), .second, .unset, .unset, .unset, .unset, .unset, .unset, .unset] [(.double FP.dconst0)])
  refine Goes.of (fun _ kont => XS.dstoreN X0.here hx rfl (Jvm.hb hby d1_3) rfl (l' := #[.val (.ref aX), .val (.double FP.dconst0), .second, .val (.double FP.dconst0), .second, .unset, .unset, .unset, .unset, .unset]) rfl kont) ?_
  show Goes p e below _ T0 (mkF m 4 #[.val (.ref aX), .val (.double FP.dconst0), .second, .val (.double FP.dconst0), .second, .unset, .unset, .unset, .unset, .unset] [])
  refine Goes.of (fun _ kont => XS.aloadN X0.here hx rfl (Jvm.hb hby d1_4) rfl rfl kont) ?_
  show Goes p e below _ T0 (mkF m 5 #[.val (.ref aX), .val (.double FP.dconst0), .second, .val (.double FP.dconst0), .second, .unset, .unset, .unset, .unset, .unset] [(.ref aX)])
  refine Goes.of (fun _ kont => XS.astore X0.here hx rfl (Jvm.hb hby d1_5) rfl rfl (l' := #[.val (.ref aX), .val (.double FP.dconst0), .second, .val (.double FP.dconst0), .second, .val (.ref aX), .unset, .unset, .unset, .unset]) rfl kont) ?_
  show Goes p e below _ T0 (mkF m 7 #[.val (.ref aX), .val (.double FP.dconst0), .second, .val (.double FP.dconst0), .second, .val (.ref aX), .unset, .unset, .unset, .unset] [])
  refine Goes.of (fun _ kont => XS.aload X0.here hx rfl (Jvm.hb hby d1_7) rfl rfl kont) ?_
  show Goes p e below _ T0 (mkF m 9 #[.val (.ref aX), .val (.double FP.dconst0), .second, .val (.double FP.dconst0), .second, .val (.ref aX), .unset, .unset, .unset, .unset] [(.ref aX)])
  refine goLen X0 hx hZ e0 VX (n := 2) (by show Int32.toInt 2 = ((2 : Nat) : Int); decide) (g := (mkF m 9 #[.val (.ref aX), .val (.double FP.dconst0), .second, .val (.double FP.dconst0), .second, .val (.ref aX), .unset, .unset, .unset, .unset] [(.ref aX)])) rfl rfl (Jvm.hb hby d1_9) ?_
  show Goes p e below _ T0 (mkF m 10 #[.val (.ref aX), .val (.double FP.dconst0), .second, .val (.double FP.dconst0), .second, .val (.ref aX), .unset, .unset, .unset, .unset] [(.int (2 : Int32))])
  refine Goes.of (fun _ kont => XS.istore X0.here hx rfl (Jvm.hb hby d1_10) rfl (l' := #[.val (.ref aX), .val (.double FP.dconst0), .second, .val (.double FP.dconst0), .second, .val (.ref aX), .val (.int (2 : Int32)), .unset, .unset, .unset]) rfl kont) ?_
  show Goes p e below _ T0 (mkF m 12 #[.val (.ref aX), .val (.double FP.dconst0), .second, .val (.double FP.dconst0), .second, .val (.ref aX), .val (.int (2 : Int32)), .unset, .unset, .unset] [])
  refine Goes.of (fun _ kont => XS.iconst X0.here hx rfl (Jvm.hb hby d1_12) kont) ?_
  show Goes p e below _ T0 (mkF m 13 #[.val (.ref aX), .val (.double FP.dconst0), .second, .val (.double FP.dconst0), .second, .val (.ref aX), .val (.int (2 : Int32)), .unset, .unset, .unset] [(.int (0 : Int32))])
  refine Goes.of (fun _ kont => XS.istore X0.here hx rfl (Jvm.hb hby d1_13) rfl (l' := #[.val (.ref aX), .val (.double FP.dconst0), .second, .val (.double FP.dconst0), .second, .val (.ref aX), .val (.int (2 : Int32)), .val (.int (0 : Int32)), .unset, .unset]) rfl kont) ?_
  show Goes p e below _ T0 (mkF m 15 #[.val (.ref aX), .val (.double FP.dconst0), .second, .val (.double FP.dconst0), .second, .val (.ref aX), .val (.int (2 : Int32)), .val (.int (0 : Int32)), .unset, .unset] [])
  have Dz0 := dy_zero 0
  have Ds0 := dy_zero 0
  refine Goes.of (fun _ kont => XS.iload X0.here hx rfl (Jvm.hb hby d1_15) rfl kont) ?_
  show Goes p e below _ T0 (mkF m 17 #[.val (.ref aX), .val (.double FP.dconst0), .second, .val (.double FP.dconst0), .second, .val (.ref aX), .val (.int (2 : Int32)), .val (.int (0 : Int32)), .unset, .unset] [(.int (0 : Int32))])
  refine Goes.of (fun _ kont => XS.iload X0.here hx rfl (Jvm.hb hby d1_17) rfl kont) ?_
  show Goes p e below _ T0 (mkF m 19 #[.val (.ref aX), .val (.double FP.dconst0), .second, .val (.double FP.dconst0), .second, .val (.ref aX), .val (.int (2 : Int32)), .val (.int (0 : Int32)), .unset, .unset] [(.int (2 : Int32)), (.int (0 : Int32))])
  refine Goes.of (fun _ kont => XS.icmpNo X0.here hx rfl (Jvm.hb hby d1_19) rfl (by decide) kont) ?_
  show Goes p e below _ T0 (mkF m 22 #[.val (.ref aX), .val (.double FP.dconst0), .second, .val (.double FP.dconst0), .second, .val (.ref aX), .val (.int (2 : Int32)), .val (.int (0 : Int32)), .unset, .unset] [])
  refine Goes.of (fun _ kont => XS.aload X0.here hx rfl (Jvm.hb hby d1_22) rfl rfl kont) ?_
  show Goes p e below _ T0 (mkF m 24 #[.val (.ref aX), .val (.double FP.dconst0), .second, .val (.double FP.dconst0), .second, .val (.ref aX), .val (.int (2 : Int32)), .val (.int (0 : Int32)), .unset, .unset] [(.ref aX)])
  refine Goes.of (fun _ kont => XS.iload X0.here hx rfl (Jvm.hb hby d1_24) rfl kont) ?_
  show Goes p e below _ T0 (mkF m 26 #[.val (.ref aX), .val (.double FP.dconst0), .second, .val (.double FP.dconst0), .second, .val (.ref aX), .val (.int (2 : Int32)), .val (.int (0 : Int32)), .unset, .unset] [(.int (0 : Int32)), (.ref aX)])
  refine goLdD X0 hx hZ e0 VX 0 (by decide) (w := x0) rfl (g := (mkF m 26 #[.val (.ref aX), .val (.double FP.dconst0), .second, .val (.double FP.dconst0), .second, .val (.ref aX), .val (.int (2 : Int32)), .val (.int (0 : Int32)), .unset, .unset] [(.int (0 : Int32)), (.ref aX)])) rfl rfl (Jvm.hb hby d1_26) ?_
  show Goes p e below _ T0 (mkF m 27 #[.val (.ref aX), .val (.double FP.dconst0), .second, .val (.double FP.dconst0), .second, .val (.ref aX), .val (.int (2 : Int32)), .val (.int (0 : Int32)), .unset, .unset] [(.double x0)])
  refine Goes.of (fun _ kont => XS.dstore X0.here hx rfl (Jvm.hb hby d1_27) rfl (l' := #[.val (.ref aX), .val (.double FP.dconst0), .second, .val (.double FP.dconst0), .second, .val (.ref aX), .val (.int (2 : Int32)), .val (.int (0 : Int32)), .val (.double x0), .second]) rfl kont) ?_
  show Goes p e below _ T0 (mkF m 29 #[.val (.ref aX), .val (.double FP.dconst0), .second, .val (.double FP.dconst0), .second, .val (.ref aX), .val (.int (2 : Int32)), .val (.int (0 : Int32)), .val (.double x0), .second] [])
  refine Goes.of (fun _ kont => XS.dloadN X0.here hx rfl (Jvm.hb hby d1_29) rfl kont) ?_
  show Goes p e below _ T0 (mkF m 30 #[.val (.ref aX), .val (.double FP.dconst0), .second, .val (.double FP.dconst0), .second, .val (.ref aX), .val (.int (2 : Int32)), .val (.int (0 : Int32)), .val (.double x0), .second] [(.double FP.dconst0)])
  refine Goes.of (fun _ kont => XS.dload X0.here hx rfl (Jvm.hb hby d1_30) rfl kont) ?_
  show Goes p e below _ T0 (mkF m 32 #[.val (.ref aX), .val (.double FP.dconst0), .second, .val (.double FP.dconst0), .second, .val (.ref aX), .val (.int (2 : Int32)), .val (.int (0 : Int32)), .val (.double x0), .second] [(.double x0), (.double FP.dconst0)])
  have Ds1 := own_add Ds0 D0 (by omega)
  refine Goes.of (fun _ kont => XS.daddS X0.here hx rfl (Jvm.hb hby d1_32) rfl Ds1.noNaN rfl kont) ?_
  show Goes p e below _ T0 (mkF m 33 #[.val (.ref aX), .val (.double FP.dconst0), .second, .val (.double FP.dconst0), .second, .val (.ref aX), .val (.int (2 : Int32)), .val (.int (0 : Int32)), .val (.double x0), .second] [(.double (FP.dadd FP.dconst0 x0))])
  generalize hs1 : (FP.dadd FP.dconst0 x0) = s1
  show Goes p e below _ T0 (mkF m 33 #[.val (.ref aX), .val (.double FP.dconst0), .second, .val (.double FP.dconst0), .second, .val (.ref aX), .val (.int (2 : Int32)), .val (.int (0 : Int32)), .val (.double x0), .second] [(.double s1)])
  rw [hs1, Int.zero_add] at Ds1
  refine Goes.of (fun _ kont => XS.dstoreN X0.here hx rfl (Jvm.hb hby d1_33) rfl (l' := #[.val (.ref aX), .val (.double FP.dconst0), .second, .val (.double s1), .second, .val (.ref aX), .val (.int (2 : Int32)), .val (.int (0 : Int32)), .val (.double x0), .second]) rfl kont) ?_
  show Goes p e below _ T0 (mkF m 34 #[.val (.ref aX), .val (.double FP.dconst0), .second, .val (.double s1), .second, .val (.ref aX), .val (.int (2 : Int32)), .val (.int (0 : Int32)), .val (.double x0), .second] [])
  refine Goes.of (fun _ kont => XS.dloadN X0.here hx rfl (Jvm.hb hby d1_34) rfl kont) ?_
  show Goes p e below _ T0 (mkF m 35 #[.val (.ref aX), .val (.double FP.dconst0), .second, .val (.double s1), .second, .val (.ref aX), .val (.int (2 : Int32)), .val (.int (0 : Int32)), .val (.double x0), .second] [(.double FP.dconst0)])
  refine Goes.of (fun _ kont => XS.dloadN X0.here hx rfl (Jvm.hb hby d1_35) rfl kont) ?_
  show Goes p e below _ T0 (mkF m 36 #[.val (.ref aX), .val (.double FP.dconst0), .second, .val (.double s1), .second, .val (.ref aX), .val (.int (2 : Int32)), .val (.int (0 : Int32)), .val (.double x0), .second] [(.double s1), (.double FP.dconst0)])
  refine Goes.of (fun _ kont => XS.dloadN X0.here hx rfl (Jvm.hb hby d1_36) rfl kont) ?_
  show Goes p e below _ T0 (mkF m 37 #[.val (.ref aX), .val (.double FP.dconst0), .second, .val (.double s1), .second, .val (.ref aX), .val (.int (2 : Int32)), .val (.int (0 : Int32)), .val (.double x0), .second] [(.double s1), (.double s1), (.double FP.dconst0)])
  have Dq1 := own_sq Ds1 (by omega)
  refine Goes.of (fun _ kont => XS.dmulS X0.here hx rfl (Jvm.hb hby d1_37) rfl Dq1.noNaN rfl kont) ?_
  show Goes p e below _ T0 (mkF m 38 #[.val (.ref aX), .val (.double FP.dconst0), .second, .val (.double s1), .second, .val (.ref aX), .val (.int (2 : Int32)), .val (.int (0 : Int32)), .val (.double x0), .second] [(.double (FP.dmul s1 s1)), (.double FP.dconst0)])
  generalize hq1 : (FP.dmul s1 s1) = q1
  show Goes p e below _ T0 (mkF m 38 #[.val (.ref aX), .val (.double FP.dconst0), .second, .val (.double s1), .second, .val (.ref aX), .val (.int (2 : Int32)), .val (.int (0 : Int32)), .val (.double x0), .second] [(.double q1), (.double FP.dconst0)])
  rw [hq1] at Dq1
  have Dz1 := own_add Dz0 Dq1 (by have := own_sqb (a := a0) (A := 4194304) (by omega); omega)
  refine Goes.of (fun _ kont => XS.daddS X0.here hx rfl (Jvm.hb hby d1_38) rfl Dz1.noNaN rfl kont) ?_
  show Goes p e below _ T0 (mkF m 39 #[.val (.ref aX), .val (.double FP.dconst0), .second, .val (.double s1), .second, .val (.ref aX), .val (.int (2 : Int32)), .val (.int (0 : Int32)), .val (.double x0), .second] [(.double (FP.dadd FP.dconst0 q1))])
  generalize hz1 : (FP.dadd FP.dconst0 q1) = z1
  show Goes p e below _ T0 (mkF m 39 #[.val (.ref aX), .val (.double FP.dconst0), .second, .val (.double s1), .second, .val (.ref aX), .val (.int (2 : Int32)), .val (.int (0 : Int32)), .val (.double x0), .second] [(.double z1)])
  rw [hz1, Int.zero_add] at Dz1
  refine Goes.of (fun _ kont => XS.dstoreN X0.here hx rfl (Jvm.hb hby d1_39) rfl (l' := #[.val (.ref aX), .val (.double z1), .second, .val (.double s1), .second, .val (.ref aX), .val (.int (2 : Int32)), .val (.int (0 : Int32)), .val (.double x0), .second]) rfl kont) ?_
  show Goes p e below _ T0 (mkF m 40 #[.val (.ref aX), .val (.double z1), .second, .val (.double s1), .second, .val (.ref aX), .val (.int (2 : Int32)), .val (.int (0 : Int32)), .val (.double x0), .second] [])
  refine Goes.of (fun _ kont => XS.iinc X0.here hx rfl (Jvm.hb hby d1_40) rfl (l' := #[.val (.ref aX), .val (.double z1), .second, .val (.double s1), .second, .val (.ref aX), .val (.int (2 : Int32)), .val (.int (1 : Int32)), .val (.double x0), .second]) rfl kont) ?_
  show Goes p e below _ T0 (mkF m 43 #[.val (.ref aX), .val (.double z1), .second, .val (.double s1), .second, .val (.ref aX), .val (.int (2 : Int32)), .val (.int (1 : Int32)), .val (.double x0), .second] [])
  refine Goes.of (fun _ kont => XS.goto X0.here hx rfl (pc0 := 43) (pc' := 15) rfl (Jvm.hb hby d1_43) (by decide) (by decide) kont) ?_
  show Goes p e below _ T0 (mkF m 15 #[.val (.ref aX), .val (.double z1), .second, .val (.double s1), .second, .val (.ref aX), .val (.int (2 : Int32)), .val (.int (1 : Int32)), .val (.double x0), .second] [])
  refine Goes.of (fun _ kont => XS.iload X0.here hx rfl (Jvm.hb hby d1_15) rfl kont) ?_
  show Goes p e below _ T0 (mkF m 17 #[.val (.ref aX), .val (.double z1), .second, .val (.double s1), .second, .val (.ref aX), .val (.int (2 : Int32)), .val (.int (1 : Int32)), .val (.double x0), .second] [(.int (1 : Int32))])
  refine Goes.of (fun _ kont => XS.iload X0.here hx rfl (Jvm.hb hby d1_17) rfl kont) ?_
  show Goes p e below _ T0 (mkF m 19 #[.val (.ref aX), .val (.double z1), .second, .val (.double s1), .second, .val (.ref aX), .val (.int (2 : Int32)), .val (.int (1 : Int32)), .val (.double x0), .second] [(.int (2 : Int32)), (.int (1 : Int32))])
  refine Goes.of (fun _ kont => XS.icmpNo X0.here hx rfl (Jvm.hb hby d1_19) rfl (by decide) kont) ?_
  show Goes p e below _ T0 (mkF m 22 #[.val (.ref aX), .val (.double z1), .second, .val (.double s1), .second, .val (.ref aX), .val (.int (2 : Int32)), .val (.int (1 : Int32)), .val (.double x0), .second] [])
  refine Goes.of (fun _ kont => XS.aload X0.here hx rfl (Jvm.hb hby d1_22) rfl rfl kont) ?_
  show Goes p e below _ T0 (mkF m 24 #[.val (.ref aX), .val (.double z1), .second, .val (.double s1), .second, .val (.ref aX), .val (.int (2 : Int32)), .val (.int (1 : Int32)), .val (.double x0), .second] [(.ref aX)])
  refine Goes.of (fun _ kont => XS.iload X0.here hx rfl (Jvm.hb hby d1_24) rfl kont) ?_
  show Goes p e below _ T0 (mkF m 26 #[.val (.ref aX), .val (.double z1), .second, .val (.double s1), .second, .val (.ref aX), .val (.int (2 : Int32)), .val (.int (1 : Int32)), .val (.double x0), .second] [(.int (1 : Int32)), (.ref aX)])
  refine goLdD X0 hx hZ e0 VX 1 (by decide) (w := x1) rfl (g := (mkF m 26 #[.val (.ref aX), .val (.double z1), .second, .val (.double s1), .second, .val (.ref aX), .val (.int (2 : Int32)), .val (.int (1 : Int32)), .val (.double x0), .second] [(.int (1 : Int32)), (.ref aX)])) rfl rfl (Jvm.hb hby d1_26) ?_
  show Goes p e below _ T0 (mkF m 27 #[.val (.ref aX), .val (.double z1), .second, .val (.double s1), .second, .val (.ref aX), .val (.int (2 : Int32)), .val (.int (1 : Int32)), .val (.double x0), .second] [(.double x1)])
  refine Goes.of (fun _ kont => XS.dstore X0.here hx rfl (Jvm.hb hby d1_27) rfl (l' := #[.val (.ref aX), .val (.double z1), .second, .val (.double s1), .second, .val (.ref aX), .val (.int (2 : Int32)), .val (.int (1 : Int32)), .val (.double x1), .second]) rfl kont) ?_
  show Goes p e below _ T0 (mkF m 29 #[.val (.ref aX), .val (.double z1), .second, .val (.double s1), .second, .val (.ref aX), .val (.int (2 : Int32)), .val (.int (1 : Int32)), .val (.double x1), .second] [])
  refine Goes.of (fun _ kont => XS.dloadN X0.here hx rfl (Jvm.hb hby d1_29) rfl kont) ?_
  show Goes p e below _ T0 (mkF m 30 #[.val (.ref aX), .val (.double z1), .second, .val (.double s1), .second, .val (.ref aX), .val (.int (2 : Int32)), .val (.int (1 : Int32)), .val (.double x1), .second] [(.double s1)])
  refine Goes.of (fun _ kont => XS.dload X0.here hx rfl (Jvm.hb hby d1_30) rfl kont) ?_
  show Goes p e below _ T0 (mkF m 32 #[.val (.ref aX), .val (.double z1), .second, .val (.double s1), .second, .val (.ref aX), .val (.int (2 : Int32)), .val (.int (1 : Int32)), .val (.double x1), .second] [(.double x1), (.double s1)])
  have Ds2 := own_add Ds1 D1 (by omega)
  refine Goes.of (fun _ kont => XS.daddS X0.here hx rfl (Jvm.hb hby d1_32) rfl Ds2.noNaN rfl kont) ?_
  show Goes p e below _ T0 (mkF m 33 #[.val (.ref aX), .val (.double z1), .second, .val (.double s1), .second, .val (.ref aX), .val (.int (2 : Int32)), .val (.int (1 : Int32)), .val (.double x1), .second] [(.double (FP.dadd s1 x1))])
  generalize hs2 : (FP.dadd s1 x1) = s2
  show Goes p e below _ T0 (mkF m 33 #[.val (.ref aX), .val (.double z1), .second, .val (.double s1), .second, .val (.ref aX), .val (.int (2 : Int32)), .val (.int (1 : Int32)), .val (.double x1), .second] [(.double s2)])
  rw [hs2] at Ds2
  refine Goes.of (fun _ kont => XS.dstoreN X0.here hx rfl (Jvm.hb hby d1_33) rfl (l' := #[.val (.ref aX), .val (.double z1), .second, .val (.double s2), .second, .val (.ref aX), .val (.int (2 : Int32)), .val (.int (1 : Int32)), .val (.double x1), .second]) rfl kont) ?_
  show Goes p e below _ T0 (mkF m 34 #[.val (.ref aX), .val (.double z1), .second, .val (.double s2), .second, .val (.ref aX), .val (.int (2 : Int32)), .val (.int (1 : Int32)), .val (.double x1), .second] [])
  refine Goes.of (fun _ kont => XS.dloadN X0.here hx rfl (Jvm.hb hby d1_34) rfl kont) ?_
  show Goes p e below _ T0 (mkF m 35 #[.val (.ref aX), .val (.double z1), .second, .val (.double s2), .second, .val (.ref aX), .val (.int (2 : Int32)), .val (.int (1 : Int32)), .val (.double x1), .second] [(.double z1)])
  refine Goes.of (fun _ kont => XS.dloadN X0.here hx rfl (Jvm.hb hby d1_35) rfl kont) ?_
  show Goes p e below _ T0 (mkF m 36 #[.val (.ref aX), .val (.double z1), .second, .val (.double s2), .second, .val (.ref aX), .val (.int (2 : Int32)), .val (.int (1 : Int32)), .val (.double x1), .second] [(.double s2), (.double z1)])
  refine Goes.of (fun _ kont => XS.dloadN X0.here hx rfl (Jvm.hb hby d1_36) rfl kont) ?_
  show Goes p e below _ T0 (mkF m 37 #[.val (.ref aX), .val (.double z1), .second, .val (.double s2), .second, .val (.ref aX), .val (.int (2 : Int32)), .val (.int (1 : Int32)), .val (.double x1), .second] [(.double s2), (.double s2), (.double z1)])
  have Dq2 := own_sq Ds2 (by omega)
  refine Goes.of (fun _ kont => XS.dmulS X0.here hx rfl (Jvm.hb hby d1_37) rfl Dq2.noNaN rfl kont) ?_
  show Goes p e below _ T0 (mkF m 38 #[.val (.ref aX), .val (.double z1), .second, .val (.double s2), .second, .val (.ref aX), .val (.int (2 : Int32)), .val (.int (1 : Int32)), .val (.double x1), .second] [(.double (FP.dmul s2 s2)), (.double z1)])
  generalize hq2 : (FP.dmul s2 s2) = q2
  show Goes p e below _ T0 (mkF m 38 #[.val (.ref aX), .val (.double z1), .second, .val (.double s2), .second, .val (.ref aX), .val (.int (2 : Int32)), .val (.int (1 : Int32)), .val (.double x1), .second] [(.double q2), (.double z1)])
  rw [hq2] at Dq2
  have Dz2 := own_add Dz1 Dq2 (by have := own_sqb (a := a0) (A := 4194304) (by omega); have := own_sqb (a := a0 + a1) (A := 4194304) (by omega); omega)
  refine Goes.of (fun _ kont => XS.daddS X0.here hx rfl (Jvm.hb hby d1_38) rfl Dz2.noNaN rfl kont) ?_
  show Goes p e below _ T0 (mkF m 39 #[.val (.ref aX), .val (.double z1), .second, .val (.double s2), .second, .val (.ref aX), .val (.int (2 : Int32)), .val (.int (1 : Int32)), .val (.double x1), .second] [(.double (FP.dadd z1 q2))])
  generalize hz2 : (FP.dadd z1 q2) = z2
  show Goes p e below _ T0 (mkF m 39 #[.val (.ref aX), .val (.double z1), .second, .val (.double s2), .second, .val (.ref aX), .val (.int (2 : Int32)), .val (.int (1 : Int32)), .val (.double x1), .second] [(.double z2)])
  rw [hz2] at Dz2
  refine Goes.of (fun _ kont => XS.dstoreN X0.here hx rfl (Jvm.hb hby d1_39) rfl (l' := #[.val (.ref aX), .val (.double z2), .second, .val (.double s2), .second, .val (.ref aX), .val (.int (2 : Int32)), .val (.int (1 : Int32)), .val (.double x1), .second]) rfl kont) ?_
  show Goes p e below _ T0 (mkF m 40 #[.val (.ref aX), .val (.double z2), .second, .val (.double s2), .second, .val (.ref aX), .val (.int (2 : Int32)), .val (.int (1 : Int32)), .val (.double x1), .second] [])
  refine Goes.of (fun _ kont => XS.iinc X0.here hx rfl (Jvm.hb hby d1_40) rfl (l' := #[.val (.ref aX), .val (.double z2), .second, .val (.double s2), .second, .val (.ref aX), .val (.int (2 : Int32)), .val (.int (2 : Int32)), .val (.double x1), .second]) rfl kont) ?_
  show Goes p e below _ T0 (mkF m 43 #[.val (.ref aX), .val (.double z2), .second, .val (.double s2), .second, .val (.ref aX), .val (.int (2 : Int32)), .val (.int (2 : Int32)), .val (.double x1), .second] [])
  refine Goes.of (fun _ kont => XS.goto X0.here hx rfl (pc0 := 43) (pc' := 15) rfl (Jvm.hb hby d1_43) (by decide) (by decide) kont) ?_
  show Goes p e below _ T0 (mkF m 15 #[.val (.ref aX), .val (.double z2), .second, .val (.double s2), .second, .val (.ref aX), .val (.int (2 : Int32)), .val (.int (2 : Int32)), .val (.double x1), .second] [])
  refine Goes.of (fun _ kont => XS.iload X0.here hx rfl (Jvm.hb hby d1_15) rfl kont) ?_
  show Goes p e below _ T0 (mkF m 17 #[.val (.ref aX), .val (.double z2), .second, .val (.double s2), .second, .val (.ref aX), .val (.int (2 : Int32)), .val (.int (2 : Int32)), .val (.double x1), .second] [(.int (2 : Int32))])
  refine Goes.of (fun _ kont => XS.iload X0.here hx rfl (Jvm.hb hby d1_17) rfl kont) ?_
  show Goes p e below _ T0 (mkF m 19 #[.val (.ref aX), .val (.double z2), .second, .val (.double s2), .second, .val (.ref aX), .val (.int (2 : Int32)), .val (.int (2 : Int32)), .val (.double x1), .second] [(.int (2 : Int32)), (.int (2 : Int32))])
  refine Goes.of (fun _ kont => XS.icmpYes X0.here hx rfl (pc0 := 19) (pc' := 46) rfl (Jvm.hb hby d1_19) rfl (by decide) (by decide) (by decide) kont) ?_
  show Goes p e below _ T0 (mkF m 46 #[.val (.ref aX), .val (.double z2), .second, .val (.double s2), .second, .val (.ref aX), .val (.int (2 : Int32)), .val (.int (2 : Int32)), .val (.double x1), .second] [])
  refine Goes.of (fun _ kont => XS.dloadN X0.here hx rfl (Jvm.hb hby d1_46) rfl kont) ?_
  show Goes p e below _ T0 (mkF m 47 #[.val (.ref aX), .val (.double z2), .second, .val (.double s2), .second, .val (.ref aX), .val (.int (2 : Int32)), .val (.int (2 : Int32)), .val (.double x1), .second] [(.double z2)])
  exact retD X0 hx hlk hret (Jvm.hb hby d1_47) (by decide) (by decide) ⟨⟨_, rfl, Dz2⟩, N0, e0⟩
theorem pn_1_3 : plainFor (⟨"com/example/memechain/memechain/benchmark/Functions", "schwefel12", "([D)D"⟩ : MethodName) = true := plainFor_of_name (by first | (simp [plainName, overriddenIn]; done) | decide +kernel)
set_option maxRecDepth 65536 in
set_option maxHeartbeats 40000000 in
theorem rm1_3 (l : Launch) (Z : State) (a0 : Array Value) (hw : ∀ d ∈ tables_1, d.before a0 Z = true) (aX : Addr) (x0 : UInt64) (a0 : Int) (x1 : UInt64) (a1 : Int) (x2 : UInt64) (a2 : Int) (h0 : Heap) (n0 : Nat) (Z0 : n0 ≤ h0.size) (VX : DA Z h0 aX [x0, x1, x2]) (D0 : Dy a0 0 x0) (b0 : a0.natAbs ≤ 1048576) (D1 : Dy a1 0 x1) (b1 : a1.natAbs ≤ 1048576) (D2 : Dy a2 0 x2) (b2 : a2.natAbs ≤ 1048576) :
    Ct l (⟨"com/example/memechain/memechain/benchmark/Functions", "schwefel12", "([D)D"⟩ : MethodName) prog_26_method_20_code 10 (some .double) ({ frames := 0, cells := 0, slots := 0, locals := 0 } : Room) Z [(.ref aX)] h0 (fun v h L => (∃ z, v = some (.double z) ∧ Dy ((a0) * (a0) + (a0 + a1) * (a0 + a1) + (a0 + a1 + a2) * (a0 + a1 + a2)) 0 z) ∧ Fr n0 L ∧ h = h0) := by
  refine met pn_1_3 ?_
  intro p e s m below meth c T0 hx hby hml hown hret hlk hnm hZ X0 e0
  have N0 := Fr.nil n0
  have hown : s.vm.findClass "com/example/memechain/memechain/benchmark/Functions" = some m.cls := hown
  refine Goes.cast (ef_1 m aX) ?_
  show Goes p e below _ T0 (mkF m 0 #[.val (.ref aX), .unset, .unset, .unset, .unset, .unset, .unset, .unset, .unset, .unset] [])
  refine Goes.of (fun _ kont => XS.dconst0 X0.here hx rfl (Jvm.hb hby d1_0) rfl kont) ?_
  show Goes p e below _ T0 (mkF m 1 #[.val (.ref aX), .unset, .unset, .unset, .unset, .unset, .unset, .unset, .unset, .unset] [(.double FP.dconst0)])
  refine Goes.of (fun _ kont => XS.dstoreN X0.here hx rfl (Jvm.hb hby d1_1) rfl (l' := #[.val (.ref aX), .val (.double FP.dconst0), .second, .unset, .unset, .unset, .unset, .unset, .unset, .unset]) rfl kont) ?_
  show Goes p e below _ T0 (mkF m 2 #[.val (.ref aX), .val (.double FP.dconst0), .second, .unset, .unset, .unset, .unset, .unset, .unset, .unset] [])
  refine Goes.of (fun _ kont => XS.dconst0 X0.here hx rfl (Jvm.hb hby d1_2) rfl kont) ?_
  show Goes p e below _ T0 (mkF m 3 #[.val (.ref aX), .val (.double FP.dconst0), .second, .unset, .unset, .unset, .unset, .unset, .unset, .unset] [(.double FP.dconst0)])
  refine Goes.of (fun _ kont => XS.dstoreN X0.here hx rfl (Jvm.hb hby d1_3) rfl (l' := #[.val (.ref aX), .val (.double FP.dconst0), .second, .val (.double FP.dconst0), .second, .unset, .unset, .unset, .unset, .unset]) rfl kont) ?_
  show Goes p e below _ T0 (mkF m 4 #[.val (.ref aX), .val (.double FP.dconst0), .second, .val (.double FP.dconst0), .second, .unset, .unset, .unset, .unset, .unset] [])
  refine Goes.of (fun _ kont => XS.aloadN X0.here hx rfl (Jvm.hb hby d1_4) rfl rfl kont) ?_
  show Goes p e below _ T0 (mkF m 5 #[.val (.ref aX), .val (.double FP.dconst0), .second, .val (.double FP.dconst0), .second, .unset, .unset, .unset, .unset, .unset] [(.ref aX)])
  refine Goes.of (fun _ kont => XS.astore X0.here hx rfl (Jvm.hb hby d1_5) rfl rfl (l' := #[.val (.ref aX), .val (.double FP.dconst0), .second, .val (.double FP.dconst0), .second, .val (.ref aX), .unset, .unset, .unset, .unset]) rfl kont) ?_
  show Goes p e below _ T0 (mkF m 7 #[.val (.ref aX), .val (.double FP.dconst0), .second, .val (.double FP.dconst0), .second, .val (.ref aX), .unset, .unset, .unset, .unset] [])
  refine Goes.of (fun _ kont => XS.aload X0.here hx rfl (Jvm.hb hby d1_7) rfl rfl kont) ?_
  show Goes p e below _ T0 (mkF m 9 #[.val (.ref aX), .val (.double FP.dconst0), .second, .val (.double FP.dconst0), .second, .val (.ref aX), .unset, .unset, .unset, .unset] [(.ref aX)])
  refine goLen X0 hx hZ e0 VX (n := 3) (by show Int32.toInt 3 = ((3 : Nat) : Int); decide) (g := (mkF m 9 #[.val (.ref aX), .val (.double FP.dconst0), .second, .val (.double FP.dconst0), .second, .val (.ref aX), .unset, .unset, .unset, .unset] [(.ref aX)])) rfl rfl (Jvm.hb hby d1_9) ?_
  show Goes p e below _ T0 (mkF m 10 #[.val (.ref aX), .val (.double FP.dconst0), .second, .val (.double FP.dconst0), .second, .val (.ref aX), .unset, .unset, .unset, .unset] [(.int (3 : Int32))])
  refine Goes.of (fun _ kont => XS.istore X0.here hx rfl (Jvm.hb hby d1_10) rfl (l' := #[.val (.ref aX), .val (.double FP.dconst0), .second, .val (.double FP.dconst0), .second, .val (.ref aX), .val (.int (3 : Int32)), .unset, .unset, .unset]) rfl kont) ?_
  show Goes p e below _ T0 (mkF m 12 #[.val (.ref aX), .val (.double FP.dconst0), .second, .val (.double FP.dconst0), .second, .val (.ref aX), .val (.int (3 : Int32)), .unset, .unset, .unset] [])
  refine Goes.of (fun _ kont => XS.iconst X0.here hx rfl (Jvm.hb hby d1_12) kont) ?_
  show Goes p e below _ T0 (mkF m 13 #[.val (.ref aX), .val (.double FP.dconst0), .second, .val (.double FP.dconst0), .second, .val (.ref aX), .val (.int (3 : Int32)), .unset, .unset, .unset] [(.int (0 : Int32))])
  refine Goes.of (fun _ kont => XS.istore X0.here hx rfl (Jvm.hb hby d1_13) rfl (l' := #[.val (.ref aX), .val (.double FP.dconst0), .second, .val (.double FP.dconst0), .second, .val (.ref aX), .val (.int (3 : Int32)), .val (.int (0 : Int32)), .unset, .unset]) rfl kont) ?_
  show Goes p e below _ T0 (mkF m 15 #[.val (.ref aX), .val (.double FP.dconst0), .second, .val (.double FP.dconst0), .second, .val (.ref aX), .val (.int (3 : Int32)), .val (.int (0 : Int32)), .unset, .unset] [])
  have Dz0 := dy_zero 0
  have Ds0 := dy_zero 0
  refine Goes.of (fun _ kont => XS.iload X0.here hx rfl (Jvm.hb hby d1_15) rfl kont) ?_
  show Goes p e below _ T0 (mkF m 17 #[.val (.ref aX), .val (.double FP.dconst0), .second, .val (.double FP.dconst0), .second, .val (.ref aX), .val (.int (3 : Int32)), .val (.int (0 : Int32)), .unset, .unset] [(.int (0 : Int32))])
  refine Goes.of (fun _ kont => XS.iload X0.here hx rfl (Jvm.hb hby d1_17) rfl kont) ?_
  show Goes p e below _ T0 (mkF m 19 #[.val (.ref aX), .val (.double FP.dconst0), .second, .val (.double FP.dconst0), .second, .val (.ref aX), .val (.int (3 : Int32)), .val (.int (0 : Int32)), .unset, .unset] [(.int (3 : Int32)), (.int (0 : Int32))])
  refine Goes.of (fun _ kont => XS.icmpNo X0.here hx rfl (Jvm.hb hby d1_19) rfl (by decide) kont) ?_
  show Goes p e below _ T0 (mkF m 22 #[.val (.ref aX), .val (.double FP.dconst0), .second, .val (.double FP.dconst0), .second, .val (.ref aX), .val (.int (3 : Int32)), .val (.int (0 : Int32)), .unset, .unset] [])
  refine Goes.of (fun _ kont => XS.aload X0.here hx rfl (Jvm.hb hby d1_22) rfl rfl kont) ?_
  show Goes p e below _ T0 (mkF m 24 #[.val (.ref aX), .val (.double FP.dconst0), .second, .val (.double FP.dconst0), .second, .val (.ref aX), .val (.int (3 : Int32)), .val (.int (0 : Int32)), .unset, .unset] [(.ref aX)])
  refine Goes.of (fun _ kont => XS.iload X0.here hx rfl (Jvm.hb hby d1_24) rfl kont) ?_
  show Goes p e below _ T0 (mkF m 26 #[.val (.ref aX), .val (.double FP.dconst0), .second, .val (.double FP.dconst0), .second, .val (.ref aX), .val (.int (3 : Int32)), .val (.int (0 : Int32)), .unset, .unset] [(.int (0 : Int32)), (.ref aX)])
  refine goLdD X0 hx hZ e0 VX 0 (by decide) (w := x0) rfl (g := (mkF m 26 #[.val (.ref aX), .val (.double FP.dconst0), .second, .val (.double FP.dconst0), .second, .val (.ref aX), .val (.int (3 : Int32)), .val (.int (0 : Int32)), .unset, .unset] [(.int (0 : Int32)), (.ref aX)])) rfl rfl (Jvm.hb hby d1_26) ?_
  show Goes p e below _ T0 (mkF m 27 #[.val (.ref aX), .val (.double FP.dconst0), .second, .val (.double FP.dconst0), .second, .val (.ref aX), .val (.int (3 : Int32)), .val (.int (0 : Int32)), .unset, .unset] [(.double x0)])
  refine Goes.of (fun _ kont => XS.dstore X0.here hx rfl (Jvm.hb hby d1_27) rfl (l' := #[.val (.ref aX), .val (.double FP.dconst0), .second, .val (.double FP.dconst0), .second, .val (.ref aX), .val (.int (3 : Int32)), .val (.int (0 : Int32)), .val (.double x0), .second]) rfl kont) ?_
  show Goes p e below _ T0 (mkF m 29 #[.val (.ref aX), .val (.double FP.dconst0), .second, .val (.double FP.dconst0), .second, .val (.ref aX), .val (.int (3 : Int32)), .val (.int (0 : Int32)), .val (.double x0), .second] [])
  refine Goes.of (fun _ kont => XS.dloadN X0.here hx rfl (Jvm.hb hby d1_29) rfl kont) ?_
  show Goes p e below _ T0 (mkF m 30 #[.val (.ref aX), .val (.double FP.dconst0), .second, .val (.double FP.dconst0), .second, .val (.ref aX), .val (.int (3 : Int32)), .val (.int (0 : Int32)), .val (.double x0), .second] [(.double FP.dconst0)])
  refine Goes.of (fun _ kont => XS.dload X0.here hx rfl (Jvm.hb hby d1_30) rfl kont) ?_
  show Goes p e below _ T0 (mkF m 32 #[.val (.ref aX), .val (.double FP.dconst0), .second, .val (.double FP.dconst0), .second, .val (.ref aX), .val (.int (3 : Int32)), .val (.int (0 : Int32)), .val (.double x0), .second] [(.double x0), (.double FP.dconst0)])
  have Ds1 := own_add Ds0 D0 (by omega)
  refine Goes.of (fun _ kont => XS.daddS X0.here hx rfl (Jvm.hb hby d1_32) rfl Ds1.noNaN rfl kont) ?_
  show Goes p e below _ T0 (mkF m 33 #[.val (.ref aX), .val (.double FP.dconst0), .second, .val (.double FP.dconst0), .second, .val (.ref aX), .val (.int (3 : Int32)), .val (.int (0 : Int32)), .val (.double x0), .second] [(.double (FP.dadd FP.dconst0 x0))])
  generalize hs1 : (FP.dadd FP.dconst0 x0) = s1
  show Goes p e below _ T0 (mkF m 33 #[.val (.ref aX), .val (.double FP.dconst0), .second, .val (.double FP.dconst0), .second, .val (.ref aX), .val (.int (3 : Int32)), .val (.int (0 : Int32)), .val (.double x0), .second] [(.double s1)])
  rw [hs1, Int.zero_add] at Ds1
  refine Goes.of (fun _ kont => XS.dstoreN X0.here hx rfl (Jvm.hb hby d1_33) rfl (l' := #[.val (.ref aX), .val (.double FP.dconst0), .second, .val (.double s1), .second, .val (.ref aX), .val (.int (3 : Int32)), .val (.int (0 : Int32)), .val (.double x0), .second]) rfl kont) ?_
  show Goes p e below _ T0 (mkF m 34 #[.val (.ref aX), .val (.double FP.dconst0), .second, .val (.double s1), .second, .val (.ref aX), .val (.int (3 : Int32)), .val (.int (0 : Int32)), .val (.double x0), .second] [])
  refine Goes.of (fun _ kont => XS.dloadN X0.here hx rfl (Jvm.hb hby d1_34) rfl kont) ?_
  show Goes p e below _ T0 (mkF m 35 #[.val (.ref aX), .val (.double FP.dconst0), .second, .val (.double s1), .second, .val (.ref aX), .val (.int (3 : Int32)), .val (.int (0 : Int32)), .val (.double x0), .second] [(.double FP.dconst0)])
  refine Goes.of (fun _ kont => XS.dloadN X0.here hx rfl (Jvm.hb hby d1_35) rfl kont) ?_
  show Goes p e below _ T0 (mkF m 36 #[.val (.ref aX), .val (.double FP.dconst0), .second, .val (.double s1), .second, .val (.ref aX), .val (.int (3 : Int32)), .val (.int (0 : Int32)), .val (.double x0), .second] [(.double s1), (.double FP.dconst0)])
  refine Goes.of (fun _ kont => XS.dloadN X0.here hx rfl (Jvm.hb hby d1_36) rfl kont) ?_
  show Goes p e below _ T0 (mkF m 37 #[.val (.ref aX), .val (.double FP.dconst0), .second, .val (.double s1), .second, .val (.ref aX), .val (.int (3 : Int32)), .val (.int (0 : Int32)), .val (.double x0), .second] [(.double s1), (.double s1), (.double FP.dconst0)])
  have Dq1 := own_sq Ds1 (by omega)
  refine Goes.of (fun _ kont => XS.dmulS X0.here hx rfl (Jvm.hb hby d1_37) rfl Dq1.noNaN rfl kont) ?_
  show Goes p e below _ T0 (mkF m 38 #[.val (.ref aX), .val (.double FP.dconst0), .second, .val (.double s1), .second, .val (.ref aX), .val (.int (3 : Int32)), .val (.int (0 : Int32)), .val (.double x0), .second] [(.double (FP.dmul s1 s1)), (.double FP.dconst0)])
  generalize hq1 : (FP.dmul s1 s1) = q1
  show Goes p e below _ T0 (mkF m 38 #[.val (.ref aX), .val (.double FP.dconst0), .second, .val (.double s1), .second, .val (.ref aX), .val (.int (3 : Int32)), .val (.int (0 : Int32)), .val (.double x0), .second] [(.double q1), (.double FP.dconst0)])
  rw [hq1] at Dq1
  have Dz1 := own_add Dz0 Dq1 (by have := own_sqb (a := a0) (A := 4194304) (by omega); omega)
  refine Goes.of (fun _ kont => XS.daddS X0.here hx rfl (Jvm.hb hby d1_38) rfl Dz1.noNaN rfl kont) ?_
  show Goes p e below _ T0 (mkF m 39 #[.val (.ref aX), .val (.double FP.dconst0), .second, .val (.double s1), .second, .val (.ref aX), .val (.int (3 : Int32)), .val (.int (0 : Int32)), .val (.double x0), .second] [(.double (FP.dadd FP.dconst0 q1))])
  generalize hz1 : (FP.dadd FP.dconst0 q1) = z1
  show Goes p e below _ T0 (mkF m 39 #[.val (.ref aX), .val (.double FP.dconst0), .second, .val (.double s1), .second, .val (.ref aX), .val (.int (3 : Int32)), .val (.int (0 : Int32)), .val (.double x0), .second] [(.double z1)])
  rw [hz1, Int.zero_add] at Dz1
  refine Goes.of (fun _ kont => XS.dstoreN X0.here hx rfl (Jvm.hb hby d1_39) rfl (l' := #[.val (.ref aX), .val (.double z1), .second, .val (.double s1), .second, .val (.ref aX), .val (.int (3 : Int32)), .val (.int (0 : Int32)), .val (.double x0), .second]) rfl kont) ?_
  show Goes p e below _ T0 (mkF m 40 #[.val (.ref aX), .val (.double z1), .second, .val (.double s1), .second, .val (.ref aX), .val (.int (3 : Int32)), .val (.int (0 : Int32)), .val (.double x0), .second] [])
  refine Goes.of (fun _ kont => XS.iinc X0.here hx rfl (Jvm.hb hby d1_40) rfl (l' := #[.val (.ref aX), .val (.double z1), .second, .val (.double s1), .second, .val (.ref aX), .val (.int (3 : Int32)), .val (.int (1 : Int32)), .val (.double x0), .second]) rfl kont) ?_
  show Goes p e below _ T0 (mkF m 43 #[.val (.ref aX), .val (.double z1), .second, .val (.double s1), .second, .val (.ref aX), .val (.int (3 : Int32)), .val (.int (1 : Int32)), .val (.double x0), .second] [])
  refine Goes.of (fun _ kont => XS.goto X0.here hx rfl (pc0 := 43) (pc' := 15) rfl (Jvm.hb hby d1_43) (by decide) (by decide) kont) ?_
  show Goes p e below _ T0 (mkF m 15 #[.val (.ref aX), .val (.double z1), .second, .val (.double s1), .second, .val (.ref aX), .val (.int (3 : Int32)), .val (.int (1 : Int32)), .val (.double x0), .second] [])
  refine Goes.of (fun _ kont => XS.iload X0.here hx rfl (Jvm.hb hby d1_15) rfl kont) ?_
  show Goes p e below _ T0 (mkF m 17 #[.val (.ref aX), .val (.double z1), .second, .val (.double s1), .second, .val (.ref aX), .val (.int (3 : Int32)), .val (.int (1 : Int32)), .val (.double x0), .second] [(.int (1 : Int32))])
  refine Goes.of (fun _ kont => XS.iload X0.here hx rfl (Jvm.hb hby d1_17) rfl kont) ?_
  show Goes p e below _ T0 (mkF m 19 #[.val (.ref aX), .val (.double z1), .second, .val (.double s1), .second, .val (.ref aX), .val (.int (3 : Int32)), .val (.int (1 : Int32)), .val (.double x0), .second] [(.int (3 : Int32)), (.int (1 : Int32))])
  refine Goes.of (fun _ kont => XS.icmpNo X0.here hx rfl (Jvm.hb hby d1_19) rfl (by decide) kont) ?_
  show Goes p e below _ T0 (mkF m 22 #[.val (.ref aX), .val (.double z1), .second, .val (.double s1), .second, .val (.ref aX), .val (.int (3 : Int32)), .val (.int (1 : Int32)), .val (.double x0), .second] [])
  refine Goes.of (fun _ kont => XS.aload X0.here hx rfl (Jvm.hb hby d1_22) rfl rfl kont) ?_
  show Goes p e below _ T0 (mkF m 24 #[.val (.ref aX), .val (.double z1), .second, .val (.double s1), .second, .val (.ref aX), .val (.int (3 : Int32)), .val (.int (1 : Int32)), .val (.double x0), .second] [(.ref aX)])
  refine Goes.of (fun _ kont => XS.iload X0.here hx rfl (Jvm.hb hby d1_24) rfl kont) ?_
  show Goes p e below _ T0 (mkF m 26 #[.val (.ref aX), .val (.double z1), .second, .val (.double s1), .second, .val (.ref aX), .val (.int (3 : Int32)), .val (.int (1 : Int32)), .val (.double x0), .second] [(.int (1 : Int32)), (.ref aX)])
  refine goLdD X0 hx hZ e0 VX 1 (by decide) (w := x1) rfl (g := (mkF m 26 #[.val (.ref aX), .val (.double z1), .second, .val (.double s1), .second, .val (.ref aX), .val (.int (3 : Int32)), .val (.int (1 : Int32)), .val (.double x0), .second] [(.int (1 : Int32)), (.ref aX)])) rfl rfl (Jvm.hb hby d1_26) ?_
  show Goes p e below _ T0 (mkF m 27 #[.val (.ref aX), .val (.double z1), .second, .val (.double s1), .second, .val (.ref aX), .val (.int (3 : Int32)), .val (.int (1 : Int32)), .val (.double x0), .second] [(.double x1)])
  refine Goes.of (fun _ kont => XS.dstore X0.here hx rfl (Jvm.hb hby d1_27) rfl (l' := #[.val (.ref aX), .val (.double z1), .second, .val (.double s1), .second, .val (.ref aX), .val (.int (3 : Int32)), .val (.int (1 : Int32)), .val (.double x1), .second]) rfl kont) ?_
  show Goes p e below _ T0 (mkF m 29 #[.val (.ref aX), .val (.double z1), .second, .val (.double s1), .second, .val (.ref aX), .val (.int (3 : Int32)), .val (.int (1 : Int32)), .val (.double x1), .second] [])
  refine Goes.of (fun _ kont => XS.dloadN X0.here hx rfl (Jvm.hb hby d1_29) rfl kont) ?_
  show Goes p e below _ T0 (mkF m 30 #[.val (.ref aX), .val (.double z1), .second, .val (.double s1), .second, .val (.ref aX), .val (.int (3 : Int32)), .val (.int (1 : Int32)), .val (.double x1), .second] [(.double s1)])
  refine Goes.of (fun _ kont => XS.dload X0.here hx rfl (Jvm.hb hby d1_30) rfl kont) ?_
  show Goes p e below _ T0 (mkF m 32 #[.val (.ref aX), .val (.double z1), .second, .val (.double s1), .second, .val (.ref aX), .val (.int (3 : Int32)), .val (.int (1 : Int32)), .val (.double x1), .second] [(.double x1), (.double s1)])
  have Ds2 := own_add Ds1 D1 (by omega)
  refine Goes.of (fun _ kont => XS.daddS X0.here hx rfl (Jvm.hb hby d1_32) rfl Ds2.noNaN rfl kont) ?_
  show Goes p e below _ T0 (mkF m 33 #[.val (.ref aX), .val (.double z1), .second, .val (.double s1), .second, .val (.ref aX), .val (.int (3 : Int32)), .val (.int (1 : Int32)), .val (.double x1), .second] [(.double (FP.dadd s1 x1))])
  generalize hs2 : (FP.dadd s1 x1) = s2
  show Goes p e below _ T0 (mkF m 33 #[.val (.ref aX), .val (.double z1), .second, .val (.double s1), .second, .val (.ref aX), .val (.int (3 : Int32)), .val (.int (1 : Int32)), .val (.double x1), .second] [(.double s2)])
  rw [hs2] at Ds2
  refine Goes.of (fun _ kont => XS.dstoreN X0.here hx rfl (Jvm.hb hby d1_33) rfl (l' := #[.val (.ref aX), .val (.double z1), .second, .val (.double s2), .second, .val (.ref aX), .val (.int (3 : Int32)), .val (.int (1 : Int32)), .val (.double x1), .second]) rfl kont) ?_
  show Goes p e below _ T0 (mkF m 34 #[.val (.ref aX), .val (.double z1), .second, .val (.double s2), .second, .val (.ref aX), .val (.int (3 : Int32)), .val (.int (1 : Int32)), .val (.double x1), .second] [])
  refine Goes.of (fun _ kont => XS.dloadN X0.here hx rfl (Jvm.hb hby d1_34) rfl kont) ?_
  show Goes p e below _ T0 (mkF m 35 #[.val (.ref aX), .val (.double z1), .second, .val (.double s2), .second, .val (.ref aX), .val (.int (3 : Int32)), .val (.int (1 : Int32)), .val (.double x1), .second] [(.double z1)])
  refine Goes.of (fun _ kont => XS.dloadN X0.here hx rfl (Jvm.hb hby d1_35) rfl kont) ?_
  show Goes p e below _ T0 (mkF m 36 #[.val (.ref aX), .val (.double z1), .second, .val (.double s2), .second, .val (.ref aX), .val (.int (3 : Int32)), .val (.int (1 : Int32)), .val (.double x1), .second] [(.double s2), (.double z1)])
  refine Goes.of (fun _ kont => XS.dloadN X0.here hx rfl (Jvm.hb hby d1_36) rfl kont) ?_
  show Goes p e below _ T0 (mkF m 37 #[.val (.ref aX), .val (.double z1), .second, .val (.double s2), .second, .val (.ref aX), .val (.int (3 : Int32)), .val (.int (1 : Int32)), .val (.double x1), .second] [(.double s2), (.double s2), (.double z1)])
  have Dq2 := own_sq Ds2 (by omega)
  refine Goes.of (fun _ kont => XS.dmulS X0.here hx rfl (Jvm.hb hby d1_37) rfl Dq2.noNaN rfl kont) ?_
  show Goes p e below _ T0 (mkF m 38 #[.val (.ref aX), .val (.double z1), .second, .val (.double s2), .second, .val (.ref aX), .val (.int (3 : Int32)), .val (.int (1 : Int32)), .val (.double x1), .second] [(.double (FP.dmul s2 s2)), (.double z1)])
  generalize hq2 : (FP.dmul s2 s2) = q2
  show Goes p e below _ T0 (mkF m 38 #[.val (.ref aX), .val (.double z1), .second, .val (.double s2), .second, .val (.ref aX), .val (.int (3 : Int32)), .val (.int (1 : Int32)), .val (.double x1), .second] [(.double q2), (.double z1)])
  rw [hq2] at Dq2
  have Dz2 := own_add Dz1 Dq2 (by have := own_sqb (a := a0) (A := 4194304) (by omega); have := own_sqb (a := a0 + a1) (A := 4194304) (by omega); omega)
  refine Goes.of (fun _ kont => XS.daddS X0.here hx rfl (Jvm.hb hby d1_38) rfl Dz2.noNaN rfl kont) ?_
  show Goes p e below _ T0 (mkF m 39 #[.val (.ref aX), .val (.double z1), .second, .val (.double s2), .second, .val (.ref aX), .val (.int (3 : Int32)), .val (.int (1 : Int32)), .val (.double x1), .second] [(.double (FP.dadd z1 q2))])
  generalize hz2 : (FP.dadd z1 q2) = z2
  show Goes p e below _ T0 (mkF m 39 #[.val (.ref aX), .val (.double z1), .second, .val (.double s2), .second, .val (.ref aX), .val (.int (3 : Int32)), .val (.int (1 : Int32)), .val (.double x1), .second] [(.double z2)])
  rw [hz2] at Dz2
  refine Goes.of (fun _ kont => XS.dstoreN X0.here hx rfl (Jvm.hb hby d1_39) rfl (l' := #[.val (.ref aX), .val (.double z2), .second, .val (.double s2), .second, .val (.ref aX), .val (.int (3 : Int32)), .val (.int (1 : Int32)), .val (.double x1), .second]) rfl kont) ?_
  show Goes p e below _ T0 (mkF m 40 #[.val (.ref aX), .val (.double z2), .second, .val (.double s2), .second, .val (.ref aX), .val (.int (3 : Int32)), .val (.int (1 : Int32)), .val (.double x1), .second] [])
  refine Goes.of (fun _ kont => XS.iinc X0.here hx rfl (Jvm.hb hby d1_40) rfl (l' := #[.val (.ref aX), .val (.double z2), .second, .val (.double s2), .second, .val (.ref aX), .val (.int (3 : Int32)), .val (.int (2 : Int32)), .val (.double x1), .second]) rfl kont) ?_
  show Goes p e below _ T0 (mkF m 43 #[.val (.ref aX), .val (.double z2), .second, .val (.double s2), .second, .val (.ref aX), .val (.int (3 : Int32)), .val (.int (2 : Int32)), .val (.double x1), .second] [])
  refine Goes.of (fun _ kont => XS.goto X0.here hx rfl (pc0 := 43) (pc' := 15) rfl (Jvm.hb hby d1_43) (by decide) (by decide) kont) ?_
  show Goes p e below _ T0 (mkF m 15 #[.val (.ref aX), .val (.double z2), .second, .val (.double s2), .second, .val (.ref aX), .val (.int (3 : Int32)), .val (.int (2 : Int32)), .val (.double x1), .second] [])
  refine Goes.of (fun _ kont => XS.iload X0.here hx rfl (Jvm.hb hby d1_15) rfl kont) ?_
  show Goes p e below _ T0 (mkF m 17 #[.val (.ref aX), .val (.double z2), .second, .val (.double s2), .second, .val (.ref aX), .val (.int (3 : Int32)), .val (.int (2 : Int32)), .val (.double x1), .second] [(.int (2 : Int32))])
  refine Goes.of (fun _ kont => XS.iload X0.here hx rfl (Jvm.hb hby d1_17) rfl kont) ?_
  show Goes p e below _ T0 (mkF m 19 #[.val (.ref aX), .val (.double z2), .second, .val (.double s2), .second, .val (.ref aX), .val (.int (3 : Int32)), .val (.int (2 : Int32)), .val (.double x1), .second] [(.int (3 : Int32)), (.int (2 : Int32))])
  refine Goes.of (fun _ kont => XS.icmpNo X0.here hx rfl (Jvm.hb hby d1_19) rfl (by decide) kont) ?_
  show Goes p e below _ T0 (mkF m 22 #[.val (.ref aX), .val (.double z2), .second, .val (.double s2), .second, .val (.ref aX), .val (.int (3 : Int32)), .val (.int (2 : Int32)), .val (.double x1), .second] [])
  refine Goes.of (fun _ kont => XS.aload X0.here hx rfl (Jvm.hb hby d1_22) rfl rfl kont) ?_
  show Goes p e below _ T0 (mkF m 24 #[.val (.ref aX), .val (.double z2), .second, .val (.double s2), .second, .val (.ref aX), .val (.int (3 : Int32)), .val (.int (2 : Int32)), .val (.double x1), .second] [(.ref aX)])
  refine Goes.of (fun _ kont => XS.iload X0.here hx rfl (Jvm.hb hby d1_24) rfl kont) ?_
  show Goes p e below _ T0 (mkF m 26 #[.val (.ref aX), .val (.double z2), .second, .val (.double s2), .second, .val (.ref aX), .val (.int (3 : Int32)), .val (.int (2 : Int32)), .val (.double x1), .second] [(.int (2 : Int32)), (.ref aX)])
  refine goLdD X0 hx hZ e0 VX 2 (by decide) (w := x2) rfl (g := (mkF m 26 #[.val (.ref aX), .val (.double z2), .second, .val (.double s2), .second, .val (.ref aX), .val (.int (3 : Int32)), .val (.int (2 : Int32)), .val (.double x1), .second] [(.int (2 : Int32)), (.ref aX)])) rfl rfl (Jvm.hb hby d1_26) ?_
  show Goes p e below _ T0 (mkF m 27 #[.val (.ref aX), .val (.double z2), .second, .val (.double s2), .second, .val (.ref aX), .val (.int (3 : Int32)), .val (.int (2 : Int32)), .val (.double x1), .second] [(.double x2)])
  refine Goes.of (fun _ kont => XS.dstore X0.here hx rfl (Jvm.hb hby d1_27) rfl (l' := #[.val (.ref aX), .val (.double z2), .second, .val (.double s2), .second, .val (.ref aX), .val (.int (3 : Int32)), .val (.int (2 : Int32)), .val (.double x2), .second]) rfl kont) ?_
  show Goes p e below _ T0 (mkF m 29 #[.val (.ref aX), .val (.double z2), .second, .val (.double s2), .second, .val (.ref aX), .val (.int (3 : Int32)), .val (.int (2 : Int32)), .val (.double x2), .second] [])
  refine Goes.of (fun _ kont => XS.dloadN X0.here hx rfl (Jvm.hb hby d1_29) rfl kont) ?_
  show Goes p e below _ T0 (mkF m 30 #[.val (.ref aX), .val (.double z2), .second, .val (.double s2), .second, .val (.ref aX), .val (.int (3 : Int32)), .val (.int (2 : Int32)), .val (.double x2), .second] [(.double s2)])
  refine Goes.of (fun _ kont => XS.dload X0.here hx rfl (Jvm.hb hby d1_30) rfl kont) ?_
  show Goes p e below _ T0 (mkF m 32 #[.val (.ref aX), .val (.double z2), .second, .val (.double s2), .second, .val (.ref aX), .val (.int (3 : Int32)), .val (.int (2 : Int32)), .val (.double x2), .second] [(.double x2), (.double s2)])
  have Ds3 := own_add Ds2 D2 (by omega)
  refine Goes.of (fun _ kont => XS.daddS X0.here hx rfl (Jvm.hb hby d1_32) rfl Ds3.noNaN rfl kont) ?_
  show Goes p e below _ T0 (mkF m 33 #[.val (.ref aX), .val (.double z2), .second, .val (.double s2), .second, .val (.ref aX), .val (.int (3 : Int32)), .val (.int (2 : Int32)), .val (.double x2), .second] [(.double (FP.dadd s2 x2))])
  generalize hs3 : (FP.dadd s2 x2) = s3
  show Goes p e below _ T0 (mkF m 33 #[.val (.ref aX), .val (.double z2), .second, .val (.double s2), .second, .val (.ref aX), .val (.int (3 : Int32)), .val (.int (2 : Int32)), .val (.double x2), .second] [(.double s3)])
  rw [hs3] at Ds3
  refine Goes.of (fun _ kont => XS.dstoreN X0.here hx rfl (Jvm.hb hby d1_33) rfl (l' := #[.val (.ref aX), .val (.double z2), .second, .val (.double s3), .second, .val (.ref aX), .val (.int (3 : Int32)), .val (.int (2 : Int32)), .val (.double x2), .second]) rfl kont) ?_
  show Goes p e below _ T0 (mkF m 34 #[.val (.ref aX), .val (.double z2), .second, .val (.double s3), .second, .val (.ref aX), .val (.int (3 : Int32)), .val (.int (2 : Int32)), .val (.double x2), .second] [])
  refine Goes.of (fun _ kont => XS.dloadN X0.here hx rfl (Jvm.hb hby d1_34) rfl kont) ?_
  show Goes p e below _ T0 (mkF m 35 #[.val (.ref aX), .val (.double z2), .second, .val (.double s3), .second, .val (.ref aX), .val (.int (3 : Int32)), .val (.int (2 : Int32)), .val (.double x2), .second] [(.double z2)])
  refine Goes.of (fun _ kont => XS.dloadN X0.here hx rfl (Jvm.hb hby d1_35) rfl kont) ?_
  show Goes p e below _ T0 (mkF m 36 #[.val (.ref aX), .val (.double z2), .second, .val (.double s3), .second, .val (.ref aX), .val (.int (3 : Int32)), .val (.int (2 : Int32)), .val (.double x2), .second] [(.double s3), (.double z2)])
  refine Goes.of (fun _ kont => XS.dloadN X0.here hx rfl (Jvm.hb hby d1_36) rfl kont) ?_
  show Goes p e below _ T0 (mkF m 37 #[.val (.ref aX), .val (.double z2), .second, .val (.double s3), .second, .val (.ref aX), .val (.int (3 : Int32)), .val (.int (2 : Int32)), .val (.double x2), .second] [(.double s3), (.double s3), (.double z2)])
  have Dq3 := own_sq Ds3 (by omega)
  refine Goes.of (fun _ kont => XS.dmulS X0.here hx rfl (Jvm.hb hby d1_37) rfl Dq3.noNaN rfl kont) ?_
  show Goes p e below _ T0 (mkF m 38 #[.val (.ref aX), .val (.double z2), .second, .val (.double s3), .second, .val (.ref aX), .val (.int (3 : Int32)), .val (.int (2 : Int32)), .val (.double x2), .second] [(.double (FP.dmul s3 s3)), (.double z2)])
  generalize hq3 : (FP.dmul s3 s3) = q3
  show Goes p e below _ T0 (mkF m 38 #[.val (.ref aX), .val (.double z2), .second, .val (.double s3), .second, .val (.ref aX), .val (.int (3 : Int32)), .val (.int (2 : Int32)), .val (.double x2), .second] [(.double q3), (.double z2)])
  rw [hq3] at Dq3
  have Dz3 := own_add Dz2 Dq3 (by have := own_sqb (a := a0) (A := 4194304) (by omega); have := own_sqb (a := a0 + a1) (A := 4194304) (by omega); have := own_sqb (a := a0 + a1 + a2) (A := 4194304) (by omega); omega)
  refine Goes.of (fun _ kont => XS.daddS X0.here hx rfl (Jvm.hb hby d1_38) rfl Dz3.noNaN rfl kont) ?_
  show Goes p e below _ T0 (mkF m 39 #[.val (.ref aX), .val (.double z2), .second, .val (.double s3), .second, .val (.ref aX), .val (.int (3 : Int32)), .val (.int (2 : Int32)), .val (.double x2), .second] [(.double (FP.dadd z2 q3))])
  generalize hz3 : (FP.dadd z2 q3) = z3
  show Goes p e below _ T0 (mkF m 39 #[.val (.ref aX), .val (.double z2), .second, .val (.double s3), .second, .val (.ref aX), .val (.int (3 : Int32)), .val (.int (2 : Int32)), .val (.double x2), .second] [(.double z3)])
  rw [hz3] at Dz3
  refine Goes.of (fun _ kont => XS.dstoreN X0.here hx rfl (Jvm.hb hby d1_39) rfl (l' := #[.val (.ref aX), .val (.double z3), .second, .val (.double s3), .second, .val (.ref aX), .val (.int (3 : Int32)), .val (.int (2 : Int32)), .val (.double x2), .second]) rfl kont) ?_
  show Goes p e below _ T0 (mkF m 40 #[.val (.ref aX), .val (.double z3), .second, .val (.double s3), .second, .val (.ref aX), .val (.int (3 : Int32)), .val (.int (2 : Int32)), .val (.double x2), .second] [])
  refine Goes.of (fun _ kont => XS.iinc X0.here hx rfl (Jvm.hb hby d1_40) rfl (l' := #[.val (.ref aX), .val (.double z3), .second, .val (.double s3), .second, .val (.ref aX), .val (.int (3 : Int32)), .val (.int (3 : Int32)), .val (.double x2), .second]) rfl kont) ?_
  show Goes p e below _ T0 (mkF m 43 #[.val (.ref aX), .val (.double z3), .second, .val (.double s3), .second, .val (.ref aX), .val (.int (3 : Int32)), .val (.int (3 : Int32)), .val (.double x2), .second] [])
  refine Goes.of (fun _ kont => XS.goto X0.here hx rfl (pc0 := 43) (pc' := 15) rfl (Jvm.hb hby d1_43) (by decide) (by decide) kont) ?_
  show Goes p e below _ T0 (mkF m 15 #[.val (.ref aX), .val (.double z3), .second, .val (.double s3), .second, .val (.ref aX), .val (.int (3 : Int32)), .val (.int (3 : Int32)), .val (.double x2), .second] [])
  refine Goes.of (fun _ kont => XS.iload X0.here hx rfl (Jvm.hb hby d1_15) rfl kont) ?_
  show Goes p e below _ T0 (mkF m 17 #[.val (.ref aX), .val (.double z3), .second, .val (.double s3), .second, .val (.ref aX), .val (.int (3 : Int32)), .val (.int (3 : Int32)), .val (.double x2), .second] [(.int (3 : Int32))])
  refine Goes.of (fun _ kont => XS.iload X0.here hx rfl (Jvm.hb hby d1_17) rfl kont) ?_
  show Goes p e below _ T0 (mkF m 19 #[.val (.ref aX), .val (.double z3), .second, .val (.double s3), .second, .val (.ref aX), .val (.int (3 : Int32)), .val (.int (3 : Int32)), .val (.double x2), .second] [(.int (3 : Int32)), (.int (3 : Int32))])
  refine Goes.of (fun _ kont => XS.icmpYes X0.here hx rfl (pc0 := 19) (pc' := 46) rfl (Jvm.hb hby d1_19) rfl (by decide) (by decide) (by decide) kont) ?_
  show Goes p e below _ T0 (mkF m 46 #[.val (.ref aX), .val (.double z3), .second, .val (.double s3), .second, .val (.ref aX), .val (.int (3 : Int32)), .val (.int (3 : Int32)), .val (.double x2), .second] [])
  refine Goes.of (fun _ kont => XS.dloadN X0.here hx rfl (Jvm.hb hby d1_46) rfl kont) ?_
  show Goes p e below _ T0 (mkF m 47 #[.val (.ref aX), .val (.double z3), .second, .val (.double s3), .second, .val (.ref aX), .val (.int (3 : Int32)), .val (.int (3 : Int32)), .val (.double x2), .second] [(.double z3)])
  exact retD X0 hx hlk hret (Jvm.hb hby d1_47) (by decide) (by decide) ⟨⟨_, rfl, Dz3⟩, N0, e0⟩
theorem pn_1_4 : plainFor (⟨"com/example/memechain/memechain/benchmark/Functions", "schwefel12", "([D)D"⟩ : MethodName) = true := plainFor_of_name (by first | (simp [plainName, overriddenIn]; done) | decide +kernel)
set_option maxRecDepth 65536 in
set_option maxHeartbeats 40000000 in
theorem rm1_4 (l : Launch) (Z : State) (a0 : Array Value) (hw : ∀ d ∈ tables_1, d.before a0 Z = true) (aX : Addr) (x0 : UInt64) (a0 : Int) (x1 : UInt64) (a1 : Int) (x2 : UInt64) (a2 : Int) (x3 : UInt64) (a3 : Int) (h0 : Heap) (n0 : Nat) (Z0 : n0 ≤ h0.size) (VX : DA Z h0 aX [x0, x1, x2, x3]) (D0 : Dy a0 0 x0) (b0 : a0.natAbs ≤ 1048576) (D1 : Dy a1 0 x1) (b1 : a1.natAbs ≤ 1048576) (D2 : Dy a2 0 x2) (b2 : a2.natAbs ≤ 1048576) (D3 : Dy a3 0 x3) (b3 : a3.natAbs ≤ 1048576) :
    Ct l (⟨"com/example/memechain/memechain/benchmark/Functions", "schwefel12", "([D)D"⟩ : MethodName) prog_26_method_20_code 10 (some .double) ({ frames := 0, cells := 0, slots := 0, locals := 0 } : Room) Z [(.ref aX)] h0 (fun v h L => (∃ z, v = some (.double z) ∧ Dy ((a0) * (a0) + (a0 + a1) * (a0 + a1) + (a0 + a1 + a2) * (a0 + a1 + a2) + (a0 + a1 + a2 + a3) * (a0 + a1 + a2 + a3)) 0 z) ∧ Fr n0 L ∧ h = h0) := by
  refine met pn_1_4 ?_
  intro p e s m below meth c T0 hx hby hml hown hret hlk hnm hZ X0 e0
  have N0 := Fr.nil n0
  have hown : s.vm.findClass "com/example/memechain/memechain/benchmark/Functions" = some m.cls := hown
  refine Goes.cast (ef_1 m aX) ?_
  show Goes p e below _ T0 (mkF m 0 #[.val (.ref aX), .unset, .unset, .unset, .unset, .unset, .unset, .unset, .unset, .unset] [])
  refine Goes.of (fun _ kont => XS.dconst0 X0.here hx rfl (Jvm.hb hby d1_0) rfl kont) ?_
  show Goes p e below _ T0 (mkF m 1 #[.val (.ref aX), .unset, .unset, .unset, .unset, .unset, .unset, .unset, .unset, .unset] [(.double FP.dconst0)])
  refine Goes.of (fun _ kont => XS.dstoreN X0.here hx rfl (Jvm.hb hby d1_1) rfl (l' := #[.val (.ref aX), .val (.double FP.dconst0), .second, .unset, .unset, .unset, .unset, .unset, .unset, .unset]) rfl kont) ?_
  show Goes p e below _ T0 (mkF m 2 #[.val (.ref aX), .val (.double FP.dconst0), .second, .unset, .unset, .unset, .unset, .unset, .unset, .unset] [])
  refine Goes.of (fun _ kont => XS.dconst0 X0.here hx rfl (Jvm.hb hby d1_2) rfl kont) ?_
  show Goes p e below _ T0 (mkF m 3 #[.val (.ref aX), .val (.double FP.dconst0), .second, .unset, .unset, .unset, .unset, .unset, .unset, .unset] [(.double FP.dconst0)])
  refine Goes.of (fun _ kont => XS.dstoreN X0.here hx rfl (Jvm.hb hby d1_3) rfl (l' := #[.val (.ref aX), .val (.double FP.dconst0), .second, .val (.double FP.dconst0), .second, .unset, .unset, .unset, .unset, .unset]) rfl kont) ?_
  show Goes p e below _ T0 (mkF m 4 #[.val (.ref aX), .val (.double FP.dconst0), .second, .val (.double FP.dconst0), .second, .unset, .unset, .unset, .unset, .unset] [])
  refine Goes.of (fun _ kont => XS.aloadN X0.here hx rfl (Jvm.hb hby d1_4) rfl rfl kont) ?_
  show Goes p e below _ T0 (mkF m 5 #[.val (.ref aX), .val (.double FP.dconst0), .second, .val (.double FP.dconst0), .second, .unset, .unset, .unset, .unset, .unset] [(.ref aX)])
  refine Goes.of (fun _ kont => XS.astore X0.here hx rfl (Jvm.hb hby d1_5) rfl rfl (l' := #[.val (.ref aX), .val (.double FP.dconst0), .second, .val (.double FP.dconst0), .second, .val (.ref aX), .unset, .unset, .unset, .unset]) rfl kont) ?_
  show Goes p e below _ T0 (mkF m 7 #[.val (.ref aX), .val (.double FP.dconst0), .second, .val (.double FP.dconst0), .second, .val (.ref aX), .unset, .unset, .unset, .unset] [])
  refine Goes.of (fun _ kont => XS.aload X0.here hx rfl (Jvm.hb hby d1_7) rfl rfl kont) ?_
  show Goes p e below _ T0 (mkF m 9 #[.val (.ref aX), .val (.double FP.dconst0), .second, .val (.double FP.dconst0), .second, .val (.ref aX), .unset, .unset, .unset, .unset] [(.ref aX)])
  refine goLen X0 hx hZ e0 VX (n := 4) (by show Int32.toInt 4 = ((4 : Nat) : Int); decide) (g := (mkF m 9 #[.val (.ref aX), .val (.double FP.dconst0), .second, .val (.double FP.dconst0), .second, .val (.ref aX), .unset, .unset, .unset, .unset] [(.ref aX)])) rfl rfl (Jvm.hb hby d1_9) ?_
  show Goes p e below _ T0 (mkF m 10 #[.val (.ref aX), .val (.double FP.dconst0), .second, .val (.double FP.dconst0), .second, .val (.ref aX), .unset, .unset, .unset, .unset] [(.int (4 : Int32))])
  refine Goes.of (fun _ kont => XS.istore X0.here hx rfl (Jvm.hb hby d1_10) rfl (l' := #[.val (.ref aX), .val (.double FP.dconst0), .second, .val (.double FP.dconst0), .second, .val (.ref aX), .val (.int (4 : Int32)), .unset, .unset, .unset]) rfl kont) ?_
  show Goes p e below _ T0 (mkF m 12 #[.val (.ref aX), .val (.double FP.dconst0), .second, .val (.double FP.dconst0), .second, .val (.ref aX), .val (.int (4 : Int32)), .unset, .unset, .unset] [])
  refine Goes.of (fun _ kont => XS.iconst X0.here hx rfl (Jvm.hb hby d1_12) kont) ?_
  show Goes p e below _ T0 (mkF m 13 #[.val (.ref aX), .val (.double FP.dconst0), .second, .val (.double FP.dconst0), .second, .val (.ref aX), .val (.int (4 : Int32)), .unset, .unset, .unset] [(.int (0 : Int32))])
  refine Goes.of (fun _ kont => XS.istore X0.here hx rfl (Jvm.hb hby d1_13) rfl (l' := #[.val (.ref aX), .val (.double FP.dconst0), .second, .val (.double FP.dconst0), .second, .val (.ref aX), .val (.int (4 : Int32)), .val (.int (0 : Int32)), .unset, .unset]) rfl kont) ?_
  show Goes p e below _ T0 (mkF m 15 #[.val (.ref aX), .val (.double FP.dconst0), .second, .val (.double FP.dconst0), .second, .val (.ref aX), .val (.int (4 : Int32)), .val (.int (0 : Int32)), .unset, .unset] [])
  have Dz0 := dy_zero 0
  have Ds0 := dy_zero 0
  refine Goes.of (fun _ kont => XS.iload X0.here hx rfl (Jvm.hb hby d1_15) rfl kont) ?_
  show Goes p e below _ T0 (mkF m 17 #[.val (.ref aX), .val (.double FP.dconst0), .second, .val (.double FP.dconst0), .second, .val (.ref aX), .val (.int (4 : Int32)), .val (.int (0 : Int32)), .unset, .unset] [(.int (0 : Int32))])
  refine Goes.of (fun _ kont => XS.iload X0.here hx rfl (Jvm.hb hby d1_17) rfl kont) ?_
  show Goes p e below _ T0 (mkF m 19 #[.val (.ref aX), .val (.double FP.dconst0), .second, .val (.double FP.dconst0), .second, .val (.ref aX), .val (.int (4 : Int32)), .val (.int (0 : Int32)), .unset, .unset] [(.int (4 : Int32)), (.int (0 : Int32))])
  refine Goes.of (fun _ kont => XS.icmpNo X0.here hx rfl (Jvm.hb hby d1_19) rfl (by decide) kont) ?_
  show Goes p e below _ T0 (mkF m 22 #[.val (.ref aX), .val (.double FP.dconst0), .second, .val (.double FP.dconst0), .second, .val (.ref aX), .val (.int (4 : Int32)), .val (.int (0 : Int32)), .unset, .unset] [])
  refine Goes.of (fun _ kont => XS.aload X0.here hx rfl (Jvm.hb hby d1_22) rfl rfl kont) ?_
  show Goes p e below _ T0 (mkF m 24 #[.val (.ref aX), .val (.double FP.dconst0), .second, .val (.double FP.dconst0), .second, .val (.ref aX), .val (.int (4 : Int32)), .val (.int (0 : Int32)), .unset, .unset] [(.ref aX)])
  refine Goes.of (fun _ kont => XS.iload X0.here hx rfl (Jvm.hb hby d1_24) rfl kont) ?_
  show Goes p e below _ T0 (mkF m 26 #[.val (.ref aX), .val (.double FP.dconst0), .second, .val (.double FP.dconst0), .second, .val (.ref aX), .val (.int (4 : Int32)), .val (.int (0 : Int32)), .unset, .unset] [(.int (0 : Int32)), (.ref aX)])
  refine goLdD X0 hx hZ e0 VX 0 (by decide) (w := x0) rfl (g := (mkF m 26 #[.val (.ref aX), .val (.double FP.dconst0), .second, .val (.double FP.dconst0), .second, .val (.ref aX), .val (.int (4 : Int32)), .val (.int (0 : Int32)), .unset, .unset] [(.int (0 : Int32)), (.ref aX)])) rfl rfl (Jvm.hb hby d1_26) ?_
  show Goes p e below _ T0 (mkF m 27 #[.val (.ref aX), .val (.double FP.dconst0), .second, .val (.double FP.dconst0), .second, .val (.ref aX), .val (.int (4 : Int32)), .val (.int (0 : Int32)), .unset, .unset] [(.double x0)])
  refine Goes.of (fun _ kont => XS.dstore X0.here hx rfl (Jvm.hb hby d1_27) rfl (l' := #[.val (.ref aX), .val (.double FP.dconst0), .second, .val (.double FP.dconst0), .second, .val (.ref aX), .val (.int (4 : Int32)), .val (.int (0 : Int32)), .val (.double x0), .second]) rfl kont) ?_
  show Goes p e below _ T0 (mkF m 29 #[.val (.ref aX), .val (.double FP.dconst0), .second, .val (.double FP.dconst0), .second, .val (.ref aX), .val (.int (4 : Int32)), .val (.int (0 : Int32)), .val (.double x0), .second] [])
  refine Goes.of (fun _ kont => XS.dloadN X0.here hx rfl (Jvm.hb hby d1_29) rfl kont) ?_
  show Goes p e below _ T0 (mkF m 30 #[.val (.ref aX), .val (.double FP.dconst0), .second, .val (.double FP.dconst0), .second, .val (.ref aX), .val (.int (4 : Int32)), .val (.int (0 : Int32)), .val (.double x0), .second] [(.double FP.dconst0)])
  refine Goes.of (fun _ kont => XS.dload X0.here hx rfl (Jvm.hb hby d1_30) rfl kont) ?_
  show Goes p e below _ T0 (mkF m 32 #[.val (.ref aX), .val (.double FP.dconst0), .second, .val (.double FP.dconst0), .second, .val (.ref aX), .val (.int (4 : Int32)), .val (.int (0 : Int32)), .val (.double x0), .second] [(.double x0), (.double FP.dconst0)])
  have Ds1 := own_add Ds0 D0 (by omega)
  refine Goes.of (fun _ kont => XS.daddS X0.here hx rfl (Jvm.hb hby d1_32) rfl Ds1.noNaN rfl kont) ?_
  show Goes p e below _ T0 (mkF m 33 #[.val (.ref aX), .val (.double FP.dconst0), .second, .val (.double FP.dconst0), .second, .val (.ref aX), .val (.int (4 : Int32)), .val (.int (0 : Int32)), .val (.double x0), .second] [(.double (FP.dadd FP.dconst0 x0))])
  generalize hs1 : (FP.dadd FP.dconst0 x0) = s1
  show Goes p e below _ T0 (mkF m 33 #[.val (.ref aX), .val (.double FP.dconst0), .second, .val (.double FP.dconst0), .second, .val (.ref aX), .val (.int (4 : Int32)), .val (.int (0 : Int32)), .val (.double x0), .second] [(.double s1)])
  rw [hs1, Int.zero_add] at Ds1
  refine Goes.of (fun _ kont => XS.dstoreN X0.here hx rfl (Jvm.hb hby d1_33) rfl (l' := #[.val (.ref aX), .val (.double FP.dconst0), .second, .val (.double s1), .second, .val (.ref aX), .val (.int (4 : Int32)), .val (.int (0 : Int32)), .val (.double x0), .second]) rfl kont) ?_
  show Goes p e below _ T0 (mkF m 34 #[.val (.ref aX), .val (.double FP.dconst0), .second, .val (.double s1), .second, .val (.ref aX), .val (.int (4 : Int32)), .val (.int (0 : Int32)), .val (.double x0), .second] [])
  refine Goes.of (fun _ kont => XS.dloadN X0.here hx rfl (Jvm.hb hby d1_34) rfl kont) ?_
  show Goes p e below _ T0 (mkF m 35 #[.val (.ref aX), .val (.double FP.dconst0), .second, .val (.double s1), .second, .val (.ref aX), .val (.int (4 : Int32)), .val (.int (0 : Int32)), .val (.double x0), .second] [(.double FP.dconst0)])
  refine Goes.of (fun _ kont => XS.dloadN X0.here hx rfl (Jvm.hb hby d1_35) rfl kont) ?_
  show Goes p e below _ T0 (mkF m 36 #[.val (.ref aX), .val (.double FP.dconst0), .second, .val (.double s1), .second, .val (.ref aX), .val (.int (4 : Int32)), .val (.int (0 : Int32)), .val (.double x0), .second] [(.double s1), (.double FP.dconst0)])
  refine Goes.of (fun _ kont => XS.dloadN X0.here hx rfl (Jvm.hb hby d1_36) rfl kont) ?_
  show Goes p e below _ T0 (mkF m 37 #[.val (.ref aX), .val (.double FP.dconst0), .second, .val (.double s1), .second, .val (.ref aX), .val (.int (4 : Int32)), .val (.int (0 : Int32)), .val (.double x0), .second] [(.double s1), (.double s1), (.double FP.dconst0)])
  have Dq1 := own_sq Ds1 (by omega)
  refine Goes.of (fun _ kont => XS.dmulS X0.here hx rfl (Jvm.hb hby d1_37) rfl Dq1.noNaN rfl kont) ?_
  show Goes p e below _ T0 (mkF m 38 #[.val (.ref aX), .val (.double FP.dconst0), .second, .val (.double s1), .second, .val (.ref aX), .val (.int (4 : Int32)), .val (.int (0 : Int32)), .val (.double x0), .second] [(.double (FP.dmul s1 s1)), (.double FP.dconst0)])
  generalize hq1 : (FP.dmul s1 s1) = q1
  show Goes p e below _ T0 (mkF m 38 #[.val (.ref aX), .val (.double FP.dconst0), .second, .val (.double s1), .second, .val (.ref aX), .val (.int (4 : Int32)), .val (.int (0 : Int32)), .val (.double x0), .second] [(.double q1), (.double FP.dconst0)])
  rw [hq1] at Dq1
  have Dz1 := own_add Dz0 Dq1 (by have := own_sqb (a := a0) (A := 4194304) (by omega); omega)
  refine Goes.of (fun _ kont => XS.daddS X0.here hx rfl (Jvm.hb hby d1_38) rfl Dz1.noNaN rfl kont) ?_
  show Goes p e below _ T0 (mkF m 39 #[.val (.ref aX), .val (.double FP.dconst0), .second, .val (.double s1), .second, .val (.ref aX), .val (.int (4 : Int32)), .val (.int (0 : Int32)), .val (.double x0), .second] [(.double (FP.dadd FP.dconst0 q1))])
  generalize hz1 : (FP.dadd FP.dconst0 q1) = z1
  show Goes p e below _ T0 (mkF m 39 #[.val (.ref aX), .val (.double FP.dconst0), .second, .val (.double s1), .second, .val (.ref aX), .val (.int (4 : Int32)), .val (.int (0 : Int32)), .val (.double x0), .second] [(.double z1)])
  rw [hz1, Int.zero_add] at Dz1
  refine Goes.of (fun _ kont => XS.dstoreN X0.here hx rfl (Jvm.hb hby d1_39) rfl (l' := #[.val (.ref aX), .val (.double z1), .second, .val (.double s1), .second, .val (.ref aX), .val (.int (4 : Int32)), .val (.int (0 : Int32)), .val (.double x0), .second]) rfl kont) ?_
  show Goes p e below _ T0 (mkF m 40 #[.val (.ref aX), .val (.double z1), .second, .val (.double s1), .second, .val (.ref aX), .val (.int (4 : Int32)), .val (.int (0 : Int32)), .val (.double x0), .second] [])
  refine Goes.of (fun _ kont => XS.iinc X0.here hx rfl (Jvm.hb hby d1_40) rfl (l' := #[.val (.ref aX), .val (.double z1), .second, .val (.double s1), .second, .val (.ref aX), .val (.int (4 : Int32)), .val (.int (1 : Int32)), .val (.double x0), .second]) rfl kont) ?_
  show Goes p e below _ T0 (mkF m 43 #[.val (.ref aX), .val (.double z1), .second, .val (.double s1), .second, .val (.ref aX), .val (.int (4 : Int32)), .val (.int (1 : Int32)), .val (.double x0), .second] [])
  refine Goes.of (fun _ kont => XS.goto X0.here hx rfl (pc0 := 43) (pc' := 15) rfl (Jvm.hb hby d1_43) (by decide) (by decide) kont) ?_
  show Goes p e below _ T0 (mkF m 15 #[.val (.ref aX), .val (.double z1), .second, .val (.double s1), .second, .val (.ref aX), .val (.int (4 : Int32)), .val (.int (1 : Int32)), .val (.double x0), .second] [])
  refine Goes.of (fun _ kont => XS.iload X0.here hx rfl (Jvm.hb hby d1_15) rfl kont) ?_
  show Goes p e below _ T0 (mkF m 17 #[.val (.ref aX), .val (.double z1), .second, .val (.double s1), .second, .val (.ref aX), .val (.int (4 : Int32)), .val (.int (1 : Int32)), .val (.double x0), .second] [(.int (1 : Int32))])
  refine Goes.of (fun _ kont => XS.iload X0.here hx rfl (Jvm.hb hby d1_17) rfl kont) ?_
  show Goes p e below _ T0 (mkF m 19 #[.val (.ref aX), .val (.double z1), .second, .val (.double s1), .second, .val (.ref aX), .val (.int (4 : Int32)), .val (.int (1 : Int32)), .val (.double x0), .second] [(.int (4 : Int32)), (.int (1 : Int32))])
  refine Goes.of (fun _ kont => XS.icmpNo X0.here hx rfl (Jvm.hb hby d1_19) rfl (by decide) kont) ?_
  show Goes p e below _ T0 (mkF m 22 #[.val (.ref aX), .val (.double z1), .second, .val (.double s1), .second, .val (.ref aX), .val (.int (4 : Int32)), .val (.int (1 : Int32)), .val (.double x0), .second] [])
  refine Goes.of (fun _ kont => XS.aload X0.here hx rfl (Jvm.hb hby d1_22) rfl rfl kont) ?_
  show Goes p e below _ T0 (mkF m 24 #[.val (.ref aX), .val (.double z1), .second, .val (.double s1), .second, .val (.ref aX), .val (.int (4 : Int32)), .val (.int (1 : Int32)), .val (.double x0), .second] [(.ref aX)])
  refine Goes.of (fun _ kont => XS.iload X0.here hx rfl (Jvm.hb hby d1_24) rfl kont) ?_
  show Goes p e below _ T0 (mkF m 26 #[.val (.ref aX), .val (.double z1), .second, .val (.double s1), .second, .val (.ref aX), .val (.int (4 : Int32)), .val (.int (1 : Int32)), .val (.double x0), .second] [(.int (1 : Int32)), (.ref aX)])
  refine goLdD X0 hx hZ e0 VX 1 (by decide) (w := x1) rfl (g := (mkF m 26 #[.val (.ref aX), .val (.double z1), .second, .val (.double s1), .second, .val (.ref aX), .val (.int (4 : Int32)), .val (.int (1 : Int32)), .val (.double x0), .second] [(.int (1 : Int32)), (.ref aX)])) rfl rfl (Jvm.hb hby d1_26) ?_
  show Goes p e below _ T0 (mkF m 27 #[.val (.ref aX), .val (.double z1), .second, .val (.double s1), .second, .val (.ref aX), .val (.int (4 : Int32)), .val (.int (1 : Int32)), .val (.double x0), .second] [(.double x1)])
  refine Goes.of (fun _ kont => XS.dstore X0.here hx rfl (Jvm.hb hby d1_27) rfl (l' := #[.val (.ref aX), .val (.double z1), .second, .val (.double s1), .second, .val (.ref aX), .val (.int (4 : Int32)), .val (.int (1 : Int32)), .val (.double x1), .second]) rfl kont) ?_
  show Goes p e below _ T0 (mkF m 29 #[.val (.ref aX), .val (.double z1), .second, .val (.double s1), .second, .val (.ref aX), .val (.int (4 : Int32)), .val (.int (1 : Int32)), .val (.double x1), .second] [])
  refine Goes.of (fun _ kont => XS.dloadN X0.here hx rfl (Jvm.hb hby d1_29) rfl kont) ?_
  show Goes p e below _ T0 (mkF m 30 #[.val (.ref aX), .val (.double z1), .second, .val (.double s1), .second, .val (.ref aX), .val (.int (4 : Int32)), .val (.int (1 : Int32)), .val (.double x1), .second] [(.double s1)])
  refine Goes.of (fun _ kont => XS.dload X0.here hx rfl (Jvm.hb hby d1_30) rfl kont) ?_
  show Goes p e below _ T0 (mkF m 32 #[.val (.ref aX), .val (.double z1), .second, .val (.double s1), .second, .val (.ref aX), .val (.int (4 : Int32)), .val (.int (1 : Int32)), .val (.double x1), .second] [(.double x1), (.double s1)])
  have Ds2 := own_add Ds1 D1 (by omega)
  refine Goes.of (fun _ kont => XS.daddS X0.here hx rfl (Jvm.hb hby d1_32) rfl Ds2.noNaN rfl kont) ?_
  show Goes p e below _ T0 (mkF m 33 #[.val (.ref aX), .val (.double z1), .second, .val (.double s1), .second, .val (.ref aX), .val (.int (4 : Int32)), .val (.int (1 : Int32)), .val (.double x1), .second] [(.double (FP.dadd s1 x1))])
  generalize hs2 : (FP.dadd s1 x1) = s2
  show Goes p e below _ T0 (mkF m 33 #[.val (.ref aX), .val (.double z1), .second, .val (.double s1), .second, .val (.ref aX), .val (.int (4 : Int32)), .val (.int (1 : Int32)), .val (.double x1), .second] [(.double s2)])
  rw [hs2] at Ds2
  refine Goes.of (fun _ kont => XS.dstoreN X0.here hx rfl (Jvm.hb hby d1_33) rfl (l' := #[.val (.ref aX), .val (.double z1), .second, .val (.double s2), .second, .val (.ref aX), .val (.int (4 : Int32)), .val (.int (1 : Int32)), .val (.double x1), .second]) rfl kont) ?_
  show Goes p e below _ T0 (mkF m 34 #[.val (.ref aX), .val (.double z1), .second, .val (.double s2), .second, .val (.ref aX), .val (.int (4 : Int32)), .val (.int (1 : Int32)), .val (.double x1), .second] [])
  refine Goes.of (fun _ kont => XS.dloadN X0.here hx rfl (Jvm.hb hby d1_34) rfl kont) ?_
  show Goes p e below _ T0 (mkF m 35 #[.val (.ref aX), .val (.double z1), .second, .val (.double s2), .second, .val (.ref aX), .val (.int (4 : Int32)), .val (.int (1 : Int32)), .val (.double x1), .second] [(.double z1)])
  refine Goes.of (fun _ kont => XS.dloadN X0.here hx rfl (Jvm.hb hby d1_35) rfl kont) ?_
  show Goes p e below _ T0 (mkF m 36 #[.val (.ref aX), .val (.double z1), .second, .val (.double s2), .second, .val (.ref aX), .val (.int (4 : Int32)), .val (.int (1 : Int32)), .val (.double x1), .second] [(.double s2), (.double z1)])
  refine Goes.of (fun _ kont => XS.dloadN X0.here hx rfl (Jvm.hb hby d1_36) rfl kont) ?_
  show Goes p e below _ T0 (mkF m 37 #[.val (.ref aX), .val (.double z1), .second, .val (.double s2), .second, .val (.ref aX), .val (.int (4 : Int32)), .val (.int (1 : Int32)), .val (.double x1), .second] [(.double s2), (.double s2), (.double z1)])
  have Dq2 := own_sq Ds2 (by omega)
  refine Goes.of (fun _ kont => XS.dmulS X0.here hx rfl (Jvm.hb hby d1_37) rfl Dq2.noNaN rfl kont) ?_
  show Goes p e below _ T0 (mkF m 38 #[.val (.ref aX), .val (.double z1), .second, .val (.double s2), .second, .val (.ref aX), .val (.int (4 : Int32)), .val (.int (1 : Int32)), .val (.double x1), .second] [(.double (FP.dmul s2 s2)), (.double z1)])
  generalize hq2 : (FP.dmul s2 s2) = q2
  show Goes p e below _ T0 (mkF m 38 #[.val (.ref aX), .val (.double z1), .second, .val (.double s2), .second, .val (.ref aX), .val (.int (4 : Int32)), .val (.int (1 : Int32)), .val (.double x1), .second] [(.double q2), (.double z1)])
  rw [hq2] at Dq2
  have Dz2 := own_add Dz1 Dq2 (by have := own_sqb (a := a0) (A := 4194304) (by omega); have := own_sqb (a := a0 + a1) (A := 4194304) (by omega); omega)
  refine Goes.of (fun _ kont => XS.daddS X0.here hx rfl (Jvm.hb hby d1_38) rfl Dz2.noNaN rfl kont) ?_
  show Goes p e below _ T0 (mkF m 39 #[.val (.ref aX), .val (.double z1), .second, .val (.double s2), .second, .val (.ref aX), .val (.int (4 : Int32)), .val (.int (1 : Int32)), .val (.double x1), .second] [(.double (FP.dadd z1 q2))])
  generalize hz2 : (FP.dadd z1 q2) = z2
  show Goes p e below _ T0 (mkF m 39 #[.val (.ref aX), .val (.double z1), .second, .val (.double s2), .second, .val (.ref aX), .val (.int (4 : Int32)), .val (.int (1 : Int32)), .val (.double x1), .second] [(.double z2)])
  rw [hz2] at Dz2
  refine Goes.of (fun _ kont => XS.dstoreN X0.here hx rfl (Jvm.hb hby d1_39) rfl (l' := #[.val (.ref aX), .val (.double z2), .second, .val (.double s2), .second, .val (.ref aX), .val (.int (4 : Int32)), .val (.int (1 : Int32)), .val (.double x1), .second]) rfl kont) ?_
  show Goes p e below _ T0 (mkF m 40 #[.val (.ref aX), .val (.double z2), .second, .val (.double s2), .second, .val (.ref aX), .val (.int (4 : Int32)), .val (.int (1 : Int32)), .val (.double x1), .second] [])
  refine Goes.of (fun _ kont => XS.iinc X0.here hx rfl (Jvm.hb hby d1_40) rfl (l' := #[.val (.ref aX), .val (.double z2), .second, .val (.double s2), .second, .val (.ref aX), .val (.int (4 : Int32)), .val (.int (2 : Int32)), .val (.double x1), .second]) rfl kont) ?_
  show Goes p e below _ T0 (mkF m 43 #[.val (.ref aX), .val (.double z2), .second, .val (.double s2), .second, .val (.ref aX), .val (.int (4 : Int32)), .val (.int (2 : Int32)), .val (.double x1), .second] [])
  refine Goes.of (fun _ kont => XS.goto X0.here hx rfl (pc0 := 43) (pc' := 15) rfl (Jvm.hb hby d1_43) (by decide) (by decide) kont) ?_
  show Goes p e below _ T0 (mkF m 15 #[.val (.ref aX), .val (.double z2), .second, .val (.double s2), .second, .val (.ref aX), .val (.int (4 : Int32)), .val (.int (2 : Int32)), .val (.double x1), .second] [])
  refine Goes.of (fun _ kont => XS.iload X0.here hx rfl (Jvm.hb hby d1_15) rfl kont) ?_
  show Goes p e below _ T0 (mkF m 17 #[.val (.ref aX), .val (.double z2), .second, .val (.double s2), .second, .val (.ref aX), .val (.int (4 : Int32)), .val (.int (2 : Int32)), .val (.double x1), .second] [(.int (2 : Int32))])
  refine Goes.of (fun _ kont => XS.iload X0.here hx rfl (Jvm.hb hby d1_17) rfl kont) ?_
  show Goes p e below _ T0 (mkF m 19 #[.val (.ref aX), .val (.double z2), .second, .val (.double s2), .second, .val (.ref aX), .val (.int (4 : Int32)), .val (.int (2 : Int32)), .val (.double x1), .second] [(.int (4 : Int32)), (.int (2 : Int32))])
  refine Goes.of (fun _ kont => XS.icmpNo X0.here hx rfl (Jvm.hb hby d1_19) rfl (by decide) kont) ?_
  show Goes p e below _ T0 (mkF m 22 #[.val (.ref aX), .val (.double z2), .second, .val (.double s2), .second, .val (.ref aX), .val (.int (4 : Int32)), .val (.int (2 : Int32)), .val (.double x1), .second] [])
  refine Goes.of (fun _ kont => XS.aload X0.here hx rfl (Jvm.hb hby d1_22) rfl rfl kont) ?_
  show Goes p e below _ T0 (mkF m 24 #[.val (.ref aX), .val (.double z2), .second, .val (.double s2), .second, .val (.ref aX), .val (.int (4 : Int32)), .val (.int (2 : Int32)), .val (.double x1), .second] [(.ref aX)])
  refine Goes.of (fun _ kont => XS.iload X0.here hx rfl (Jvm.hb hby d1_24) rfl kont) ?_
  show Goes p e below _ T0 (mkF m 26 #[.val (.ref aX), .val (.double z2), .second, .val (.double s2), .second, .val (.ref aX), .val (.int (4 : Int32)), .val (.int (2 : Int32)), .val (.double x1), .second] [(.int (2 : Int32)), (.ref aX)])
  refine goLdD X0 hx hZ e0 VX 2 (by decide) (w := x2) rfl (g := (mkF m 26 #[.val (.ref aX), .val (.double z2), .second, .val (.double s2), .second, .val (.ref aX), .val (.int (4 : Int32)), .val (.int (2 : Int32)), .val (.double x1), .second] [(.int (2 : Int32)), (.ref aX)])) rfl rfl (Jvm.hb hby d1_26) ?_
  show Goes p e below _ T0 (mkF m 27 #[.val (.ref aX), .val (.double z2), .second, .val (.double s2), .second, .val (.ref aX), .val (.int (4 : Int32)), .val (.int (2 : Int32)), .val (.double x1), .second] [(.double x2)])
  refine Goes.of (fun _ kont => XS.dstore X0.here hx rfl (Jvm.hb hby d1_27) rfl (l' := #[.val (.ref aX), .val (.double z2), .second, .val (.double s2), .second, .val (.ref aX), .val (.int (4 : Int32)), .val (.int (2 : Int32)), .val (.double x2), .second]) rfl kont) ?_
  show Goes p e below _ T0 (mkF m 29 #[.val (.ref aX), .val (.double z2), .second, .val (.double s2), .second, .val (.ref aX), .val (.int (4 : Int32)), .val (.int (2 : Int32)), .val (.double x2), .second] [])
  refine Goes.of (fun _ kont => XS.dloadN X0.here hx rfl (Jvm.hb hby d1_29) rfl kont) ?_
  show Goes p e below _ T0 (mkF m 30 #[.val (.ref aX), .val (.double z2), .second, .val (.double s2), .second, .val (.ref aX), .val (.int (4 : Int32)), .val (.int (2 : Int32)), .val (.double x2), .second] [(.double s2)])
  refine Goes.of (fun _ kont => XS.dload X0.here hx rfl (Jvm.hb hby d1_30) rfl kont) ?_
  show Goes p e below _ T0 (mkF m 32 #[.val (.ref aX), .val (.double z2), .second, .val (.double s2), .second, .val (.ref aX), .val (.int (4 : Int32)), .val (.int (2 : Int32)), .val (.double x2), .second] [(.double x2), (.double s2)])
  have Ds3 := own_add Ds2 D2 (by omega)
  refine Goes.of (fun _ kont => XS.daddS X0.here hx rfl (Jvm.hb hby d1_32) rfl Ds3.noNaN rfl kont) ?_
  show Goes p e below _ T0 (mkF m 33 #[.val (.ref aX), .val (.double z2), .second, .val (.double s2), .second, .val (.ref aX), .val (.int (4 : Int32)), .val (.int (2 : Int32)), .val (.double x2), .second] [(.double (FP.dadd s2 x2))])
  generalize hs3 : (FP.dadd s2 x2) = s3
  show Goes p e below _ T0 (mkF m 33 #[.val (.ref aX), .val (.double z2), .second, .val (.double s2), .second, .val (.ref aX), .val (.int (4 : Int32)), .val (.int (2 : Int32)), .val (.double x2), .second] [(.double s3)])
  rw [hs3] at Ds3
  refine Goes.of (fun _ kont => XS.dstoreN X0.here hx rfl (Jvm.hb hby d1_33) rfl (l' := #[.val (.ref aX), .val (.double z2), .second, .val (.double s3), .second, .val (.ref aX), .val (.int (4 : Int32)), .val (.int (2 : Int32)), .val (.double x2), .second]) rfl kont) ?_
  show Goes p e below _ T0 (mkF m 34 #[.val (.ref aX), .val (.double z2), .second, .val (.double s3), .second, .val (.ref aX), .val (.int (4 : Int32)), .val (.int (2 : Int32)), .val (.double x2), .second] [])
  refine Goes.of (fun _ kont => XS.dloadN X0.here hx rfl (Jvm.hb hby d1_34) rfl kont) ?_
  show Goes p e below _ T0 (mkF m 35 #[.val (.ref aX), .val (.double z2), .second, .val (.double s3), .second, .val (.ref aX), .val (.int (4 : Int32)), .val (.int (2 : Int32)), .val (.double x2), .second] [(.double z2)])
  refine Goes.of (fun _ kont => XS.dloadN X0.here hx rfl (Jvm.hb hby d1_35) rfl kont) ?_
  show Goes p e below _ T0 (mkF m 36 #[.val (.ref aX), .val (.double z2), .second, .val (.double s3), .second, .val (.ref aX), .val (.int (4 : Int32)), .val (.int (2 : Int32)), .val (.double x2), .second] [(.double s3), (.double z2)])
  refine Goes.of (fun _ kont => XS.dloadN X0.here hx rfl (Jvm.hb hby d1_36) rfl kont) ?_
  show Goes p e below _ T0 (mkF m 37 #[.val (.ref aX), .val (.double z2), .second, .val (.double s3), .second, .val (.ref aX), .val (.int (4 : Int32)), .val (.int (2 : Int32)), .val (.double x2), .second] [(.double s3), (.double s3), (.double z2)])
  have Dq3 := own_sq Ds3 (by omega)
  refine Goes.of (fun _ kont => XS.dmulS X0.here hx rfl (Jvm.hb hby d1_37) rfl Dq3.noNaN rfl kont) ?_
  show Goes p e below _ T0 (mkF m 38 #[.val (.ref aX), .val (.double z2), .second, .val (.double s3), .second, .val (.ref aX), .val (.int (4 : Int32)), .val (.int (2 : Int32)), .val (.double x2), .second] [(.double (FP.dmul s3 s3)), (.double z2)])
  generalize hq3 : (FP.dmul s3 s3) = q3
  show Goes p e below _ T0 (mkF m 38 #[.val (.ref aX), .val (.double z2), .second, .val (.double s3), .second, .val (.ref aX), .val (.int (4 : Int32)), .val (.int (2 : Int32)), .val (.double x2), .second] [(.double q3), (.double z2)])
  rw [hq3] at Dq3
  have Dz3 := own_add Dz2 Dq3 (by have := own_sqb (a := a0) (A := 4194304) (by omega); have := own_sqb (a := a0 + a1) (A := 4194304) (by omega); have := own_sqb (a := a0 + a1 + a2) (A := 4194304) (by omega); omega)
  refine Goes.of (fun _ kont => XS.daddS X0.here hx rfl (Jvm.hb hby d1_38) rfl Dz3.noNaN rfl kont) ?_
  show Goes p e below _ T0 (mkF m 39 #[.val (.ref aX), .val (.double z2), .second, .val (.double s3), .second, .val (.ref aX), .val (.int (4 : Int32)), .val (.int (2 : Int32)), .val (.double x2), .second] [(.double (FP.dadd z2 q3))])
  generalize hz3 : (FP.dadd z2 q3) = z3
  show Goes p e below _ T0 (mkF m 39 #[.val (.ref aX), .val (.double z2), .second, .val (.double s3), .second, .val (.ref aX), .val (.int (4 : Int32)), .val (.int (2 : Int32)), .val (.double x2), .second] [(.double z3)])
  rw [hz3] at Dz3
  refine Goes.of (fun _ kont => XS.dstoreN X0.here hx rfl (Jvm.hb hby d1_39) rfl (l' := #[.val (.ref aX), .val (.double z3), .second, .val (.double s3), .second, .val (.ref aX), .val (.int (4 : Int32)), .val (.int (2 : Int32)), .val (.double x2), .second]) rfl kont) ?_
  show Goes p e below _ T0 (mkF m 40 #[.val (.ref aX), .val (.double z3), .second, .val (.double s3), .second, .val (.ref aX), .val (.int (4 : Int32)), .val (.int (2 : Int32)), .val (.double x2), .second] [])
  refine Goes.of (fun _ kont => XS.iinc X0.here hx rfl (Jvm.hb hby d1_40) rfl (l' := #[.val (.ref aX), .val (.double z3), .second, .val (.double s3), .second, .val (.ref aX), .val (.int (4 : Int32)), .val (.int (3 : Int32)), .val (.double x2), .second]) rfl kont) ?_
  show Goes p e below _ T0 (mkF m 43 #[.val (.ref aX), .val (.double z3), .second, .val (.double s3), .second, .val (.ref aX), .val (.int (4 : Int32)), .val (.int (3 : Int32)), .val (.double x2), .second] [])
  refine Goes.of (fun _ kont => XS.goto X0.here hx rfl (pc0 := 43) (pc' := 15) rfl (Jvm.hb hby d1_43) (by decide) (by decide) kont) ?_
  show Goes p e below _ T0 (mkF m 15 #[.val (.ref aX), .val (.double z3), .second, .val (.double s3), .second, .val (.ref aX), .val (.int (4 : Int32)), .val (.int (3 : Int32)), .val (.double x2), .second] [])
  refine Goes.of (fun _ kont => XS.iload X0.here hx rfl (Jvm.hb hby d1_15) rfl kont) ?_
  show Goes p e below _ T0 (mkF m 17 #[.val (.ref aX), .val (.double z3), .second, .val (.double s3), .second, .val (.ref aX), .val (.int (4 : Int32)), .val (.int (3 : Int32)), .val (.double x2), .second] [(.int (3 : Int32))])
  refine Goes.of (fun _ kont => XS.iload X0.here hx rfl (Jvm.hb hby d1_17) rfl kont) ?_
  show Goes p e below _ T0 (mkF m 19 #[.val (.ref aX), .val (.double z3), .second, .val (.double s3), .second, .val (.ref aX), .val (.int (4 : Int32)), .val (.int (3 : Int32)), .val (.double x2), .second] [(.int (4 : Int32)), (.int (3 : Int32))])
  refine Goes.of (fun _ kont => XS.icmpNo X0.here hx rfl (Jvm.hb hby d1_19) rfl (by decide) kont) ?_
  show Goes p e below _ T0 (mkF m 22 #[.val (.ref aX), .val (.double z3), .second, .val (.double s3), .second, .val (.ref aX), .val (.int (4 : Int32)), .val (.int (3 : Int32)), .val (.double x2), .second] [])
  refine Goes.of (fun _ kont => XS.aload X0.here hx rfl (Jvm.hb hby d1_22) rfl rfl kont) ?_
  show Goes p e below _ T0 (mkF m 24 #[.val (.ref aX), .val (.double z3), .second, .val (.double s3), .second, .val (.ref aX), .val (.int (4 : Int32)), .val (.int (3 : Int32)), .val (.double x2), .second] [(.ref aX)])
  refine Goes.of (fun _ kont => XS.iload X0.here hx rfl (Jvm.hb hby d1_24) rfl kont) ?_
  show Goes p e below _ T0 (mkF m 26 #[.val (.ref aX), .val (.double z3), .second, .val (.double s3), .second, .val (.ref aX), .val (.int (4 : Int32)), .val (.int (3 : Int32)), .val (.double x2), .second] [(.int (3 : Int32)), (.ref aX)])
  refine goLdD X0 hx hZ e0 VX 3 (by decide) (w := x3) rfl (g := (mkF m 26 #[.val (.ref aX), .val (.double z3), .second, .val (.double s3), .second, .val (.ref aX), .val (.int (4 : Int32)), .val (.int (3 : Int32)), .val (.double x2), .second] [(.int (3 : Int32)), (.ref aX)])) rfl rfl (Jvm.hb hby d1_26) ?_
  show Goes p e below _ T0 (mkF m 27 #[.val (.ref aX), .val (.double z3), .second, .val (.double s3), .second, .val (.ref aX), .val (.int (4 : Int32)), .val (.int (3 : Int32)), .val (.double x2), .second] [(.double x3)])
  refine Goes.of (fun _ kont => XS.dstore X0.here hx rfl (Jvm.hb hby d1_27) rfl (l' := #[.val (.ref aX), .val (.double z3), .second, .val (.double s3), .second, .val (.ref aX), .val (.int (4 : Int32)), .val (.int (3 : Int32)), .val (.double x3), .second]) rfl kont) ?_
  show Goes p e below _ T0 (mkF m 29 #[.val (.ref aX), .val (.double z3), .second, .val (.double s3), .second, .val (.ref aX), .val (.int (4 : Int32)), .val (.int (3 : Int32)), .val (.double x3), .second] [])
  refine Goes.of (fun _ kont => XS.dloadN X0.here hx rfl (Jvm.hb hby d1_29) rfl kont) ?_
  show Goes p e below _ T0 (mkF m 30 #[.val (.ref aX), .val (.double z3), .second, .val (.double s3), .second, .val (.ref aX), .val (.int (4 : Int32)), .val (.int (3 : Int32)), .val (.double x3), .second] [(.double s3)])
  refine Goes.of (fun _ kont => XS.dload X0.here hx rfl (Jvm.hb hby d1_30) rfl kont) ?_
  show Goes p e below _ T0 (mkF m 32 #[.val (.ref aX), .val (.double z3), .second, .val (.double s3), .second, .val (.ref aX), .val (.int (4 : Int32)), .val (.int (3 : Int32)), .val (.double x3), .second] [(.double x3), (.double s3)])
  have Ds4 := own_add Ds3 D3 (by omega)
  refine Goes.of (fun _ kont => XS.daddS X0.here hx rfl (Jvm.hb hby d1_32) rfl Ds4.noNaN rfl kont) ?_
  show Goes p e below _ T0 (mkF m 33 #[.val (.ref aX), .val (.double z3), .second, .val (.double s3), .second, .val (.ref aX), .val (.int (4 : Int32)), .val (.int (3 : Int32)), .val (.double x3), .second] [(.double (FP.dadd s3 x3))])
  generalize hs4 : (FP.dadd s3 x3) = s4
  show Goes p e below _ T0 (mkF m 33 #[.val (.ref aX), .val (.double z3), .second, .val (.double s3), .second, .val (.ref aX), .val (.int (4 : Int32)), .val (.int (3 : Int32)), .val (.double x3), .second] [(.double s4)])
  rw [hs4] at Ds4
  refine Goes.of (fun _ kont => XS.dstoreN X0.here hx rfl (Jvm.hb hby d1_33) rfl (l' := #[.val (.ref aX), .val (.double z3), .second, .val (.double s4), .second, .val (.ref aX), .val (.int (4 : Int32)), .val (.int (3 : Int32)), .val (.double x3), .second]) rfl kont) ?_
  show Goes p e below _ T0 (mkF m 34 #[.val (.ref aX), .val (.double z3), .second, .val (.double s4), .second, .val (.ref aX), .val (.int (4 : Int32)), .val (.int (3 : Int32)), .val (.double x3), .second] [])
  refine Goes.of (fun _ kont => XS.dloadN X0.here hx rfl (Jvm.hb hby d1_34) rfl kont) ?_
  show Goes p e below _ T0 (mkF m 35 #[.val (.ref aX), .val (.double z3), .second, .val (.double s4), .second, .val (.ref aX), .val (.int (4 : Int32)), .val (.int (3 : Int32)), .val (.double x3), .second] [(.double z3)])
  refine Goes.of (fun _ kont => XS.dloadN X0.here hx rfl (Jvm.hb hby d1_35) rfl kont) ?_
  show Goes p e below _ T0 (mkF m 36 #[.val (.ref aX), .val (.double z3), .second, .val (.double s4), .second, .val (.ref aX), .val (.int (4 : Int32)), .val (.int (3 : Int32)), .val (.double x3), .second] [(.double s4), (.double z3)])
  refine Goes.of (fun _ kont => XS.dloadN X0.here hx rfl (Jvm.hb hby d1_36) rfl kont) ?_
  show Goes p e below _ T0 (mkF m 37 #[.val (.ref aX), .val (.double z3), .second, .val (.double s4), .second, .val (.ref aX), .val (.int (4 : Int32)), .val (.int (3 : Int32)), .val (.double x3), .second] [(.double s4), (.double s4), (.double z3)])
  have Dq4 := own_sq Ds4 (by omega)
  refine Goes.of (fun _ kont => XS.dmulS X0.here hx rfl (Jvm.hb hby d1_37) rfl Dq4.noNaN rfl kont) ?_
  show Goes p e below _ T0 (mkF m 38 #[.val (.ref aX), .val (.double z3), .second, .val (.double s4), .second, .val (.ref aX), .val (.int (4 : Int32)), .val (.int (3 : Int32)), .val (.double x3), .second] [(.double (FP.dmul s4 s4)), (.double z3)])
  generalize hq4 : (FP.dmul s4 s4) = q4
  show Goes p e below _ T0 (mkF m 38 #[.val (.ref aX), .val (.double z3), .second, .val (.double s4), .second, .val (.ref aX), .val (.int (4 : Int32)), .val (.int (3 : Int32)), .val (.double x3), .second] [(.double q4), (.double z3)])
  rw [hq4] at Dq4
  have Dz4 := own_add Dz3 Dq4 (by have := own_sqb (a := a0) (A := 4194304) (by omega); have := own_sqb (a := a0 + a1) (A := 4194304) (by omega); have := own_sqb (a := a0 + a1 + a2) (A := 4194304) (by omega); have := own_sqb (a := a0 + a1 + a2 + a3) (A := 4194304) (by omega); omega)
  refine Goes.of (fun _ kont => XS.daddS X0.here hx rfl (Jvm.hb hby d1_38) rfl Dz4.noNaN rfl kont) ?_
  show Goes p e below _ T0 (mkF m 39 #[.val (.ref aX), .val (.double z3), .second, .val (.double s4), .second, .val (.ref aX), .val (.int (4 : Int32)), .val (.int (3 : Int32)), .val (.double x3), .second] [(.double (FP.dadd z3 q4))])
  generalize hz4 : (FP.dadd z3 q4) = z4
  show Goes p e below _ T0 (mkF m 39 #[.val (.ref aX), .val (.double z3), .second, .val (.double s4), .second, .val (.ref aX), .val (.int (4 : Int32)), .val (.int (3 : Int32)), .val (.double x3), .second] [(.double z4)])
  rw [hz4] at Dz4
  refine Goes.of (fun _ kont => XS.dstoreN X0.here hx rfl (Jvm.hb hby d1_39) rfl (l' := #[.val (.ref aX), .val (.double z4), .second, .val (.double s4), .second, .val (.ref aX), .val (.int (4 : Int32)), .val (.int (3 : Int32)), .val (.double x3), .second]) rfl kont) ?_
  show Goes p e below _ T0 (mkF m 40 #[.val (.ref aX), .val (.double z4), .second, .val (.double s4), .second, .val (.ref aX), .val (.int (4 : Int32)), .val (.int (3 : Int32)), .val (.double x3), .second] [])
  refine Goes.of (fun _ kont => XS.iinc X0.here hx rfl (Jvm.hb hby d1_40) rfl (l' := #[.val (.ref aX), .val (.double z4), .second, .val (.double s4), .second, .val (.ref aX), .val (.int (4 : Int32)), .val (.int (4 : Int32)), .val (.double x3), .second]) rfl kont) ?_
  show Goes p e below _ T0 (mkF m 43 #[.val (.ref aX), .val (.double z4), .second, .val (.double s4), .second, .val (.ref aX), .val (.int (4 : Int32)), .val (.int (4 : Int32)), .val (.double x3), .second] [])
  refine Goes.of (fun _ kont => XS.goto X0.here hx rfl (pc0 := 43) (pc' := 15) rfl (Jvm.hb hby d1_43) (by decide) (by decide) kont) ?_
  show Goes p e below _ T0 (mkF m 15 #[.val (.ref aX), .val (.double z4), .second, .val (.double s4), .second, .val (.ref aX), .val (.int (4 : Int32)), .val (.int (4 : Int32)), .val (.double x3), .second] [])
  refine Goes.of (fun _ kont => XS.iload X0.here hx rfl (Jvm.hb hby d1_15) rfl kont) ?_
  show Goes p e below _ T0 (mkF m 17 #[.val (.ref aX), .val (.double z4), .second, .val (.double s4), .second, .val (.ref aX), .val (.int (4 : Int32)), .val (.int (4 : Int32)), .val (.double x3), .second] [(.int (4 : Int32))])
  refine Goes.of (fun _ kont => XS.iload X0.here hx rfl (Jvm.hb hby d1_17) rfl kont) ?_
  show Goes p e below _ T0 (mkF m 19 #[.val (.ref aX), .val (.double z4), .second, .val (.double s4), .second, .val (.ref aX), .val (.int (4 : Int32)), .val (.int (4 : Int32)), .val (.double x3), .second] [(.int (4 : Int32)), (.int (4 : Int32))])
  refine Goes.of (fun _ kont => XS.icmpYes X0.here hx rfl (pc0 := 19) (pc' := 46) rfl (Jvm.hb hby d1_19) rfl (by decide) (by decide) (by decide) kont) ?_
  show Goes p e below _ T0 (mkF m 46 #[.val (.ref aX), .val (.double z4), .second, .val (.double s4), .second, .val (.ref aX), .val (.int (4 : Int32)), .val (.int (4 : Int32)), .val (.double x3), .second] [])
  refine Goes.of (fun _ kont => XS.dloadN X0.here hx rfl (Jvm.hb hby d1_46) rfl kont) ?_
  show Goes p e below _ T0 (mkF m 47 #[.val (.ref aX), .val (.double z4), .second, .val (.double s4), .second, .val (.ref aX), .val (.int (4 : Int32)), .val (.int (4 : Int32)), .val (.double x3), .second] [(.double z4)])
  exact retD X0 hx hlk hret (Jvm.hb hby d1_47) (by decide) (by decide) ⟨⟨_, rfl, Dz4⟩, N0, e0⟩
theorem ef_0 (m : MethodId) (x0 : Int32) (x1 : Int32) (x2 : Int32) (x3 : Int32) (x4 : Int32) : entryFrame m #[(.int x0), (.int x1), (.int x2), (.int x3), (.int x4)] maxLocals = mkF m 0 #[.val (.int x0), .val (.int x1), .val (.int x2), .val (.int x3), .val (.int x4), .unset, .unset, .unset, .unset, .unset, .unset, .unset, .unset, .unset, .unset, .unset, .unset, .unset, .unset, .unset, .unset, .unset, .unset, .unset, .unset, .unset, .unset] [] := by first | (simp [entryFrame, mkF, argsToLocals, Value.category, maxLocals]; done) | rfl
theorem pn_0 : plainFor (⟨"com/example/memechain/memechain/benchmark/FunctionsSchwefel12PinLaw", "law", "(IIIII)Z"⟩ : MethodName) = true := plainFor_of_name (by first | (simp [plainName, overriddenIn]; done) | decide +kernel)
set_option maxRecDepth 65536 in
set_option maxHeartbeats 40000000 in
theorem rm0 (l : Launch) (Z : State) (a0 : Array Value) (hw : ∀ d ∈ tables_1, d.before a0 Z = true) (p1 : Int32) (p2 : Int32) (p3 : Int32) (p4 : Int32) (p5 : Int32)  (h0 : Heap) (n0 : Nat) (Z0 : n0 ≤ h0.size) :
    Ct l x code maxLocals ret room_1 Z [(.int p1), (.int p2), (.int p3), (.int p4), (.int p5)] h0 (fun v h L => v = some (.int 1) ∧ Fr n0 L) := by
  refine met pn_0 ?_
  intro p e s m below meth c T0 hx hby hml hown hret hlk hnm hZ X0 e0
  have N0 := Fr.nil n0
  have hret : meth.sig.returnType = some .boolean := hret
  have hml : c.maxLocals = 27 := hml
  have hown : s.vm.findClass "com/example/memechain/memechain/benchmark/FunctionsSchwefel12PinLaw" = some m.cls := hown
  refine Goes.cast (ef_0 m p1 p2 p3 p4 p5) ?_
  show Goes p e below _ T0 (mkF m 0 #[.val (.int p1), .val (.int p2), .val (.int p3), .val (.int p4), .val (.int p5), .unset, .unset, .unset, .unset, .unset, .unset, .unset, .unset, .unset, .unset, .unset, .unset, .unset, .unset, .unset, .unset, .unset, .unset, .unset, .unset, .unset, .unset] [])
  refine Goes.of (fun _ kont => XS.iloadN X0.here hx rfl (Jvm.hb hby at_0) rfl kont) ?_
  show Goes p e below _ T0 (mkF m 1 #[.val (.int p1), .val (.int p2), .val (.int p3), .val (.int p4), .val (.int p5), .unset, .unset, .unset, .unset, .unset, .unset, .unset, .unset, .unset, .unset, .unset, .unset, .unset, .unset, .unset, .unset, .unset, .unset, .unset, .unset, .unset, .unset] [(.int p1)])
  refine Goes.of (X0.ldcInt hx hown (mvT hZ (hw _ (List.mem_of_getElem? (i := 0) rfl))) (g := (mkF m 1 #[.val (.int p1), .val (.int p2), .val (.int p3), .val (.int p4), .val (.int p5), .unset, .unset, .unset, .unset, .unset, .unset, .unset, .unset, .unset, .unset, .unset, .unset, .unset, .unset, .unset, .unset, .unset, .unset, .unset, .unset, .unset, .unset] [(.int p1)])) rfl (Jvm.hb hby at_1)) ?_
  show Goes p e below _ T0 (mkF m 3 #[.val (.int p1), .val (.int p2), .val (.int p3), .val (.int p4), .val (.int p5), .unset, .unset, .unset, .unset, .unset, .unset, .unset, .unset, .unset, .unset, .unset, .unset, .unset, .unset, .unset, .unset, .unset, .unset, .unset, .unset, .unset, .unset] [(.int (2147483647 : Int32)), (.int p1)])
  refine Goes.of (fun _ kont => XS.iand X0.here hx rfl (Jvm.hb hby at_3) rfl kont) ?_
  show Goes p e below _ T0 (mkF m 4 #[.val (.int p1), .val (.int p2), .val (.int p3), .val (.int p4), .val (.int p5), .unset, .unset, .unset, .unset, .unset, .unset, .unset, .unset, .unset, .unset, .unset, .unset, .unset, .unset, .unset, .unset, .unset, .unset, .unset, .unset, .unset, .unset] [(.int (p1 &&& (2147483647 : Int32)))])
  refine Goes.of (fun _ kont => XS.iconst X0.here hx rfl (Jvm.hb hby at_4) kont) ?_
  show Goes p e below _ T0 (mkF m 5 #[.val (.int p1), .val (.int p2), .val (.int p3), .val (.int p4), .val (.int p5), .unset, .unset, .unset, .unset, .unset, .unset, .unset, .unset, .unset, .unset, .unset, .unset, .unset, .unset, .unset, .unset, .unset, .unset, .unset, .unset, .unset, .unset] [(.int (5 : Int32)), (.int (p1 &&& (2147483647 : Int32)))])
  refine Goes.of (fun _ kont => XS.irem X0.here hx rfl (Jvm.hb hby at_5) rfl (by decide) kont) ?_
  show Goes p e below _ T0 (mkF m 6 #[.val (.int p1), .val (.int p2), .val (.int p3), .val (.int p4), .val (.int p5), .unset, .unset, .unset, .unset, .unset, .unset, .unset, .unset, .unset, .unset, .unset, .unset, .unset, .unset, .unset, .unset, .unset, .unset, .unset, .unset, .unset, .unset] [(.int ((p1 &&& (2147483647 : Int32)) - (p1 &&& (2147483647 : Int32)) / (5 : Int32) * (5 : Int32)))])
  generalize hnn : ((p1 &&& (2147483647 : Int32)) - (p1 &&& (2147483647 : Int32)) / (5 : Int32) * (5 : Int32)) = nn
  show Goes p e below _ T0 (mkF m 6 #[.val (.int p1), .val (.int p2), .val (.int p3), .val (.int p4), .val (.int p5), .unset, .unset, .unset, .unset, .unset, .unset, .unset, .unset, .unset, .unset, .unset, .unset, .unset, .unset, .unset, .unset, .unset, .unset, .unset, .unset, .unset, .unset] [(.int nn)])
  refine Goes.of (fun _ kont => XS.istore X0.here hx rfl (Jvm.hb hby at_6) rfl (l' := #[.val (.int p1), .val (.int p2), .val (.int p3), .val (.int p4), .val (.int p5), .val (.int nn), .unset, .unset, .unset, .unset, .unset, .unset, .unset, .unset, .unset, .unset, .unset, .unset, .unset, .unset, .unset, .unset, .unset, .unset, .unset, .unset, .unset]) rfl kont) ?_
  show Goes p e below _ T0 (mkF m 8 #[.val (.int p1), .val (.int p2), .val (.int p3), .val (.int p4), .val (.int p5), .val (.int nn), .unset, .unset, .unset, .unset, .unset, .unset, .unset, .unset, .unset, .unset, .unset, .unset, .unset, .unset, .unset, .unset, .unset, .unset, .unset, .unset, .unset] [])
  refine Goes.of (fun _ kont => XS.iloadN X0.here hx rfl (Jvm.hb hby at_8) rfl kont) ?_
  show Goes p e below _ T0 (mkF m 9 #[.val (.int p1), .val (.int p2), .val (.int p3), .val (.int p4), .val (.int p5), .val (.int nn), .unset, .unset, .unset, .unset, .unset, .unset, .unset, .unset, .unset, .unset, .unset, .unset, .unset, .unset, .unset, .unset, .unset, .unset, .unset, .unset, .unset] [(.int p2)])
  refine callC X0 hx hZ hown (hw _ (List.mem_of_getElem? (i := 1) rfl)) (hw _ (List.mem_of_getElem? (i := 2) rfl)) (hw _ (List.mem_of_getElem? (i := 3) rfl)) (hw _ (List.mem_of_getElem? (i := 4) rfl)) (by decide) (as := [(.int p2)]) (rm2 l Z a0 hw p2 h0 n0 Z0) 0 (by decide) (by decide) e0 (by decide) (by decide) (g := mkF m 9 #[.val (.int p1), .val (.int p2), .val (.int p3), .val (.int p4), .val (.int p5), .val (.int nn), .unset, .unset, .unset, .unset, .unset, .unset, .unset, .unset, .unset, .unset, .unset, .unset, .unset, .unset, .unset, .unset, .unset, .unset, .unset, .unset, .unset] [(.int p2)]) rfl (by rw [hml]; rfl) (rest := []) (lenOf pd_0 rfl) rfl (by show 2 * 0 + _ ≤ _; exact Nat.le_of_eq rfl) (Jvm.hb hby at_9) ?_
  rintro _ T1 L1 X1 ⟨⟨x0, rfl, b0⟩, N1, e1⟩
  show Goes p e below _ T1 (mkF m 12 #[.val (.int p1), .val (.int p2), .val (.int p3), .val (.int p4), .val (.int p5), .val (.int nn), .unset, .unset, .unset, .unset, .unset, .unset, .unset, .unset, .unset, .unset, .unset, .unset, .unset, .unset, .unset, .unset, .unset, .unset, .unset, .unset, .unset] [(.long x0)])
  refine Goes.of (fun _ kont => XT.lstore X1.here hx rfl (Jvm.hb hby at_12) rfl (l' := #[.val (.int p1), .val (.int p2), .val (.int p3), .val (.int p4), .val (.int p5), .val (.int nn), .val (.long x0), .second, .unset, .unset, .unset, .unset, .unset, .unset, .unset, .unset, .unset, .unset, .unset, .unset, .unset, .unset, .unset, .unset, .unset, .unset, .unset]) rfl kont) ?_
  show Goes p e below _ T1 (mkF m 14 #[.val (.int p1), .val (.int p2), .val (.int p3), .val (.int p4), .val (.int p5), .val (.int nn), .val (.long x0), .second, .unset, .unset, .unset, .unset, .unset, .unset, .unset, .unset, .unset, .unset, .unset, .unset, .unset, .unset, .unset, .unset, .unset, .unset, .unset] [])
  refine Goes.of (fun _ kont => XS.iloadN X1.here hx rfl (Jvm.hb hby at_14) rfl kont) ?_
  show Goes p e below _ T1 (mkF m 15 #[.val (.int p1), .val (.int p2), .val (.int p3), .val (.int p4), .val (.int p5), .val (.int nn), .val (.long x0), .second, .unset, .unset, .unset, .unset, .unset, .unset, .unset, .unset, .unset, .unset, .unset, .unset, .unset, .unset, .unset, .unset, .unset, .unset, .unset] [(.int p3)])
  refine callC X1 hx hZ hown (hw _ (List.mem_of_getElem? (i := 1) rfl)) (hw _ (List.mem_of_getElem? (i := 2) rfl)) (hw _ (List.mem_of_getElem? (i := 3) rfl)) (hw _ (List.mem_of_getElem? (i := 4) rfl)) (by decide) (as := [(.int p3)]) (rm2 l Z a0 hw p3 h0 n0 Z0) 0 (by decide) (by decide) e1 (by decide) (by decide) (g := mkF m 15 #[.val (.int p1), .val (.int p2), .val (.int p3), .val (.int p4), .val (.int p5), .val (.int nn), .val (.long x0), .second, .unset, .unset, .unset, .unset, .unset, .unset, .unset, .unset, .unset, .unset, .unset, .unset, .unset, .unset, .unset, .unset, .unset, .unset, .unset] [(.int p3)]) rfl (by rw [hml]; rfl) (rest := []) (lenOf pd_0 rfl) rfl (by show 2 * 0 + _ ≤ _; exact Nat.le_of_eq rfl) (Jvm.hb hby at_15) ?_
  rintro _ T2 L2 X2 ⟨⟨x1, rfl, b1⟩, N2, e2⟩
  show Goes p e below _ T2 (mkF m 18 #[.val (.int p1), .val (.int p2), .val (.int p3), .val (.int p4), .val (.int p5), .val (.int nn), .val (.long x0), .second, .unset, .unset, .unset, .unset, .unset, .unset, .unset, .unset, .unset, .unset, .unset, .unset, .unset, .unset, .unset, .unset, .unset, .unset, .unset] [(.long x1)])
  refine Goes.of (fun _ kont => XT.lstore X2.here hx rfl (Jvm.hb hby at_18) rfl (l' := #[.val (.int p1), .val (.int p2), .val (.int p3), .val (.int p4), .val (.int p5), .val (.int nn), .val (.long x0), .second, .val (.long x1), .second, .unset, .unset, .unset, .unset, .unset, .unset, .unset, .unset, .unset, .unset, .unset, .unset, .unset, .unset, .unset, .unset, .unset]) rfl kont) ?_
  show Goes p e below _ T2 (mkF m 20 #[.val (.int p1), .val (.int p2), .val (.int p3), .val (.int p4), .val (.int p5), .val (.int nn), .val (.long x0), .second, .val (.long x1), .second, .unset, .unset, .unset, .unset, .unset, .unset, .unset, .unset, .unset, .unset, .unset, .unset, .unset, .unset, .unset, .unset, .unset] [])
  refine Goes.of (fun _ kont => XS.iloadN X2.here hx rfl (Jvm.hb hby at_20) rfl kont) ?_
  show Goes p e below _ T2 (mkF m 21 #[.val (.int p1), .val (.int p2), .val (.int p3), .val (.int p4), .val (.int p5), .val (.int nn), .val (.long x0), .second, .val (.long x1), .second, .unset, .unset, .unset, .unset, .unset, .unset, .unset, .unset, .unset, .unset, .unset, .unset, .unset, .unset, .unset, .unset, .unset] [(.int p4)])
  refine callC X2 hx hZ hown (hw _ (List.mem_of_getElem? (i := 1) rfl)) (hw _ (List.mem_of_getElem? (i := 2) rfl)) (hw _ (List.mem_of_getElem? (i := 3) rfl)) (hw _ (List.mem_of_getElem? (i := 4) rfl)) (by decide) (as := [(.int p4)]) (rm2 l Z a0 hw p4 h0 n0 Z0) 0 (by decide) (by decide) e2 (by decide) (by decide) (g := mkF m 21 #[.val (.int p1), .val (.int p2), .val (.int p3), .val (.int p4), .val (.int p5), .val (.int nn), .val (.long x0), .second, .val (.long x1), .second, .unset, .unset, .unset, .unset, .unset, .unset, .unset, .unset, .unset, .unset, .unset, .unset, .unset, .unset, .unset, .unset, .unset] [(.int p4)]) rfl (by rw [hml]; rfl) (rest := []) (lenOf pd_0 rfl) rfl (by show 2 * 0 + _ ≤ _; exact Nat.le_of_eq rfl) (Jvm.hb hby at_21) ?_
  rintro _ T3 L3 X3 ⟨⟨x2, rfl, b2⟩, N3, e3⟩
  show Goes p e below _ T3 (mkF m 24 #[.val (.int p1), .val (.int p2), .val (.int p3), .val (.int p4), .val (.int p5), .val (.int nn), .val (.long x0), .second, .val (.long x1), .second, .unset, .unset, .unset, .unset, .unset, .unset, .unset, .unset, .unset, .unset, .unset, .unset, .unset, .unset, .unset, .unset, .unset] [(.long x2)])
  refine Goes.of (fun _ kont => XT.lstore X3.here hx rfl (Jvm.hb hby at_24) rfl (l' := #[.val (.int p1), .val (.int p2), .val (.int p3), .val (.int p4), .val (.int p5), .val (.int nn), .val (.long x0), .second, .val (.long x1), .second, .val (.long x2), .second, .unset, .unset, .unset, .unset, .unset, .unset, .unset, .unset, .unset, .unset, .unset, .unset, .unset, .unset, .unset]) rfl kont) ?_
  show Goes p e below _ T3 (mkF m 26 #[.val (.int p1), .val (.int p2), .val (.int p3), .val (.int p4), .val (.int p5), .val (.int nn), .val (.long x0), .second, .val (.long x1), .second, .val (.long x2), .second, .unset, .unset, .unset, .unset, .unset, .unset, .unset, .unset, .unset, .unset, .unset, .unset, .unset, .unset, .unset] [])
  refine Goes.of (fun _ kont => XS.iload X3.here hx rfl (Jvm.hb hby at_26) rfl kont) ?_
  show Goes p e below _ T3 (mkF m 28 #[.val (.int p1), .val (.int p2), .val (.int p3), .val (.int p4), .val (.int p5), .val (.int nn), .val (.long x0), .second, .val (.long x1), .second, .val (.long x2), .second, .unset, .unset, .unset, .unset, .unset, .unset, .unset, .unset, .unset, .unset, .unset, .unset, .unset, .unset, .unset] [(.int p5)])
  refine callC X3 hx hZ hown (hw _ (List.mem_of_getElem? (i := 1) rfl)) (hw _ (List.mem_of_getElem? (i := 2) rfl)) (hw _ (List.mem_of_getElem? (i := 3) rfl)) (hw _ (List.mem_of_getElem? (i := 4) rfl)) (by decide) (as := [(.int p5)]) (rm2 l Z a0 hw p5 h0 n0 Z0) 0 (by decide) (by decide) e3 (by decide) (by decide) (g := mkF m 28 #[.val (.int p1), .val (.int p2), .val (.int p3), .val (.int p4), .val (.int p5), .val (.int nn), .val (.long x0), .second, .val (.long x1), .second, .val (.long x2), .second, .unset, .unset, .unset, .unset, .unset, .unset, .unset, .unset, .unset, .unset, .unset, .unset, .unset, .unset, .unset] [(.int p5)]) rfl (by rw [hml]; rfl) (rest := []) (lenOf pd_0 rfl) rfl (by show 2 * 0 + _ ≤ _; exact Nat.le_of_eq rfl) (Jvm.hb hby at_28) ?_
  rintro _ T4 L4 X4 ⟨⟨x3, rfl, b3⟩, N4, e4⟩
  show Goes p e below _ T4 (mkF m 31 #[.val (.int p1), .val (.int p2), .val (.int p3), .val (.int p4), .val (.int p5), .val (.int nn), .val (.long x0), .second, .val (.long x1), .second, .val (.long x2), .second, .unset, .unset, .unset, .unset, .unset, .unset, .unset, .unset, .unset, .unset, .unset, .unset, .unset, .unset, .unset] [(.long x3)])
  have D0 := dy_l2d (n := x0) (by omega)
  have D1 := dy_l2d (n := x1) (by omega)
  have D2 := dy_l2d (n := x2) (by omega)
  have D3 := dy_l2d (n := x3) (by omega)
  have NN := (Fr.app (Fr.app (Fr.app (Fr.app N0 N1) N2) N3) N4)
  refine Goes.of (fun _ kont => XT.lstore X4.here hx rfl (Jvm.hb hby at_31) rfl (l' := #[.val (.int p1), .val (.int p2), .val (.int p3), .val (.int p4), .val (.int p5), .val (.int nn), .val (.long x0), .second, .val (.long x1), .second, .val (.long x2), .second, .val (.long x3), .second, .unset, .unset, .unset, .unset, .unset, .unset, .unset, .unset, .unset, .unset, .unset, .unset, .unset]) rfl kont) ?_
  show Goes p e below _ T4 (mkF m 33 #[.val (.int p1), .val (.int p2), .val (.int p3), .val (.int p4), .val (.int p5), .val (.int nn), .val (.long x0), .second, .val (.long x1), .second, .val (.long x2), .second, .val (.long x3), .second, .unset, .unset, .unset, .unset, .unset, .unset, .unset, .unset, .unset, .unset, .unset, .unset, .unset] [])
  rcases own_rem5 hnn with rfl | rfl | rfl | rfl | rfl
  · show Goes p e below _ T4 (mkF m 33 #[.val (.int p1), .val (.int p2), .val (.int p3), .val (.int p4), .val (.int p5), .val (.int (0 : Int32)), .val (.long x0), .second, .val (.long x1), .second, .val (.long x2), .second, .val (.long x3), .second, .unset, .unset, .unset, .unset, .unset, .unset, .unset, .unset, .unset, .unset, .unset, .unset, .unset] [])
    refine Goes.of (fun _ kont => XS.iload X4.here hx rfl (Jvm.hb hby at_33) rfl kont) ?_
    show Goes p e below _ T4 (mkF m 35 #[.val (.int p1), .val (.int p2), .val (.int p3), .val (.int p4), .val (.int p5), .val (.int (0 : Int32)), .val (.long x0), .second, .val (.long x1), .second, .val (.long x2), .second, .val (.long x3), .second, .unset, .unset, .unset, .unset, .unset, .unset, .unset, .unset, .unset, .unset, .unset, .unset, .unset] [(.int (0 : Int32))])
    refine goNewD X4 hx hZ (hw _ (List.mem_of_getElem? (i := 5) rfl)) e4 (g := mkF m 35 #[.val (.int p1), .val (.int p2), .val (.int p3), .val (.int p4), .val (.int p5), .val (.int (0 : Int32)), .val (.long x0), .second, .val (.long x1), .second, .val (.long x2), .second, .val (.long x3), .second, .unset, .unset, .unset, .unset, .unset, .unset, .unset, .unset, .unset, .unset, .unset, .unset, .unset] [(.int (0 : Int32))]) rfl (Jvm.hb hby at_35) rfl 0 (by decide) (by decide) (by decide) (by decide) ?_
    intro T5 h5 ax gax X5 e5 E5 V_ax
    have ge_ax : n0 ≤ ax := by rw [gax]; exact Z0
    have Z5 : n0 ≤ h5.size := Nat.le_trans Z0 E5.1
    show Goes p e below _ T5 (mkF m 37 #[.val (.int p1), .val (.int p2), .val (.int p3), .val (.int p4), .val (.int p5), .val (.int (0 : Int32)), .val (.long x0), .second, .val (.long x1), .second, .val (.long x2), .second, .val (.long x3), .second, .unset, .unset, .unset, .unset, .unset, .unset, .unset, .unset, .unset, .unset, .unset, .unset, .unset] [(.ref ax)])
    refine Goes.of (fun _ kont => XS.astore X5.here hx rfl (Jvm.hb hby at_37) rfl rfl (l' := #[.val (.int p1), .val (.int p2), .val (.int p3), .val (.int p4), .val (.int p5), .val (.int (0 : Int32)), .val (.long x0), .second, .val (.long x1), .second, .val (.long x2), .second, .val (.long x3), .second, .val (.ref ax), .unset, .unset, .unset, .unset, .unset, .unset, .unset, .unset, .unset, .unset, .unset, .unset]) rfl kont) ?_
    show Goes p e below _ T5 (mkF m 39 #[.val (.int p1), .val (.int p2), .val (.int p3), .val (.int p4), .val (.int p5), .val (.int (0 : Int32)), .val (.long x0), .second, .val (.long x1), .second, .val (.long x2), .second, .val (.long x3), .second, .val (.ref ax), .unset, .unset, .unset, .unset, .unset, .unset, .unset, .unset, .unset, .unset, .unset, .unset] [])
    refine Goes.of (fun _ kont => XS.iload X5.here hx rfl (Jvm.hb hby at_39) rfl kont) ?_
    show Goes p e below _ T5 (mkF m 41 #[.val (.int p1), .val (.int p2), .val (.int p3), .val (.int p4), .val (.int p5), .val (.int (0 : Int32)), .val (.long x0), .second, .val (.long x1), .second, .val (.long x2), .second, .val (.long x3), .second, .val (.ref ax), .unset, .unset, .unset, .unset, .unset, .unset, .unset, .unset, .unset, .unset, .unset, .unset] [(.int (0 : Int32))])
    refine Goes.of (fun _ kont => XS.iconst X5.here hx rfl (Jvm.hb hby at_41) kont) ?_
    show Goes p e below _ T5 (mkF m 42 #[.val (.int p1), .val (.int p2), .val (.int p3), .val (.int p4), .val (.int p5), .val (.int (0 : Int32)), .val (.long x0), .second, .val (.long x1), .second, .val (.long x2), .second, .val (.long x3), .second, .val (.ref ax), .unset, .unset, .unset, .unset, .unset, .unset, .unset, .unset, .unset, .unset, .unset, .unset] [(.int (1 : Int32)), (.int (0 : Int32))])
    refine Goes.of (fun _ kont => XS.icmpYes X5.here hx rfl (pc0 := 42) (pc' := 52) rfl (Jvm.hb hby at_42) rfl (by decide) (by decide) (by decide) kont) ?_
    show Goes p e below _ T5 (mkF m 52 #[.val (.int p1), .val (.int p2), .val (.int p3), .val (.int p4), .val (.int p5), .val (.int (0 : Int32)), .val (.long x0), .second, .val (.long x1), .second, .val (.long x2), .second, .val (.long x3), .second, .val (.ref ax), .unset, .unset, .unset, .unset, .unset, .unset, .unset, .unset, .unset, .unset, .unset, .unset] [])
    refine Goes.of (fun _ kont => XS.iload X5.here hx rfl (Jvm.hb hby at_52) rfl kont) ?_
    show Goes p e below _ T5 (mkF m 54 #[.val (.int p1), .val (.int p2), .val (.int p3), .val (.int p4), .val (.int p5), .val (.int (0 : Int32)), .val (.long x0), .second, .val (.long x1), .second, .val (.long x2), .second, .val (.long x3), .second, .val (.ref ax), .unset, .unset, .unset, .unset, .unset, .unset, .unset, .unset, .unset, .unset, .unset, .unset] [(.int (0 : Int32))])
    refine Goes.of (fun _ kont => XS.iconst X5.here hx rfl (Jvm.hb hby at_54) kont) ?_
    show Goes p e below _ T5 (mkF m 55 #[.val (.int p1), .val (.int p2), .val (.int p3), .val (.int p4), .val (.int p5), .val (.int (0 : Int32)), .val (.long x0), .second, .val (.long x1), .second, .val (.long x2), .second, .val (.long x3), .second, .val (.ref ax), .unset, .unset, .unset, .unset, .unset, .unset, .unset, .unset, .unset, .unset, .unset, .unset] [(.int (2 : Int32)), (.int (0 : Int32))])
    refine Goes.of (fun _ kont => XS.icmpYes X5.here hx rfl (pc0 := 55) (pc' := 65) rfl (Jvm.hb hby at_55) rfl (by decide) (by decide) (by decide) kont) ?_
    show Goes p e below _ T5 (mkF m 65 #[.val (.int p1), .val (.int p2), .val (.int p3), .val (.int p4), .val (.int p5), .val (.int (0 : Int32)), .val (.long x0), .second, .val (.long x1), .second, .val (.long x2), .second, .val (.long x3), .second, .val (.ref ax), .unset, .unset, .unset, .unset, .unset, .unset, .unset, .unset, .unset, .unset, .unset, .unset] [])
    refine Goes.of (fun _ kont => XS.iload X5.here hx rfl (Jvm.hb hby at_65) rfl kont) ?_
    show Goes p e below _ T5 (mkF m 67 #[.val (.int p1), .val (.int p2), .val (.int p3), .val (.int p4), .val (.int p5), .val (.int (0 : Int32)), .val (.long x0), .second, .val (.long x1), .second, .val (.long x2), .second, .val (.long x3), .second, .val (.ref ax), .unset, .unset, .unset, .unset, .unset, .unset, .unset, .unset, .unset, .unset, .unset, .unset] [(.int (0 : Int32))])
    refine Goes.of (fun _ kont => XS.iconst X5.here hx rfl (Jvm.hb hby at_67) kont) ?_
    show Goes p e below _ T5 (mkF m 68 #[.val (.int p1), .val (.int p2), .val (.int p3), .val (.int p4), .val (.int p5), .val (.int (0 : Int32)), .val (.long x0), .second, .val (.long x1), .second, .val (.long x2), .second, .val (.long x3), .second, .val (.ref ax), .unset, .unset, .unset, .unset, .unset, .unset, .unset, .unset, .unset, .unset, .unset, .unset] [(.int (3 : Int32)), (.int (0 : Int32))])
    refine Goes.of (fun _ kont => XS.icmpYes X5.here hx rfl (pc0 := 68) (pc' := 78) rfl (Jvm.hb hby at_68) rfl (by decide) (by decide) (by decide) kont) ?_
    show Goes p e below _ T5 (mkF m 78 #[.val (.int p1), .val (.int p2), .val (.int p3), .val (.int p4), .val (.int p5), .val (.int (0 : Int32)), .val (.long x0), .second, .val (.long x1), .second, .val (.long x2), .second, .val (.long x3), .second, .val (.ref ax), .unset, .unset, .unset, .unset, .unset, .unset, .unset, .unset, .unset, .unset, .unset, .unset] [])
    refine Goes.of (fun _ kont => XS.iload X5.here hx rfl (Jvm.hb hby at_78) rfl kont) ?_
    show Goes p e below _ T5 (mkF m 80 #[.val (.int p1), .val (.int p2), .val (.int p3), .val (.int p4), .val (.int p5), .val (.int (0 : Int32)), .val (.long x0), .second, .val (.long x1), .second, .val (.long x2), .second, .val (.long x3), .second, .val (.ref ax), .unset, .unset, .unset, .unset, .unset, .unset, .unset, .unset, .unset, .unset, .unset, .unset] [(.int (0 : Int32))])
    refine Goes.of (fun _ kont => XS.iconst X5.here hx rfl (Jvm.hb hby at_80) kont) ?_
    show Goes p e below _ T5 (mkF m 81 #[.val (.int p1), .val (.int p2), .val (.int p3), .val (.int p4), .val (.int p5), .val (.int (0 : Int32)), .val (.long x0), .second, .val (.long x1), .second, .val (.long x2), .second, .val (.long x3), .second, .val (.ref ax), .unset, .unset, .unset, .unset, .unset, .unset, .unset, .unset, .unset, .unset, .unset, .unset] [(.int (4 : Int32)), (.int (0 : Int32))])
    refine Goes.of (fun _ kont => XS.icmpYes X5.here hx rfl (pc0 := 81) (pc' := 91) rfl (Jvm.hb hby at_81) rfl (by decide) (by decide) (by decide) kont) ?_
    show Goes p e below _ T5 (mkF m 91 #[.val (.int p1), .val (.int p2), .val (.int p3), .val (.int p4), .val (.int p5), .val (.int (0 : Int32)), .val (.long x0), .second, .val (.long x1), .second, .val (.long x2), .second, .val (.long x3), .second, .val (.ref ax), .unset, .unset, .unset, .unset, .unset, .unset, .unset, .unset, .unset, .unset, .unset, .unset] [])
    have f2 := own_ladd (rfl : x0 + x1 = x0 + x1) (by omega) (by omega)
    have f3 := own_ladd (rfl : x0 + x1 + x2 = x0 + x1 + x2) (by rw [f2]; omega) (by omega)
    rw [f2] at f3
    have f4 := own_ladd (rfl : x0 + x1 + x2 + x3 = x0 + x1 + x2 + x3) (by rw [f3]; omega) (by omega)
    rw [f3] at f4
    refine Goes.of (fun _ kont => XT.lload X5.here hx rfl (Jvm.hb hby at_91) rfl kont) ?_
    show Goes p e below _ T5 (mkF m 93 #[.val (.int p1), .val (.int p2), .val (.int p3), .val (.int p4), .val (.int p5), .val (.int (0 : Int32)), .val (.long x0), .second, .val (.long x1), .second, .val (.long x2), .second, .val (.long x3), .second, .val (.ref ax), .unset, .unset, .unset, .unset, .unset, .unset, .unset, .unset, .unset, .unset, .unset, .unset] [(.long x0)])
    refine Goes.of (fun _ kont => XT.lstore X5.here hx rfl (Jvm.hb hby at_93) rfl (l' := #[.val (.int p1), .val (.int p2), .val (.int p3), .val (.int p4), .val (.int p5), .val (.int (0 : Int32)), .val (.long x0), .second, .val (.long x1), .second, .val (.long x2), .second, .val (.long x3), .second, .val (.ref ax), .val (.long x0), .second, .unset, .unset, .unset, .unset, .unset, .unset, .unset, .unset, .unset, .unset]) rfl kont) ?_
    show Goes p e below _ T5 (mkF m 95 #[.val (.int p1), .val (.int p2), .val (.int p3), .val (.int p4), .val (.int p5), .val (.int (0 : Int32)), .val (.long x0), .second, .val (.long x1), .second, .val (.long x2), .second, .val (.long x3), .second, .val (.ref ax), .val (.long x0), .second, .unset, .unset, .unset, .unset, .unset, .unset, .unset, .unset, .unset, .unset] [])
    refine Goes.of (fun _ kont => XT.lload X5.here hx rfl (Jvm.hb hby at_95) rfl kont) ?_
    show Goes p e below _ T5 (mkF m 97 #[.val (.int p1), .val (.int p2), .val (.int p3), .val (.int p4), .val (.int p5), .val (.int (0 : Int32)), .val (.long x0), .second, .val (.long x1), .second, .val (.long x2), .second, .val (.long x3), .second, .val (.ref ax), .val (.long x0), .second, .unset, .unset, .unset, .unset, .unset, .unset, .unset, .unset, .unset, .unset] [(.long x0)])
    refine Goes.of (fun _ kont => XT.lload X5.here hx rfl (Jvm.hb hby at_97) rfl kont) ?_
    show Goes p e below _ T5 (mkF m 99 #[.val (.int p1), .val (.int p2), .val (.int p3), .val (.int p4), .val (.int p5), .val (.int (0 : Int32)), .val (.long x0), .second, .val (.long x1), .second, .val (.long x2), .second, .val (.long x3), .second, .val (.ref ax), .val (.long x0), .second, .unset, .unset, .unset, .unset, .unset, .unset, .unset, .unset, .unset, .unset] [(.long x1), (.long x0)])
    refine Goes.of (fun _ kont => XT.ladd X5.here hx rfl (Jvm.hb hby at_99) rfl kont) ?_
    show Goes p e below _ T5 (mkF m 100 #[.val (.int p1), .val (.int p2), .val (.int p3), .val (.int p4), .val (.int p5), .val (.int (0 : Int32)), .val (.long x0), .second, .val (.long x1), .second, .val (.long x2), .second, .val (.long x3), .second, .val (.ref ax), .val (.long x0), .second, .unset, .unset, .unset, .unset, .unset, .unset, .unset, .unset, .unset, .unset] [(.long (x0 + x1))])
    generalize hs2 : (x0 + x1) = s2
    show Goes p e below _ T5 (mkF m 100 #[.val (.int p1), .val (.int p2), .val (.int p3), .val (.int p4), .val (.int p5), .val (.int (0 : Int32)), .val (.long x0), .second, .val (.long x1), .second, .val (.long x2), .second, .val (.long x3), .second, .val (.ref ax), .val (.long x0), .second, .unset, .unset, .unset, .unset, .unset, .unset, .unset, .unset, .unset, .unset] [(.long s2)])
    refine Goes.of (fun _ kont => XT.lstore X5.here hx rfl (Jvm.hb hby at_100) rfl (l' := #[.val (.int p1), .val (.int p2), .val (.int p3), .val (.int p4), .val (.int p5), .val (.int (0 : Int32)), .val (.long x0), .second, .val (.long x1), .second, .val (.long x2), .second, .val (.long x3), .second, .val (.ref ax), .val (.long x0), .second, .val (.long s2), .second, .unset, .unset, .unset, .unset, .unset, .unset, .unset, .unset]) rfl kont) ?_
    show Goes p e below _ T5 (mkF m 102 #[.val (.int p1), .val (.int p2), .val (.int p3), .val (.int p4), .val (.int p5), .val (.int (0 : Int32)), .val (.long x0), .second, .val (.long x1), .second, .val (.long x2), .second, .val (.long x3), .second, .val (.ref ax), .val (.long x0), .second, .val (.long s2), .second, .unset, .unset, .unset, .unset, .unset, .unset, .unset, .unset] [])
    refine Goes.of (fun _ kont => XT.lload X5.here hx rfl (Jvm.hb hby at_102) rfl kont) ?_
    show Goes p e below _ T5 (mkF m 104 #[.val (.int p1), .val (.int p2), .val (.int p3), .val (.int p4), .val (.int p5), .val (.int (0 : Int32)), .val (.long x0), .second, .val (.long x1), .second, .val (.long x2), .second, .val (.long x3), .second, .val (.ref ax), .val (.long x0), .second, .val (.long s2), .second, .unset, .unset, .unset, .unset, .unset, .unset, .unset, .unset] [(.long x0)])
    refine Goes.of (fun _ kont => XT.lload X5.here hx rfl (Jvm.hb hby at_104) rfl kont) ?_
    show Goes p e below _ T5 (mkF m 106 #[.val (.int p1), .val (.int p2), .val (.int p3), .val (.int p4), .val (.int p5), .val (.int (0 : Int32)), .val (.long x0), .second, .val (.long x1), .second, .val (.long x2), .second, .val (.long x3), .second, .val (.ref ax), .val (.long x0), .second, .val (.long s2), .second, .unset, .unset, .unset, .unset, .unset, .unset, .unset, .unset] [(.long x1), (.long x0)])
    refine Goes.of (fun _ kont => XT.ladd X5.here hx rfl (Jvm.hb hby at_106) rfl kont) ?_
    show Goes p e below _ T5 (mkF m 107 #[.val (.int p1), .val (.int p2), .val (.int p3), .val (.int p4), .val (.int p5), .val (.int (0 : Int32)), .val (.long x0), .second, .val (.long x1), .second, .val (.long x2), .second, .val (.long x3), .second, .val (.ref ax), .val (.long x0), .second, .val (.long s2), .second, .unset, .unset, .unset, .unset, .unset, .unset, .unset, .unset] [(.long (x0 + x1))])
    refine Goes.of (fun _ kont => XT.lload X5.here hx rfl (Jvm.hb hby at_107) rfl kont) ?_
    show Goes p e below _ T5 (mkF m 109 #[.val (.int p1), .val (.int p2), .val (.int p3), .val (.int p4), .val (.int p5), .val (.int (0 : Int32)), .val (.long x0), .second, .val (.long x1), .second, .val (.long x2), .second, .val (.long x3), .second, .val (.ref ax), .val (.long x0), .second, .val (.long s2), .second, .unset, .unset, .unset, .unset, .unset, .unset, .unset, .unset] [(.long x2), (.long (x0 + x1))])
    refine Goes.of (fun _ kont => XT.ladd X5.here hx rfl (Jvm.hb hby at_109) rfl kont) ?_
    show Goes p e below _ T5 (mkF m 110 #[.val (.int p1), .val (.int p2), .val (.int p3), .val (.int p4), .val (.int p5), .val (.int (0 : Int32)), .val (.long x0), .second, .val (.long x1), .second, .val (.long x2), .second, .val (.long x3), .second, .val (.ref ax), .val (.long x0), .second, .val (.long s2), .second, .unset, .unset, .unset, .unset, .unset, .unset, .unset, .unset] [(.long ((x0 + x1) + x2))])
    generalize hs3 : ((x0 + x1) + x2) = s3
    show Goes p e below _ T5 (mkF m 110 #[.val (.int p1), .val (.int p2), .val (.int p3), .val (.int p4), .val (.int p5), .val (.int (0 : Int32)), .val (.long x0), .second, .val (.long x1), .second, .val (.long x2), .second, .val (.long x3), .second, .val (.ref ax), .val (.long x0), .second, .val (.long s2), .second, .unset, .unset, .unset, .unset, .unset, .unset, .unset, .unset] [(.long s3)])
    refine Goes.of (fun _ kont => XT.lstore X5.here hx rfl (Jvm.hb hby at_110) rfl (l' := #[.val (.int p1), .val (.int p2), .val (.int p3), .val (.int p4), .val (.int p5), .val (.int (0 : Int32)), .val (.long x0), .second, .val (.long x1), .second, .val (.long x2), .second, .val (.long x3), .second, .val (.ref ax), .val (.long x0), .second, .val (.long s2), .second, .val (.long s3), .second, .unset, .unset, .unset, .unset, .unset, .unset]) rfl kont) ?_
    show Goes p e below _ T5 (mkF m 112 #[.val (.int p1), .val (.int p2), .val (.int p3), .val (.int p4), .val (.int p5), .val (.int (0 : Int32)), .val (.long x0), .second, .val (.long x1), .second, .val (.long x2), .second, .val (.long x3), .second, .val (.ref ax), .val (.long x0), .second, .val (.long s2), .second, .val (.long s3), .second, .unset, .unset, .unset, .unset, .unset, .unset] [])
    refine Goes.of (fun _ kont => XT.lload X5.here hx rfl (Jvm.hb hby at_112) rfl kont) ?_
    show Goes p e below _ T5 (mkF m 114 #[.val (.int p1), .val (.int p2), .val (.int p3), .val (.int p4), .val (.int p5), .val (.int (0 : Int32)), .val (.long x0), .second, .val (.long x1), .second, .val (.long x2), .second, .val (.long x3), .second, .val (.ref ax), .val (.long x0), .second, .val (.long s2), .second, .val (.long s3), .second, .unset, .unset, .unset, .unset, .unset, .unset] [(.long x0)])
    refine Goes.of (fun _ kont => XT.lload X5.here hx rfl (Jvm.hb hby at_114) rfl kont) ?_
    show Goes p e below _ T5 (mkF m 116 #[.val (.int p1), .val (.int p2), .val (.int p3), .val (.int p4), .val (.int p5), .val (.int (0 : Int32)), .val (.long x0), .second, .val (.long x1), .second, .val (.long x2), .second, .val (.long x3), .second, .val (.ref ax), .val (.long x0), .second, .val (.long s2), .second, .val (.long s3), .second, .unset, .unset, .unset, .unset, .unset, .unset] [(.long x1), (.long x0)])
    refine Goes.of (fun _ kont => XT.ladd X5.here hx rfl (Jvm.hb hby at_116) rfl kont) ?_
    show Goes p e below _ T5 (mkF m 117 #[.val (.int p1), .val (.int p2), .val (.int p3), .val (.int p4), .val (.int p5), .val (.int (0 : Int32)), .val (.long x0), .second, .val (.long x1), .second, .val (.long x2), .second, .val (.long x3), .second, .val (.ref ax), .val (.long x0), .second, .val (.long s2), .second, .val (.long s3), .second, .unset, .unset, .unset, .unset, .unset, .unset] [(.long (x0 + x1))])
    refine Goes.of (fun _ kont => XT.lload X5.here hx rfl (Jvm.hb hby at_117) rfl kont) ?_
    show Goes p e below _ T5 (mkF m 119 #[.val (.int p1), .val (.int p2), .val (.int p3), .val (.int p4), .val (.int p5), .val (.int (0 : Int32)), .val (.long x0), .second, .val (.long x1), .second, .val (.long x2), .second, .val (.long x3), .second, .val (.ref ax), .val (.long x0), .second, .val (.long s2), .second, .val (.long s3), .second, .unset, .unset, .unset, .unset, .unset, .unset] [(.long x2), (.long (x0 + x1))])
    refine Goes.of (fun _ kont => XT.ladd X5.here hx rfl (Jvm.hb hby at_119) rfl kont) ?_
    show Goes p e below _ T5 (mkF m 120 #[.val (.int p1), .val (.int p2), .val (.int p3), .val (.int p4), .val (.int p5), .val (.int (0 : Int32)), .val (.long x0), .second, .val (.long x1), .second, .val (.long x2), .second, .val (.long x3), .second, .val (.ref ax), .val (.long x0), .second, .val (.long s2), .second, .val (.long s3), .second, .unset, .unset, .unset, .unset, .unset, .unset] [(.long ((x0 + x1) + x2))])
    refine Goes.of (fun _ kont => XT.lload X5.here hx rfl (Jvm.hb hby at_120) rfl kont) ?_
    show Goes p e below _ T5 (mkF m 122 #[.val (.int p1), .val (.int p2), .val (.int p3), .val (.int p4), .val (.int p5), .val (.int (0 : Int32)), .val (.long x0), .second, .val (.long x1), .second, .val (.long x2), .second, .val (.long x3), .second, .val (.ref ax), .val (.long x0), .second, .val (.long s2), .second, .val (.long s3), .second, .unset, .unset, .unset, .unset, .unset, .unset] [(.long x3), (.long ((x0 + x1) + x2))])
    refine Goes.of (fun _ kont => XT.ladd X5.here hx rfl (Jvm.hb hby at_122) rfl kont) ?_
    show Goes p e below _ T5 (mkF m 123 #[.val (.int p1), .val (.int p2), .val (.int p3), .val (.int p4), .val (.int p5), .val (.int (0 : Int32)), .val (.long x0), .second, .val (.long x1), .second, .val (.long x2), .second, .val (.long x3), .second, .val (.ref ax), .val (.long x0), .second, .val (.long s2), .second, .val (.long s3), .second, .unset, .unset, .unset, .unset, .unset, .unset] [(.long (((x0 + x1) + x2) + x3))])
    generalize hs4 : (((x0 + x1) + x2) + x3) = s4
    show Goes p e below _ T5 (mkF m 123 #[.val (.int p1), .val (.int p2), .val (.int p3), .val (.int p4), .val (.int p5), .val (.int (0 : Int32)), .val (.long x0), .second, .val (.long x1), .second, .val (.long x2), .second, .val (.long x3), .second, .val (.ref ax), .val (.long x0), .second, .val (.long s2), .second, .val (.long s3), .second, .unset, .unset, .unset, .unset, .unset, .unset] [(.long s4)])
    have e2 := hs2 ▸ f2
    have e3 := hs3 ▸ f3
    have e4 := hs4 ▸ f4
    have r0 : (0 : Int64).toInt = 0 := by decide
    refine Goes.of (fun _ kont => XT.lstore X5.here hx rfl (Jvm.hb hby at_123) rfl (l' := #[.val (.int p1), .val (.int p2), .val (.int p3), .val (.int p4), .val (.int p5), .val (.int (0 : Int32)), .val (.long x0), .second, .val (.long x1), .second, .val (.long x2), .second, .val (.long x3), .second, .val (.ref ax), .val (.long x0), .second, .val (.long s2), .second, .val (.long s3), .second, .val (.long s4), .second, .unset, .unset, .unset, .unset]) rfl kont) ?_
    show Goes p e below _ T5 (mkF m 125 #[.val (.int p1), .val (.int p2), .val (.int p3), .val (.int p4), .val (.int p5), .val (.int (0 : Int32)), .val (.long x0), .second, .val (.long x1), .second, .val (.long x2), .second, .val (.long x3), .second, .val (.ref ax), .val (.long x0), .second, .val (.long s2), .second, .val (.long s3), .second, .val (.long s4), .second, .unset, .unset, .unset, .unset] [])
    refine Goes.of (fun _ kont => XT.lconst X5.here hx rfl (Jvm.hb hby at_125) kont) ?_
    show Goes p e below _ T5 (mkF m 126 #[.val (.int p1), .val (.int p2), .val (.int p3), .val (.int p4), .val (.int p5), .val (.int (0 : Int32)), .val (.long x0), .second, .val (.long x1), .second, .val (.long x2), .second, .val (.long x3), .second, .val (.ref ax), .val (.long x0), .second, .val (.long s2), .second, .val (.long s3), .second, .val (.long s4), .second, .unset, .unset, .unset, .unset] [(.long (0 : Int64))])
    refine Goes.of (fun _ kont => XT.lstore X5.here hx rfl (Jvm.hb hby at_126) rfl (l' := #[.val (.int p1), .val (.int p2), .val (.int p3), .val (.int p4), .val (.int p5), .val (.int (0 : Int32)), .val (.long x0), .second, .val (.long x1), .second, .val (.long x2), .second, .val (.long x3), .second, .val (.ref ax), .val (.long x0), .second, .val (.long s2), .second, .val (.long s3), .second, .val (.long s4), .second, .val (.long (0 : Int64)), .second, .unset, .unset]) rfl kont) ?_
    show Goes p e below _ T5 (mkF m 128 #[.val (.int p1), .val (.int p2), .val (.int p3), .val (.int p4), .val (.int p5), .val (.int (0 : Int32)), .val (.long x0), .second, .val (.long x1), .second, .val (.long x2), .second, .val (.long x3), .second, .val (.ref ax), .val (.long x0), .second, .val (.long s2), .second, .val (.long s3), .second, .val (.long s4), .second, .val (.long (0 : Int64)), .second, .unset, .unset] [])
    refine Goes.of (fun _ kont => XS.iload X5.here hx rfl (Jvm.hb hby at_128) rfl kont) ?_
    show Goes p e below _ T5 (mkF m 130 #[.val (.int p1), .val (.int p2), .val (.int p3), .val (.int p4), .val (.int p5), .val (.int (0 : Int32)), .val (.long x0), .second, .val (.long x1), .second, .val (.long x2), .second, .val (.long x3), .second, .val (.ref ax), .val (.long x0), .second, .val (.long s2), .second, .val (.long s3), .second, .val (.long s4), .second, .val (.long (0 : Int64)), .second, .unset, .unset] [(.int (0 : Int32))])
    refine Goes.of (fun _ kont => XS.iconst X5.here hx rfl (Jvm.hb hby at_130) kont) ?_
    show Goes p e below _ T5 (mkF m 131 #[.val (.int p1), .val (.int p2), .val (.int p3), .val (.int p4), .val (.int p5), .val (.int (0 : Int32)), .val (.long x0), .second, .val (.long x1), .second, .val (.long x2), .second, .val (.long x3), .second, .val (.ref ax), .val (.long x0), .second, .val (.long s2), .second, .val (.long s3), .second, .val (.long s4), .second, .val (.long (0 : Int64)), .second, .unset, .unset] [(.int (1 : Int32)), (.int (0 : Int32))])
    refine Goes.of (fun _ kont => XS.icmpYes X5.here hx rfl (pc0 := 131) (pc' := 144) rfl (Jvm.hb hby at_131) rfl (by decide) (by decide) (by decide) kont) ?_
    show Goes p e below _ T5 (mkF m 144 #[.val (.int p1), .val (.int p2), .val (.int p3), .val (.int p4), .val (.int p5), .val (.int (0 : Int32)), .val (.long x0), .second, .val (.long x1), .second, .val (.long x2), .second, .val (.long x3), .second, .val (.ref ax), .val (.long x0), .second, .val (.long s2), .second, .val (.long s3), .second, .val (.long s4), .second, .val (.long (0 : Int64)), .second, .unset, .unset] [])
    refine Goes.of (fun _ kont => XS.iload X5.here hx rfl (Jvm.hb hby at_144) rfl kont) ?_
    show Goes p e below _ T5 (mkF m 146 #[.val (.int p1), .val (.int p2), .val (.int p3), .val (.int p4), .val (.int p5), .val (.int (0 : Int32)), .val (.long x0), .second, .val (.long x1), .second, .val (.long x2), .second, .val (.long x3), .second, .val (.ref ax), .val (.long x0), .second, .val (.long s2), .second, .val (.long s3), .second, .val (.long s4), .second, .val (.long (0 : Int64)), .second, .unset, .unset] [(.int (0 : Int32))])
    refine Goes.of (fun _ kont => XS.iconst X5.here hx rfl (Jvm.hb hby at_146) kont) ?_
    show Goes p e below _ T5 (mkF m 147 #[.val (.int p1), .val (.int p2), .val (.int p3), .val (.int p4), .val (.int p5), .val (.int (0 : Int32)), .val (.long x0), .second, .val (.long x1), .second, .val (.long x2), .second, .val (.long x3), .second, .val (.ref ax), .val (.long x0), .second, .val (.long s2), .second, .val (.long s3), .second, .val (.long s4), .second, .val (.long (0 : Int64)), .second, .unset, .unset] [(.int (2 : Int32)), (.int (0 : Int32))])
    refine Goes.of (fun _ kont => XS.icmpYes X5.here hx rfl (pc0 := 147) (pc' := 160) rfl (Jvm.hb hby at_147) rfl (by decide) (by decide) (by decide) kont) ?_
    show Goes p e below _ T5 (mkF m 160 #[.val (.int p1), .val (.int p2), .val (.int p3), .val (.int p4), .val (.int p5), .val (.int (0 : Int32)), .val (.long x0), .second, .val (.long x1), .second, .val (.long x2), .second, .val (.long x3), .second, .val (.ref ax), .val (.long x0), .second, .val (.long s2), .second, .val (.long s3), .second, .val (.long s4), .second, .val (.long (0 : Int64)), .second, .unset, .unset] [])
    refine Goes.of (fun _ kont => XS.iload X5.here hx rfl (Jvm.hb hby at_160) rfl kont) ?_
    show Goes p e below _ T5 (mkF m 162 #[.val (.int p1), .val (.int p2), .val (.int p3), .val (.int p4), .val (.int p5), .val (.int (0 : Int32)), .val (.long x0), .second, .val (.long x1), .second, .val (.long x2), .second, .val (.long x3), .second, .val (.ref ax), .val (.long x0), .second, .val (.long s2), .second, .val (.long s3), .second, .val (.long s4), .second, .val (.long (0 : Int64)), .second, .unset, .unset] [(.int (0 : Int32))])
    refine Goes.of (fun _ kont => XS.iconst X5.here hx rfl (Jvm.hb hby at_162) kont) ?_
    show Goes p e below _ T5 (mkF m 163 #[.val (.int p1), .val (.int p2), .val (.int p3), .val (.int p4), .val (.int p5), .val (.int (0 : Int32)), .val (.long x0), .second, .val (.long x1), .second, .val (.long x2), .second, .val (.long x3), .second, .val (.ref ax), .val (.long x0), .second, .val (.long s2), .second, .val (.long s3), .second, .val (.long s4), .second, .val (.long (0 : Int64)), .second, .unset, .unset] [(.int (3 : Int32)), (.int (0 : Int32))])
    refine Goes.of (fun _ kont => XS.icmpYes X5.here hx rfl (pc0 := 163) (pc' := 176) rfl (Jvm.hb hby at_163) rfl (by decide) (by decide) (by decide) kont) ?_
    show Goes p e below _ T5 (mkF m 176 #[.val (.int p1), .val (.int p2), .val (.int p3), .val (.int p4), .val (.int p5), .val (.int (0 : Int32)), .val (.long x0), .second, .val (.long x1), .second, .val (.long x2), .second, .val (.long x3), .second, .val (.ref ax), .val (.long x0), .second, .val (.long s2), .second, .val (.long s3), .second, .val (.long s4), .second, .val (.long (0 : Int64)), .second, .unset, .unset] [])
    refine Goes.of (fun _ kont => XS.iload X5.here hx rfl (Jvm.hb hby at_176) rfl kont) ?_
    show Goes p e below _ T5 (mkF m 178 #[.val (.int p1), .val (.int p2), .val (.int p3), .val (.int p4), .val (.int p5), .val (.int (0 : Int32)), .val (.long x0), .second, .val (.long x1), .second, .val (.long x2), .second, .val (.long x3), .second, .val (.ref ax), .val (.long x0), .second, .val (.long s2), .second, .val (.long s3), .second, .val (.long s4), .second, .val (.long (0 : Int64)), .second, .unset, .unset] [(.int (0 : Int32))])
    refine Goes.of (fun _ kont => XS.iconst X5.here hx rfl (Jvm.hb hby at_178) kont) ?_
    show Goes p e below _ T5 (mkF m 179 #[.val (.int p1), .val (.int p2), .val (.int p3), .val (.int p4), .val (.int p5), .val (.int (0 : Int32)), .val (.long x0), .second, .val (.long x1), .second, .val (.long x2), .second, .val (.long x3), .second, .val (.ref ax), .val (.long x0), .second, .val (.long s2), .second, .val (.long s3), .second, .val (.long s4), .second, .val (.long (0 : Int64)), .second, .unset, .unset] [(.int (4 : Int32)), (.int (0 : Int32))])
    refine Goes.of (fun _ kont => XS.icmpYes X5.here hx rfl (pc0 := 179) (pc' := 192) rfl (Jvm.hb hby at_179) rfl (by decide) (by decide) (by decide) kont) ?_
    show Goes p e below _ T5 (mkF m 192 #[.val (.int p1), .val (.int p2), .val (.int p3), .val (.int p4), .val (.int p5), .val (.int (0 : Int32)), .val (.long x0), .second, .val (.long x1), .second, .val (.long x2), .second, .val (.long x3), .second, .val (.ref ax), .val (.long x0), .second, .val (.long s2), .second, .val (.long s3), .second, .val (.long s4), .second, .val (.long (0 : Int64)), .second, .unset, .unset] [])
    refine Goes.of (fun _ kont => XS.aload X5.here hx rfl (Jvm.hb hby at_192) rfl rfl kont) ?_
    show Goes p e below _ T5 (mkF m 194 #[.val (.int p1), .val (.int p2), .val (.int p3), .val (.int p4), .val (.int p5), .val (.int (0 : Int32)), .val (.long x0), .second, .val (.long x1), .second, .val (.long x2), .second, .val (.long x3), .second, .val (.ref ax), .val (.long x0), .second, .val (.long s2), .second, .val (.long s3), .second, .val (.long s4), .second, .val (.long (0 : Int64)), .second, .unset, .unset] [(.ref ax)])
    refine callC X5 hx hZ hown (hw _ (List.mem_of_getElem? (i := 6) rfl)) (hw _ (List.mem_of_getElem? (i := 7) rfl)) (hw _ (List.mem_of_getElem? (i := 8) rfl)) (hw _ (List.mem_of_getElem? (i := 9) rfl)) (by decide) (as := [(.ref ax)]) (rm1_0 l Z a0 hw ax  h5 n0 Z5 V_ax ) 0 (by decide) (by decide) e5 (by decide) (by decide) (g := mkF m 194 #[.val (.int p1), .val (.int p2), .val (.int p3), .val (.int p4), .val (.int p5), .val (.int (0 : Int32)), .val (.long x0), .second, .val (.long x1), .second, .val (.long x2), .second, .val (.long x3), .second, .val (.ref ax), .val (.long x0), .second, .val (.long s2), .second, .val (.long s3), .second, .val (.long s4), .second, .val (.long (0 : Int64)), .second, .unset, .unset] [(.ref ax)]) rfl (by rw [hml]; rfl) (rest := []) (lenOf pd_1 rfl) rfl (by show 2 * 0 + _ ≤ _; exact Nat.le_of_eq rfl) (Jvm.hb hby at_194) ?_
    rintro _ T6 L6 X6 ⟨⟨z6, rfl, Dz6⟩, N6, e6⟩
    show Goes p e below _ T6 (mkF m 197 #[.val (.int p1), .val (.int p2), .val (.int p3), .val (.int p4), .val (.int p5), .val (.int (0 : Int32)), .val (.long x0), .second, .val (.long x1), .second, .val (.long x2), .second, .val (.long x3), .second, .val (.ref ax), .val (.long x0), .second, .val (.long s2), .second, .val (.long s3), .second, .val (.long s4), .second, .val (.long (0 : Int64)), .second, .unset, .unset] [(.double z6)])
    refine Goes.of (fun _ kont => XS.dstore X6.here hx rfl (Jvm.hb hby at_197) rfl (l' := #[.val (.int p1), .val (.int p2), .val (.int p3), .val (.int p4), .val (.int p5), .val (.int (0 : Int32)), .val (.long x0), .second, .val (.long x1), .second, .val (.long x2), .second, .val (.long x3), .second, .val (.ref ax), .val (.long x0), .second, .val (.long s2), .second, .val (.long s3), .second, .val (.long s4), .second, .val (.long (0 : Int64)), .second, .val (.double z6), .second]) rfl kont) ?_
    show Goes p e below _ T6 (mkF m 199 #[.val (.int p1), .val (.int p2), .val (.int p3), .val (.int p4), .val (.int p5), .val (.int (0 : Int32)), .val (.long x0), .second, .val (.long x1), .second, .val (.long x2), .second, .val (.long x3), .second, .val (.ref ax), .val (.long x0), .second, .val (.long s2), .second, .val (.long s3), .second, .val (.long s4), .second, .val (.long (0 : Int64)), .second, .val (.double z6), .second] [])
    refine Goes.of (fun _ kont => XS.dload X6.here hx rfl (Jvm.hb hby at_199) rfl kont) ?_
    show Goes p e below _ T6 (mkF m 201 #[.val (.int p1), .val (.int p2), .val (.int p3), .val (.int p4), .val (.int p5), .val (.int (0 : Int32)), .val (.long x0), .second, .val (.long x1), .second, .val (.long x2), .second, .val (.long x3), .second, .val (.ref ax), .val (.long x0), .second, .val (.long s2), .second, .val (.long s3), .second, .val (.long s4), .second, .val (.long (0 : Int64)), .second, .val (.double z6), .second] [(.double z6)])
    refine Goes.of (fun _ kont => XT.lload X6.here hx rfl (Jvm.hb hby at_201) rfl kont) ?_
    show Goes p e below _ T6 (mkF m 203 #[.val (.int p1), .val (.int p2), .val (.int p3), .val (.int p4), .val (.int p5), .val (.int (0 : Int32)), .val (.long x0), .second, .val (.long x1), .second, .val (.long x2), .second, .val (.long x3), .second, .val (.ref ax), .val (.long x0), .second, .val (.long s2), .second, .val (.long s3), .second, .val (.long s4), .second, .val (.long (0 : Int64)), .second, .val (.double z6), .second] [(.long (0 : Int64)), (.double z6)])
    refine Goes.of (fun _ kont => XS.l2dS X6.here hx rfl (Jvm.hb hby at_203) rfl rfl kont) ?_
    show Goes p e below _ T6 (mkF m 204 #[.val (.int p1), .val (.int p2), .val (.int p3), .val (.int p4), .val (.int p5), .val (.int (0 : Int32)), .val (.long x0), .second, .val (.long x1), .second, .val (.long x2), .second, .val (.long x3), .second, .val (.ref ax), .val (.long x0), .second, .val (.long s2), .second, .val (.long s3), .second, .val (.long s4), .second, .val (.long (0 : Int64)), .second, .val (.double z6), .second] [(.double (FP.l2d (0 : Int64))), (.double z6)])
    refine Goes.of (fun _ kont => XS.dcmpS X6.here hx rfl (Jvm.hb hby at_204) rfl rfl kont) ?_
    show Goes p e below _ T6 (mkF m 205 #[.val (.int p1), .val (.int p2), .val (.int p3), .val (.int p4), .val (.int p5), .val (.int (0 : Int32)), .val (.long x0), .second, .val (.long x1), .second, .val (.long x2), .second, .val (.long x3), .second, .val (.ref ax), .val (.long x0), .second, .val (.long s2), .second, .val (.long s3), .second, .val (.long s4), .second, .val (.long (0 : Int64)), .second, .val (.double z6), .second] [(.int (cmpValue (FP.dcmp z6 (FP.l2d (0 : Int64))) .l))])
    have De := dy_l2d (n := (0 : Int64)) (by rw [r0]; omega)
    rw [r0] at De
    refine Goes.of (fun _ kont => XS.ifNo X6.here hx rfl (Jvm.hb hby at_205) rfl (by rw [dy_eq Dz6 De rfl]; decide) kont) ?_
    show Goes p e below _ T6 (mkF m 208 #[.val (.int p1), .val (.int p2), .val (.int p3), .val (.int p4), .val (.int p5), .val (.int (0 : Int32)), .val (.long x0), .second, .val (.long x1), .second, .val (.long x2), .second, .val (.long x3), .second, .val (.ref ax), .val (.long x0), .second, .val (.long s2), .second, .val (.long s3), .second, .val (.long s4), .second, .val (.long (0 : Int64)), .second, .val (.double z6), .second] [])
    refine Goes.of (fun _ kont => XS.iconst X6.here hx rfl (Jvm.hb hby at_208) kont) ?_
    show Goes p e below _ T6 (mkF m 209 #[.val (.int p1), .val (.int p2), .val (.int p3), .val (.int p4), .val (.int p5), .val (.int (0 : Int32)), .val (.long x0), .second, .val (.long x1), .second, .val (.long x2), .second, .val (.long x3), .second, .val (.ref ax), .val (.long x0), .second, .val (.long s2), .second, .val (.long s3), .second, .val (.long s4), .second, .val (.long (0 : Int64)), .second, .val (.double z6), .second] [(.int (1 : Int32))])
    refine Goes.of (fun _ kont => XS.goto X6.here hx rfl (pc0 := 209) (pc' := 213) rfl (Jvm.hb hby at_209) (by decide) (by decide) kont) ?_
    show Goes p e below _ T6 (mkF m 213 #[.val (.int p1), .val (.int p2), .val (.int p3), .val (.int p4), .val (.int p5), .val (.int (0 : Int32)), .val (.long x0), .second, .val (.long x1), .second, .val (.long x2), .second, .val (.long x3), .second, .val (.ref ax), .val (.long x0), .second, .val (.long s2), .second, .val (.long s3), .second, .val (.long s4), .second, .val (.long (0 : Int64)), .second, .val (.double z6), .second] [(.int (1 : Int32))])
    exact retB X6 hx hlk (t := .boolean) hret (by simp) (Jvm.hb hby at_213) (by decide) (by decide) ⟨rfl, Fr.app NN N6⟩
  · show Goes p e below _ T4 (mkF m 33 #[.val (.int p1), .val (.int p2), .val (.int p3), .val (.int p4), .val (.int p5), .val (.int (1 : Int32)), .val (.long x0), .second, .val (.long x1), .second, .val (.long x2), .second, .val (.long x3), .second, .unset, .unset, .unset, .unset, .unset, .unset, .unset, .unset, .unset, .unset, .unset, .unset, .unset] [])
    refine Goes.of (fun _ kont => XS.iload X4.here hx rfl (Jvm.hb hby at_33) rfl kont) ?_
    show Goes p e below _ T4 (mkF m 35 #[.val (.int p1), .val (.int p2), .val (.int p3), .val (.int p4), .val (.int p5), .val (.int (1 : Int32)), .val (.long x0), .second, .val (.long x1), .second, .val (.long x2), .second, .val (.long x3), .second, .unset, .unset, .unset, .unset, .unset, .unset, .unset, .unset, .unset, .unset, .unset, .unset, .unset] [(.int (1 : Int32))])
    refine goNewD X4 hx hZ (hw _ (List.mem_of_getElem? (i := 5) rfl)) e4 (g := mkF m 35 #[.val (.int p1), .val (.int p2), .val (.int p3), .val (.int p4), .val (.int p5), .val (.int (1 : Int32)), .val (.long x0), .second, .val (.long x1), .second, .val (.long x2), .second, .val (.long x3), .second, .unset, .unset, .unset, .unset, .unset, .unset, .unset, .unset, .unset, .unset, .unset, .unset, .unset] [(.int (1 : Int32))]) rfl (Jvm.hb hby at_35) rfl 1 (by decide) (by decide) (by decide) (by decide) ?_
    intro T7 h7 ax gax X7 e7 E7 V_ax
    have ge_ax : n0 ≤ ax := by rw [gax]; exact Z0
    have Z7 : n0 ≤ h7.size := Nat.le_trans Z0 E7.1
    show Goes p e below _ T7 (mkF m 37 #[.val (.int p1), .val (.int p2), .val (.int p3), .val (.int p4), .val (.int p5), .val (.int (1 : Int32)), .val (.long x0), .second, .val (.long x1), .second, .val (.long x2), .second, .val (.long x3), .second, .unset, .unset, .unset, .unset, .unset, .unset, .unset, .unset, .unset, .unset, .unset, .unset, .unset] [(.ref ax)])
    refine Goes.of (fun _ kont => XS.astore X7.here hx rfl (Jvm.hb hby at_37) rfl rfl (l' := #[.val (.int p1), .val (.int p2), .val (.int p3), .val (.int p4), .val (.int p5), .val (.int (1 : Int32)), .val (.long x0), .second, .val (.long x1), .second, .val (.long x2), .second, .val (.long x3), .second, .val (.ref ax), .unset, .unset, .unset, .unset, .unset, .unset, .unset, .unset, .unset, .unset, .unset, .unset]) rfl kont) ?_
    show Goes p e below _ T7 (mkF m 39 #[.val (.int p1), .val (.int p2), .val (.int p3), .val (.int p4), .val (.int p5), .val (.int (1 : Int32)), .val (.long x0), .second, .val (.long x1), .second, .val (.long x2), .second, .val (.long x3), .second, .val (.ref ax), .unset, .unset, .unset, .unset, .unset, .unset, .unset, .unset, .unset, .unset, .unset, .unset] [])
    refine Goes.of (fun _ kont => XS.iload X7.here hx rfl (Jvm.hb hby at_39) rfl kont) ?_
    show Goes p e below _ T7 (mkF m 41 #[.val (.int p1), .val (.int p2), .val (.int p3), .val (.int p4), .val (.int p5), .val (.int (1 : Int32)), .val (.long x0), .second, .val (.long x1), .second, .val (.long x2), .second, .val (.long x3), .second, .val (.ref ax), .unset, .unset, .unset, .unset, .unset, .unset, .unset, .unset, .unset, .unset, .unset, .unset] [(.int (1 : Int32))])
    refine Goes.of (fun _ kont => XS.iconst X7.here hx rfl (Jvm.hb hby at_41) kont) ?_
    show Goes p e below _ T7 (mkF m 42 #[.val (.int p1), .val (.int p2), .val (.int p3), .val (.int p4), .val (.int p5), .val (.int (1 : Int32)), .val (.long x0), .second, .val (.long x1), .second, .val (.long x2), .second, .val (.long x3), .second, .val (.ref ax), .unset, .unset, .unset, .unset, .unset, .unset, .unset, .unset, .unset, .unset, .unset, .unset] [(.int (1 : Int32)), (.int (1 : Int32))])
    refine Goes.of (fun _ kont => XS.icmpNo X7.here hx rfl (Jvm.hb hby at_42) rfl (by decide) kont) ?_
    show Goes p e below _ T7 (mkF m 45 #[.val (.int p1), .val (.int p2), .val (.int p3), .val (.int p4), .val (.int p5), .val (.int (1 : Int32)), .val (.long x0), .second, .val (.long x1), .second, .val (.long x2), .second, .val (.long x3), .second, .val (.ref ax), .unset, .unset, .unset, .unset, .unset, .unset, .unset, .unset, .unset, .unset, .unset, .unset] [])
    refine Goes.of (fun _ kont => XS.aload X7.here hx rfl (Jvm.hb hby at_45) rfl rfl kont) ?_
    show Goes p e below _ T7 (mkF m 47 #[.val (.int p1), .val (.int p2), .val (.int p3), .val (.int p4), .val (.int p5), .val (.int (1 : Int32)), .val (.long x0), .second, .val (.long x1), .second, .val (.long x2), .second, .val (.long x3), .second, .val (.ref ax), .unset, .unset, .unset, .unset, .unset, .unset, .unset, .unset, .unset, .unset, .unset, .unset] [(.ref ax)])
    refine Goes.of (fun _ kont => XS.iconst X7.here hx rfl (Jvm.hb hby at_47) kont) ?_
    show Goes p e below _ T7 (mkF m 48 #[.val (.int p1), .val (.int p2), .val (.int p3), .val (.int p4), .val (.int p5), .val (.int (1 : Int32)), .val (.long x0), .second, .val (.long x1), .second, .val (.long x2), .second, .val (.long x3), .second, .val (.ref ax), .unset, .unset, .unset, .unset, .unset, .unset, .unset, .unset, .unset, .unset, .unset, .unset] [(.int (0 : Int32)), (.ref ax)])
    refine Goes.of (fun _ kont => XT.lload X7.here hx rfl (Jvm.hb hby at_48) rfl kont) ?_
    show Goes p e below _ T7 (mkF m 50 #[.val (.int p1), .val (.int p2), .val (.int p3), .val (.int p4), .val (.int p5), .val (.int (1 : Int32)), .val (.long x0), .second, .val (.long x1), .second, .val (.long x2), .second, .val (.long x3), .second, .val (.ref ax), .unset, .unset, .unset, .unset, .unset, .unset, .unset, .unset, .unset, .unset, .unset, .unset] [(.long x0), (.int (0 : Int32)), (.ref ax)])
    refine Goes.of (fun _ kont => XS.l2dS X7.here hx rfl (Jvm.hb hby at_50) rfl rfl kont) ?_
    show Goes p e below _ T7 (mkF m 51 #[.val (.int p1), .val (.int p2), .val (.int p3), .val (.int p4), .val (.int p5), .val (.int (1 : Int32)), .val (.long x0), .second, .val (.long x1), .second, .val (.long x2), .second, .val (.long x3), .second, .val (.ref ax), .unset, .unset, .unset, .unset, .unset, .unset, .unset, .unset, .unset, .unset, .unset, .unset] [(.double (FP.l2d x0)), (.int (0 : Int32)), (.ref ax)])
    refine goStD X7 hx hZ e7 V_ax 0 (by decide) (by show 0 < 1; decide) (g := (mkF m 51 #[.val (.int p1), .val (.int p2), .val (.int p3), .val (.int p4), .val (.int p5), .val (.int (1 : Int32)), .val (.long x0), .second, .val (.long x1), .second, .val (.long x2), .second, .val (.long x3), .second, .val (.ref ax), .unset, .unset, .unset, .unset, .unset, .unset, .unset, .unset, .unset, .unset, .unset, .unset] [(.double (FP.l2d x0)), (.int (0 : Int32)), (.ref ax)])) rfl rfl (Jvm.hb hby at_51) NN ge_ax ?_
    intro T8 h8 L8 X8 e8 N8 K8 V_ax_8
    replace V_ax_8 : DA Z h8 ax [(FP.l2d x0)] := V_ax_8
    have Z8 : n0 ≤ h8.size := Nat.le_trans ge_ax (Nat.le_of_lt V_ax_8.lt)
    show Goes p e below _ T8 (mkF m 52 #[.val (.int p1), .val (.int p2), .val (.int p3), .val (.int p4), .val (.int p5), .val (.int (1 : Int32)), .val (.long x0), .second, .val (.long x1), .second, .val (.long x2), .second, .val (.long x3), .second, .val (.ref ax), .unset, .unset, .unset, .unset, .unset, .unset, .unset, .unset, .unset, .unset, .unset, .unset] [])
    refine Goes.of (fun _ kont => XS.iload X8.here hx rfl (Jvm.hb hby at_52) rfl kont) ?_
    show Goes p e below _ T8 (mkF m 54 #[.val (.int p1), .val (.int p2), .val (.int p3), .val (.int p4), .val (.int p5), .val (.int (1 : Int32)), .val (.long x0), .second, .val (.long x1), .second, .val (.long x2), .second, .val (.long x3), .second, .val (.ref ax), .unset, .unset, .unset, .unset, .unset, .unset, .unset, .unset, .unset, .unset, .unset, .unset] [(.int (1 : Int32))])
    refine Goes.of (fun _ kont => XS.iconst X8.here hx rfl (Jvm.hb hby at_54) kont) ?_
    show Goes p e below _ T8 (mkF m 55 #[.val (.int p1), .val (.int p2), .val (.int p3), .val (.int p4), .val (.int p5), .val (.int (1 : Int32)), .val (.long x0), .second, .val (.long x1), .second, .val (.long x2), .second, .val (.long x3), .second, .val (.ref ax), .unset, .unset, .unset, .unset, .unset, .unset, .unset, .unset, .unset, .unset, .unset, .unset] [(.int (2 : Int32)), (.int (1 : Int32))])
    refine Goes.of (fun _ kont => XS.icmpYes X8.here hx rfl (pc0 := 55) (pc' := 65) rfl (Jvm.hb hby at_55) rfl (by decide) (by decide) (by decide) kont) ?_
    show Goes p e below _ T8 (mkF m 65 #[.val (.int p1), .val (.int p2), .val (.int p3), .val (.int p4), .val (.int p5), .val (.int (1 : Int32)), .val (.long x0), .second, .val (.long x1), .second, .val (.long x2), .second, .val (.long x3), .second, .val (.ref ax), .unset, .unset, .unset, .unset, .unset, .unset, .unset, .unset, .unset, .unset, .unset, .unset] [])
    refine Goes.of (fun _ kont => XS.iload X8.here hx rfl (Jvm.hb hby at_65) rfl kont) ?_
    show Goes p e below _ T8 (mkF m 67 #[.val (.int p1), .val (.int p2), .val (.int p3), .val (.int p4), .val (.int p5), .val (.int (1 : Int32)), .val (.long x0), .second, .val (.long x1), .second, .val (.long x2), .second, .val (.long x3), .second, .val (.ref ax), .unset, .unset, .unset, .unset, .unset, .unset, .unset, .unset, .unset, .unset, .unset, .unset] [(.int (1 : Int32))])
    refine Goes.of (fun _ kont => XS.iconst X8.here hx rfl (Jvm.hb hby at_67) kont) ?_
    show Goes p e below _ T8 (mkF m 68 #[.val (.int p1), .val (.int p2), .val (.int p3), .val (.int p4), .val (.int p5), .val (.int (1 : Int32)), .val (.long x0), .second, .val (.long x1), .second, .val (.long x2), .second, .val (.long x3), .second, .val (.ref ax), .unset, .unset, .unset, .unset, .unset, .unset, .unset, .unset, .unset, .unset, .unset, .unset] [(.int (3 : Int32)), (.int (1 : Int32))])
    refine Goes.of (fun _ kont => XS.icmpYes X8.here hx rfl (pc0 := 68) (pc' := 78) rfl (Jvm.hb hby at_68) rfl (by decide) (by decide) (by decide) kont) ?_
    show Goes p e below _ T8 (mkF m 78 #[.val (.int p1), .val (.int p2), .val (.int p3), .val (.int p4), .val (.int p5), .val (.int (1 : Int32)), .val (.long x0), .second, .val (.long x1), .second, .val (.long x2), .second, .val (.long x3), .second, .val (.ref ax), .unset, .unset, .unset, .unset, .unset, .unset, .unset, .unset, .unset, .unset, .unset, .unset] [])
    refine Goes.of (fun _ kont => XS.iload X8.here hx rfl (Jvm.hb hby at_78) rfl kont) ?_
    show Goes p e below _ T8 (mkF m 80 #[.val (.int p1), .val (.int p2), .val (.int p3), .val (.int p4), .val (.int p5), .val (.int (1 : Int32)), .val (.long x0), .second, .val (.long x1), .second, .val (.long x2), .second, .val (.long x3), .second, .val (.ref ax), .unset, .unset, .unset, .unset, .unset, .unset, .unset, .unset, .unset, .unset, .unset, .unset] [(.int (1 : Int32))])
    refine Goes.of (fun _ kont => XS.iconst X8.here hx rfl (Jvm.hb hby at_80) kont) ?_
    show Goes p e below _ T8 (mkF m 81 #[.val (.int p1), .val (.int p2), .val (.int p3), .val (.int p4), .val (.int p5), .val (.int (1 : Int32)), .val (.long x0), .second, .val (.long x1), .second, .val (.long x2), .second, .val (.long x3), .second, .val (.ref ax), .unset, .unset, .unset, .unset, .unset, .unset, .unset, .unset, .unset, .unset, .unset, .unset] [(.int (4 : Int32)), (.int (1 : Int32))])
    refine Goes.of (fun _ kont => XS.icmpYes X8.here hx rfl (pc0 := 81) (pc' := 91) rfl (Jvm.hb hby at_81) rfl (by decide) (by decide) (by decide) kont) ?_
    show Goes p e below _ T8 (mkF m 91 #[.val (.int p1), .val (.int p2), .val (.int p3), .val (.int p4), .val (.int p5), .val (.int (1 : Int32)), .val (.long x0), .second, .val (.long x1), .second, .val (.long x2), .second, .val (.long x3), .second, .val (.ref ax), .unset, .unset, .unset, .unset, .unset, .unset, .unset, .unset, .unset, .unset, .unset, .unset] [])
    have f2 := own_ladd (rfl : x0 + x1 = x0 + x1) (by omega) (by omega)
    have f3 := own_ladd (rfl : x0 + x1 + x2 = x0 + x1 + x2) (by rw [f2]; omega) (by omega)
    rw [f2] at f3
    have f4 := own_ladd (rfl : x0 + x1 + x2 + x3 = x0 + x1 + x2 + x3) (by rw [f3]; omega) (by omega)
    rw [f3] at f4
    refine Goes.of (fun _ kont => XT.lload X8.here hx rfl (Jvm.hb hby at_91) rfl kont) ?_
    show Goes p e below _ T8 (mkF m 93 #[.val (.int p1), .val (.int p2), .val (.int p3), .val (.int p4), .val (.int p5), .val (.int (1 : Int32)), .val (.long x0), .second, .val (.long x1), .second, .val (.long x2), .second, .val (.long x3), .second, .val (.ref ax), .unset, .unset, .unset, .unset, .unset, .unset, .unset, .unset, .unset, .unset, .unset, .unset] [(.long x0)])
    refine Goes.of (fun _ kont => XT.lstore X8.here hx rfl (Jvm.hb hby at_93) rfl (l' := #[.val (.int p1), .val (.int p2), .val (.int p3), .val (.int p4), .val (.int p5), .val (.int (1 : Int32)), .val (.long x0), .second, .val (.long x1), .second, .val (.long x2), .second, .val (.long x3), .second, .val (.ref ax), .val (.long x0), .second, .unset, .unset, .unset, .unset, .unset, .unset, .unset, .unset, .unset, .unset]) rfl kont) ?_
    show Goes p e below _ T8 (mkF m 95 #[.val (.int p1), .val (.int p2), .val (.int p3), .val (.int p4), .val (.int p5), .val (.int (1 : Int32)), .val (.long x0), .second, .val (.long x1), .second, .val (.long x2), .second, .val (.long x3), .second, .val (.ref ax), .val (.long x0), .second, .unset, .unset, .unset, .unset, .unset, .unset, .unset, .unset, .unset, .unset] [])
    refine Goes.of (fun _ kont => XT.lload X8.here hx rfl (Jvm.hb hby at_95) rfl kont) ?_
    show Goes p e below _ T8 (mkF m 97 #[.val (.int p1), .val (.int p2), .val (.int p3), .val (.int p4), .val (.int p5), .val (.int (1 : Int32)), .val (.long x0), .second, .val (.long x1), .second, .val (.long x2), .second, .val (.long x3), .second, .val (.ref ax), .val (.long x0), .second, .unset, .unset, .unset, .unset, .unset, .unset, .unset, .unset, .unset, .unset] [(.long x0)])
    refine Goes.of (fun _ kont => XT.lload X8.here hx rfl (Jvm.hb hby at_97) rfl kont) ?_
    show Goes p e below _ T8 (mkF m 99 #[.val (.int p1), .val (.int p2), .val (.int p3), .val (.int p4), .val (.int p5), .val (.int (1 : Int32)), .val (.long x0), .second, .val (.long x1), .second, .val (.long x2), .second, .val (.long x3), .second, .val (.ref ax), .val (.long x0), .second, .unset, .unset, .unset, .unset, .unset, .unset, .unset, .unset, .unset, .unset] [(.long x1), (.long x0)])
    refine Goes.of (fun _ kont => XT.ladd X8.here hx rfl (Jvm.hb hby at_99) rfl kont) ?_
    show Goes p e below _ T8 (mkF m 100 #[.val (.int p1), .val (.int p2), .val (.int p3), .val (.int p4), .val (.int p5), .val (.int (1 : Int32)), .val (.long x0), .second, .val (.long x1), .second, .val (.long x2), .second, .val (.long x3), .second, .val (.ref ax), .val (.long x0), .second, .unset, .unset, .unset, .unset, .unset, .unset, .unset, .unset, .unset, .unset] [(.long (x0 + x1))])
    generalize hs2 : (x0 + x1) = s2
    show Goes p e below _ T8 (mkF m 100 #[.val (.int p1), .val (.int p2), .val (.int p3), .val (.int p4), .val (.int p5), .val (.int (1 : Int32)), .val (.long x0), .second, .val (.long x1), .second, .val (.long x2), .second, .val (.long x3), .second, .val (.ref ax), .val (.long x0), .second, .unset, .unset, .unset, .unset, .unset, .unset, .unset, .unset, .unset, .unset] [(.long s2)])
    refine Goes.of (fun _ kont => XT.lstore X8.here hx rfl (Jvm.hb hby at_100) rfl (l' := #[.val (.int p1), .val (.int p2), .val (.int p3), .val (.int p4), .val (.int p5), .val (.int (1 : Int32)), .val (.long x0), .second, .val (.long x1), .second, .val (.long x2), .second, .val (.long x3), .second, .val (.ref ax), .val (.long x0), .second, .val (.long s2), .second, .unset, .unset, .unset, .unset, .unset, .unset, .unset, .unset]) rfl kont) ?_
    show Goes p e below _ T8 (mkF m 102 #[.val (.int p1), .val (.int p2), .val (.int p3), .val (.int p4), .val (.int p5), .val (.int (1 : Int32)), .val (.long x0), .second, .val (.long x1), .second, .val (.long x2), .second, .val (.long x3), .second, .val (.ref ax), .val (.long x0), .second, .val (.long s2), .second, .unset, .unset, .unset, .unset, .unset, .unset, .unset, .unset] [])
    refine Goes.of (fun _ kont => XT.lload X8.here hx rfl (Jvm.hb hby at_102) rfl kont) ?_
    show Goes p e below _ T8 (mkF m 104 #[.val (.int p1), .val (.int p2), .val (.int p3), .val (.int p4), .val (.int p5), .val (.int (1 : Int32)), .val (.long x0), .second, .val (.long x1), .second, .val (.long x2), .second, .val (.long x3), .second, .val (.ref ax), .val (.long x0), .second, .val (.long s2), .second, .unset, .unset, .unset, .unset, .unset, .unset, .unset, .unset] [(.long x0)])
    refine Goes.of (fun _ kont => XT.lload X8.here hx rfl (Jvm.hb hby at_104) rfl kont) ?_
    show Goes p e below _ T8 (mkF m 106 #[.val (.int p1), .val (.int p2), .val (.int p3), .val (.int p4), .val (.int p5), .val (.int (1 : Int32)), .val (.long x0), .second, .val (.long x1), .second, .val (.long x2), .second, .val (.long x3), .second, .val (.ref ax), .val (.long x0), .second, .val (.long s2), .second, .unset, .unset, .unset, .unset, .unset, .unset, .unset, .unset] [(.long x1), (.long x0)])
    refine Goes.of (fun _ kont => XT.ladd X8.here hx rfl (Jvm.hb hby at_106) rfl kont) ?_
    show Goes p e below _ T8 (mkF m 107 #[.val (.int p1), .val (.int p2), .val (.int p3), .val (.int p4), .val (.int p5), .val (.int (1 : Int32)), .val (.long x0), .second, .val (.long x1), .second, .val (.long x2), .second, .val (.long x3), .second, .val (.ref ax), .val (.long x0), .second, .val (.long s2), .second, .unset, .unset, .unset, .unset, .unset, .unset, .unset, .unset] [(.long (x0 + x1))])
    refine Goes.of (fun _ kont => XT.lload X8.here hx rfl (Jvm.hb hby at_107) rfl kont) ?_
    show Goes p e below _ T8 (mkF m 109 #[.val (.int p1), .val (.int p2), .val (.int p3), .val (.int p4), .val (.int p5), .val (.int (1 : Int32)), .val (.long x0), .second, .val (.long x1), .second, .val (.long x2), .second, .val (.long x3), .second, .val (.ref ax), .val (.long x0), .second, .val (.long s2), .second, .unset, .unset, .unset, .unset, .unset, .unset, .unset, .unset] [(.long x2), (.long (x0 + x1))])
    refine Goes.of (fun _ kont => XT.ladd X8.here hx rfl (Jvm.hb hby at_109) rfl kont) ?_
    show Goes p e below _ T8 (mkF m 110 #[.val (.int p1), .val (.int p2), .val (.int p3), .val (.int p4), .val (.int p5), .val (.int (1 : Int32)), .val (.long x0), .second, .val (.long x1), .second, .val (.long x2), .second, .val (.long x3), .second, .val (.ref ax), .val (.long x0), .second, .val (.long s2), .second, .unset, .unset, .unset, .unset, .unset, .unset, .unset, .unset] [(.long ((x0 + x1) + x2))])
    generalize hs3 : ((x0 + x1) + x2) = s3
    show Goes p e below _ T8 (mkF m 110 #[.val (.int p1), .val (.int p2), .val (.int p3), .val (.int p4), .val (.int p5), .val (.int (1 : Int32)), .val (.long x0), .second, .val (.long x1), .second, .val (.long x2), .second, .val (.long x3), .second, .val (.ref ax), .val (.long x0), .second, .val (.long s2), .second, .unset, .unset, .unset, .unset, .unset, .unset, .unset, .unset] [(.long s3)])
    refine Goes.of (fun _ kont => XT.lstore X8.here hx rfl (Jvm.hb hby at_110) rfl (l' := #[.val (.int p1), .val (.int p2), .val (.int p3), .val (.int p4), .val (.int p5), .val (.int (1 : Int32)), .val (.long x0), .second, .val (.long x1), .second, .val (.long x2), .second, .val (.long x3), .second, .val (.ref ax), .val (.long x0), .second, .val (.long s2), .second, .val (.long s3), .second, .unset, .unset, .unset, .unset, .unset, .unset]) rfl kont) ?_
    show Goes p e below _ T8 (mkF m 112 #[.val (.int p1), .val (.int p2), .val (.int p3), .val (.int p4), .val (.int p5), .val (.int (1 : Int32)), .val (.long x0), .second, .val (.long x1), .second, .val (.long x2), .second, .val (.long x3), .second, .val (.ref ax), .val (.long x0), .second, .val (.long s2), .second, .val (.long s3), .second, .unset, .unset, .unset, .unset, .unset, .unset] [])
    refine Goes.of (fun _ kont => XT.lload X8.here hx rfl (Jvm.hb hby at_112) rfl kont) ?_
    show Goes p e below _ T8 (mkF m 114 #[.val (.int p1), .val (.int p2), .val (.int p3), .val (.int p4), .val (.int p5), .val (.int (1 : Int32)), .val (.long x0), .second, .val (.long x1), .second, .val (.long x2), .second, .val (.long x3), .second, .val (.ref ax), .val (.long x0), .second, .val (.long s2), .second, .val (.long s3), .second, .unset, .unset, .unset, .unset, .unset, .unset] [(.long x0)])
    refine Goes.of (fun _ kont => XT.lload X8.here hx rfl (Jvm.hb hby at_114) rfl kont) ?_
    show Goes p e below _ T8 (mkF m 116 #[.val (.int p1), .val (.int p2), .val (.int p3), .val (.int p4), .val (.int p5), .val (.int (1 : Int32)), .val (.long x0), .second, .val (.long x1), .second, .val (.long x2), .second, .val (.long x3), .second, .val (.ref ax), .val (.long x0), .second, .val (.long s2), .second, .val (.long s3), .second, .unset, .unset, .unset, .unset, .unset, .unset] [(.long x1), (.long x0)])
    refine Goes.of (fun _ kont => XT.ladd X8.here hx rfl (Jvm.hb hby at_116) rfl kont) ?_
    show Goes p e below _ T8 (mkF m 117 #[.val (.int p1), .val (.int p2), .val (.int p3), .val (.int p4), .val (.int p5), .val (.int (1 : Int32)), .val (.long x0), .second, .val (.long x1), .second, .val (.long x2), .second, .val (.long x3), .second, .val (.ref ax), .val (.long x0), .second, .val (.long s2), .second, .val (.long s3), .second, .unset, .unset, .unset, .unset, .unset, .unset] [(.long (x0 + x1))])
    refine Goes.of (fun _ kont => XT.lload X8.here hx rfl (Jvm.hb hby at_117) rfl kont) ?_
    show Goes p e below _ T8 (mkF m 119 #[.val (.int p1), .val (.int p2), .val (.int p3), .val (.int p4), .val (.int p5), .val (.int (1 : Int32)), .val (.long x0), .second, .val (.long x1), .second, .val (.long x2), .second, .val (.long x3), .second, .val (.ref ax), .val (.long x0), .second, .val (.long s2), .second, .val (.long s3), .second, .unset, .unset, .unset, .unset, .unset, .unset] [(.long x2), (.long (x0 + x1))])
    refine Goes.of (fun _ kont => XT.ladd X8.here hx rfl (Jvm.hb hby at_119) rfl kont) ?_
    show Goes p e below _ T8 (mkF m 120 #[.val (.int p1), .val (.int p2), .val (.int p3), .val (.int p4), .val (.int p5), .val (.int (1 : Int32)), .val (.long x0), .second, .val (.long x1), .second, .val (.long x2), .second, .val (.long x3), .second, .val (.ref ax), .val (.long x0), .second, .val (.long s2), .second, .val (.long s3), .second, .unset, .unset, .unset, .unset, .unset, .unset] [(.long ((x0 + x1) + x2))])
    refine Goes.of (fun _ kont => XT.lload X8.here hx rfl (Jvm.hb hby at_120) rfl kont) ?_
    show Goes p e below _ T8 (mkF m 122 #[.val (.int p1), .val (.int p2), .val (.int p3), .val (.int p4), .val (.int p5), .val (.int (1 : Int32)), .val (.long x0), .second, .val (.long x1), .second, .val (.long x2), .second, .val (.long x3), .second, .val (.ref ax), .val (.long x0), .second, .val (.long s2), .second, .val (.long s3), .second, .unset, .unset, .unset, .unset, .unset, .unset] [(.long x3), (.long ((x0 + x1) + x2))])
    refine Goes.of (fun _ kont => XT.ladd X8.here hx rfl (Jvm.hb hby at_122) rfl kont) ?_
    show Goes p e below _ T8 (mkF m 123 #[.val (.int p1), .val (.int p2), .val (.int p3), .val (.int p4), .val (.int p5), .val (.int (1 : Int32)), .val (.long x0), .second, .val (.long x1), .second, .val (.long x2), .second, .val (.long x3), .second, .val (.ref ax), .val (.long x0), .second, .val (.long s2), .second, .val (.long s3), .second, .unset, .unset, .unset, .unset, .unset, .unset] [(.long (((x0 + x1) + x2) + x3))])
    generalize hs4 : (((x0 + x1) + x2) + x3) = s4
    show Goes p e below _ T8 (mkF m 123 #[.val (.int p1), .val (.int p2), .val (.int p3), .val (.int p4), .val (.int p5), .val (.int (1 : Int32)), .val (.long x0), .second, .val (.long x1), .second, .val (.long x2), .second, .val (.long x3), .second, .val (.ref ax), .val (.long x0), .second, .val (.long s2), .second, .val (.long s3), .second, .unset, .unset, .unset, .unset, .unset, .unset] [(.long s4)])
    have e2 := hs2 ▸ f2
    have e3 := hs3 ▸ f3
    have e4 := hs4 ▸ f4
    have r0 : (0 : Int64).toInt = 0 := by decide
    refine Goes.of (fun _ kont => XT.lstore X8.here hx rfl (Jvm.hb hby at_123) rfl (l' := #[.val (.int p1), .val (.int p2), .val (.int p3), .val (.int p4), .val (.int p5), .val (.int (1 : Int32)), .val (.long x0), .second, .val (.long x1), .second, .val (.long x2), .second, .val (.long x3), .second, .val (.ref ax), .val (.long x0), .second, .val (.long s2), .second, .val (.long s3), .second, .val (.long s4), .second, .unset, .unset, .unset, .unset]) rfl kont) ?_
    show Goes p e below _ T8 (mkF m 125 #[.val (.int p1), .val (.int p2), .val (.int p3), .val (.int p4), .val (.int p5), .val (.int (1 : Int32)), .val (.long x0), .second, .val (.long x1), .second, .val (.long x2), .second, .val (.long x3), .second, .val (.ref ax), .val (.long x0), .second, .val (.long s2), .second, .val (.long s3), .second, .val (.long s4), .second, .unset, .unset, .unset, .unset] [])
    refine Goes.of (fun _ kont => XT.lconst X8.here hx rfl (Jvm.hb hby at_125) kont) ?_
    show Goes p e below _ T8 (mkF m 126 #[.val (.int p1), .val (.int p2), .val (.int p3), .val (.int p4), .val (.int p5), .val (.int (1 : Int32)), .val (.long x0), .second, .val (.long x1), .second, .val (.long x2), .second, .val (.long x3), .second, .val (.ref ax), .val (.long x0), .second, .val (.long s2), .second, .val (.long s3), .second, .val (.long s4), .second, .unset, .unset, .unset, .unset] [(.long (0 : Int64))])
    refine Goes.of (fun _ kont => XT.lstore X8.here hx rfl (Jvm.hb hby at_126) rfl (l' := #[.val (.int p1), .val (.int p2), .val (.int p3), .val (.int p4), .val (.int p5), .val (.int (1 : Int32)), .val (.long x0), .second, .val (.long x1), .second, .val (.long x2), .second, .val (.long x3), .second, .val (.ref ax), .val (.long x0), .second, .val (.long s2), .second, .val (.long s3), .second, .val (.long s4), .second, .val (.long (0 : Int64)), .second, .unset, .unset]) rfl kont) ?_
    show Goes p e below _ T8 (mkF m 128 #[.val (.int p1), .val (.int p2), .val (.int p3), .val (.int p4), .val (.int p5), .val (.int (1 : Int32)), .val (.long x0), .second, .val (.long x1), .second, .val (.long x2), .second, .val (.long x3), .second, .val (.ref ax), .val (.long x0), .second, .val (.long s2), .second, .val (.long s3), .second, .val (.long s4), .second, .val (.long (0 : Int64)), .second, .unset, .unset] [])
    refine Goes.of (fun _ kont => XS.iload X8.here hx rfl (Jvm.hb hby at_128) rfl kont) ?_
    show Goes p e below _ T8 (mkF m 130 #[.val (.int p1), .val (.int p2), .val (.int p3), .val (.int p4), .val (.int p5), .val (.int (1 : Int32)), .val (.long x0), .second, .val (.long x1), .second, .val (.long x2), .second, .val (.long x3), .second, .val (.ref ax), .val (.long x0), .second, .val (.long s2), .second, .val (.long s3), .second, .val (.long s4), .second, .val (.long (0 : Int64)), .second, .unset, .unset] [(.int (1 : Int32))])
    refine Goes.of (fun _ kont => XS.iconst X8.here hx rfl (Jvm.hb hby at_130) kont) ?_
    show Goes p e below _ T8 (mkF m 131 #[.val (.int p1), .val (.int p2), .val (.int p3), .val (.int p4), .val (.int p5), .val (.int (1 : Int32)), .val (.long x0), .second, .val (.long x1), .second, .val (.long x2), .second, .val (.long x3), .second, .val (.ref ax), .val (.long x0), .second, .val (.long s2), .second, .val (.long s3), .second, .val (.long s4), .second, .val (.long (0 : Int64)), .second, .unset, .unset] [(.int (1 : Int32)), (.int (1 : Int32))])
    refine Goes.of (fun _ kont => XS.icmpNo X8.here hx rfl (Jvm.hb hby at_131) rfl (by decide) kont) ?_
    show Goes p e below _ T8 (mkF m 134 #[.val (.int p1), .val (.int p2), .val (.int p3), .val (.int p4), .val (.int p5), .val (.int (1 : Int32)), .val (.long x0), .second, .val (.long x1), .second, .val (.long x2), .second, .val (.long x3), .second, .val (.ref ax), .val (.long x0), .second, .val (.long s2), .second, .val (.long s3), .second, .val (.long s4), .second, .val (.long (0 : Int64)), .second, .unset, .unset] [])
    refine Goes.of (fun _ kont => XT.lload X8.here hx rfl (Jvm.hb hby at_134) rfl kont) ?_
    show Goes p e below _ T8 (mkF m 136 #[.val (.int p1), .val (.int p2), .val (.int p3), .val (.int p4), .val (.int p5), .val (.int (1 : Int32)), .val (.long x0), .second, .val (.long x1), .second, .val (.long x2), .second, .val (.long x3), .second, .val (.ref ax), .val (.long x0), .second, .val (.long s2), .second, .val (.long s3), .second, .val (.long s4), .second, .val (.long (0 : Int64)), .second, .unset, .unset] [(.long (0 : Int64))])
    refine Goes.of (fun _ kont => XT.lload X8.here hx rfl (Jvm.hb hby at_136) rfl kont) ?_
    show Goes p e below _ T8 (mkF m 138 #[.val (.int p1), .val (.int p2), .val (.int p3), .val (.int p4), .val (.int p5), .val (.int (1 : Int32)), .val (.long x0), .second, .val (.long x1), .second, .val (.long x2), .second, .val (.long x3), .second, .val (.ref ax), .val (.long x0), .second, .val (.long s2), .second, .val (.long s3), .second, .val (.long s4), .second, .val (.long (0 : Int64)), .second, .unset, .unset] [(.long x0), (.long (0 : Int64))])
    refine Goes.of (fun _ kont => XT.lload X8.here hx rfl (Jvm.hb hby at_138) rfl kont) ?_
    show Goes p e below _ T8 (mkF m 140 #[.val (.int p1), .val (.int p2), .val (.int p3), .val (.int p4), .val (.int p5), .val (.int (1 : Int32)), .val (.long x0), .second, .val (.long x1), .second, .val (.long x2), .second, .val (.long x3), .second, .val (.ref ax), .val (.long x0), .second, .val (.long s2), .second, .val (.long s3), .second, .val (.long s4), .second, .val (.long (0 : Int64)), .second, .unset, .unset] [(.long x0), (.long x0), (.long (0 : Int64))])
    refine Goes.of (fun _ kont => XT.lmul X8.here hx rfl (Jvm.hb hby at_140) rfl kont) ?_
    show Goes p e below _ T8 (mkF m 141 #[.val (.int p1), .val (.int p2), .val (.int p3), .val (.int p4), .val (.int p5), .val (.int (1 : Int32)), .val (.long x0), .second, .val (.long x1), .second, .val (.long x2), .second, .val (.long x3), .second, .val (.ref ax), .val (.long x0), .second, .val (.long s2), .second, .val (.long s3), .second, .val (.long s4), .second, .val (.long (0 : Int64)), .second, .unset, .unset] [(.long (x0 * x0)), (.long (0 : Int64))])
    refine Goes.of (fun _ kont => XT.ladd X8.here hx rfl (Jvm.hb hby at_141) rfl kont) ?_
    show Goes p e below _ T8 (mkF m 142 #[.val (.int p1), .val (.int p2), .val (.int p3), .val (.int p4), .val (.int p5), .val (.int (1 : Int32)), .val (.long x0), .second, .val (.long x1), .second, .val (.long x2), .second, .val (.long x3), .second, .val (.ref ax), .val (.long x0), .second, .val (.long s2), .second, .val (.long s3), .second, .val (.long s4), .second, .val (.long (0 : Int64)), .second, .unset, .unset] [(.long ((0 : Int64) + (x0 * x0)))])
    generalize hr1 : ((0 : Int64) + (x0 * x0)) = r1
    show Goes p e below _ T8 (mkF m 142 #[.val (.int p1), .val (.int p2), .val (.int p3), .val (.int p4), .val (.int p5), .val (.int (1 : Int32)), .val (.long x0), .second, .val (.long x1), .second, .val (.long x2), .second, .val (.long x3), .second, .val (.ref ax), .val (.long x0), .second, .val (.long s2), .second, .val (.long s3), .second, .val (.long s4), .second, .val (.long (0 : Int64)), .second, .unset, .unset] [(.long r1)])
    have er1 := own_lsq hr1 (by omega) (by omega)
    rw [r0, Int.zero_add] at er1
    refine Goes.of (fun _ kont => XT.lstore X8.here hx rfl (Jvm.hb hby at_142) rfl (l' := #[.val (.int p1), .val (.int p2), .val (.int p3), .val (.int p4), .val (.int p5), .val (.int (1 : Int32)), .val (.long x0), .second, .val (.long x1), .second, .val (.long x2), .second, .val (.long x3), .second, .val (.ref ax), .val (.long x0), .second, .val (.long s2), .second, .val (.long s3), .second, .val (.long s4), .second, .val (.long r1), .second, .unset, .unset]) rfl kont) ?_
    show Goes p e below _ T8 (mkF m 144 #[.val (.int p1), .val (.int p2), .val (.int p3), .val (.int p4), .val (.int p5), .val (.int (1 : Int32)), .val (.long x0), .second, .val (.long x1), .second, .val (.long x2), .second, .val (.long x3), .second, .val (.ref ax), .val (.long x0), .second, .val (.long s2), .second, .val (.long s3), .second, .val (.long s4), .second, .val (.long r1), .second, .unset, .unset] [])
    refine Goes.of (fun _ kont => XS.iload X8.here hx rfl (Jvm.hb hby at_144) rfl kont) ?_
    show Goes p e below _ T8 (mkF m 146 #[.val (.int p1), .val (.int p2), .val (.int p3), .val (.int p4), .val (.int p5), .val (.int (1 : Int32)), .val (.long x0), .second, .val (.long x1), .second, .val (.long x2), .second, .val (.long x3), .second, .val (.ref ax), .val (.long x0), .second, .val (.long s2), .second, .val (.long s3), .second, .val (.long s4), .second, .val (.long r1), .second, .unset, .unset] [(.int (1 : Int32))])
    refine Goes.of (fun _ kont => XS.iconst X8.here hx rfl (Jvm.hb hby at_146) kont) ?_
    show Goes p e below _ T8 (mkF m 147 #[.val (.int p1), .val (.int p2), .val (.int p3), .val (.int p4), .val (.int p5), .val (.int (1 : Int32)), .val (.long x0), .second, .val (.long x1), .second, .val (.long x2), .second, .val (.long x3), .second, .val (.ref ax), .val (.long x0), .second, .val (.long s2), .second, .val (.long s3), .second, .val (.long s4), .second, .val (.long r1), .second, .unset, .unset] [(.int (2 : Int32)), (.int (1 : Int32))])
    refine Goes.of (fun _ kont => XS.icmpYes X8.here hx rfl (pc0 := 147) (pc' := 160) rfl (Jvm.hb hby at_147) rfl (by decide) (by decide) (by decide) kont) ?_
    show Goes p e below _ T8 (mkF m 160 #[.val (.int p1), .val (.int p2), .val (.int p3), .val (.int p4), .val (.int p5), .val (.int (1 : Int32)), .val (.long x0), .second, .val (.long x1), .second, .val (.long x2), .second, .val (.long x3), .second, .val (.ref ax), .val (.long x0), .second, .val (.long s2), .second, .val (.long s3), .second, .val (.long s4), .second, .val (.long r1), .second, .unset, .unset] [])
    refine Goes.of (fun _ kont => XS.iload X8.here hx rfl (Jvm.hb hby at_160) rfl kont) ?_
    show Goes p e below _ T8 (mkF m 162 #[.val (.int p1), .val (.int p2), .val (.int p3), .val (.int p4), .val (.int p5), .val (.int (1 : Int32)), .val (.long x0), .second, .val (.long x1), .second, .val (.long x2), .second, .val (.long x3), .second, .val (.ref ax), .val (.long x0), .second, .val (.long s2), .second, .val (.long s3), .second, .val (.long s4), .second, .val (.long r1), .second, .unset, .unset] [(.int (1 : Int32))])
    refine Goes.of (fun _ kont => XS.iconst X8.here hx rfl (Jvm.hb hby at_162) kont) ?_
    show Goes p e below _ T8 (mkF m 163 #[.val (.int p1), .val (.int p2), .val (.int p3), .val (.int p4), .val (.int p5), .val (.int (1 : Int32)), .val (.long x0), .second, .val (.long x1), .second, .val (.long x2), .second, .val (.long x3), .second, .val (.ref ax), .val (.long x0), .second, .val (.long s2), .second, .val (.long s3), .second, .val (.long s4), .second, .val (.long r1), .second, .unset, .unset] [(.int (3 : Int32)), (.int (1 : Int32))])
    refine Goes.of (fun _ kont => XS.icmpYes X8.here hx rfl (pc0 := 163) (pc' := 176) rfl (Jvm.hb hby at_163) rfl (by decide) (by decide) (by decide) kont) ?_
    show Goes p e below _ T8 (mkF m 176 #[.val (.int p1), .val (.int p2), .val (.int p3), .val (.int p4), .val (.int p5), .val (.int (1 : Int32)), .val (.long x0), .second, .val (.long x1), .second, .val (.long x2), .second, .val (.long x3), .second, .val (.ref ax), .val (.long x0), .second, .val (.long s2), .second, .val (.long s3), .second, .val (.long s4), .second, .val (.long r1), .second, .unset, .unset] [])
    refine Goes.of (fun _ kont => XS.iload X8.here hx rfl (Jvm.hb hby at_176) rfl kont) ?_
    show Goes p e below _ T8 (mkF m 178 #[.val (.int p1), .val (.int p2), .val (.int p3), .val (.int p4), .val (.int p5), .val (.int (1 : Int32)), .val (.long x0), .second, .val (.long x1), .second, .val (.long x2), .second, .val (.long x3), .second, .val (.ref ax), .val (.long x0), .second, .val (.long s2), .second, .val (.long s3), .second, .val (.long s4), .second, .val (.long r1), .second, .unset, .unset] [(.int (1 : Int32))])
    refine Goes.of (fun _ kont => XS.iconst X8.here hx rfl (Jvm.hb hby at_178) kont) ?_
    show Goes p e below _ T8 (mkF m 179 #[.val (.int p1), .val (.int p2), .val (.int p3), .val (.int p4), .val (.int p5), .val (.int (1 : Int32)), .val (.long x0), .second, .val (.long x1), .second, .val (.long x2), .second, .val (.long x3), .second, .val (.ref ax), .val (.long x0), .second, .val (.long s2), .second, .val (.long s3), .second, .val (.long s4), .second, .val (.long r1), .second, .unset, .unset] [(.int (4 : Int32)), (.int (1 : Int32))])
    refine Goes.of (fun _ kont => XS.icmpYes X8.here hx rfl (pc0 := 179) (pc' := 192) rfl (Jvm.hb hby at_179) rfl (by decide) (by decide) (by decide) kont) ?_
    show Goes p e below _ T8 (mkF m 192 #[.val (.int p1), .val (.int p2), .val (.int p3), .val (.int p4), .val (.int p5), .val (.int (1 : Int32)), .val (.long x0), .second, .val (.long x1), .second, .val (.long x2), .second, .val (.long x3), .second, .val (.ref ax), .val (.long x0), .second, .val (.long s2), .second, .val (.long s3), .second, .val (.long s4), .second, .val (.long r1), .second, .unset, .unset] [])
    refine Goes.of (fun _ kont => XS.aload X8.here hx rfl (Jvm.hb hby at_192) rfl rfl kont) ?_
    show Goes p e below _ T8 (mkF m 194 #[.val (.int p1), .val (.int p2), .val (.int p3), .val (.int p4), .val (.int p5), .val (.int (1 : Int32)), .val (.long x0), .second, .val (.long x1), .second, .val (.long x2), .second, .val (.long x3), .second, .val (.ref ax), .val (.long x0), .second, .val (.long s2), .second, .val (.long s3), .second, .val (.long s4), .second, .val (.long r1), .second, .unset, .unset] [(.ref ax)])
    refine callC X8 hx hZ hown (hw _ (List.mem_of_getElem? (i := 6) rfl)) (hw _ (List.mem_of_getElem? (i := 7) rfl)) (hw _ (List.mem_of_getElem? (i := 8) rfl)) (hw _ (List.mem_of_getElem? (i := 9) rfl)) (by decide) (as := [(.ref ax)]) (rm1_1 l Z a0 hw ax (FP.l2d x0) x0.toInt h8 n0 Z8 V_ax_8 D0 b0) 0 (by decide) (by decide) e8 (by decide) (by decide) (g := mkF m 194 #[.val (.int p1), .val (.int p2), .val (.int p3), .val (.int p4), .val (.int p5), .val (.int (1 : Int32)), .val (.long x0), .second, .val (.long x1), .second, .val (.long x2), .second, .val (.long x3), .second, .val (.ref ax), .val (.long x0), .second, .val (.long s2), .second, .val (.long s3), .second, .val (.long s4), .second, .val (.long r1), .second, .unset, .unset] [(.ref ax)]) rfl (by rw [hml]; rfl) (rest := []) (lenOf pd_1 rfl) rfl (by show 2 * 0 + _ ≤ _; exact Nat.le_of_eq rfl) (Jvm.hb hby at_194) ?_
    rintro _ T9 L9 X9 ⟨⟨z9, rfl, Dz9⟩, N9, e9⟩
    show Goes p e below _ T9 (mkF m 197 #[.val (.int p1), .val (.int p2), .val (.int p3), .val (.int p4), .val (.int p5), .val (.int (1 : Int32)), .val (.long x0), .second, .val (.long x1), .second, .val (.long x2), .second, .val (.long x3), .second, .val (.ref ax), .val (.long x0), .second, .val (.long s2), .second, .val (.long s3), .second, .val (.long s4), .second, .val (.long r1), .second, .unset, .unset] [(.double z9)])
    refine Goes.of (fun _ kont => XS.dstore X9.here hx rfl (Jvm.hb hby at_197) rfl (l' := #[.val (.int p1), .val (.int p2), .val (.int p3), .val (.int p4), .val (.int p5), .val (.int (1 : Int32)), .val (.long x0), .second, .val (.long x1), .second, .val (.long x2), .second, .val (.long x3), .second, .val (.ref ax), .val (.long x0), .second, .val (.long s2), .second, .val (.long s3), .second, .val (.long s4), .second, .val (.long r1), .second, .val (.double z9), .second]) rfl kont) ?_
    show Goes p e below _ T9 (mkF m 199 #[.val (.int p1), .val (.int p2), .val (.int p3), .val (.int p4), .val (.int p5), .val (.int (1 : Int32)), .val (.long x0), .second, .val (.long x1), .second, .val (.long x2), .second, .val (.long x3), .second, .val (.ref ax), .val (.long x0), .second, .val (.long s2), .second, .val (.long s3), .second, .val (.long s4), .second, .val (.long r1), .second, .val (.double z9), .second] [])
    refine Goes.of (fun _ kont => XS.dload X9.here hx rfl (Jvm.hb hby at_199) rfl kont) ?_
    show Goes p e below _ T9 (mkF m 201 #[.val (.int p1), .val (.int p2), .val (.int p3), .val (.int p4), .val (.int p5), .val (.int (1 : Int32)), .val (.long x0), .second, .val (.long x1), .second, .val (.long x2), .second, .val (.long x3), .second, .val (.ref ax), .val (.long x0), .second, .val (.long s2), .second, .val (.long s3), .second, .val (.long s4), .second, .val (.long r1), .second, .val (.double z9), .second] [(.double z9)])
    refine Goes.of (fun _ kont => XT.lload X9.here hx rfl (Jvm.hb hby at_201) rfl kont) ?_
    show Goes p e below _ T9 (mkF m 203 #[.val (.int p1), .val (.int p2), .val (.int p3), .val (.int p4), .val (.int p5), .val (.int (1 : Int32)), .val (.long x0), .second, .val (.long x1), .second, .val (.long x2), .second, .val (.long x3), .second, .val (.ref ax), .val (.long x0), .second, .val (.long s2), .second, .val (.long s3), .second, .val (.long s4), .second, .val (.long r1), .second, .val (.double z9), .second] [(.long r1), (.double z9)])
    refine Goes.of (fun _ kont => XS.l2dS X9.here hx rfl (Jvm.hb hby at_203) rfl rfl kont) ?_
    show Goes p e below _ T9 (mkF m 204 #[.val (.int p1), .val (.int p2), .val (.int p3), .val (.int p4), .val (.int p5), .val (.int (1 : Int32)), .val (.long x0), .second, .val (.long x1), .second, .val (.long x2), .second, .val (.long x3), .second, .val (.ref ax), .val (.long x0), .second, .val (.long s2), .second, .val (.long s3), .second, .val (.long s4), .second, .val (.long r1), .second, .val (.double z9), .second] [(.double (FP.l2d r1)), (.double z9)])
    refine Goes.of (fun _ kont => XS.dcmpS X9.here hx rfl (Jvm.hb hby at_204) rfl rfl kont) ?_
    show Goes p e below _ T9 (mkF m 205 #[.val (.int p1), .val (.int p2), .val (.int p3), .val (.int p4), .val (.int p5), .val (.int (1 : Int32)), .val (.long x0), .second, .val (.long x1), .second, .val (.long x2), .second, .val (.long x3), .second, .val (.ref ax), .val (.long x0), .second, .val (.long s2), .second, .val (.long s3), .second, .val (.long s4), .second, .val (.long r1), .second, .val (.double z9), .second] [(.int (cmpValue (FP.dcmp z9 (FP.l2d r1)) .l))])
    have De := dy_l2d (n := r1) (by have := own_sqb (a := x0.toInt) (A := 4194304) (by omega); rw [er1]; omega)
    rw [er1] at De
    refine Goes.of (fun _ kont => XS.ifNo X9.here hx rfl (Jvm.hb hby at_205) rfl (by rw [dy_eq Dz9 De rfl]; decide) kont) ?_
    show Goes p e below _ T9 (mkF m 208 #[.val (.int p1), .val (.int p2), .val (.int p3), .val (.int p4), .val (.int p5), .val (.int (1 : Int32)), .val (.long x0), .second, .val (.long x1), .second, .val (.long x2), .second, .val (.long x3), .second, .val (.ref ax), .val (.long x0), .second, .val (.long s2), .second, .val (.long s3), .second, .val (.long s4), .second, .val (.long r1), .second, .val (.double z9), .second] [])
    refine Goes.of (fun _ kont => XS.iconst X9.here hx rfl (Jvm.hb hby at_208) kont) ?_
    show Goes p e below _ T9 (mkF m 209 #[.val (.int p1), .val (.int p2), .val (.int p3), .val (.int p4), .val (.int p5), .val (.int (1 : Int32)), .val (.long x0), .second, .val (.long x1), .second, .val (.long x2), .second, .val (.long x3), .second, .val (.ref ax), .val (.long x0), .second, .val (.long s2), .second, .val (.long s3), .second, .val (.long s4), .second, .val (.long r1), .second, .val (.double z9), .second] [(.int (1 : Int32))])
    refine Goes.of (fun _ kont => XS.goto X9.here hx rfl (pc0 := 209) (pc' := 213) rfl (Jvm.hb hby at_209) (by decide) (by decide) kont) ?_
    show Goes p e below _ T9 (mkF m 213 #[.val (.int p1), .val (.int p2), .val (.int p3), .val (.int p4), .val (.int p5), .val (.int (1 : Int32)), .val (.long x0), .second, .val (.long x1), .second, .val (.long x2), .second, .val (.long x3), .second, .val (.ref ax), .val (.long x0), .second, .val (.long s2), .second, .val (.long s3), .second, .val (.long s4), .second, .val (.long r1), .second, .val (.double z9), .second] [(.int (1 : Int32))])
    exact retB X9 hx hlk (t := .boolean) hret (by simp) (Jvm.hb hby at_213) (by decide) (by decide) ⟨rfl, Fr.app N8 N9⟩
  · show Goes p e below _ T4 (mkF m 33 #[.val (.int p1), .val (.int p2), .val (.int p3), .val (.int p4), .val (.int p5), .val (.int (2 : Int32)), .val (.long x0), .second, .val (.long x1), .second, .val (.long x2), .second, .val (.long x3), .second, .unset, .unset, .unset, .unset, .unset, .unset, .unset, .unset, .unset, .unset, .unset, .unset, .unset] [])
    refine Goes.of (fun _ kont => XS.iload X4.here hx rfl (Jvm.hb hby at_33) rfl kont) ?_
    show Goes p e below _ T4 (mkF m 35 #[.val (.int p1), .val (.int p2), .val (.int p3), .val (.int p4), .val (.int p5), .val (.int (2 : Int32)), .val (.long x0), .second, .val (.long x1), .second, .val (.long x2), .second, .val (.long x3), .second, .unset, .unset, .unset, .unset, .unset, .unset, .unset, .unset, .unset, .unset, .unset, .unset, .unset] [(.int (2 : Int32))])
    refine goNewD X4 hx hZ (hw _ (List.mem_of_getElem? (i := 5) rfl)) e4 (g := mkF m 35 #[.val (.int p1), .val (.int p2), .val (.int p3), .val (.int p4), .val (.int p5), .val (.int (2 : Int32)), .val (.long x0), .second, .val (.long x1), .second, .val (.long x2), .second, .val (.long x3), .second, .unset, .unset, .unset, .unset, .unset, .unset, .unset, .unset, .unset, .unset, .unset, .unset, .unset] [(.int (2 : Int32))]) rfl (Jvm.hb hby at_35) rfl 2 (by decide) (by decide) (by decide) (by decide) ?_
    intro T10 h10 ax gax X10 e10 E10 V_ax
    have ge_ax : n0 ≤ ax := by rw [gax]; exact Z0
    have Z10 : n0 ≤ h10.size := Nat.le_trans Z0 E10.1
    show Goes p e below _ T10 (mkF m 37 #[.val (.int p1), .val (.int p2), .val (.int p3), .val (.int p4), .val (.int p5), .val (.int (2 : Int32)), .val (.long x0), .second, .val (.long x1), .second, .val (.long x2), .second, .val (.long x3), .second, .unset, .unset, .unset, .unset, .unset, .unset, .unset, .unset, .unset, .unset, .unset, .unset, .unset] [(.ref ax)])
    refine Goes.of (fun _ kont => XS.astore X10.here hx rfl (Jvm.hb hby at_37) rfl rfl (l' := #[.val (.int p1), .val (.int p2), .val (.int p3), .val (.int p4), .val (.int p5), .val (.int (2 : Int32)), .val (.long x0), .second, .val (.long x1), .second, .val (.long x2), .second, .val (.long x3), .second, .val (.ref ax), .unset, .unset, .unset, .unset, .unset, .unset, .unset, .unset, .unset, .unset, .unset, .unset]) rfl kont) ?_
    show Goes p e below _ T10 (mkF m 39 #[.val (.int p1), .val (.int p2), .val (.int p3), .val (.int p4), .val (.int p5), .val (.int (2 : Int32)), .val (.long x0), .second, .val (.long x1), .second, .val (.long x2), .second, .val (.long x3), .second, .val (.ref ax), .unset, .unset, .unset, .unset, .unset, .unset, .unset, .unset, .unset, .unset, .unset, .unset] [])
    refine Goes.of (fun _ kont => XS.iload X10.here hx rfl (Jvm.hb hby at_39) rfl kont) ?_
    show Goes p e below _ T10 (mkF m 41 #[.val (.int p1), .val (.int p2), .val (.int p3), .val (.int p4), .val (.int p5), .val (.int (2 : Int32)), .val (.long x0), .second, .val (.long x1), .second, .val (.long x2), .second, .val (.long x3), .second, .val (.ref ax), .unset, .unset, .unset, .unset, .unset, .unset, .unset, .unset, .unset, .unset, .unset, .unset] [(.int (2 : Int32))])
    refine Goes.of (fun _ kont => XS.iconst X10.here hx rfl (Jvm.hb hby at_41) kont) ?_
    show Goes p e below _ T10 (mkF m 42 #[.val (.int p1), .val (.int p2), .val (.int p3), .val (.int p4), .val (.int p5), .val (.int (2 : Int32)), .val (.long x0), .second, .val (.long x1), .second, .val (.long x2), .second, .val (.long x3), .second, .val (.ref ax), .unset, .unset, .unset, .unset, .unset, .unset, .unset, .unset, .unset, .unset, .unset, .unset] [(.int (1 : Int32)), (.int (2 : Int32))])
    refine Goes.of (fun _ kont => XS.icmpNo X10.here hx rfl (Jvm.hb hby at_42) rfl (by decide) kont) ?_
    show Goes p e below _ T10 (mkF m 45 #[.val (.int p1), .val (.int p2), .val (.int p3), .val (.int p4), .val (.int p5), .val (.int (2 : Int32)), .val (.long x0), .second, .val (.long x1), .second, .val (.long x2), .second, .val (.long x3), .second, .val (.ref ax), .unset, .unset, .unset, .unset, .unset, .unset, .unset, .unset, .unset, .unset, .unset, .unset] [])
    refine Goes.of (fun _ kont => XS.aload X10.here hx rfl (Jvm.hb hby at_45) rfl rfl kont) ?_
    show Goes p e below _ T10 (mkF m 47 #[.val (.int p1), .val (.int p2), .val (.int p3), .val (.int p4), .val (.int p5), .val (.int (2 : Int32)), .val (.long x0), .second, .val (.long x1), .second, .val (.long x2), .second, .val (.long x3), .second, .val (.ref ax), .unset, .unset, .unset, .unset, .unset, .unset, .unset, .unset, .unset, .unset, .unset, .unset] [(.ref ax)])
    refine Goes.of (fun _ kont => XS.iconst X10.here hx rfl (Jvm.hb hby at_47) kont) ?_
    show Goes p e below _ T10 (mkF m 48 #[.val (.int p1), .val (.int p2), .val (.int p3), .val (.int p4), .val (.int p5), .val (.int (2 : Int32)), .val (.long x0), .second, .val (.long x1), .second, .val (.long x2), .second, .val (.long x3), .second, .val (.ref ax), .unset, .unset, .unset, .unset, .unset, .unset, .unset, .unset, .unset, .unset, .unset, .unset] [(.int (0 : Int32)), (.ref ax)])
    refine Goes.of (fun _ kont => XT.lload X10.here hx rfl (Jvm.hb hby at_48) rfl kont) ?_
    show Goes p e below _ T10 (mkF m 50 #[.val (.int p1), .val (.int p2), .val (.int p3), .val (.int p4), .val (.int p5), .val (.int (2 : Int32)), .val (.long x0), .second, .val (.long x1), .second, .val (.long x2), .second, .val (.long x3), .second, .val (.ref ax), .unset, .unset, .unset, .unset, .unset, .unset, .unset, .unset, .unset, .unset, .unset, .unset] [(.long x0), (.int (0 : Int32)), (.ref ax)])
    refine Goes.of (fun _ kont => XS.l2dS X10.here hx rfl (Jvm.hb hby at_50) rfl rfl kont) ?_
    show Goes p e below _ T10 (mkF m 51 #[.val (.int p1), .val (.int p2), .val (.int p3), .val (.int p4), .val (.int p5), .val (.int (2 : Int32)), .val (.long x0), .second, .val (.long x1), .second, .val (.long x2), .second, .val (.long x3), .second, .val (.ref ax), .unset, .unset, .unset, .unset, .unset, .unset, .unset, .unset, .unset, .unset, .unset, .unset] [(.double (FP.l2d x0)), (.int (0 : Int32)), (.ref ax)])
    refine goStD X10 hx hZ e10 V_ax 0 (by decide) (by show 0 < 2; decide) (g := (mkF m 51 #[.val (.int p1), .val (.int p2), .val (.int p3), .val (.int p4), .val (.int p5), .val (.int (2 : Int32)), .val (.long x0), .second, .val (.long x1), .second, .val (.long x2), .second, .val (.long x3), .second, .val (.ref ax), .unset, .unset, .unset, .unset, .unset, .unset, .unset, .unset, .unset, .unset, .unset, .unset] [(.double (FP.l2d x0)), (.int (0 : Int32)), (.ref ax)])) rfl rfl (Jvm.hb hby at_51) NN ge_ax ?_
    intro T11 h11 L11 X11 e11 N11 K11 V_ax_11
    replace V_ax_11 : DA Z h11 ax [(FP.l2d x0), 0] := V_ax_11
    have Z11 : n0 ≤ h11.size := Nat.le_trans ge_ax (Nat.le_of_lt V_ax_11.lt)
    show Goes p e below _ T11 (mkF m 52 #[.val (.int p1), .val (.int p2), .val (.int p3), .val (.int p4), .val (.int p5), .val (.int (2 : Int32)), .val (.long x0), .second, .val (.long x1), .second, .val (.long x2), .second, .val (.long x3), .second, .val (.ref ax), .unset, .unset, .unset, .unset, .unset, .unset, .unset, .unset, .unset, .unset, .unset, .unset] [])
    refine Goes.of (fun _ kont => XS.iload X11.here hx rfl (Jvm.hb hby at_52) rfl kont) ?_
    show Goes p e below _ T11 (mkF m 54 #[.val (.int p1), .val (.int p2), .val (.int p3), .val (.int p4), .val (.int p5), .val (.int (2 : Int32)), .val (.long x0), .second, .val (.long x1), .second, .val (.long x2), .second, .val (.long x3), .second, .val (.ref ax), .unset, .unset, .unset, .unset, .unset, .unset, .unset, .unset, .unset, .unset, .unset, .unset] [(.int (2 : Int32))])
    refine Goes.of (fun _ kont => XS.iconst X11.here hx rfl (Jvm.hb hby at_54) kont) ?_
    show Goes p e below _ T11 (mkF m 55 #[.val (.int p1), .val (.int p2), .val (.int p3), .val (.int p4), .val (.int p5), .val (.int (2 : Int32)), .val (.long x0), .second, .val (.long x1), .second, .val (.long x2), .second, .val (.long x3), .second, .val (.ref ax), .unset, .unset, .unset, .unset, .unset, .unset, .unset, .unset, .unset, .unset, .unset, .unset] [(.int (2 : Int32)), (.int (2 : Int32))])
    refine Goes.of (fun _ kont => XS.icmpNo X11.here hx rfl (Jvm.hb hby at_55) rfl (by decide) kont) ?_
    show Goes p e below _ T11 (mkF m 58 #[.val (.int p1), .val (.int p2), .val (.int p3), .val (.int p4), .val (.int p5), .val (.int (2 : Int32)), .val (.long x0), .second, .val (.long x1), .second, .val (.long x2), .second, .val (.long x3), .second, .val (.ref ax), .unset, .unset, .unset, .unset, .unset, .unset, .unset, .unset, .unset, .unset, .unset, .unset] [])
    refine Goes.of (fun _ kont => XS.aload X11.here hx rfl (Jvm.hb hby at_58) rfl rfl kont) ?_
    show Goes p e below _ T11 (mkF m 60 #[.val (.int p1), .val (.int p2), .val (.int p3), .val (.int p4), .val (.int p5), .val (.int (2 : Int32)), .val (.long x0), .second, .val (.long x1), .second, .val (.long x2), .second, .val (.long x3), .second, .val (.ref ax), .unset, .unset, .unset, .unset, .unset, .unset, .unset, .unset, .unset, .unset, .unset, .unset] [(.ref ax)])
    refine Goes.of (fun _ kont => XS.iconst X11.here hx rfl (Jvm.hb hby at_60) kont) ?_
    show Goes p e below _ T11 (mkF m 61 #[.val (.int p1), .val (.int p2), .val (.int p3), .val (.int p4), .val (.int p5), .val (.int (2 : Int32)), .val (.long x0), .second, .val (.long x1), .second, .val (.long x2), .second, .val (.long x3), .second, .val (.ref ax), .unset, .unset, .unset, .unset, .unset, .unset, .unset, .unset, .unset, .unset, .unset, .unset] [(.int (1 : Int32)), (.ref ax)])
    refine Goes.of (fun _ kont => XT.lload X11.here hx rfl (Jvm.hb hby at_61) rfl kont) ?_
    show Goes p e below _ T11 (mkF m 63 #[.val (.int p1), .val (.int p2), .val (.int p3), .val (.int p4), .val (.int p5), .val (.int (2 : Int32)), .val (.long x0), .second, .val (.long x1), .second, .val (.long x2), .second, .val (.long x3), .second, .val (.ref ax), .unset, .unset, .unset, .unset, .unset, .unset, .unset, .unset, .unset, .unset, .unset, .unset] [(.long x1), (.int (1 : Int32)), (.ref ax)])
    refine Goes.of (fun _ kont => XS.l2dS X11.here hx rfl (Jvm.hb hby at_63) rfl rfl kont) ?_
    show Goes p e below _ T11 (mkF m 64 #[.val (.int p1), .val (.int p2), .val (.int p3), .val (.int p4), .val (.int p5), .val (.int (2 : Int32)), .val (.long x0), .second, .val (.long x1), .second, .val (.long x2), .second, .val (.long x3), .second, .val (.ref ax), .unset, .unset, .unset, .unset, .unset, .unset, .unset, .unset, .unset, .unset, .unset, .unset] [(.double (FP.l2d x1)), (.int (1 : Int32)), (.ref ax)])
    refine goStD X11 hx hZ e11 V_ax_11 1 (by decide) (by show 1 < 2; decide) (g := (mkF m 64 #[.val (.int p1), .val (.int p2), .val (.int p3), .val (.int p4), .val (.int p5), .val (.int (2 : Int32)), .val (.long x0), .second, .val (.long x1), .second, .val (.long x2), .second, .val (.long x3), .second, .val (.ref ax), .unset, .unset, .unset, .unset, .unset, .unset, .unset, .unset, .unset, .unset, .unset, .unset] [(.double (FP.l2d x1)), (.int (1 : Int32)), (.ref ax)])) rfl rfl (Jvm.hb hby at_64) N11 ge_ax ?_
    intro T12 h12 L12 X12 e12 N12 K12 V_ax_12
    replace V_ax_12 : DA Z h12 ax [(FP.l2d x0), (FP.l2d x1)] := V_ax_12
    have Z12 : n0 ≤ h12.size := Nat.le_trans ge_ax (Nat.le_of_lt V_ax_12.lt)
    show Goes p e below _ T12 (mkF m 65 #[.val (.int p1), .val (.int p2), .val (.int p3), .val (.int p4), .val (.int p5), .val (.int (2 : Int32)), .val (.long x0), .second, .val (.long x1), .second, .val (.long x2), .second, .val (.long x3), .second, .val (.ref ax), .unset, .unset, .unset, .unset, .unset, .unset, .unset, .unset, .unset, .unset, .unset, .unset] [])
    refine Goes.of (fun _ kont => XS.iload X12.here hx rfl (Jvm.hb hby at_65) rfl kont) ?_
    show Goes p e below _ T12 (mkF m 67 #[.val (.int p1), .val (.int p2), .val (.int p3), .val (.int p4), .val (.int p5), .val (.int (2 : Int32)), .val (.long x0), .second, .val (.long x1), .second, .val (.long x2), .second, .val (.long x3), .second, .val (.ref ax), .unset, .unset, .unset, .unset, .unset, .unset, .unset, .unset, .unset, .unset, .unset, .unset] [(.int (2 : Int32))])
    refine Goes.of (fun _ kont => XS.iconst X12.here hx rfl (Jvm.hb hby at_67) kont) ?_
    show Goes p e below _ T12 (mkF m 68 #[.val (.int p1), .val (.int p2), .val (.int p3), .val (.int p4), .val (.int p5), .val (.int (2 : Int32)), .val (.long x0), .second, .val (.long x1), .second, .val (.long x2), .second, .val (.long x3), .second, .val (.ref ax), .unset, .unset, .unset, .unset, .unset, .unset, .unset, .unset, .unset, .unset, .unset, .unset] [(.int (3 : Int32)), (.int (2 : Int32))])
    refine Goes.of (fun _ kont => XS.icmpYes X12.here hx rfl (pc0 := 68) (pc' := 78) rfl (Jvm.hb hby at_68) rfl (by decide) (by decide) (by decide) kont) ?_
    show Goes p e below _ T12 (mkF m 78 #[.val (.int p1), .val (.int p2), .val (.int p3), .val (.int p4), .val (.int p5), .val (.int (2 : Int32)), .val (.long x0), .second, .val (.long x1), .second, .val (.long x2), .second, .val (.long x3), .second, .val (.ref ax), .unset, .unset, .unset, .unset, .unset, .unset, .unset, .unset, .unset, .unset, .unset, .unset] [])
    refine Goes.of (fun _ kont => XS.iload X12.here hx rfl (Jvm.hb hby at_78) rfl kont) ?_
    show Goes p e below _ T12 (mkF m 80 #[.val (.int p1), .val (.int p2), .val (.int p3), .val (.int p4), .val (.int p5), .val (.int (2 : Int32)), .val (.long x0), .second, .val (.long x1), .second, .val (.long x2), .second, .val (.long x3), .second, .val (.ref ax), .unset, .unset, .unset, .unset, .unset, .unset, .unset, .unset, .unset, .unset, .unset, .unset] [(.int (2 : Int32))])
    refine Goes.of (fun _ kont => XS.iconst X12.here hx rfl (Jvm.hb hby at_80) kont) ?_
    show Goes p e below _ T12 (mkF m 81 #[.val (.int p1), .val (.int p2), .val (.int p3), .val (.int p4), .val (.int p5), .val (.int (2 : Int32)), .val (.long x0), .second, .val (.long x1), .second, .val (.long x2), .second, .val (.long x3), .second, .val (.ref ax), .unset, .unset, .unset, .unset, .unset, .unset, .unset, .unset, .unset, .unset, .unset, .unset] [(.int (4 : Int32)), (.int (2 : Int32))])
    refine Goes.of (fun _ kont => XS.icmpYes X12.here hx rfl (pc0 := 81) (pc' := 91) rfl (Jvm.hb hby at_81) rfl (by decide) (by decide) (by decide) kont) ?_
    show Goes p e below _ T12 (mkF m 91 #[.val (.int p1), .val (.int p2), .val (.int p3), .val (.int p4), .val (.int p5), .val (.int (2 : Int32)), .val (.long x0), .second, .val (.long x1), .second, .val (.long x2), .second, .val (.long x3), .second, .val (.ref ax), .unset, .unset, .unset, .unset, .unset, .unset, .unset, .unset, .unset, .unset, .unset, .unset] [])
    have f2 := own_ladd (rfl : x0 + x1 = x0 + x1) (by omega) (by omega)
    have f3 := own_ladd (rfl : x0 + x1 + x2 = x0 + x1 + x2) (by rw [f2]; omega) (by omega)
    rw [f2] at f3
    have f4 := own_ladd (rfl : x0 + x1 + x2 + x3 = x0 + x1 + x2 + x3) (by rw [f3]; omega) (by omega)
    rw [f3] at f4
    refine Goes.of (fun _ kont => XT.lload X12.here hx rfl (Jvm.hb hby at_91) rfl kont) ?_
    show Goes p e below _ T12 (mkF m 93 #[.val (.int p1), .val (.int p2), .val (.int p3), .val (.int p4), .val (.int p5), .val (.int (2 : Int32)), .val (.long x0), .second, .val (.long x1), .second, .val (.long x2), .second, .val (.long x3), .second, .val (.ref ax), .unset, .unset, .unset, .unset, .unset, .unset, .unset, .unset, .unset, .unset, .unset, .unset] [(.long x0)])
    refine Goes.of (fun _ kont => XT.lstore X12.here hx rfl (Jvm.hb hby at_93) rfl (l' := #[.val (.int p1), .val (.int p2), .val (.int p3), .val (.int p4), .val (.int p5), .val (.int (2 : Int32)), .val (.long x0), .second, .val (.long x1), .second, .val (.long x2), .second, .val (.long x3), .second, .val (.ref ax), .val (.long x0), .second, .unset, .unset, .unset, .unset, .unset, .unset, .unset, .unset, .unset, .unset]) rfl kont) ?_
    show Goes p e below _ T12 (mkF m 95 #[.val (.int p1), .val (.int p2), .val (.int p3), .val (.int p4), .val (.int p5), .val (.int (2 : Int32)), .val (.long x0), .second, .val (.long x1), .second, .val (.long x2), .second, .val (.long x3), .second, .val (.ref ax), .val (.long x0), .second, .unset, .unset, .unset, .unset, .unset, .unset, .unset, .unset, .unset, .unset] [])
    refine Goes.of (fun _ kont => XT.lload X12.here hx rfl (Jvm.hb hby at_95) rfl kont) ?_
    show Goes p e below _ T12 (mkF m 97 #[.val (.int p1), .val (.int p2), .val (.int p3), .val (.int p4), .val (.int p5), .val (.int (2 : Int32)), .val (.long x0), .second, .val (.long x1), .second, .val (.long x2), .second, .val (.long x3), .second, .val (.ref ax), .val (.long x0), .second, .unset, .unset, .unset, .unset, .unset, .unset, .unset, .unset, .unset, .unset] [(.long x0)])
    refine Goes.of (fun _ kont => XT.lload X12.here hx rfl (Jvm.hb hby at_97) rfl kont) ?_
    show Goes p e below _ T12 (mkF m 99 #[.val (.int p1), .val (.int p2), .val (.int p3), .val (.int p4), .val (.int p5), .val (.int (2 : Int32)), .val (.long x0), .second, .val (.long x1), .second, .val (.long x2), .second, .val (.long x3), .second, .val (.ref ax), .val (.long x0), .second, .unset, .unset, .unset, .unset, .unset, .unset, .unset, .unset, .unset, .unset] [(.long x1), (.long x0)])
    refine Goes.of (fun _ kont => XT.ladd X12.here hx rfl (Jvm.hb hby at_99) rfl kont) ?_
    show Goes p e below _ T12 (mkF m 100 #[.val (.int p1), .val (.int p2), .val (.int p3), .val (.int p4), .val (.int p5), .val (.int (2 : Int32)), .val (.long x0), .second, .val (.long x1), .second, .val (.long x2), .second, .val (.long x3), .second, .val (.ref ax), .val (.long x0), .second, .unset, .unset, .unset, .unset, .unset, .unset, .unset, .unset, .unset, .unset] [(.long (x0 + x1))])
    generalize hs2 : (x0 + x1) = s2
    show Goes p e below _ T12 (mkF m 100 #[.val (.int p1), .val (.int p2), .val (.int p3), .val (.int p4), .val (.int p5), .val (.int (2 : Int32)), .val (.long x0), .second, .val (.long x1), .second, .val (.long x2), .second, .val (.long x3), .second, .val (.ref ax), .val (.long x0), .second, .unset, .unset, .unset, .unset, .unset, .unset, .unset, .unset, .unset, .unset] [(.long s2)])
    refine Goes.of (fun _ kont => XT.lstore X12.here hx rfl (Jvm.hb hby at_100) rfl (l' := #[.val (.int p1), .val (.int p2), .val (.int p3), .val (.int p4), .val (.int p5), .val (.int (2 : Int32)), .val (.long x0), .second, .val (.long x1), .second, .val (.long x2), .second, .val (.long x3), .second, .val (.ref ax), .val (.long x0), .second, .val (.long s2), .second, .unset, .unset, .unset, .unset, .unset, .unset, .unset, .unset]) rfl kont) ?_
    show Goes p e below _ T12 (mkF m 102 #[.val (.int p1), .val (.int p2), .val (.int p3), .val (.int p4), .val (.int p5), .val (.int (2 : Int32)), .val (.long x0), .second, .val (.long x1), .second, .val (.long x2), .second, .val (.long x3), .second, .val (.ref ax), .val (.long x0), .second, .val (.long s2), .second, .unset, .unset, .unset, .unset, .unset, .unset, .unset, .unset] [])
    refine Goes.of (fun _ kont => XT.lload X12.here hx rfl (Jvm.hb hby at_102) rfl kont) ?_
    show Goes p e below _ T12 (mkF m 104 #[.val (.int p1), .val (.int p2), .val (.int p3), .val (.int p4), .val (.int p5), .val (.int (2 : Int32)), .val (.long x0), .second, .val (.long x1), .second, .val (.long x2), .second, .val (.long x3), .second, .val (.ref ax), .val (.long x0), .second, .val (.long s2), .second, .unset, .unset, .unset, .unset, .unset, .unset, .unset, .unset] [(.long x0)])
    refine Goes.of (fun _ kont => XT.lload X12.here hx rfl (Jvm.hb hby at_104) rfl kont) ?_
    show Goes p e below _ T12 (mkF m 106 #[.val (.int p1), .val (.int p2), .val (.int p3), .val (.int p4), .val (.int p5), .val (.int (2 : Int32)), .val (.long x0), .second, .val (.long x1), .second, .val (.long x2), .second, .val (.long x3), .second, .val (.ref ax), .val (.long x0), .second, .val (.long s2), .second, .unset, .unset, .unset, .unset, .unset, .unset, .unset, .unset] [(.long x1), (.long x0)])
    refine Goes.of (fun _ kont => XT.ladd X12.here hx rfl (Jvm.hb hby at_106) rfl kont) ?_
    show Goes p e below _ T12 (mkF m 107 #[.val (.int p1), .val (.int p2), .val (.int p3), .val (.int p4), .val (.int p5), .val (.int (2 : Int32)), .val (.long x0), .second, .val (.long x1), .second, .val (.long x2), .second, .val (.long x3), .second, .val (.ref ax), .val (.long x0), .second, .val (.long s2), .second, .unset, .unset, .unset, .unset, .unset, .unset, .unset, .unset] [(.long (x0 + x1))])
    refine Goes.of (fun _ kont => XT.lload X12.here hx rfl (Jvm.hb hby at_107) rfl kont) ?_
    show Goes p e below _ T12 (mkF m 109 #[.val (.int p1), .val (.int p2), .val (.int p3), .val (.int p4), .val (.int p5), .val (.int (2 : Int32)), .val (.long x0), .second, .val (.long x1), .second, .val (.long x2), .second, .val (.long x3), .second, .val (.ref ax), .val (.long x0), .second, .val (.long s2), .second, .unset, .unset, .unset, .unset, .unset, .unset, .unset, .unset] [(.long x2), (.long (x0 + x1))])
    refine Goes.of (fun _ kont => XT.ladd X12.here hx rfl (Jvm.hb hby at_109) rfl kont) ?_
    show Goes p e below _ T12 (mkF m 110 #[.val (.int p1), .val (.int p2), .val (.int p3), .val (.int p4), .val (.int p5), .val (.int (2 : Int32)), .val (.long x0), .second, .val (.long x1), .second, .val (.long x2), .second, .val (.long x3), .second, .val (.ref ax), .val (.long x0), .second, .val (.long s2), .second, .unset, .unset, .unset, .unset, .unset, .unset, .unset, .unset] [(.long ((x0 + x1) + x2))])
    generalize hs3 : ((x0 + x1) + x2) = s3
    show Goes p e below _ T12 (mkF m 110 #[.val (.int p1), .val (.int p2), .val (.int p3), .val (.int p4), .val (.int p5), .val (.int (2 : Int32)), .val (.long x0), .second, .val (.long x1), .second, .val (.long x2), .second, .val (.long x3), .second, .val (.ref ax), .val (.long x0), .second, .val (.long s2), .second, .unset, .unset, .unset, .unset, .unset, .unset, .unset, .unset] [(.long s3)])
    refine Goes.of (fun _ kont => XT.lstore X12.here hx rfl (Jvm.hb hby at_110) rfl (l' := #[.val (.int p1), .val (.int p2), .val (.int p3), .val (.int p4), .val (.int p5), .val (.int (2 : Int32)), .val (.long x0), .second, .val (.long x1), .second, .val (.long x2), .second, .val (.long x3), .second, .val (.ref ax), .val (.long x0), .second, .val (.long s2), .second, .val (.long s3), .second, .unset, .unset, .unset, .unset, .unset, .unset]) rfl kont) ?_
    show Goes p e below _ T12 (mkF m 112 #[.val (.int p1), .val (.int p2), .val (.int p3), .val (.int p4), .val (.int p5), .val (.int (2 : Int32)), .val (.long x0), .second, .val (.long x1), .second, .val (.long x2), .second, .val (.long x3), .second, .val (.ref ax), .val (.long x0), .second, .val (.long s2), .second, .val (.long s3), .second, .unset, .unset, .unset, .unset, .unset, .unset] [])
    refine Goes.of (fun _ kont => XT.lload X12.here hx rfl (Jvm.hb hby at_112) rfl kont) ?_
    show Goes p e below _ T12 (mkF m 114 #[.val (.int p1), .val (.int p2), .val (.int p3), .val (.int p4), .val (.int p5), .val (.int (2 : Int32)), .val (.long x0), .second, .val (.long x1), .second, .val (.long x2), .second, .val (.long x3), .second, .val (.ref ax), .val (.long x0), .second, .val (.long s2), .second, .val (.long s3), .second, .unset, .unset, .unset, .unset, .unset, .unset] [(.long x0)])
    refine Goes.of (fun _ kont => XT.lload X12.here hx rfl (Jvm.hb hby at_114) rfl kont) ?_
    show Goes p e below _ T12 (mkF m 116 #[.val (.int p1), .val (.int p2), .val (.int p3), .val (.int p4), .val (.int p5), .val (.int (2 : Int32)), .val (.long x0), .second, .val (.long x1), .second, .val (.long x2), .second, .val (.long x3), .second, .val (.ref ax), .val (.long x0), .second, .val (.long s2), .second, .val (.long s3), .second, .unset, .unset, .unset, .unset, .unset, .unset] [(.long x1), (.long x0)])
    refine Goes.of (fun _ kont => XT.ladd X12.here hx rfl (Jvm.hb hby at_116) rfl kont) ?_
    show Goes p e below _ T12 (mkF m 117 #[.val (.int p1), .val (.int p2), .val (.int p3), .val (.int p4), .val (.int p5), .val (.int (2 : Int32)), .val (.long x0), .second, .val (.long x1), .second, .val (.long x2), .second, .val (.long x3), .second, .val (.ref ax), .val (.long x0), .second, .val (.long s2), .second, .val (.long s3), .second, .unset, .unset, .unset, .unset, .unset, .unset] [(.long (x0 + x1))])
    refine Goes.of (fun _ kont => XT.lload X12.here hx rfl (Jvm.hb hby at_117) rfl kont) ?_
    show Goes p e below _ T12 (mkF m 119 #[.val (.int p1), .val (.int p2), .val (.int p3), .val (.int p4), .val (.int p5), .val (.int (2 : Int32)), .val (.long x0), .second, .val (.long x1), .second, .val (.long x2), .second, .val (.long x3), .second, .val (.ref ax), .val (.long x0), .second, .val (.long s2), .second, .val (.long s3), .second, .unset, .unset, .unset, .unset, .unset, .unset] [(.long x2), (.long (x0 + x1))])
    refine Goes.of (fun _ kont => XT.ladd X12.here hx rfl (Jvm.hb hby at_119) rfl kont) ?_
    show Goes p e below _ T12 (mkF m 120 #[.val (.int p1), .val (.int p2), .val (.int p3), .val (.int p4), .val (.int p5), .val (.int (2 : Int32)), .val (.long x0), .second, .val (.long x1), .second, .val (.long x2), .second, .val (.long x3), .second, .val (.ref ax), .val (.long x0), .second, .val (.long s2), .second, .val (.long s3), .second, .unset, .unset, .unset, .unset, .unset, .unset] [(.long ((x0 + x1) + x2))])
    refine Goes.of (fun _ kont => XT.lload X12.here hx rfl (Jvm.hb hby at_120) rfl kont) ?_
    show Goes p e below _ T12 (mkF m 122 #[.val (.int p1), .val (.int p2), .val (.int p3), .val (.int p4), .val (.int p5), .val (.int (2 : Int32)), .val (.long x0), .second, .val (.long x1), .second, .val (.long x2), .second, .val (.long x3), .second, .val (.ref ax), .val (.long x0), .second, .val (.long s2), .second, .val (.long s3), .second, .unset, .unset, .unset, .unset, .unset, .unset] [(.long x3), (.long ((x0 + x1) + x2))])
    refine Goes.of (fun _ kont => XT.ladd X12.here hx rfl (Jvm.hb hby at_122) rfl kont) ?_
    show Goes p e below _ T12 (mkF m 123 #[.val (.int p1), .val (.int p2), .val (.int p3), .val (.int p4), .val (.int p5), .val (.int (2 : Int32)), .val (.long x0), .second, .val (.long x1), .second, .val (.long x2), .second, .val (.long x3), .second, .val (.ref ax), .val (.long x0), .second, .val (.long s2), .second, .val (.long s3), .second, .unset, .unset, .unset, .unset, .unset, .unset] [(.long (((x0 + x1) + x2) + x3))])
    generalize hs4 : (((x0 + x1) + x2) + x3) = s4
    show Goes p e below _ T12 (mkF m 123 #[.val (.int p1), .val (.int p2), .val (.int p3), .val (.int p4), .val (.int p5), .val (.int (2 : Int32)), .val (.long x0), .second, .val (.long x1), .second, .val (.long x2), .second, .val (.long x3), .second, .val (.ref ax), .val (.long x0), .second, .val (.long s2), .second, .val (.long s3), .second, .unset, .unset, .unset, .unset, .unset, .unset] [(.long s4)])
    have e2 := hs2 ▸ f2
    have e3 := hs3 ▸ f3
    have e4 := hs4 ▸ f4
    have r0 : (0 : Int64).toInt = 0 := by decide
    refine Goes.of (fun _ kont => XT.lstore X12.here hx rfl (Jvm.hb hby at_123) rfl (l' := #[.val (.int p1), .val (.int p2), .val (.int p3), .val (.int p4), .val (.int p5), .val (.int (2 : Int32)), .val (.long x0), .second, .val (.long x1), .second, .val (.long x2), .second, .val (.long x3), .second, .val (.ref ax), .val (.long x0), .second, .val (.long s2), .second, .val (.long s3), .second, .val (.long s4), .second, .unset, .unset, .unset, .unset]) rfl kont) ?_
    show Goes p e below _ T12 (mkF m 125 #[.val (.int p1), .val (.int p2), .val (.int p3), .val (.int p4), .val (.int p5), .val (.int (2 : Int32)), .val (.long x0), .second, .val (.long x1), .second, .val (.long x2), .second, .val (.long x3), .second, .val (.ref ax), .val (.long x0), .second, .val (.long s2), .second, .val (.long s3), .second, .val (.long s4), .second, .unset, .unset, .unset, .unset] [])
    refine Goes.of (fun _ kont => XT.lconst X12.here hx rfl (Jvm.hb hby at_125) kont) ?_
    show Goes p e below _ T12 (mkF m 126 #[.val (.int p1), .val (.int p2), .val (.int p3), .val (.int p4), .val (.int p5), .val (.int (2 : Int32)), .val (.long x0), .second, .val (.long x1), .second, .val (.long x2), .second, .val (.long x3), .second, .val (.ref ax), .val (.long x0), .second, .val (.long s2), .second, .val (.long s3), .second, .val (.long s4), .second, .unset, .unset, .unset, .unset] [(.long (0 : Int64))])
    refine Goes.of (fun _ kont => XT.lstore X12.here hx rfl (Jvm.hb hby at_126) rfl (l' := #[.val (.int p1), .val (.int p2), .val (.int p3), .val (.int p4), .val (.int p5), .val (.int (2 : Int32)), .val (.long x0), .second, .val (.long x1), .second, .val (.long x2), .second, .val (.long x3), .second, .val (.ref ax), .val (.long x0), .second, .val (.long s2), .second, .val (.long s3), .second, .val (.long s4), .second, .val (.long (0 : Int64)), .second, .unset, .unset]) rfl kont) ?_
    show Goes p e below _ T12 (mkF m 128 #[.val (.int p1), .val (.int p2), .val (.int p3), .val (.int p4), .val (.int p5), .val (.int (2 : Int32)), .val (.long x0), .second, .val (.long x1), .second, .val (.long x2), .second, .val (.long x3), .second, .val (.ref ax), .val (.long x0), .second, .val (.long s2), .second, .val (.long s3), .second, .val (.long s4), .second, .val (.long (0 : Int64)), .second, .unset, .unset] [])
    refine Goes.of (fun _ kont => XS.iload X12.here hx rfl (Jvm.hb hby at_128) rfl kont) ?_
    show Goes p e below _ T12 (mkF m 130 #[.val (.int p1), .val (.int p2), .val (.int p3), .val (.int p4), .val (.int p5), .val (.int (2 : Int32)), .val (.long x0), .second, .val (.long x1), .second, .val (.long x2), .second, .val (.long x3), .second, .val (.ref ax), .val (.long x0), .second, .val (.long s2), .second, .val (.long s3), .second, .val (.long s4), .second, .val (.long (0 : Int64)), .second, .unset, .unset] [(.int (2 : Int32))])
    refine Goes.of (fun _ kont => XS.iconst X12.here hx rfl (Jvm.hb hby at_130) kont) ?_
    show Goes p e below _ T12 (mkF m 131 #[.val (.int p1), .val (.int p2), .val (.int p3), .val (.int p4), .val (.int p5), .val (.int (2 : Int32)), .val (.long x0), .second, .val (.long x1), .second, .val (.long x2), .second, .val (.long x3), .second, .val (.ref ax), .val (.long x0), .second, .val (.long s2), .second, .val (.long s3), .second, .val (.long s4), .second, .val (.long (0 : Int64)), .second, .unset, .unset] [(.int (1 : Int32)), (.int (2 : Int32))])
    refine Goes.of (fun _ kont => XS.icmpNo X12.here hx rfl (Jvm.hb hby at_131) rfl (by decide) kont) ?_
    show Goes p e below _ T12 (mkF m 134 #[.val (.int p1), .val (.int p2), .val (.int p3), .val (.int p4), .val (.int p5), .val (.int (2 : Int32)), .val (.long x0), .second, .val (.long x1), .second, .val (.long x2), .second, .val (.long x3), .second, .val (.ref ax), .val (.long x0), .second, .val (.long s2), .second, .val (.long s3), .second, .val (.long s4), .second, .val (.long (0 : Int64)), .second, .unset, .unset] [])
    refine Goes.of (fun _ kont => XT.lload X12.here hx rfl (Jvm.hb hby at_134) rfl kont) ?_
    show Goes p e below _ T12 (mkF m 136 #[.val (.int p1), .val (.int p2), .val (.int p3), .val (.int p4), .val (.int p5), .val (.int (2 : Int32)), .val (.long x0), .second, .val (.long x1), .second, .val (.long x2), .second, .val (.long x3), .second, .val (.ref ax), .val (.long x0), .second, .val (.long s2), .second, .val (.long s3), .second, .val (.long s4), .second, .val (.long (0 : Int64)), .second, .unset, .unset] [(.long (0 : Int64))])
    refine Goes.of (fun _ kont => XT.lload X12.here hx rfl (Jvm.hb hby at_136) rfl kont) ?_
    show Goes p e below _ T12 (mkF m 138 #[.val (.int p1), .val (.int p2), .val (.int p3), .val (.int p4), .val (.int p5), .val (.int (2 : Int32)), .val (.long x0), .second, .val (.long x1), .second, .val (.long x2), .second, .val (.long x3), .second, .val (.ref ax), .val (.long x0), .second, .val (.long s2), .second, .val (.long s3), .second, .val (.long s4), .second, .val (.long (0 : Int64)), .second, .unset, .unset] [(.long x0), (.long (0 : Int64))])
    refine Goes.of (fun _ kont => XT.lload X12.here hx rfl (Jvm.hb hby at_138) rfl kont) ?_
    show Goes p e below _ T12 (mkF m 140 #[.val (.int p1), .val (.int p2), .val (.int p3), .val (.int p4), .val (.int p5), .val (.int (2 : Int32)), .val (.long x0), .second, .val (.long x1), .second, .val (.long x2), .second, .val (.long x3), .second, .val (.ref ax), .val (.long x0), .second, .val (.long s2), .second, .val (.long s3), .second, .val (.long s4), .second, .val (.long (0 : Int64)), .second, .unset, .unset] [(.long x0), (.long x0), (.long (0 : Int64))])
    refine Goes.of (fun _ kont => XT.lmul X12.here hx rfl (Jvm.hb hby at_140) rfl kont) ?_
    show Goes p e below _ T12 (mkF m 141 #[.val (.int p1), .val (.int p2), .val (.int p3), .val (.int p4), .val (.int p5), .val (.int (2 : Int32)), .val (.long x0), .second, .val (.long x1), .second, .val (.long x2), .second, .val (.long x3), .second, .val (.ref ax), .val (.long x0), .second, .val (.long s2), .second, .val (.long s3), .second, .val (.long s4), .second, .val (.long (0 : Int64)), .second, .unset, .unset] [(.long (x0 * x0)), (.long (0 : Int64))])
    refine Goes.of (fun _ kont => XT.ladd X12.here hx rfl (Jvm.hb hby at_141) rfl kont) ?_
    show Goes p e below _ T12 (mkF m 142 #[.val (.int p1), .val (.int p2), .val (.int p3), .val (.int p4), .val (.int p5), .val (.int (2 : Int32)), .val (.long x0), .second, .val (.long x1), .second, .val (.long x2), .second, .val (.long x3), .second, .val (.ref ax), .val (.long x0), .second, .val (.long s2), .second, .val (.long s3), .second, .val (.long s4), .second, .val (.long (0 : Int64)), .second, .unset, .unset] [(.long ((0 : Int64) + (x0 * x0)))])
    generalize hr1 : ((0 : Int64) + (x0 * x0)) = r1
    show Goes p e below _ T12 (mkF m 142 #[.val (.int p1), .val (.int p2), .val (.int p3), .val (.int p4), .val (.int p5), .val (.int (2 : Int32)), .val (.long x0), .second, .val (.long x1), .second, .val (.long x2), .second, .val (.long x3), .second, .val (.ref ax), .val (.long x0), .second, .val (.long s2), .second, .val (.long s3), .second, .val (.long s4), .second, .val (.long (0 : Int64)), .second, .unset, .unset] [(.long r1)])
    have er1 := own_lsq hr1 (by omega) (by omega)
    rw [r0, Int.zero_add] at er1
    refine Goes.of (fun _ kont => XT.lstore X12.here hx rfl (Jvm.hb hby at_142) rfl (l' := #[.val (.int p1), .val (.int p2), .val (.int p3), .val (.int p4), .val (.int p5), .val (.int (2 : Int32)), .val (.long x0), .second, .val (.long x1), .second, .val (.long x2), .second, .val (.long x3), .second, .val (.ref ax), .val (.long x0), .second, .val (.long s2), .second, .val (.long s3), .second, .val (.long s4), .second, .val (.long r1), .second, .unset, .unset]) rfl kont) ?_
    show Goes p e below _ T12 (mkF m 144 #[.val (.int p1), .val (.int p2), .val (.int p3), .val (.int p4), .val (.int p5), .val (.int (2 : Int32)), .val (.long x0), .second, .val (.long x1), .second, .val (.long x2), .second, .val (.long x3), .second, .val (.ref ax), .val (.long x0), .second, .val (.long s2), .second, .val (.long s3), .second, .val (.long s4), .second, .val (.long r1), .second, .unset, .unset] [])
    refine Goes.of (fun _ kont => XS.iload X12.here hx rfl (Jvm.hb hby at_144) rfl kont) ?_
    show Goes p e below _ T12 (mkF m 146 #[.val (.int p1), .val (.int p2), .val (.int p3), .val (.int p4), .val (.int p5), .val (.int (2 : Int32)), .val (.long x0), .second, .val (.long x1), .second, .val (.long x2), .second, .val (.long x3), .second, .val (.ref ax), .val (.long x0), .second, .val (.long s2), .second, .val (.long s3), .second, .val (.long s4), .second, .val (.long r1), .second, .unset, .unset] [(.int (2 : Int32))])
    refine Goes.of (fun _ kont => XS.iconst X12.here hx rfl (Jvm.hb hby at_146) kont) ?_
    show Goes p e below _ T12 (mkF m 147 #[.val (.int p1), .val (.int p2), .val (.int p3), .val (.int p4), .val (.int p5), .val (.int (2 : Int32)), .val (.long x0), .second, .val (.long x1), .second, .val (.long x2), .second, .val (.long x3), .second, .val (.ref ax), .val (.long x0), .second, .val (.long s2), .second, .val (.long s3), .second, .val (.long s4), .second, .val (.long r1), .second, .unset, .unset] [(.int (2 : Int32)), (.int (2 : Int32))])
    refine Goes.of (fun _ kont => XS.icmpNo X12.here hx rfl (Jvm.hb hby at_147) rfl (by decide) kont) ?_
    show Goes p e below _ T12 (mkF m 150 #[.val (.int p1), .val (.int p2), .val (.int p3), .val (.int p4), .val (.int p5), .val (.int (2 : Int32)), .val (.long x0), .second, .val (.long x1), .second, .val (.long x2), .second, .val (.long x3), .second, .val (.ref ax), .val (.long x0), .second, .val (.long s2), .second, .val (.long s3), .second, .val (.long s4), .second, .val (.long r1), .second, .unset, .unset] [])
    refine Goes.of (fun _ kont => XT.lload X12.here hx rfl (Jvm.hb hby at_150) rfl kont) ?_
    show Goes p e below _ T12 (mkF m 152 #[.val (.int p1), .val (.int p2), .val (.int p3), .val (.int p4), .val (.int p5), .val (.int (2 : Int32)), .val (.long x0), .second, .val (.long x1), .second, .val (.long x2), .second, .val (.long x3), .second, .val (.ref ax), .val (.long x0), .second, .val (.long s2), .second, .val (.long s3), .second, .val (.long s4), .second, .val (.long r1), .second, .unset, .unset] [(.long r1)])
    refine Goes.of (fun _ kont => XT.lload X12.here hx rfl (Jvm.hb hby at_152) rfl kont) ?_
    show Goes p e below _ T12 (mkF m 154 #[.val (.int p1), .val (.int p2), .val (.int p3), .val (.int p4), .val (.int p5), .val (.int (2 : Int32)), .val (.long x0), .second, .val (.long x1), .second, .val (.long x2), .second, .val (.long x3), .second, .val (.ref ax), .val (.long x0), .second, .val (.long s2), .second, .val (.long s3), .second, .val (.long s4), .second, .val (.long r1), .second, .unset, .unset] [(.long s2), (.long r1)])
    refine Goes.of (fun _ kont => XT.lload X12.here hx rfl (Jvm.hb hby at_154) rfl kont) ?_
    show Goes p e below _ T12 (mkF m 156 #[.val (.int p1), .val (.int p2), .val (.int p3), .val (.int p4), .val (.int p5), .val (.int (2 : Int32)), .val (.long x0), .second, .val (.long x1), .second, .val (.long x2), .second, .val (.long x3), .second, .val (.ref ax), .val (.long x0), .second, .val (.long s2), .second, .val (.long s3), .second, .val (.long s4), .second, .val (.long r1), .second, .unset, .unset] [(.long s2), (.long s2), (.long r1)])
    refine Goes.of (fun _ kont => XT.lmul X12.here hx rfl (Jvm.hb hby at_156) rfl kont) ?_
    show Goes p e below _ T12 (mkF m 157 #[.val (.int p1), .val (.int p2), .val (.int p3), .val (.int p4), .val (.int p5), .val (.int (2 : Int32)), .val (.long x0), .second, .val (.long x1), .second, .val (.long x2), .second, .val (.long x3), .second, .val (.ref ax), .val (.long x0), .second, .val (.long s2), .second, .val (.long s3), .second, .val (.long s4), .second, .val (.long r1), .second, .unset, .unset] [(.long (s2 * s2)), (.long r1)])
    refine Goes.of (fun _ kont => XT.ladd X12.here hx rfl (Jvm.hb hby at_157) rfl kont) ?_
    show Goes p e below _ T12 (mkF m 158 #[.val (.int p1), .val (.int p2), .val (.int p3), .val (.int p4), .val (.int p5), .val (.int (2 : Int32)), .val (.long x0), .second, .val (.long x1), .second, .val (.long x2), .second, .val (.long x3), .second, .val (.ref ax), .val (.long x0), .second, .val (.long s2), .second, .val (.long s3), .second, .val (.long s4), .second, .val (.long r1), .second, .unset, .unset] [(.long (r1 + (s2 * s2)))])
    generalize hr2 : (r1 + (s2 * s2)) = r2
    show Goes p e below _ T12 (mkF m 158 #[.val (.int p1), .val (.int p2), .val (.int p3), .val (.int p4), .val (.int p5), .val (.int (2 : Int32)), .val (.long x0), .second, .val (.long x1), .second, .val (.long x2), .second, .val (.long x3), .second, .val (.ref ax), .val (.long x0), .second, .val (.long s2), .second, .val (.long s3), .second, .val (.long s4), .second, .val (.long r1), .second, .unset, .unset] [(.long r2)])
    have er2 := own_lsq hr2 (by omega) (by have := own_sqb (a := x0.toInt) (A := 4194304) (by omega); omega)
    rw [er1, e2] at er2
    refine Goes.of (fun _ kont => XT.lstore X12.here hx rfl (Jvm.hb hby at_158) rfl (l' := #[.val (.int p1), .val (.int p2), .val (.int p3), .val (.int p4), .val (.int p5), .val (.int (2 : Int32)), .val (.long x0), .second, .val (.long x1), .second, .val (.long x2), .second, .val (.long x3), .second, .val (.ref ax), .val (.long x0), .second, .val (.long s2), .second, .val (.long s3), .second, .val (.long s4), .second, .val (.long r2), .second, .unset, .unset]) rfl kont) ?_
    show Goes p e below _ T12 (mkF m 160 #[.val (.int p1), .val (.int p2), .val (.int p3), .val (.int p4), .val (.int p5), .val (.int (2 : Int32)), .val (.long x0), .second, .val (.long x1), .second, .val (.long x2), .second, .val (.long x3), .second, .val (.ref ax), .val (.long x0), .second, .val (.long s2), .second, .val (.long s3), .second, .val (.long s4), .second, .val (.long r2), .second, .unset, .unset] [])
    refine Goes.of (fun _ kont => XS.iload X12.here hx rfl (Jvm.hb hby at_160) rfl kont) ?_
    show Goes p e below _ T12 (mkF m 162 #[.val (.int p1), .val (.int p2), .val (.int p3), .val (.int p4), .val (.int p5), .val (.int (2 : Int32)), .val (.long x0), .second, .val (.long x1), .second, .val (.long x2), .second, .val (.long x3), .second, .val (.ref ax), .val (.long x0), .second, .val (.long s2), .second, .val (.long s3), .second, .val (.long s4), .second, .val (.long r2), .second, .unset, .unset] [(.int (2 : Int32))])
    refine Goes.of (fun _ kont => XS.iconst X12.here hx rfl (Jvm.hb hby at_162) kont) ?_
    show Goes p e below _ T12 (mkF m 163 #[.val (.int p1), .val (.int p2), .val (.int p3), .val (.int p4), .val (.int p5), .val (.int (2 : Int32)), .val (.long x0), .second, .val (.long x1), .second, .val (.long x2), .second, .val (.long x3), .second, .val (.ref ax), .val (.long x0), .second, .val (.long s2), .second, .val (.long s3), .second, .val (.long s4), .second, .val (.long r2), .second, .unset, .unset] [(.int (3 : Int32)), (.int (2 : Int32))])
    refine Goes.of (fun _ kont => XS.icmpYes X12.here hx rfl (pc0 := 163) (pc' := 176) rfl (Jvm.hb hby at_163) rfl (by decide) (by decide) (by decide) kont) ?_
    show Goes p e below _ T12 (mkF m 176 #[.val (.int p1), .val (.int p2), .val (.int p3), .val (.int p4), .val (.int p5), .val (.int (2 : Int32)), .val (.long x0), .second, .val (.long x1), .second, .val (.long x2), .second, .val (.long x3), .second, .val (.ref ax), .val (.long x0), .second, .val (.long s2), .second, .val (.long s3), .second, .val (.long s4), .second, .val (.long r2), .second, .unset, .unset] [])
    refine Goes.of (fun _ kont => XS.iload X12.here hx rfl (Jvm.hb hby at_176) rfl kont) ?_
    show Goes p e below _ T12 (mkF m 178 #[.val (.int p1), .val (.int p2), .val (.int p3), .val (.int p4), .val (.int p5), .val (.int (2 : Int32)), .val (.long x0), .second, .val (.long x1), .second, .val (.long x2), .second, .val (.long x3), .second, .val (.ref ax), .val (.long x0), .second, .val (.long s2), .second, .val (.long s3), .second, .val (.long s4), .second, .val (.long r2), .second, .unset, .unset] [(.int (2 : Int32))])
    refine Goes.of (fun _ kont => XS.iconst X12.here hx rfl (Jvm.hb hby at_178) kont) ?_
    show Goes p e below _ T12 (mkF m 179 #[.val (.int p1), .val (.int p2), .val (.int p3), .val (.int p4), .val (.int p5), .val (.int (2 : Int32)), .val (.long x0), .second, .val (.long x1), .second, .val (.long x2), .second, .val (.long x3), .second, .val (.ref ax), .val (.long x0), .second, .val (.long s2), .second, .val (.long s3), .second, .val (.long s4), .second, .val (.long r2), .second, .unset, .unset] [(.int (4 : Int32)), (.int (2 : Int32))])
    refine Goes.of (fun _ kont => XS.icmpYes X12.here hx rfl (pc0 := 179) (pc' := 192) rfl (Jvm.hb hby at_179) rfl (by decide) (by decide) (by decide) kont) ?_
    show Goes p e below _ T12 (mkF m 192 #[.val (.int p1), .val (.int p2), .val (.int p3), .val (.int p4), .val (.int p5), .val (.int (2 : Int32)), .val (.long x0), .second, .val (.long x1), .second, .val (.long x2), .second, .val (.long x3), .second, .val (.ref ax), .val (.long x0), .second, .val (.long s2), .second, .val (.long s3), .second, .val (.long s4), .second, .val (.long r2), .second, .unset, .unset] [])
    refine Goes.of (fun _ kont => XS.aload X12.here hx rfl (Jvm.hb hby at_192) rfl rfl kont) ?_
    show Goes p e below _ T12 (mkF m 194 #[.val (.int p1), .val (.int p2), .val (.int p3), .val (.int p4), .val (.int p5), .val (.int (2 : Int32)), .val (.long x0), .second, .val (.long x1), .second, .val (.long x2), .second, .val (.long x3), .second, .val (.ref ax), .val (.long x0), .second, .val (.long s2), .second, .val (.long s3), .second, .val (.long s4), .second, .val (.long r2), .second, .unset, .unset] [(.ref ax)])
    refine callC X12 hx hZ hown (hw _ (List.mem_of_getElem? (i := 6) rfl)) (hw _ (List.mem_of_getElem? (i := 7) rfl)) (hw _ (List.mem_of_getElem? (i := 8) rfl)) (hw _ (List.mem_of_getElem? (i := 9) rfl)) (by decide) (as := [(.ref ax)]) (rm1_2 l Z a0 hw ax (FP.l2d x0) x0.toInt (FP.l2d x1) x1.toInt h12 n0 Z12 V_ax_12 D0 b0 D1 b1) 0 (by decide) (by decide) e12 (by decide) (by decide) (g := mkF m 194 #[.val (.int p1), .val (.int p2), .val (.int p3), .val (.int p4), .val (.int p5), .val (.int (2 : Int32)), .val (.long x0), .second, .val (.long x1), .second, .val (.long x2), .second, .val (.long x3), .second, .val (.ref ax), .val (.long x0), .second, .val (.long s2), .second, .val (.long s3), .second, .val (.long s4), .second, .val (.long r2), .second, .unset, .unset] [(.ref ax)]) rfl (by rw [hml]; rfl) (rest := []) (lenOf pd_1 rfl) rfl (by show 2 * 0 + _ ≤ _; exact Nat.le_of_eq rfl) (Jvm.hb hby at_194) ?_
    rintro _ T13 L13 X13 ⟨⟨z13, rfl, Dz13⟩, N13, e13⟩
    show Goes p e below _ T13 (mkF m 197 #[.val (.int p1), .val (.int p2), .val (.int p3), .val (.int p4), .val (.int p5), .val (.int (2 : Int32)), .val (.long x0), .second, .val (.long x1), .second, .val (.long x2), .second, .val (.long x3), .second, .val (.ref ax), .val (.long x0), .second, .val (.long s2), .second, .val (.long s3), .second, .val (.long s4), .second, .val (.long r2), .second, .unset, .unset] [(.double z13)])
    refine Goes.of (fun _ kont => XS.dstore X13.here hx rfl (Jvm.hb hby at_197) rfl (l' := #[.val (.int p1), .val (.int p2), .val (.int p3), .val (.int p4), .val (.int p5), .val (.int (2 : Int32)), .val (.long x0), .second, .val (.long x1), .second, .val (.long x2), .second, .val (.long x3), .second, .val (.ref ax), .val (.long x0), .second, .val (.long s2), .second, .val (.long s3), .second, .val (.long s4), .second, .val (.long r2), .second, .val (.double z13), .second]) rfl kont) ?_
    show Goes p e below _ T13 (mkF m 199 #[.val (.int p1), .val (.int p2), .val (.int p3), .val (.int p4), .val (.int p5), .val (.int (2 : Int32)), .val (.long x0), .second, .val (.long x1), .second, .val (.long x2), .second, .val (.long x3), .second, .val (.ref ax), .val (.long x0), .second, .val (.long s2), .second, .val (.long s3), .second, .val (.long s4), .second, .val (.long r2), .second, .val (.double z13), .second] [])
    refine Goes.of (fun _ kont => XS.dload X13.here hx rfl (Jvm.hb hby at_199) rfl kont) ?_
    show Goes p e below _ T13 (mkF m 201 #[.val (.int p1), .val (.int p2), .val (.int p3), .val (.int p4), .val (.int p5), .val (.int (2 : Int32)), .val (.long x0), .second, .val (.long x1), .second, .val (.long x2), .second, .val (.long x3), .second, .val (.ref ax), .val (.long x0), .second, .val (.long s2), .second, .val (.long s3), .second, .val (.long s4), .second, .val (.long r2), .second, .val (.double z13), .second] [(.double z13)])
    refine Goes.of (fun _ kont => XT.lload X13.here hx rfl (Jvm.hb hby at_201) rfl kont) ?_
    show Goes p e below _ T13 (mkF m 203 #[.val (.int p1), .val (.int p2), .val (.int p3), .val (.int p4), .val (.int p5), .val (.int (2 : Int32)), .val (.long x0), .second, .val (.long x1), .second, .val (.long x2), .second, .val (.long x3), .second, .val (.ref ax), .val (.long x0), .second, .val (.long s2), .second, .val (.long s3), .second, .val (.long s4), .second, .val (.long r2), .second, .val (.double z13), .second] [(.long r2), (.double z13)])
    refine Goes.of (fun _ kont => XS.l2dS X13.here hx rfl (Jvm.hb hby at_203) rfl rfl kont) ?_
    show Goes p e below _ T13 (mkF m 204 #[.val (.int p1), .val (.int p2), .val (.int p3), .val (.int p4), .val (.int p5), .val (.int (2 : Int32)), .val (.long x0), .second, .val (.long x1), .second, .val (.long x2), .second, .val (.long x3), .second, .val (.ref ax), .val (.long x0), .second, .val (.long s2), .second, .val (.long s3), .second, .val (.long s4), .second, .val (.long r2), .second, .val (.double z13), .second] [(.double (FP.l2d r2)), (.double z13)])
    refine Goes.of (fun _ kont => XS.dcmpS X13.here hx rfl (Jvm.hb hby at_204) rfl rfl kont) ?_
    show Goes p e below _ T13 (mkF m 205 #[.val (.int p1), .val (.int p2), .val (.int p3), .val (.int p4), .val (.int p5), .val (.int (2 : Int32)), .val (.long x0), .second, .val (.long x1), .second, .val (.long x2), .second, .val (.long x3), .second, .val (.ref ax), .val (.long x0), .second, .val (.long s2), .second, .val (.long s3), .second, .val (.long s4), .second, .val (.long r2), .second, .val (.double z13), .second] [(.int (cmpValue (FP.dcmp z13 (FP.l2d r2)) .l))])
    have De := dy_l2d (n := r2) (by have := own_sqb (a := x0.toInt) (A := 4194304) (by omega); have := own_sqb (a := x0.toInt + x1.toInt) (A := 4194304) (by omega); rw [er2]; omega)
    rw [er2] at De
    refine Goes.of (fun _ kont => XS.ifNo X13.here hx rfl (Jvm.hb hby at_205) rfl (by rw [dy_eq Dz13 De rfl]; decide) kont) ?_
    show Goes p e below _ T13 (mkF m 208 #[.val (.int p1), .val (.int p2), .val (.int p3), .val (.int p4), .val (.int p5), .val (.int (2 : Int32)), .val (.long x0), .second, .val (.long x1), .second, .val (.long x2), .second, .val (.long x3), .second, .val (.ref ax), .val (.long x0), .second, .val (.long s2), .second, .val (.long s3), .second, .val (.long s4), .second, .val (.long r2), .second, .val (.double z13), .second] [])
    refine Goes.of (fun _ kont => XS.iconst X13.here hx rfl (Jvm.hb hby at_208) kont) ?_
    show Goes p e below _ T13 (mkF m 209 #[.val (.int p1), .val (.int p2), .val (.int p3), .val (.int p4), .val (.int p5), .val (.int (2 : Int32)), .val (.long x0), .second, .val (.long x1), .second, .val (.long x2), .second, .val (.long x3), .second, .val (.ref ax), .val (.long x0), .second, .val (.long s2), .second, .val (.long s3), .second, .val (.long s4), .second, .val (.long r2), .second, .val (.double z13), .second] [(.int (1 : Int32))])
    refine Goes.of (fun _ kont => XS.goto X13.here hx rfl (pc0 := 209) (pc' := 213) rfl (Jvm.hb hby at_209) (by decide) (by decide) kont) ?_
    show Goes p e below _ T13 (mkF m 213 #[.val (.int p1), .val (.int p2), .val (.int p3), .val (.int p4), .val (.int p5), .val (.int (2 : Int32)), .val (.long x0), .second, .val (.long x1), .second, .val (.long x2), .second, .val (.long x3), .second, .val (.ref ax), .val (.long x0), .second, .val (.long s2), .second, .val (.long s3), .second, .val (.long s4), .second, .val (.long r2), .second, .val (.double z13), .second] [(.int (1 : Int32))])
    exact retB X13 hx hlk (t := .boolean) hret (by simp) (Jvm.hb hby at_213) (by decide) (by decide) ⟨rfl, Fr.app N12 N13⟩
  · show Goes p e below _ T4 (mkF m 33 #[.val (.int p1), .val (.int p2), .val (.int p3), .val (.int p4), .val (.int p5), .val (.int (3 : Int32)), .val (.long x0), .second, .val (.long x1), .second, .val (.long x2), .second, .val (.long x3), .second, .unset, .unset, .unset, .unset, .unset, .unset, .unset, .unset, .unset, .unset, .unset, .unset, .unset] [])
    refine Goes.of (fun _ kont => XS.iload X4.here hx rfl (Jvm.hb hby at_33) rfl kont) ?_
    show Goes p e below _ T4 (mkF m 35 #[.val (.int p1), .val (.int p2), .val (.int p3), .val (.int p4), .val (.int p5), .val (.int (3 : Int32)), .val (.long x0), .second, .val (.long x1), .second, .val (.long x2), .second, .val (.long x3), .second, .unset, .unset, .unset, .unset, .unset, .unset, .unset, .unset, .unset, .unset, .unset, .unset, .unset] [(.int (3 : Int32))])
    refine goNewD X4 hx hZ (hw _ (List.mem_of_getElem? (i := 5) rfl)) e4 (g := mkF m 35 #[.val (.int p1), .val (.int p2), .val (.int p3), .val (.int p4), .val (.int p5), .val (.int (3 : Int32)), .val (.long x0), .second, .val (.long x1), .second, .val (.long x2), .second, .val (.long x3), .second, .unset, .unset, .unset, .unset, .unset, .unset, .unset, .unset, .unset, .unset, .unset, .unset, .unset] [(.int (3 : Int32))]) rfl (Jvm.hb hby at_35) rfl 3 (by decide) (by decide) (by decide) (by decide) ?_
    intro T14 h14 ax gax X14 e14 E14 V_ax
    have ge_ax : n0 ≤ ax := by rw [gax]; exact Z0
    have Z14 : n0 ≤ h14.size := Nat.le_trans Z0 E14.1
    show Goes p e below _ T14 (mkF m 37 #[.val (.int p1), .val (.int p2), .val (.int p3), .val (.int p4), .val (.int p5), .val (.int (3 : Int32)), .val (.long x0), .second, .val (.long x1), .second, .val (.long x2), .second, .val (.long x3), .second, .unset, .unset, .unset, .unset, .unset, .unset, .unset, .unset, .unset, .unset, .unset, .unset, .unset] [(.ref ax)])
    refine Goes.of (fun _ kont => XS.astore X14.here hx rfl (Jvm.hb hby at_37) rfl rfl (l' := #[.val (.int p1), .val (.int p2), .val (.int p3), .val (.int p4), .val (.int p5), .val (.int (3 : Int32)), .val (.long x0), .second, .val (.long x1), .second, .val (.long x2), .second, .val (.long x3), .second, .val (.ref ax), .unset, .unset, .unset, .unset, .unset, .unset, .unset, .unset, .unset, .unset, .unset, .unset]) rfl kont) ?_
    show Goes p e below _ T14 (mkF m 39 #[.val (.int p1), .val (.int p2), .val (.int p3), .val (.int p4), .val (.int p5), .val (.int (3 : Int32)), .val (.long x0), .second, .val (.long x1), .second, .val (.long x2), .second, .val (.long x3), .second, .val (.ref ax), .unset, .unset, .unset, .unset, .unset, .unset, .unset, .unset, .unset, .unset, .unset, .unset] [])
    refine Goes.of (fun _ kont => XS.iload X14.here hx rfl (Jvm.hb hby at_39) rfl kont) ?_
    show Goes p e below _ T14 (mkF m 41 #[.val (.int p1), .val (.int p2), .val (.int p3), .val (.int p4), .val (.int p5), .val (.int (3 : Int32)), .val (.long x0), .second, .val (.long x1), .second, .val (.long x2), .second, .val (.long x3), .second, .val (.ref ax), .unset, .unset, .unset, .unset, .unset, .unset, .unset, .unset, .unset, .unset, .unset, .unset] [(.int (3 : Int32))])
    refine Goes.of (fun _ kont => XS.iconst X14.here hx rfl (Jvm.hb hby at_41) kont) ?_
    show Goes p e below _ T14 (mkF m 42 #[.val (.int p1), .val (.int p2), .val (.int p3), .val (.int p4), .val (.int p5), .val (.int (3 : Int32)), .val (.long x0), .second, .val (.long x1), .second, .val (.long x2), .second, .val (.long x3), .second, .val (.ref ax), .unset, .unset, .unset, .unset, .unset, .unset, .unset, .unset, .unset, .unset, .unset, .unset] [(.int (1 : Int32)), (.int (3 : Int32))])
    refine Goes.of (fun _ kont => XS.icmpNo X14.here hx rfl (Jvm.hb hby at_42) rfl (by decide) kont) ?_
    show Goes p e below _ T14 (mkF m 45 #[.val (.int p1), .val (.int p2), .val (.int p3), .val (.int p4), .val (.int p5), .val (.int (3 : Int32)), .val (.long x0), .second, .val (.long x1), .second, .val (.long x2), .second, .val (.long x3), .second, .val (.ref ax), .unset, .unset, .unset, .unset, .unset, .unset, .unset, .unset, .unset, .unset, .unset, .unset] [])
    refine Goes.of (fun _ kont => XS.aload X14.here hx rfl (Jvm.hb hby at_45) rfl rfl kont) ?_
    show Goes p e below _ T14 (mkF m 47 #[.val (.int p1), .val (.int p2), .val (.int p3), .val (.int p4), .val (.int p5), .val (.int (3 : Int32)), .val (.long x0), .second, .val (.long x1), .second, .val (.long x2), .second, .val (.long x3), .second, .val (.ref ax), .unset, .unset, .unset, .unset, .unset, .unset, .unset, .unset, .unset, .unset, .unset, .unset] [(.ref ax)])
    refine Goes.of (fun _ kont => XS.iconst X14.here hx rfl (Jvm.hb hby at_47) kont) ?_
    show Goes p e below _ T14 (mkF m 48 #[.val (.int p1), .val (.int p2), .val (.int p3), .val (.int p4), .val (.int p5), .val (.int (3 : Int32)), .val (.long x0), .second, .val (.long x1), .second, .val (.long x2), .second, .val (.long x3), .second, .val (.ref ax), .unset, .unset, .unset, .unset, .unset, .unset, .unset, .unset, .unset, .unset, .unset, .unset] [(.int (0 : Int32)), (.ref ax)])
    refine Goes.of (fun _ kont => XT.lload X14.here hx rfl (Jvm.hb hby at_48) rfl kont) ?_
    show Goes p e below _ T14 (mkF m 50 #[.val (.int p1), .val (.int p2), .val (.int p3), .val (.int p4), .val (.int p5), .val (.int (3 : Int32)), .val (.long x0), .second, .val (.long x1), .second, .val (.long x2), .second, .val (.long x3), .second, .val (.ref ax), .unset, .unset, .unset, .unset, .unset, .unset, .unset, .unset, .unset, .unset, .unset, .unset] [(.long x0), (.int (0 : Int32)), (.ref ax)])
    refine Goes.of (fun _ kont => XS.l2dS X14.here hx rfl (Jvm.hb hby at_50) rfl rfl kont) ?_
    show Goes p e below _ T14 (mkF m 51 #[.val (.int p1), .val (.int p2), .val (.int p3), .val (.int p4), .val (.int p5), .val (.int (3 : Int32)), .val (.long x0), .second, .val (.long x1), .second, .val (.long x2), .second, .val (.long x3), .second, .val (.ref ax), .unset, .unset, .unset, .unset, .unset, .unset, .unset, .unset, .unset, .unset, .unset, .unset] [(.double (FP.l2d x0)), (.int (0 : Int32)), (.ref ax)])
    refine goStD X14 hx hZ e14 V_ax 0 (by decide) (by show 0 < 3; decide) (g := (mkF m 51 #[.val (.int p1), .val (.int p2), .val (.int p3), .val (.int p4), .val (.int p5), .val (.int (3 : Int32)), .val (.long x0), .second, .val (.long x1), .second, .val (.long x2), .second, .val (.long x3), .second, .val (.ref ax), .unset, .unset, .unset, .unset, .unset, .unset, .unset, .unset, .unset, .unset, .unset, .unset] [(.double (FP.l2d x0)), (.int (0 : Int32)), (.ref ax)])) rfl rfl (Jvm.hb hby at_51) NN ge_ax ?_
    intro T15 h15 L15 X15 e15 N15 K15 V_ax_15
    replace V_ax_15 : DA Z h15 ax [(FP.l2d x0), 0, 0] := V_ax_15
    have Z15 : n0 ≤ h15.size := Nat.le_trans ge_ax (Nat.le_of_lt V_ax_15.lt)
    show Goes p e below _ T15 (mkF m 52 #[.val (.int p1), .val (.int p2), .val (.int p3), .val (.int p4), .val (.int p5), .val (.int (3 : Int32)), .val (.long x0), .second, .val (.long x1), .second, .val (.long x2), .second, .val (.long x3), .second, .val (.ref ax), .unset, .unset, .unset, .unset, .unset, .unset, .unset, .unset, .unset, .unset, .unset, .unset] [])
    refine Goes.of (fun _ kont => XS.iload X15.here hx rfl (Jvm.hb hby at_52) rfl kont) ?_
    show Goes p e below _ T15 (mkF m 54 #[.val (.int p1), .val (.int p2), .val (.int p3), .val (.int p4), .val (.int p5), .val (.int (3 : Int32)), .val (.long x0), .second, .val (.long x1), .second, .val (.long x2), .second, .val (.long x3), .second, .val (.ref ax), .unset, .unset, .unset, .unset, .unset, .unset, .unset, .unset, .unset, .unset, .unset, .unset] [(.int (3 : Int32))])
    refine Goes.of (fun _ kont => XS.iconst X15.here hx rfl (Jvm.hb hby at_54) kont) ?_
    show Goes p e below _ T15 (mkF m 55 #[.val (.int p1), .val (.int p2), .val (.int p3), .val (.int p4), .val (.int p5), .val (.int (3 : Int32)), .val (.long x0), .second, .val (.long x1), .second, .val (.long x2), .second, .val (.long x3), .second, .val (.ref ax), .unset, .unset, .unset, .unset, .unset, .unset, .unset, .unset, .unset, .unset, .unset, .unset] [(.int (2 : Int32)), (.int (3 : Int32))])
    refine Goes.of (fun _ kont => XS.icmpNo X15.here hx rfl (Jvm.hb hby at_55) rfl (by decide) kont) ?_
    show Goes p e below _ T15 (mkF m 58 #[.val (.int p1), .val (.int p2), .val (.int p3), .val (.int p4), .val (.int p5), .val (.int (3 : Int32)), .val (.long x0), .second, .val (.long x1), .second, .val (.long x2), .second, .val (.long x3), .second, .val (.ref ax), .unset, .unset, .unset, .unset, .unset, .unset, .unset, .unset, .unset, .unset, .unset, .unset] [])
    refine Goes.of (fun _ kont => XS.aload X15.here hx rfl (Jvm.hb hby at_58) rfl rfl kont) ?_
    show Goes p e below _ T15 (mkF m 60 #[.val (.int p1), .val (.int p2), .val (.int p3), .val (.int p4), .val (.int p5), .val (.int (3 : Int32)), .val (.long x0), .second, .val (.long x1), .second, .val (.long x2), .second, .val (.long x3), .second, .val (.ref ax), .unset, .unset, .unset, .unset, .unset, .unset, .unset, .unset, .unset, .unset, .unset, .unset] [(.ref ax)])
    refine Goes.of (fun _ kont => XS.iconst X15.here hx rfl (Jvm.hb hby at_60) kont) ?_
    show Goes p e below _ T15 (mkF m 61 #[.val (.int p1), .val (.int p2), .val (.int p3), .val (.int p4), .val (.int p5), .val (.int (3 : Int32)), .val (.long x0), .second, .val (.long x1), .second, .val (.long x2), .second, .val (.long x3), .second, .val (.ref ax), .unset, .unset, .unset, .unset, .unset, .unset, .unset, .unset, .unset, .unset, .unset, .unset] [(.int (1 : Int32)), (.ref ax)])
    refine Goes.of (fun _ kont => XT.lload X15.here hx rfl (Jvm.hb hby at_61) rfl kont) ?_
    show Goes p e below _ T15 (mkF m 63 #[.val (.int p1), .val (.int p2), .val (.int p3), .val (.int p4), .val (.int p5), .val (.int (3 : Int32)), .val (.long x0), .second, .val (.long x1), .second, .val (.long x2), .second, .val (.long x3), .second, .val (.ref ax), .unset, .unset, .unset, .unset, .unset, .unset, .unset, .unset, .unset, .unset, .unset, .unset] [(.long x1), (.int (1 : Int32)), (.ref ax)])
    refine Goes.of (fun _ kont => XS.l2dS X15.here hx rfl (Jvm.hb hby at_63) rfl rfl kont) ?_
    show Goes p e below _ T15 (mkF m 64 #[.val (.int p1), .val (.int p2), .val (.int p3), .val (.int p4), .val (.int p5), .val (.int (3 : Int32)), .val (.long x0), .second, .val (.long x1), .second, .val (.long x2), .second, .val (.long x3), .second, .val (.ref ax), .unset, .unset, .unset, .unset, .unset, .unset, .unset, .unset, .unset, .unset, .unset, .unset] [(.double (FP.l2d x1)), (.int (1 : Int32)), (.ref ax)])
    refine goStD X15 hx hZ e15 V_ax_15 1 (by decide) (by show 1 < 3; decide) (g := (mkF m 64 #[.val (.int p1), .val (.int p2), .val (.int p3), .val (.int p4), .val (.int p5), .val (.int (3 : Int32)), .val (.long x0), .second, .val (.long x1), .second, .val (.long x2), .second, .val (.long x3), .second, .val (.ref ax), .unset, .unset, .unset, .unset, .unset, .unset, .unset, .unset, .unset, .unset, .unset, .unset] [(.double (FP.l2d x1)), (.int (1 : Int32)), (.ref ax)])) rfl rfl (Jvm.hb hby at_64) N15 ge_ax ?_
    intro T16 h16 L16 X16 e16 N16 K16 V_ax_16
    replace V_ax_16 : DA Z h16 ax [(FP.l2d x0), (FP.l2d x1), 0] := V_ax_16
    have Z16 : n0 ≤ h16.size := Nat.le_trans ge_ax (Nat.le_of_lt V_ax_16.lt)
    show Goes p e below _ T16 (mkF m 65 #[.val (.int p1), .val (.int p2), .val (.int p3), .val (.int p4), .val (.int p5), .val (.int (3 : Int32)), .val (.long x0), .second, .val (.long x1), .second, .val (.long x2), .second, .val (.long x3), .second, .val (.ref ax), .unset, .unset, .unset, .unset, .unset, .unset, .unset, .unset, .unset, .unset, .unset, .unset] [])
    refine Goes.of (fun _ kont => XS.iload X16.here hx rfl (Jvm.hb hby at_65) rfl kont) ?_
    show Goes p e below _ T16 (mkF m 67 #[.val (.int p1), .val (.int p2), .val (.int p3), .val (.int p4), .val (.int p5), .val (.int (3 : Int32)), .val (.long x0), .second, .val (.long x1), .second, .val (.long x2), .second, .val (.long x3), .second, .val (.ref ax), .unset, .unset, .unset, .unset, .unset, .unset, .unset, .unset, .unset, .unset, .unset, .unset] [(.int (3 : Int32))])
    refine Goes.of (fun _ kont => XS.iconst X16.here hx rfl (Jvm.hb hby at_67) kont) ?_
    show Goes p e below _ T16 (mkF m 68 #[.val (.int p1), .val (.int p2), .val (.int p3), .val (.int p4), .val (.int p5), .val (.int (3 : Int32)), .val (.long x0), .second, .val (.long x1), .second, .val (.long x2), .second, .val (.long x3), .second, .val (.ref ax), .unset, .unset, .unset, .unset, .unset, .unset, .unset, .unset, .unset, .unset, .unset, .unset] [(.int (3 : Int32)), (.int (3 : Int32))])
    refine Goes.of (fun _ kont => XS.icmpNo X16.here hx rfl (Jvm.hb hby at_68) rfl (by decide) kont) ?_
    show Goes p e below _ T16 (mkF m 71 #[.val (.int p1), .val (.int p2), .val (.int p3), .val (.int p4), .val (.int p5), .val (.int (3 : Int32)), .val (.long x0), .second, .val (.long x1), .second, .val (.long x2), .second, .val (.long x3), .second, .val (.ref ax), .unset, .unset, .unset, .unset, .unset, .unset, .unset, .unset, .unset, .unset, .unset, .unset] [])
    refine Goes.of (fun _ kont => XS.aload X16.here hx rfl (Jvm.hb hby at_71) rfl rfl kont) ?_
    show Goes p e below _ T16 (mkF m 73 #[.val (.int p1), .val (.int p2), .val (.int p3), .val (.int p4), .val (.int p5), .val (.int (3 : Int32)), .val (.long x0), .second, .val (.long x1), .second, .val (.long x2), .second, .val (.long x3), .second, .val (.ref ax), .unset, .unset, .unset, .unset, .unset, .unset, .unset, .unset, .unset, .unset, .unset, .unset] [(.ref ax)])
    refine Goes.of (fun _ kont => XS.iconst X16.here hx rfl (Jvm.hb hby at_73) kont) ?_
    show Goes p e below _ T16 (mkF m 74 #[.val (.int p1), .val (.int p2), .val (.int p3), .val (.int p4), .val (.int p5), .val (.int (3 : Int32)), .val (.long x0), .second, .val (.long x1), .second, .val (.long x2), .second, .val (.long x3), .second, .val (.ref ax), .unset, .unset, .unset, .unset, .unset, .unset, .unset, .unset, .unset, .unset, .unset, .unset] [(.int (2 : Int32)), (.ref ax)])
    refine Goes.of (fun _ kont => XT.lload X16.here hx rfl (Jvm.hb hby at_74) rfl kont) ?_
    show Goes p e below _ T16 (mkF m 76 #[.val (.int p1), .val (.int p2), .val (.int p3), .val (.int p4), .val (.int p5), .val (.int (3 : Int32)), .val (.long x0), .second, .val (.long x1), .second, .val (.long x2), .second, .val (.long x3), .second, .val (.ref ax), .unset, .unset, .unset, .unset, .unset, .unset, .unset, .unset, .unset, .unset, .unset, .unset] [(.long x2), (.int (2 : Int32)), (.ref ax)])
    refine Goes.of (fun _ kont => XS.l2dS X16.here hx rfl (Jvm.hb hby at_76) rfl rfl kont) ?_
    show Goes p e below _ T16 (mkF m 77 #[.val (.int p1), .val (.int p2), .val (.int p3), .val (.int p4), .val (.int p5), .val (.int (3 : Int32)), .val (.long x0), .second, .val (.long x1), .second, .val (.long x2), .second, .val (.long x3), .second, .val (.ref ax), .unset, .unset, .unset, .unset, .unset, .unset, .unset, .unset, .unset, .unset, .unset, .unset] [(.double (FP.l2d x2)), (.int (2 : Int32)), (.ref ax)])
    refine goStD X16 hx hZ e16 V_ax_16 2 (by decide) (by show 2 < 3; decide) (g := (mkF m 77 #[.val (.int p1), .val (.int p2), .val (.int p3), .val (.int p4), .val (.int p5), .val (.int (3 : Int32)), .val (.long x0), .second, .val (.long x1), .second, .val (.long x2), .second, .val (.long x3), .second, .val (.ref ax), .unset, .unset, .unset, .unset, .unset, .unset, .unset, .unset, .unset, .unset, .unset, .unset] [(.double (FP.l2d x2)), (.int (2 : Int32)), (.ref ax)])) rfl rfl (Jvm.hb hby at_77) N16 ge_ax ?_
    intro T17 h17 L17 X17 e17 N17 K17 V_ax_17
    replace V_ax_17 : DA Z h17 ax [(FP.l2d x0), (FP.l2d x1), (FP.l2d x2)] := V_ax_17
    have Z17 : n0 ≤ h17.size := Nat.le_trans ge_ax (Nat.le_of_lt V_ax_17.lt)
    show Goes p e below _ T17 (mkF m 78 #[.val (.int p1), .val (.int p2), .val (.int p3), .val (.int p4), .val (.int p5), .val (.int (3 : Int32)), .val (.long x0), .second, .val (.long x1), .second, .val (.long x2), .second, .val (.long x3), .second, .val (.ref ax), .unset, .unset, .unset, .unset, .unset, .unset, .unset, .unset, .unset, .unset, .unset, .unset] [])
    refine Goes.of (fun _ kont => XS.iload X17.here hx rfl (Jvm.hb hby at_78) rfl kont) ?_
    show Goes p e below _ T17 (mkF m 80 #[.val (.int p1), .val (.int p2), .val (.int p3), .val (.int p4), .val (.int p5), .val (.int (3 : Int32)), .val (.long x0), .second, .val (.long x1), .second, .val (.long x2), .second, .val (.long x3), .second, .val (.ref ax), .unset, .unset, .unset, .unset, .unset, .unset, .unset, .unset, .unset, .unset, .unset, .unset] [(.int (3 : Int32))])
    refine Goes.of (fun _ kont => XS.iconst X17.here hx rfl (Jvm.hb hby at_80) kont) ?_
    show Goes p e below _ T17 (mkF m 81 #[.val (.int p1), .val (.int p2), .val (.int p3), .val (.int p4), .val (.int p5), .val (.int (3 : Int32)), .val (.long x0), .second, .val (.long x1), .second, .val (.long x2), .second, .val (.long x3), .second, .val (.ref ax), .unset, .unset, .unset, .unset, .unset, .unset, .unset, .unset, .unset, .unset, .unset, .unset] [(.int (4 : Int32)), (.int (3 : Int32))])
    refine Goes.of (fun _ kont => XS.icmpYes X17.here hx rfl (pc0 := 81) (pc' := 91) rfl (Jvm.hb hby at_81) rfl (by decide) (by decide) (by decide) kont) ?_
    show Goes p e below _ T17 (mkF m 91 #[.val (.int p1), .val (.int p2), .val (.int p3), .val (.int p4), .val (.int p5), .val (.int (3 : Int32)), .val (.long x0), .second, .val (.long x1), .second, .val (.long x2), .second, .val (.long x3), .second, .val (.ref ax), .unset, .unset, .unset, .unset, .unset, .unset, .unset, .unset, .unset, .unset, .unset, .unset] [])
    have f2 := own_ladd (rfl : x0 + x1 = x0 + x1) (by omega) (by omega)
    have f3 := own_ladd (rfl : x0 + x1 + x2 = x0 + x1 + x2) (by rw [f2]; omega) (by omega)
    rw [f2] at f3
    have f4 := own_ladd (rfl : x0 + x1 + x2 + x3 = x0 + x1 + x2 + x3) (by rw [f3]; omega) (by omega)
    rw [f3] at f4
    refine Goes.of (fun _ kont => XT.lload X17.here hx rfl (Jvm.hb hby at_91) rfl kont) ?_
    show Goes p e below _ T17 (mkF m 93 #[.val (.int p1), .val (.int p2), .val (.int p3), .val (.int p4), .val (.int p5), .val (.int (3 : Int32)), .val (.long x0), .second, .val (.long x1), .second, .val (.long x2), .second, .val (.long x3), .second, .val (.ref ax), .unset, .unset, .unset, .unset, .unset, .unset, .unset, .unset, .unset, .unset, .unset, .unset] [(.long x0)])
    refine Goes.of (fun _ kont => XT.lstore X17.here hx rfl (Jvm.hb hby at_93) rfl (l' := #[.val (.int p1), .val (.int p2), .val (.int p3), .val (.int p4), .val (.int p5), .val (.int (3 : Int32)), .val (.long x0), .second, .val (.long x1), .second, .val (.long x2), .second, .val (.long x3), .second, .val (.ref ax), .val (.long x0), .second, .unset, .unset, .unset, .unset, .unset, .unset, .unset, .unset, .unset, .unset]) rfl kont) ?_
    show Goes p e below _ T17 (mkF m 95 #[.val (.int p1), .val (.int p2), .val (.int p3), .val (.int p4), .val (.int p5), .val (.int (3 : Int32)), .val (.long x0), .second, .val (.long x1), .second, .val (.long x2), .second, .val (.long x3), .second, .val (.ref ax), .val (.long x0), .second, .unset, .unset, .unset, .unset, .unset, .unset, .unset, .unset, .unset, .unset] [])
    refine Goes.of (fun _ kont => XT.lload X17.here hx rfl (Jvm.hb hby at_95) rfl kont) ?_
    show Goes p e below _ T17 (mkF m 97 #[.val (.int p1), .val (.int p2), .val (.int p3), .val (.int p4), .val (.int p5), .val (.int (3 : Int32)), .val (.long x0), .second, .val (.long x1), .second, .val (.long x2), .second, .val (.long x3), .second, .val (.ref ax), .val (.long x0), .second, .unset, .unset, .unset, .unset, .unset, .unset, .unset, .unset, .unset, .unset] [(.long x0)])
    refine Goes.of (fun _ kont => XT.lload X17.here hx rfl (Jvm.hb hby at_97) rfl kont) ?_
    show Goes p e below _ T17 (mkF m 99 #[.val (.int p1), .val (.int p2), .val (.int p3), .val (.int p4), .val (.int p5), .val (.int (3 : Int32)), .val (.long x0), .second, .val (.long x1), .second, .val (.long x2), .second, .val (.long x3), .second, .val (.ref ax), .val (.long x0), .second, .unset, .unset, .unset, .unset, .unset, .unset, .unset, .unset, .unset, .unset] [(.long x1), (.long x0)])
    refine Goes.of (fun _ kont => XT.ladd X17.here hx rfl (Jvm.hb hby at_99) rfl kont) ?_
    show Goes p e below _ T17 (mkF m 100 #[.val (.int p1), .val (.int p2), .val (.int p3), .val (.int p4), .val (.int p5), .val (.int (3 : Int32)), .val (.long x0), .second, .val (.long x1), .second, .val (.long x2), .second, .val (.long x3), .second, .val (.ref ax), .val (.long x0), .second, .unset, .unset, .unset, .unset, .unset, .unset, .unset, .unset, .unset, .unset] [(.long (x0 + x1))])
    generalize hs2 : (x0 + x1) = s2
    show Goes p e below _ T17 (mkF m 100 #[.val (.int p1), .val (.int p2), .val (.int p3), .val (.int p4), .val (.int p5), .val (.int (3 : Int32)), .val (.long x0), .second, .val (.long x1), .second, .val (.long x2), .second, .val (.long x3), .second, .val (.ref ax), .val (.long x0), .second, .unset, .unset, .unset, .unset, .unset, .unset, .unset, .unset, .unset, .unset] [(.long s2)])
    refine Goes.of (fun _ kont => XT.lstore X17.here hx rfl (Jvm.hb hby at_100) rfl (l' := #[.val (.int p1), .val (.int p2), .val (.int p3), .val (.int p4), .val (.int p5), .val (.int (3 : Int32)), .val (.long x0), .second, .val (.long x1), .second, .val (.long x2), .second, .val (.long x3), .second, .val (.ref ax), .val (.long x0), .second, .val (.long s2), .second, .unset, .unset, .unset, .unset, .unset, .unset, .unset, .unset]) rfl kont) ?_
    show Goes p e below _ T17 (mkF m 102 #[.val (.int p1), .val (.int p2), .val (.int p3), .val (.int p4), .val (.int p5), .val (.int (3 : Int32)), .val (.long x0), .second, .val (.long x1), .second, .val (.long x2), .second, .val (.long x3), .second, .val (.ref ax), .val (.long x0), .second, .val (.long s2), .second, .unset, .unset, .unset, .unset, .unset, .unset, .unset, .unset] [])
    refine Goes.of (fun _ kont => XT.lload X17.here hx rfl (Jvm.hb hby at_102) rfl kont) ?_
    show Goes p e below _ T17 (mkF m 104 #[.val (.int p1), .val (.int p2), .val (.int p3), .val (.int p4), .val (.int p5), .val (.int (3 : Int32)), .val (.long x0), .second, .val (.long x1), .second, .val (.long x2), .second, .val (.long x3), .second, .val (.ref ax), .val (.long x0), .second, .val (.long s2), .second, .unset, .unset, .unset, .unset, .unset, .unset, .unset, .unset] [(.long x0)])
    refine Goes.of (fun _ kont => XT.lload X17.here hx rfl (Jvm.hb hby at_104) rfl kont) ?_
    show Goes p e below _ T17 (mkF m 106 #[.val (.int p1), .val (.int p2), .val (.int p3), .val (.int p4), .val (.int p5), .val (.int (3 : Int32)), .val (.long x0), .second, .val (.long x1), .second, .val (.long x2), .second, .val (.long x3), .second, .val (.ref ax), .val (.long x0), .second, .val (.long s2), .second, .unset, .unset, .unset, .unset, .unset, .unset, .unset, .unset] [(.long x1), (.long x0)])
    refine Goes.of (fun _ kont => XT.ladd X17.here hx rfl (Jvm.hb hby at_106) rfl kont) ?_
    show Goes p e below _ T17 (mkF m 107 #[.val (.int p1), .val (.int p2), .val (.int p3), .val (.int p4), .val (.int p5), .val (.int (3 : Int32)), .val (.long x0), .second, .val (.long x1), .second, .val (.long x2), .second, .val (.long x3), .second, .val (.ref ax), .val (.long x0), .second, .val (.long s2), .second, .unset, .unset, .unset, .unset, .unset, .unset, .unset, .unset] [(.long (x0 + x1))])
    refine Goes.of (fun _ kont => XT.lload X17.here hx rfl (Jvm.hb hby at_107) rfl kont) ?_
    show Goes p e below _ T17 (mkF m 109 #[.val (.int p1), .val (.int p2), .val (.int p3), .val (.int p4), .val (.int p5), .val (.int (3 : Int32)), .val (.long x0), .second, .val (.long x1), .second, .val (.long x2), .second, .val (.long x3), .second, .val (.ref ax), .val (.long x0), .second, .val (.long s2), .second, .unset, .unset, .unset, .unset, .unset, .unset, .unset, .unset] [(.long x2), (.long (x0 + x1))])
    refine Goes.of (fun _ kont => XT.ladd X17.here hx rfl (Jvm.hb hby at_109) rfl kont) ?_
    show Goes p e below _ T17 (mkF m 110 #[.val (.int p1), .val (.int p2), .val (.int p3), .val (.int p4), .val (.int p5), .val (.int (3 : Int32)), .val (.long x0), .second, .val (.long x1), .second, .val (.long x2), .second, .val (.long x3), .second, .val (.ref ax), .val (.long x0), .second, .val (.long s2), .second, .unset, .unset, .unset, .unset, .unset, .unset, .unset, .unset] [(.long ((x0 + x1) + x2))])
    generalize hs3 : ((x0 + x1) + x2) = s3
    show Goes p e below _ T17 (mkF m 110 #[.val (.int p1), .val (.int p2), .val (.int p3), .val (.int p4), .val (.int p5), .val (.int (3 : Int32)), .val (.long x0), .second, .val (.long x1), .second, .val (.long x2), .second, .val (.long x3), .second, .val (.ref ax), .val (.long x0), .second, .val (.long s2), .second, .unset, .unset, .unset, .unset, .unset, .unset, .unset, .unset] [(.long s3)])
    refine Goes.of (fun _ kont => XT.lstore X17.here hx rfl (Jvm.hb hby at_110) rfl (l' := #[.val (.int p1), .val (.int p2), .val (.int p3), .val (.int p4), .val (.int p5), .val (.int (3 : Int32)), .val (.long x0), .second, .val (.long x1), .second, .val (.long x2), .second, .val (.long x3), .second, .val (.ref ax), .val (.long x0), .second, .val (.long s2), .second, .val (.long s3), .second, .unset, .unset, .unset, .unset, .unset, .unset]) rfl kont) ?_
    show Goes p e below _ T17 (mkF m 112 #[.val (.int p1), .val (.int p2), .val (.int p3), .val (.int p4), .val (.int p5), .val (.int (3 : Int32)), .val (.long x0), .second, .val (.long x1), .second, .val (.long x2), .second, .val (.long x3), .second, .val (.ref ax), .val (.long x0), .second, .val (.long s2), .second, .val (.long s3), .second, .unset, .unset, .unset, .unset, .unset, .unset] [])
    refine Goes.of (fun _ kont => XT.lload X17.here hx rfl (Jvm.hb hby at_112) rfl kont) ?_
    show Goes p e below _ T17 (mkF m 114 #[.val (.int p1), .val (.int p2), .val (.int p3), .val (.int p4), .val (.int p5), .val (.int (3 : Int32)), .val (.long x0), .second, .val (.long x1), .second, .val (.long x2), .second, .val (.long x3), .second, .val (.ref ax), .val (.long x0), .second, .val (.long s2), .second, .val (.long s3), .second, .unset, .unset, .unset, .unset, .unset, .unset] [(.long x0)])
    refine Goes.of (fun _ kont => XT.lload X17.here hx rfl (Jvm.hb hby at_114) rfl kont) ?_
    show Goes p e below _ T17 (mkF m 116 #[.val (.int p1), .val (.int p2), .val (.int p3), .val (.int p4), .val (.int p5), .val (.int (3 : Int32)), .val (.long x0), .second, .val (.long x1), .second, .val (.long x2), .second, .val (.long x3), .second, .val (.ref ax), .val (.long x0), .second, .val (.long s2), .second, .val (.long s3), .second, .unset, .unset, .unset, .unset, .unset, .unset] [(.long x1), (.long x0)])
    refine Goes.of (fun _ kont => XT.ladd X17.here hx rfl (Jvm.hb hby at_116) rfl kont) ?_
    show Goes p e below _ T17 (mkF m 117 #[.val (.int p1), .val (.int p2), .val (.int p3), .val (.int p4), .val (.int p5), .val (.int (3 : Int32)), .val (.long x0), .second, .val (.long x1), .second, .val (.long x2), .second, .val (.long x3), .second, .val (.ref ax), .val (.long x0), .second, .val (.long s2), .second, .val (.long s3), .second, .unset, .unset, .unset, .unset, .unset, .unset] [(.long (x0 + x1))])
    refine Goes.of (fun _ kont => XT.lload X17.here hx rfl (Jvm.hb hby at_117) rfl kont) ?_
    show Goes p e below _ T17 (mkF m 119 #[.val (.int p1), .val (.int p2), .val (.int p3), .val (.int p4), .val (.int p5), .val (.int (3 : Int32)), .val (.long x0), .second, .val (.long x1), .second, .val (.long x2), .second, .val (.long x3), .second, .val (.ref ax), .val (.long x0), .second, .val (.long s2), .second, .val (.long s3), .second, .unset, .unset, .unset, .unset, .unset, .unset] [(.long x2), (.long (x0 + x1))])
    refine Goes.of (fun _ kont => XT.ladd X17.here hx rfl (Jvm.hb hby at_119) rfl kont) ?_
    show Goes p e below _ T17 (mkF m 120 #[.val (.int p1), .val (.int p2), .val (.int p3), .val (.int p4), .val (.int p5), .val (.int (3 : Int32)), .val (.long x0), .second, .val (.long x1), .second, .val (.long x2), .second, .val (.long x3), .second, .val (.ref ax), .val (.long x0), .second, .val (.long s2), .second, .val (.long s3), .second, .unset, .unset, .unset, .unset, .unset, .unset] [(.long ((x0 + x1) + x2))])
    refine Goes.of (fun _ kont => XT.lload X17.here hx rfl (Jvm.hb hby at_120) rfl kont) ?_
    show Goes p e below _ T17 (mkF m 122 #[.val (.int p1), .val (.int p2), .val (.int p3), .val (.int p4), .val (.int p5), .val (.int (3 : Int32)), .val (.long x0), .second, .val (.long x1), .second, .val (.long x2), .second, .val (.long x3), .second, .val (.ref ax), .val (.long x0), .second, .val (.long s2), .second, .val (.long s3), .second, .unset, .unset, .unset, .unset, .unset, .unset] [(.long x3), (.long ((x0 + x1) + x2))])
    refine Goes.of (fun _ kont => XT.ladd X17.here hx rfl (Jvm.hb hby at_122) rfl kont) ?_
    show Goes p e below _ T17 (mkF m 123 #[.val (.int p1), .val (.int p2), .val (.int p3), .val (.int p4), .val (.int p5), .val (.int (3 : Int32)), .val (.long x0), .second, .val (.long x1), .second, .val (.long x2), .second, .val (.long x3), .second, .val (.ref ax), .val (.long x0), .second, .val (.long s2), .second, .val (.long s3), .second, .unset, .unset, .unset, .unset, .unset, .unset] [(.long (((x0 + x1) + x2) + x3))])
    generalize hs4 : (((x0 + x1) + x2) + x3) = s4
    show Goes p e below _ T17 (mkF m 123 #[.val (.int p1), .val (.int p2), .val (.int p3), .val (.int p4), .val (.int p5), .val (.int (3 : Int32)), .val (.long x0), .second, .val (.long x1), .second, .val (.long x2), .second, .val (.long x3), .second, .val (.ref ax), .val (.long x0), .second, .val (.long s2), .second, .val (.long s3), .second, .unset, .unset, .unset, .unset, .unset, .unset] [(.long s4)])
    have e2 := hs2 ▸ f2
    have e3 := hs3 ▸ f3
    have e4 := hs4 ▸ f4
    have r0 : (0 : Int64).toInt = 0 := by decide
    refine Goes.of (fun _ kont => XT.lstore X17.here hx rfl (Jvm.hb hby at_123) rfl (l' := #[.val (.int p1), .val (.int p2), .val (.int p3), .val (.int p4), .val (.int p5), .val (.int (3 : Int32)), .val (.long x0), .second, .val (.long x1), .second, .val (.long x2), .second, .val (.long x3), .second, .val (.ref ax), .val (.long x0), .second, .val (.long s2), .second, .val (.long s3), .second, .val (.long s4), .second, .unset, .unset, .unset, .unset]) rfl kont) ?_
    show Goes p e below _ T17 (mkF m 125 #[.val (.int p1), .val (.int p2), .val (.int p3), .val (.int p4), .val (.int p5), .val (.int (3 : Int32)), .val (.long x0), .second, .val (.long x1), .second, .val (.long x2), .second, .val (.long x3), .second, .val (.ref ax), .val (.long x0), .second, .val (.long s2), .second, .val (.long s3), .second, .val (.long s4), .second, .unset, .unset, .unset, .unset] [])
    refine Goes.of (fun _ kont => XT.lconst X17.here hx rfl (Jvm.hb hby at_125) kont) ?_
    show Goes p e below _ T17 (mkF m 126 #[.val (.int p1), .val (.int p2), .val (.int p3), .val (.int p4), .val (.int p5), .val (.int (3 : Int32)), .val (.long x0), .second, .val (.long x1), .second, .val (.long x2), .second, .val (.long x3), .second, .val (.ref ax), .val (.long x0), .second, .val (.long s2), .second, .val (.long s3), .second, .val (.long s4), .second, .unset, .unset, .unset, .unset] [(.long (0 : Int64))])
    refine Goes.of (fun _ kont => XT.lstore X17.here hx rfl (Jvm.hb hby at_126) rfl (l' := #[.val (.int p1), .val (.int p2), .val (.int p3), .val (.int p4), .val (.int p5), .val (.int (3 : Int32)), .val (.long x0), .second, .val (.long x1), .second, .val (.long x2), .second, .val (.long x3), .second, .val (.ref ax), .val (.long x0), .second, .val (.long s2), .second, .val (.long s3), .second, .val (.long s4), .second, .val (.long (0 : Int64)), .second, .unset, .unset]) rfl kont) ?_
    show Goes p e below _ T17 (mkF m 128 #[.val (.int p1), .val (.int p2), .val (.int p3), .val (.int p4), .val (.int p5), .val (.int (3 : Int32)), .val (.long x0), .second, .val (.long x1), .second, .val (.long x2), .second, .val (.long x3), .second, .val (.ref ax), .val (.long x0), .second, .val (.long s2), .second, .val (.long s3), .second, .val (.long s4), .second, .val (.long (0 : Int64)), .second, .unset, .unset] [])
    refine Goes.of (fun _ kont => XS.iload X17.here hx rfl (Jvm.hb hby at_128) rfl kont) ?_
    show Goes p e below _ T17 (mkF m 130 #[.val (.int p1), .val (.int p2), .val (.int p3), .val (.int p4), .val (.int p5), .val (.int (3 : Int32)), .val (.long x0), .second, .val (.long x1), .second, .val (.long x2), .second, .val (.long x3), .second, .val (.ref ax), .val (.long x0), .second, .val (.long s2), .second, .val (.long s3), .second, .val (.long s4), .second, .val (.long (0 : Int64)), .second, .unset, .unset] [(.int (3 : Int32))])
    refine Goes.of (fun _ kont => XS.iconst X17.here hx rfl (Jvm.hb hby at_130) kont) ?_
    show Goes p e below _ T17 (mkF m 131 #[.val (.int p1), .val (.int p2), .val (.int p3), .val (.int p4), .val (.int p5), .val (.int (3 : Int32)), .val (.long x0), .second, .val (.long x1), .second, .val (.long x2), .second, .val (.long x3), .second, .val (.ref ax), .val (.long x0), .second, .val (.long s2), .second, .val (.long s3), .second, .val (.long s4), .second, .val (.long (0 : Int64)), .second, .unset, .unset] [(.int (1 : Int32)), (.int (3 : Int32))])
    refine Goes.of (fun _ kont => XS.icmpNo X17.here hx rfl (Jvm.hb hby at_131) rfl (by decide) kont) ?_
    show Goes p e below _ T17 (mkF m 134 #[.val (.int p1), .val (.int p2), .val (.int p3), .val (.int p4), .val (.int p5), .val (.int (3 : Int32)), .val (.long x0), .second, .val (.long x1), .second, .val (.long x2), .second, .val (.long x3), .second, .val (.ref ax), .val (.long x0), .second, .val (.long s2), .second, .val (.long s3), .second, .val (.long s4), .second, .val (.long (0 : Int64)), .second, .unset, .unset] [])
    refine Goes.of (fun _ kont => XT.lload X17.here hx rfl (Jvm.hb hby at_134) rfl kont) ?_
    show Goes p e below _ T17 (mkF m 136 #[.val (.int p1), .val (.int p2), .val (.int p3), .val (.int p4), .val (.int p5), .val (.int (3 : Int32)), .val (.long x0), .second, .val (.long x1), .second, .val (.long x2), .second, .val (.long x3), .second, .val (.ref ax), .val (.long x0), .second, .val (.long s2), .second, .val (.long s3), .second, .val (.long s4), .second, .val (.long (0 : Int64)), .second, .unset, .unset] [(.long (0 : Int64))])
    refine Goes.of (fun _ kont => XT.lload X17.here hx rfl (Jvm.hb hby at_136) rfl kont) ?_
    show Goes p e below _ T17 (mkF m 138 #[.val (.int p1), .val (.int p2), .val (.int p3), .val (.int p4), .val (.int p5), .val (.int (3 : Int32)), .val (.long x0), .second, .val (.long x1), .second, .val (.long x2), .second, .val (.long x3), .second, .val (.ref ax), .val (.long x0), .second, .val (.long s2), .second, .val (.long s3), .second, .val (.long s4), .second, .val (.long (0 : Int64)), .second, .unset, .unset] [(.long x0), (.long (0 : Int64))])
    refine Goes.of (fun _ kont => XT.lload X17.here hx rfl (Jvm.hb hby at_138) rfl kont) ?_
    show Goes p e below _ T17 (mkF m 140 #[.val (.int p1), .val (.int p2), .val (.int p3), .val (.int p4), .val (.int p5), .val (.int (3 : Int32)), .val (.long x0), .second, .val (.long x1), .second, .val (.long x2), .second, .val (.long x3), .second, .val (.ref ax), .val (.long x0), .second, .val (.long s2), .second, .val (.long s3), .second, .val (.long s4), .second, .val (.long (0 : Int64)), .second, .unset, .unset] [(.long x0), (.long x0), (.long (0 : Int64))])
    refine Goes.of (fun _ kont => XT.lmul X17.here hx rfl (Jvm.hb hby at_140) rfl kont) ?_
    show Goes p e below _ T17 (mkF m 141 #[.val (.int p1), .val (.int p2), .val (.int p3), .val (.int p4), .val (.int p5), .val (.int (3 : Int32)), .val (.long x0), .second, .val (.long x1), .second, .val (.long x2), .second, .val (.long x3), .second, .val (.ref ax), .val (.long x0), .second, .val (.long s2), .second, .val (.long s3), .second, .val (.long s4), .second, .val (.long (0 : Int64)), .second, .unset, .unset] [(.long (x0 * x0)), (.long (0 : Int64))])
    refine Goes.of (fun _ kont => XT.ladd X17.here hx rfl (Jvm.hb hby at_141) rfl kont) ?_
    show Goes p e below _ T17 (mkF m 142 #[.val (.int p1), .val (.int p2), .val (.int p3), .val (.int p4), .val (.int p5), .val (.int (3 : Int32)), .val (.long x0), .second, .val (.long x1), .second, .val (.long x2), .second, .val (.long x3), .second, .val (.ref ax), .val (.long x0), .second, .val (.long s2), .second, .val (.long s3), .second, .val (.long s4), .second, .val (.long (0 : Int64)), .second, .unset, .unset] [(.long ((0 : Int64) + (x0 * x0)))])
    generalize hr1 : ((0 : Int64) + (x0 * x0)) = r1
    show Goes p e below _ T17 (mkF m 142 #[.val (.int p1), .val (.int p2), .val (.int p3), .val (.int p4), .val (.int p5), .val (.int (3 : Int32)), .val (.long x0), .second, .val (.long x1), .second, .val (.long x2), .second, .val (.long x3), .second, .val (.ref ax), .val (.long x0), .second, .val (.long s2), .second, .val (.long s3), .second, .val (.long s4), .second, .val (.long (0 : Int64)), .second, .unset, .unset] [(.long r1)])
    have er1 := own_lsq hr1 (by omega) (by omega)
    rw [r0, Int.zero_add] at er1
    refine Goes.of (fun _ kont => XT.lstore X17.here hx rfl (Jvm.hb hby at_142) rfl (l' := #[.val (.int p1), .val (.int p2), .val (.int p3), .val (.int p4), .val (.int p5), .val (.int (3 : Int32)), .val (.long x0), .second, .val (.long x1), .second, .val (.long x2), .second, .val (.long x3), .second, .val (.ref ax), .val (.long x0), .second, .val (.long s2), .second, .val (.long s3), .second, .val (.long s4), .second, .val (.long r1), .second, .unset, .unset]) rfl kont) ?_
    show Goes p e below _ T17 (mkF m 144 #[.val (.int p1), .val (.int p2), .val (.int p3), .val (.int p4), .val (.int p5), .val (.int (3 : Int32)), .val (.long x0), .second, .val (.long x1), .second, .val (.long x2), .second, .val (.long x3), .second, .val (.ref ax), .val (.long x0), .second, .val (.long s2), .second, .val (.long s3), .second, .val (.long s4), .second, .val (.long r1), .second, .unset, .unset] [])
    refine Goes.of (fun _ kont => XS.iload X17.here hx rfl (Jvm.hb hby at_144) rfl kont) ?_
    show Goes p e below _ T17 (mkF m 146 #[.val (.int p1), .val (.int p2), .val (.int p3), .val (.int p4), .val (.int p5), .val (.int (3 : Int32)), .val (.long x0), .second, .val (.long x1), .second, .val (.long x2), .second, .val (.long x3), .second, .val (.ref ax), .val (.long x0), .second, .val (.long s2), .second, .val (.long s3), .second, .val (.long s4), .second, .val (.long r1), .second, .unset, .unset] [(.int (3 : Int32))])
    refine Goes.of (fun _ kont => XS.iconst X17.here hx rfl (Jvm.hb hby at_146) kont) ?_
    show Goes p e below _ T17 (mkF m 147 #[.val (.int p1), .val (.int p2), .val (.int p3), .val (.int p4), .val (.int p5), .val (.int (3 : Int32)), .val (.long x0), .second, .val (.long x1), .second, .val (.long x2), .second, .val (.long x3), .second, .val (.ref ax), .val (.long x0), .second, .val (.long s2), .second, .val (.long s3), .second, .val (.long s4), .second, .val (.long r1), .second, .unset, .unset] [(.int (2 : Int32)), (.int (3 : Int32))])
    refine Goes.of (fun _ kont => XS.icmpNo X17.here hx rfl (Jvm.hb hby at_147) rfl (by decide) kont) ?_
    show Goes p e below _ T17 (mkF m 150 #[.val (.int p1), .val (.int p2), .val (.int p3), .val (.int p4), .val (.int p5), .val (.int (3 : Int32)), .val (.long x0), .second, .val (.long x1), .second, .val (.long x2), .second, .val (.long x3), .second, .val (.ref ax), .val (.long x0), .second, .val (.long s2), .second, .val (.long s3), .second, .val (.long s4), .second, .val (.long r1), .second, .unset, .unset] [])
    refine Goes.of (fun _ kont => XT.lload X17.here hx rfl (Jvm.hb hby at_150) rfl kont) ?_
    show Goes p e below _ T17 (mkF m 152 #[.val (.int p1), .val (.int p2), .val (.int p3), .val (.int p4), .val (.int p5), .val (.int (3 : Int32)), .val (.long x0), .second, .val (.long x1), .second, .val (.long x2), .second, .val (.long x3), .second, .val (.ref ax), .val (.long x0), .second, .val (.long s2), .second, .val (.long s3), .second, .val (.long s4), .second, .val (.long r1), .second, .unset, .unset] [(.long r1)])
    refine Goes.of (fun _ kont => XT.lload X17.here hx rfl (Jvm.hb hby at_152) rfl kont) ?_
    show Goes p e below _ T17 (mkF m 154 #[.val (.int p1), .val (.int p2), .val (.int p3), .val (.int p4), .val (.int p5), .val (.int (3 : Int32)), .val (.long x0), .second, .val (.long x1), .second, .val (.long x2), .second, .val (.long x3), .second, .val (.ref ax), .val (.long x0), .second, .val (.long s2), .second, .val (.long s3), .second, .val (.long s4), .second, .val (.long r1), .second, .unset, .unset] [(.long s2), (.long r1)])
    refine Goes.of (fun _ kont => XT.lload X17.here hx rfl (Jvm.hb hby at_154) rfl kont) ?_
    show Goes p e below _ T17 (mkF m 156 #[.val (.int p1), .val (.int p2), .val (.int p3), .val (.int p4), .val (.int p5), .val (.int (3 : Int32)), .val (.long x0), .second, .val (.long x1), .second, .val (.long x2), .second, .val (.long x3), .second, .val (.ref ax), .val (.long x0), .second, .val (.long s2), .second, .val (.long s3), .second, .val (.long s4), .second, .val (.long r1), .second, .unset, .unset] [(.long s2), (.long s2), (.long r1)])
    refine Goes.of (fun _ kont => XT.lmul X17.here hx rfl (Jvm.hb hby at_156) rfl kont) ?_
    show Goes p e below _ T17 (mkF m 157 #[.val (.int p1), .val (.int p2), .val (.int p3), .val (.int p4), .val (.int p5), .val (.int (3 : Int32)), .val (.long x0), .second, .val (.long x1), .second, .val (.long x2), .second, .val (.long x3), .second, .val (.ref ax), .val (.long x0), .second, .val (.long s2), .second, .val (.long s3), .second, .val (.long s4), .second, .val (.long r1), .second, .unset, .unset] [(.long (s2 * s2)), (.long r1)])
    refine Goes.of (fun _ kont => XT.ladd X17.here hx rfl (Jvm.hb hby at_157) rfl kont) ?_
    show Goes p e below _ T17 (mkF m 158 #[.val (.int p1), .val (.int p2), .val (.int p3), .val (.int p4), .val (.int p5), .val (.int (3 : Int32)), .val (.long x0), .second, .val (.long x1), .second, .val (.long x2), .second, .val (.long x3), .second, .val (.ref ax), .val (.long x0), .second, .val (.long s2), .second, .val (.long s3), .second, .val (.long s4), .second, .val (.long r1), .second, .unset, .unset] [(.long (r1 + (s2 * s2)))])
    generalize hr2 : (r1 + (s2 * s2)) = r2
    show Goes p e below _ T17 (mkF m 158 #[.val (.int p1), .val (.int p2), .val (.int p3), .val (.int p4), .val (.int p5), .val (.int (3 : Int32)), .val (.long x0), .second, .val (.long x1), .second, .val (.long x2), .second, .val (.long x3), .second, .val (.ref ax), .val (.long x0), .second, .val (.long s2), .second, .val (.long s3), .second, .val (.long s4), .second, .val (.long r1), .second, .unset, .unset] [(.long r2)])
    have er2 := own_lsq hr2 (by omega) (by have := own_sqb (a := x0.toInt) (A := 4194304) (by omega); omega)
    rw [er1, e2] at er2
    refine Goes.of (fun _ kont => XT.lstore X17.here hx rfl (Jvm.hb hby at_158) rfl (l' := #[.val (.int p1), .val (.int p2), .val (.int p3), .val (.int p4), .val (.int p5), .val (.int (3 : Int32)), .val (.long x0), .second, .val (.long x1), .second, .val (.long x2), .second, .val (.long x3), .second, .val (.ref ax), .val (.long x0), .second, .val (.long s2), .second, .val (.long s3), .second, .val (.long s4), .second, .val (.long r2), .second, .unset, .unset]) rfl kont) ?_
    show Goes p e below _ T17 (mkF m 160 #[.val (.int p1), .val (.int p2), .val (.int p3), .val (.int p4), .val (.int p5), .val (.int (3 : Int32)), .val (.long x0), .second, .val (.long x1), .second, .val (.long x2), .second, .val (.long x3), .second, .val (.ref ax), .val (.long x0), .second, .val (.long s2), .second, .val (.long s3), .second, .val (.long s4), .second, .val (.long r2), .second, .unset, .unset] [])
    refine Goes.of (fun _ kont => XS.iload X17.here hx rfl (Jvm.hb hby at_160) rfl kont) ?_
    show Goes p e below _ T17 (mkF m 162 #[.val (.int p1), .val (.int p2), .val (.int p3), .val (.int p4), .val (.int p5), .val (.int (3 : Int32)), .val (.long x0), .second, .val (.long x1), .second, .val (.long x2), .second, .val (.long x3), .second, .val (.ref ax), .val (.long x0), .second, .val (.long s2), .second, .val (.long s3), .second, .val (.long s4), .second, .val (.long r2), .second, .unset, .unset] [(.int (3 : Int32))])
    refine Goes.of (fun _ kont => XS.iconst X17.here hx rfl (Jvm.hb hby at_162) kont) ?_
    show Goes p e below _ T17 (mkF m 163 #[.val (.int p1), .val (.int p2), .val (.int p3), .val (.int p4), .val (.int p5), .val (.int (3 : Int32)), .val (.long x0), .second, .val (.long x1), .second, .val (.long x2), .second, .val (.long x3), .second, .val (.ref ax), .val (.long x0), .second, .val (.long s2), .second, .val (.long s3), .second, .val (.long s4), .second, .val (.long r2), .second, .unset, .unset] [(.int (3 : Int32)), (.int (3 : Int32))])
    refine Goes.of (fun _ kont => XS.icmpNo X17.here hx rfl (Jvm.hb hby at_163) rfl (by decide) kont) ?_
    show Goes p e below _ T17 (mkF m 166 #[.val (.int p1), .val (.int p2), .val (.int p3), .val (.int p4), .val (.int p5), .val (.int (3 : Int32)), .val (.long x0), .second, .val (.long x1), .second, .val (.long x2), .second, .val (.long x3), .second, .val (.ref ax), .val (.long x0), .second, .val (.long s2), .second, .val (.long s3), .second, .val (.long s4), .second, .val (.long r2), .second, .unset, .unset] [])
    refine Goes.of (fun _ kont => XT.lload X17.here hx rfl (Jvm.hb hby at_166) rfl kont) ?_
    show Goes p e below _ T17 (mkF m 168 #[.val (.int p1), .val (.int p2), .val (.int p3), .val (.int p4), .val (.int p5), .val (.int (3 : Int32)), .val (.long x0), .second, .val (.long x1), .second, .val (.long x2), .second, .val (.long x3), .second, .val (.ref ax), .val (.long x0), .second, .val (.long s2), .second, .val (.long s3), .second, .val (.long s4), .second, .val (.long r2), .second, .unset, .unset] [(.long r2)])
    refine Goes.of (fun _ kont => XT.lload X17.here hx rfl (Jvm.hb hby at_168) rfl kont) ?_
    show Goes p e below _ T17 (mkF m 170 #[.val (.int p1), .val (.int p2), .val (.int p3), .val (.int p4), .val (.int p5), .val (.int (3 : Int32)), .val (.long x0), .second, .val (.long x1), .second, .val (.long x2), .second, .val (.long x3), .second, .val (.ref ax), .val (.long x0), .second, .val (.long s2), .second, .val (.long s3), .second, .val (.long s4), .second, .val (.long r2), .second, .unset, .unset] [(.long s3), (.long r2)])
    refine Goes.of (fun _ kont => XT.lload X17.here hx rfl (Jvm.hb hby at_170) rfl kont) ?_
    show Goes p e below _ T17 (mkF m 172 #[.val (.int p1), .val (.int p2), .val (.int p3), .val (.int p4), .val (.int p5), .val (.int (3 : Int32)), .val (.long x0), .second, .val (.long x1), .second, .val (.long x2), .second, .val (.long x3), .second, .val (.ref ax), .val (.long x0), .second, .val (.long s2), .second, .val (.long s3), .second, .val (.long s4), .second, .val (.long r2), .second, .unset, .unset] [(.long s3), (.long s3), (.long r2)])
    refine Goes.of (fun _ kont => XT.lmul X17.here hx rfl (Jvm.hb hby at_172) rfl kont) ?_
    show Goes p e below _ T17 (mkF m 173 #[.val (.int p1), .val (.int p2), .val (.int p3), .val (.int p4), .val (.int p5), .val (.int (3 : Int32)), .val (.long x0), .second, .val (.long x1), .second, .val (.long x2), .second, .val (.long x3), .second, .val (.ref ax), .val (.long x0), .second, .val (.long s2), .second, .val (.long s3), .second, .val (.long s4), .second, .val (.long r2), .second, .unset, .unset] [(.long (s3 * s3)), (.long r2)])
    refine Goes.of (fun _ kont => XT.ladd X17.here hx rfl (Jvm.hb hby at_173) rfl kont) ?_
    show Goes p e below _ T17 (mkF m 174 #[.val (.int p1), .val (.int p2), .val (.int p3), .val (.int p4), .val (.int p5), .val (.int (3 : Int32)), .val (.long x0), .second, .val (.long x1), .second, .val (.long x2), .second, .val (.long x3), .second, .val (.ref ax), .val (.long x0), .second, .val (.long s2), .second, .val (.long s3), .second, .val (.long s4), .second, .val (.long r2), .second, .unset, .unset] [(.long (r2 + (s3 * s3)))])
    generalize hr3 : (r2 + (s3 * s3)) = r3
    show Goes p e below _ T17 (mkF m 174 #[.val (.int p1), .val (.int p2), .val (.int p3), .val (.int p4), .val (.int p5), .val (.int (3 : Int32)), .val (.long x0), .second, .val (.long x1), .second, .val (.long x2), .second, .val (.long x3), .second, .val (.ref ax), .val (.long x0), .second, .val (.long s2), .second, .val (.long s3), .second, .val (.long s4), .second, .val (.long r2), .second, .unset, .unset] [(.long r3)])
    have er3 := own_lsq hr3 (by omega) (by have := own_sqb (a := x0.toInt) (A := 4194304) (by omega); have := own_sqb (a := x0.toInt + x1.toInt) (A := 4194304) (by omega); omega)
    rw [er2, e3] at er3
    refine Goes.of (fun _ kont => XT.lstore X17.here hx rfl (Jvm.hb hby at_174) rfl (l' := #[.val (.int p1), .val (.int p2), .val (.int p3), .val (.int p4), .val (.int p5), .val (.int (3 : Int32)), .val (.long x0), .second, .val (.long x1), .second, .val (.long x2), .second, .val (.long x3), .second, .val (.ref ax), .val (.long x0), .second, .val (.long s2), .second, .val (.long s3), .second, .val (.long s4), .second, .val (.long r3), .second, .unset, .unset]) rfl kont) ?_
    show Goes p e below _ T17 (mkF m 176 #[.val (.int p1), .val (.int p2), .val (.int p3), .val (.int p4), .val (.int p5), .val (.int (3 : Int32)), .val (.long x0), .second, .val (.long x1), .second, .val (.long x2), .second, .val (.long x3), .second, .val (.ref ax), .val (.long x0), .second, .val (.long s2), .second, .val (.long s3), .second, .val (.long s4), .second, .val (.long r3), .second, .unset, .unset] [])
    refine Goes.of (fun _ kont => XS.iload X17.here hx rfl (Jvm.hb hby at_176) rfl kont) ?_
    show Goes p e below _ T17 (mkF m 178 #[.val (.int p1), .val (.int p2), .val (.int p3), .val (.int p4), .val (.int p5), .val (.int (3 : Int32)), .val (.long x0), .second, .val (.long x1), .second, .val (.long x2), .second, .val (.long x3), .second, .val (.ref ax), .val (.long x0), .second, .val (.long s2), .second, .val (.long s3), .second, .val (.long s4), .second, .val (.long r3), .second, .unset, .unset] [(.int (3 : Int32))])
    refine Goes.of (fun _ kont => XS.iconst X17.here hx rfl (Jvm.hb hby at_178) kont) ?_
    show Goes p e below _ T17 (mkF m 179 #[.val (.int p1), .val (.int p2), .val (.int p3), .val (.int p4), .val (.int p5), .val (.int (3 : Int32)), .val (.long x0), .second, .val (.long x1), .second, .val (.long x2), .second, .val (.long x3), .second, .val (.ref ax), .val (.long x0), .second, .val (.long s2), .second, .val (.long s3), .second, .val (.long s4), .second, .val (.long r3), .second, .unset, .unset] [(.int (4 : Int32)), (.int (3 : Int32))])
    refine Goes.of (fun _ kont => XS.icmpYes X17.here hx rfl (pc0 := 179) (pc' := 192) rfl (Jvm.hb hby at_179) rfl (by decide) (by decide) (by decide) kont) ?_
    show Goes p e below _ T17 (mkF m 192 #[.val (.int p1), .val (.int p2), .val (.int p3), .val (.int p4), .val (.int p5), .val (.int (3 : Int32)), .val (.long x0), .second, .val (.long x1), .second, .val (.long x2), .second, .val (.long x3), .second, .val (.ref ax), .val (.long x0), .second, .val (.long s2), .second, .val (.long s3), .second, .val (.long s4), .second, .val (.long r3), .second, .unset, .unset] [])
    refine Goes.of (fun _ kont => XS.aload X17.here hx rfl (Jvm.hb hby at_192) rfl rfl kont) ?_
    show Goes p e below _ T17 (mkF m 194 #[.val (.int p1), .val (.int p2), .val (.int p3), .val (.int p4), .val (.int p5), .val (.int (3 : Int32)), .val (.long x0), .second, .val (.long x1), .second, .val (.long x2), .second, .val (.long x3), .second, .val (.ref ax), .val (.long x0), .second, .val (.long s2), .second, .val (.long s3), .second, .val (.long s4), .second, .val (.long r3), .second, .unset, .unset] [(.ref ax)])
    refine callC X17 hx hZ hown (hw _ (List.mem_of_getElem? (i := 6) rfl)) (hw _ (List.mem_of_getElem? (i := 7) rfl)) (hw _ (List.mem_of_getElem? (i := 8) rfl)) (hw _ (List.mem_of_getElem? (i := 9) rfl)) (by decide) (as := [(.ref ax)]) (rm1_3 l Z a0 hw ax (FP.l2d x0) x0.toInt (FP.l2d x1) x1.toInt (FP.l2d x2) x2.toInt h17 n0 Z17 V_ax_17 D0 b0 D1 b1 D2 b2) 0 (by decide) (by decide) e17 (by decide) (by decide) (g := mkF m 194 #[.val (.int p1), .val (.int p2), .val (.int p3), .val (.int p4), .val (.int p5), .val (.int (3 : Int32)), .val (.long x0), .second, .val (.long x1), .second, .val (.long x2), .second, .val (.long x3), .second, .val (.ref ax), .val (.long x0), .second, .val (.long s2), .second, .val (.long s3), .second, .val (.long s4), .second, .val (.long r3), .second, .unset, .unset] [(.ref ax)]) rfl (by rw [hml]; rfl) (rest := []) (lenOf pd_1 rfl) rfl (by show 2 * 0 + _ ≤ _; exact Nat.le_of_eq rfl) (Jvm.hb hby at_194) ?_
    rintro _ T18 L18 X18 ⟨⟨z18, rfl, Dz18⟩, N18, e18⟩
    show Goes p e below _ T18 (mkF m 197 #[.val (.int p1), .val (.int p2), .val (.int p3), .val (.int p4), .val (.int p5), .val (.int (3 : Int32)), .val (.long x0), .second, .val (.long x1), .second, .val (.long x2), .second, .val (.long x3), .second, .val (.ref ax), .val (.long x0), .second, .val (.long s2), .second, .val (.long s3), .second, .val (.long s4), .second, .val (.long r3), .second, .unset, .unset] [(.double z18)])
    refine Goes.of (fun _ kont => XS.dstore X18.here hx rfl (Jvm.hb hby at_197) rfl (l' := #[.val (.int p1), .val (.int p2), .val (.int p3), .val (.int p4), .val (.int p5), .val (.int (3 : Int32)), .val (.long x0), .second, .val (.long x1), .second, .val (.long x2), .second, .val (.long x3), .second, .val (.ref ax), .val (.long x0), .second, .val (.long s2), .second, .val (.long s3), .second, .val (.long s4), .second, .val (.long r3), .second, .val (.double z18), .second]) rfl kont) ?_
    show Goes p e below _ T18 (mkF m 199 #[.val (.int p1), .val (.int p2), .val (.int p3), .val (.int p4), .val (.int p5), .val (.int (3 : Int32)), .val (.long x0), .second, .val (.long x1), .second, .val (.long x2), .second, .val (.long x3), .second, .val (.ref ax), .val (.long x0), .second, .val (.long s2), .second, .val (.long s3), .second, .val (.long s4), .second, .val (.long r3), .second, .val (.double z18), .second] [])
    refine Goes.of (fun _ kont => XS.dload X18.here hx rfl (Jvm.hb hby at_199) rfl kont) ?_
    show Goes p e below _ T18 (mkF m 201 #[.val (.int p1), .val (.int p2), .val (.int p3), .val (.int p4), .val (.int p5), .val (.int (3 : Int32)), .val (.long x0), .second, .val (.long x1), .second, .val (.long x2), .second, .val (.long x3), .second, .val (.ref ax), .val (.long x0), .second, .val (.long s2), .second, .val (.long s3), .second, .val (.long s4), .second, .val (.long r3), .second, .val (.double z18), .second] [(.double z18)])
    refine Goes.of (fun _ kont => XT.lload X18.here hx rfl (Jvm.hb hby at_201) rfl kont) ?_
    show Goes p e below _ T18 (mkF m 203 #[.val (.int p1), .val (.int p2), .val (.int p3), .val (.int p4), .val (.int p5), .val (.int (3 : Int32)), .val (.long x0), .second, .val (.long x1), .second, .val (.long x2), .second, .val (.long x3), .second, .val (.ref ax), .val (.long x0), .second, .val (.long s2), .second, .val (.long s3), .second, .val (.long s4), .second, .val (.long r3), .second, .val (.double z18), .second] [(.long r3), (.double z18)])
    refine Goes.of (fun _ kont => XS.l2dS X18.here hx rfl (Jvm.hb hby at_203) rfl rfl kont) ?_
    show Goes p e below _ T18 (mkF m 204 #[.val (.int p1), .val (.int p2), .val (.int p3), .val (.int p4), .val (.int p5), .val (.int (3 : Int32)), .val (.long x0), .second, .val (.long x1), .second, .val (.long x2), .second, .val (.long x3), .second, .val (.ref ax), .val (.long x0), .second, .val (.long s2), .second, .val (.long s3), .second, .val (.long s4), .second, .val (.long r3), .second, .val (.double z18), .second] [(.double (FP.l2d r3)), (.double z18)])
    refine Goes.of (fun _ kont => XS.dcmpS X18.here hx rfl (Jvm.hb hby at_204) rfl rfl kont) ?_
    show Goes p e below _ T18 (mkF m 205 #[.val (.int p1), .val (.int p2), .val (.int p3), .val (.int p4), .val (.int p5), .val (.int (3 : Int32)), .val (.long x0), .second, .val (.long x1), .second, .val (.long x2), .second, .val (.long x3), .second, .val (.ref ax), .val (.long x0), .second, .val (.long s2), .second, .val (.long s3), .second, .val (.long s4), .second, .val (.long r3), .second, .val (.double z18), .second] [(.int (cmpValue (FP.dcmp z18 (FP.l2d r3)) .l))])
    have De := dy_l2d (n := r3) (by have := own_sqb (a := x0.toInt) (A := 4194304) (by omega); have := own_sqb (a := x0.toInt + x1.toInt) (A := 4194304) (by omega); have := own_sqb (a := x0.toInt + x1.toInt + x2.toInt) (A := 4194304) (by omega); rw [er3]; omega)
    rw [er3] at De
    refine Goes.of (fun _ kont => XS.ifNo X18.here hx rfl (Jvm.hb hby at_205) rfl (by rw [dy_eq Dz18 De rfl]; decide) kont) ?_
    show Goes p e below _ T18 (mkF m 208 #[.val (.int p1), .val (.int p2), .val (.int p3), .val (.int p4), .val (.int p5), .val (.int (3 : Int32)), .val (.long x0), .second, .val (.long x1), .second, .val (.long x2), .second, .val (.long x3), .second, .val (.ref ax), .val (.long x0), .second, .val (.long s2), .second, .val (.long s3), .second, .val (.long s4), .second, .val (.long r3), .second, .val (.double z18), .second] [])
    refine Goes.of (fun _ kont => XS.iconst X18.here hx rfl (Jvm.hb hby at_208) kont) ?_
    show Goes p e below _ T18 (mkF m 209 #[.val (.int p1), .val (.int p2), .val (.int p3), .val (.int p4), .val (.int p5), .val (.int (3 : Int32)), .val (.long x0), .second, .val (.long x1), .second, .val (.long x2), .second, .val (.long x3), .second, .val (.ref ax), .val (.long x0), .second, .val (.long s2), .second, .val (.long s3), .second, .val (.long s4), .second, .val (.long r3), .second, .val (.double z18), .second] [(.int (1 : Int32))])
    refine Goes.of (fun _ kont => XS.goto X18.here hx rfl (pc0 := 209) (pc' := 213) rfl (Jvm.hb hby at_209) (by decide) (by decide) kont) ?_
    show Goes p e below _ T18 (mkF m 213 #[.val (.int p1), .val (.int p2), .val (.int p3), .val (.int p4), .val (.int p5), .val (.int (3 : Int32)), .val (.long x0), .second, .val (.long x1), .second, .val (.long x2), .second, .val (.long x3), .second, .val (.ref ax), .val (.long x0), .second, .val (.long s2), .second, .val (.long s3), .second, .val (.long s4), .second, .val (.long r3), .second, .val (.double z18), .second] [(.int (1 : Int32))])
    exact retB X18 hx hlk (t := .boolean) hret (by simp) (Jvm.hb hby at_213) (by decide) (by decide) ⟨rfl, Fr.app N17 N18⟩
  · show Goes p e below _ T4 (mkF m 33 #[.val (.int p1), .val (.int p2), .val (.int p3), .val (.int p4), .val (.int p5), .val (.int (4 : Int32)), .val (.long x0), .second, .val (.long x1), .second, .val (.long x2), .second, .val (.long x3), .second, .unset, .unset, .unset, .unset, .unset, .unset, .unset, .unset, .unset, .unset, .unset, .unset, .unset] [])
    refine Goes.of (fun _ kont => XS.iload X4.here hx rfl (Jvm.hb hby at_33) rfl kont) ?_
    show Goes p e below _ T4 (mkF m 35 #[.val (.int p1), .val (.int p2), .val (.int p3), .val (.int p4), .val (.int p5), .val (.int (4 : Int32)), .val (.long x0), .second, .val (.long x1), .second, .val (.long x2), .second, .val (.long x3), .second, .unset, .unset, .unset, .unset, .unset, .unset, .unset, .unset, .unset, .unset, .unset, .unset, .unset] [(.int (4 : Int32))])
    refine goNewD X4 hx hZ (hw _ (List.mem_of_getElem? (i := 5) rfl)) e4 (g := mkF m 35 #[.val (.int p1), .val (.int p2), .val (.int p3), .val (.int p4), .val (.int p5), .val (.int (4 : Int32)), .val (.long x0), .second, .val (.long x1), .second, .val (.long x2), .second, .val (.long x3), .second, .unset, .unset, .unset, .unset, .unset, .unset, .unset, .unset, .unset, .unset, .unset, .unset, .unset] [(.int (4 : Int32))]) rfl (Jvm.hb hby at_35) rfl 4 (by decide) (by decide) (by decide) (by decide) ?_
    intro T19 h19 ax gax X19 e19 E19 V_ax
    have ge_ax : n0 ≤ ax := by rw [gax]; exact Z0
    have Z19 : n0 ≤ h19.size := Nat.le_trans Z0 E19.1
    show Goes p e below _ T19 (mkF m 37 #[.val (.int p1), .val (.int p2), .val (.int p3), .val (.int p4), .val (.int p5), .val (.int (4 : Int32)), .val (.long x0), .second, .val (.long x1), .second, .val (.long x2), .second, .val (.long x3), .second, .unset, .unset, .unset, .unset, .unset, .unset, .unset, .unset, .unset, .unset, .unset, .unset, .unset] [(.ref ax)])
    refine Goes.of (fun _ kont => XS.astore X19.here hx rfl (Jvm.hb hby at_37) rfl rfl (l' := #[.val (.int p1), .val (.int p2), .val (.int p3), .val (.int p4), .val (.int p5), .val (.int (4 : Int32)), .val (.long x0), .second, .val (.long x1), .second, .val (.long x2), .second, .val (.long x3), .second, .val (.ref ax), .unset, .unset, .unset, .unset, .unset, .unset, .unset, .unset, .unset, .unset, .unset, .unset]) rfl kont) ?_
    show Goes p e below _ T19 (mkF m 39 #[.val (.int p1), .val (.int p2), .val (.int p3), .val (.int p4), .val (.int p5), .val (.int (4 : Int32)), .val (.long x0), .second, .val (.long x1), .second, .val (.long x2), .second, .val (.long x3), .second, .val (.ref ax), .unset, .unset, .unset, .unset, .unset, .unset, .unset, .unset, .unset, .unset, .unset, .unset] [])
    refine Goes.of (fun _ kont => XS.iload X19.here hx rfl (Jvm.hb hby at_39) rfl kont) ?_
    show Goes p e below _ T19 (mkF m 41 #[.val (.int p1), .val (.int p2), .val (.int p3), .val (.int p4), .val (.int p5), .val (.int (4 : Int32)), .val (.long x0), .second, .val (.long x1), .second, .val (.long x2), .second, .val (.long x3), .second, .val (.ref ax), .unset, .unset, .unset, .unset, .unset, .unset, .unset, .unset, .unset, .unset, .unset, .unset] [(.int (4 : Int32))])
    refine Goes.of (fun _ kont => XS.iconst X19.here hx rfl (Jvm.hb hby at_41) kont) ?_
    show Goes p e below _ T19 (mkF m 42 #[.val (.int p1), .val (.int p2), .val (.int p3), .val (.int p4), .val (.int p5), .val (.int (4 : Int32)), .val (.long x0), .second, .val (.long x1), .second, .val (.long x2), .second, .val (.long x3), .second, .val (.ref ax), .unset, .unset, .unset, .unset, .unset, .unset, .unset, .unset, .unset, .unset, .unset, .unset] [(.int (1 : Int32)), (.int (4 : Int32))])
    refine Goes.of (fun _ kont => XS.icmpNo X19.here hx rfl (Jvm.hb hby at_42) rfl (by decide) kont) ?_
    show Goes p e below _ T19 (mkF m 45 #[.val (.int p1), .val (.int p2), .val (.int p3), .val (.int p4), .val (.int p5), .val (.int (4 : Int32)), .val (.long x0), .second, .val (.long x1), .second, .val (.long x2), .second, .val (.long x3), .second, .val (.ref ax), .unset, .unset, .unset, .unset, .unset, .unset, .unset, .unset, .unset, .unset, .unset, .unset] [])
    refine Goes.of (fun _ kont => XS.aload X19.here hx rfl (Jvm.hb hby at_45) rfl rfl kont) ?_
    show Goes p e below _ T19 (mkF m 47 #[.val (.int p1), .val (.int p2), .val (.int p3), .val (.int p4), .val (.int p5), .val (.int (4 : Int32)), .val (.long x0), .second, .val (.long x1), .second, .val (.long x2), .second, .val (.long x3), .second, .val (.ref ax), .unset, .unset, .unset, .unset, .unset, .unset, .unset, .unset, .unset, .unset, .unset, .unset] [(.ref ax)])
    refine Goes.of (fun _ kont => XS.iconst X19.here hx rfl (Jvm.hb hby at_47) kont) ?_
    show Goes p e below _ T19 (mkF m 48 #[.val (.int p1), .val (.int p2), .val (.int p3), .val (.int p4), .val (.int p5), .val (.int (4 : Int32)), .val (.long x0), .second, .val (.long x1), .second, .val (.long x2), .second, .val (.long x3), .second, .val (.ref ax), .unset, .unset, .unset, .unset, .unset, .unset, .unset, .unset, .unset, .unset, .unset, .unset] [(.int (0 : Int32)), (.ref ax)])
    refine Goes.of (fun _ kont => XT.lload X19.here hx rfl (Jvm.hb hby at_48) rfl kont) ?_
    show Goes p e below _ T19 (mkF m 50 #[.val (.int p1), .val (.int p2), .val (.int p3), .val (.int p4), .val (.int p5), .val (.int (4 : Int32)), .val (.long x0), .second, .val (.long x1), .second, .val (.long x2), .second, .val (.long x3), .second, .val (.ref ax), .unset, .unset, .unset, .unset, .unset, .unset, .unset, .unset, .unset, .unset, .unset, .unset] [(.long x0), (.int (0 : Int32)), (.ref ax)])
    refine Goes.of (fun _ kont => XS.l2dS X19.here hx rfl (Jvm.hb hby at_50) rfl rfl kont) ?_
    show Goes p e below _ T19 (mkF m 51 #[.val (.int p1), .val (.int p2), .val (.int p3), .val (.int p4), .val (.int p5), .val (.int (4 : Int32)), .val (.long x0), .second, .val (.long x1), .second, .val (.long x2), .second, .val (.long x3), .second, .val (.ref ax), .unset, .unset, .unset, .unset, .unset, .unset, .unset, .unset, .unset, .unset, .unset, .unset] [(.double (FP.l2d x0)), (.int (0 : Int32)), (.ref ax)])
    refine goStD X19 hx hZ e19 V_ax 0 (by decide) (by show 0 < 4; decide) (g := (mkF m 51 #[.val (.int p1), .val (.int p2), .val (.int p3), .val (.int p4), .val (.int p5), .val (.int (4 : Int32)), .val (.long x0), .second, .val (.long x1), .second, .val (.long x2), .second, .val (.long x3), .second, .val (.ref ax), .unset, .unset, .unset, .unset, .unset, .unset, .unset, .unset, .unset, .unset, .unset, .unset] [(.double (FP.l2d x0)), (.int (0 : Int32)), (.ref ax)])) rfl rfl (Jvm.hb hby at_51) NN ge_ax ?_
    intro T20 h20 L20 X20 e20 N20 K20 V_ax_20
    replace V_ax_20 : DA Z h20 ax [(FP.l2d x0), 0, 0, 0] := V_ax_20
    have Z20 : n0 ≤ h20.size := Nat.le_trans ge_ax (Nat.le_of_lt V_ax_20.lt)
    show Goes p e below _ T20 (mkF m 52 #[.val (.int p1), .val (.int p2), .val (.int p3), .val (.int p4), .val (.int p5), .val (.int (4 : Int32)), .val (.long x0), .second, .val (.long x1), .second, .val (.long x2), .second, .val (.long x3), .second, .val (.ref ax), .unset, .unset, .unset, .unset, .unset, .unset, .unset, .unset, .unset, .unset, .unset, .unset] [])
    refine Goes.of (fun _ kont => XS.iload X20.here hx rfl (Jvm.hb hby at_52) rfl kont) ?_
    show Goes p e below _ T20 (mkF m 54 #[.val (.int p1), .val (.int p2), .val (.int p3), .val (.int p4), .val (.int p5), .val (.int (4 : Int32)), .val (.long x0), .second, .val (.long x1), .second, .val (.long x2), .second, .val (.long x3), .second, .val (.ref ax), .unset, .unset, .unset, .unset, .unset, .unset, .unset, .unset, .unset, .unset, .unset, .unset] [(.int (4 : Int32))])
    refine Goes.of (fun _ kont => XS.iconst X20.here hx rfl (Jvm.hb hby at_54) kont) ?_
    show Goes p e below _ T20 (mkF m 55 #[.val (.int p1), .val (.int p2), .val (.int p3), .val (.int p4), .val (.int p5), .val (.int (4 : Int32)), .val (.long x0), .second, .val (.long x1), .second, .val (.long x2), .second, .val (.long x3), .second, .val (.ref ax), .unset, .unset, .unset, .unset, .unset, .unset, .unset, .unset, .unset, .unset, .unset, .unset] [(.int (2 : Int32)), (.int (4 : Int32))])
    refine Goes.of (fun _ kont => XS.icmpNo X20.here hx rfl (Jvm.hb hby at_55) rfl (by decide) kont) ?_
    show Goes p e below _ T20 (mkF m 58 #[.val (.int p1), .val (.int p2), .val (.int p3), .val (.int p4), .val (.int p5), .val (.int (4 : Int32)), .val (.long x0), .second, .val (.long x1), .second, .val (.long x2), .second, .val (.long x3), .second, .val (.ref ax), .unset, .unset, .unset, .unset, .unset, .unset, .unset, .unset, .unset, .unset, .unset, .unset] [])
    refine Goes.of (fun _ kont => XS.aload X20.here hx rfl (Jvm.hb hby at_58) rfl rfl kont) ?_
    show Goes p e below _ T20 (mkF m 60 #[.val (.int p1), .val (.int p2), .val (.int p3), .val (.int p4), .val (.int p5), .val (.int (4 : Int32)), .val (.long x0), .second, .val (.long x1), .second, .val (.long x2), .second, .val (.long x3), .second, .val (.ref ax), .unset, .unset, .unset, .unset, .unset, .unset, .unset, .unset, .unset, .unset, .unset, .unset] [(.ref ax)])
    refine Goes.of (fun _ kont => XS.iconst X20.here hx rfl (Jvm.hb hby at_60) kont) ?_
    show Goes p e below _ T20 (mkF m 61 #[.val (.int p1), .val (.int p2), .val (.int p3), .val (.int p4), .val (.int p5), .val (.int (4 : Int32)), .val (.long x0), .second, .val (.long x1), .second, .val (.long x2), .second, .val (.long x3), .second, .val (.ref ax), .unset, .unset, .unset, .unset, .unset, .unset, .unset, .unset, .unset, .unset, .unset, .unset] [(.int (1 : Int32)), (.ref ax)])
    refine Goes.of (fun _ kont => XT.lload X20.here hx rfl (Jvm.hb hby at_61) rfl kont) ?_
    show Goes p e below _ T20 (mkF m 63 #[.val (.int p1), .val (.int p2), .val (.int p3), .val (.int p4), .val (.int p5), .val (.int (4 : Int32)), .val (.long x0), .second, .val (.long x1), .second, .val (.long x2), .second, .val (.long x3), .second, .val (.ref ax), .unset, .unset, .unset, .unset, .unset, .unset, .unset, .unset, .unset, .unset, .unset, .unset] [(.long x1), (.int (1 : Int32)), (.ref ax)])
    refine Goes.of (fun _ kont => XS.l2dS X20.here hx rfl (Jvm.hb hby at_63) rfl rfl kont) ?_
    show Goes p e below _ T20 (mkF m 64 #[.val (.int p1), .val (.int p2), .val (.int p3), .val (.int p4), .val (.int p5), .val (.int (4 : Int32)), .val (.long x0), .second, .val (.long x1), .second, .val (.long x2), .second, .val (.long x3), .second, .val (.ref ax), .unset, .unset, .unset, .unset, .unset, .unset, .unset, .unset, .unset, .unset, .unset, .unset] [(.double (FP.l2d x1)), (.int (1 : Int32)), (.ref ax)])
    refine goStD X20 hx hZ e20 V_ax_20 1 (by decide) (by show 1 < 4; decide) (g := (mkF m 64 #[.val (.int p1), .val (.int p2), .val (.int p3), .val (.int p4), .val (.int p5), .val (.int (4 : Int32)), .val (.long x0), .second, .val (.long x1), .second, .val (.long x2), .second, .val (.long x3), .second, .val (.ref ax), .unset, .unset, .unset, .unset, .unset, .unset, .unset, .unset, .unset, .unset, .unset, .unset] [(.double (FP.l2d x1)), (.int (1 : Int32)), (.ref ax)])) rfl rfl (Jvm.hb hby at_64) N20 ge_ax ?_
    intro T21 h21 L21 X21 e21 N21 K21 V_ax_21
    replace V_ax_21 : DA Z h21 ax [(FP.l2d x0), (FP.l2d x1), 0, 0] := V_ax_21
    have Z21 : n0 ≤ h21.size := Nat.le_trans ge_ax (Nat.le_of_lt V_ax_21.lt)
    show Goes p e below _ T21 (mkF m 65 #[.val (.int p1), .val (.int p2), .val (.int p3), .val (.int p4), .val (.int p5), .val (.int (4 : Int32)), .val (.long x0), .second, .val (.long x1), .second, .val (.long x2), .second, .val (.long x3), .second, .val (.ref ax), .unset, .unset, .unset, .unset, .unset, .unset, .unset, .unset, .unset, .unset, .unset, .unset] [])
    refine Goes.of (fun _ kont => XS.iload X21.here hx rfl (Jvm.hb hby at_65) rfl kont) ?_
    show Goes p e below _ T21 (mkF m 67 #[.val (.int p1), .val (.int p2), .val (.int p3), .val (.int p4), .val (.int p5), .val (.int (4 : Int32)), .val (.long x0), .second, .val (.long x1), .second, .val (.long x2), .second, .val (.long x3), .second, .val (.ref ax), .unset, .unset, .unset, .unset, .unset, .unset, .unset, .unset, .unset, .unset, .unset, .unset] [(.int (4 : Int32))])
    refine Goes.of (fun _ kont => XS.iconst X21.here hx rfl (Jvm.hb hby at_67) kont) ?_
    show Goes p e below _ T21 (mkF m 68 #[.val (.int p1), .val (.int p2), .val (.int p3), .val (.int p4), .val (.int p5), .val (.int (4 : Int32)), .val (.long x0), .second, .val (.long x1), .second, .val (.long x2), .second, .val (.long x3), .second, .val (.ref ax), .unset, .unset, .unset, .unset, .unset, .unset, .unset, .unset, .unset, .unset, .unset, .unset] [(.int (3 : Int32)), (.int (4 : Int32))])
    refine Goes.of (fun _ kont => XS.icmpNo X21.here hx rfl (Jvm.hb hby at_68) rfl (by decide) kont) ?_
    show Goes p e below _ T21 (mkF m 71 #[.val (.int p1), .val (.int p2), .val (.int p3), .val (.int p4), .val (.int p5), .val (.int (4 : Int32)), .val (.long x0), .second, .val (.long x1), .second, .val (.long x2), .second, .val (.long x3), .second, .val (.ref ax), .unset, .unset, .unset, .unset, .unset, .unset, .unset, .unset, .unset, .unset, .unset, .unset] [])
    refine Goes.of (fun _ kont => XS.aload X21.here hx rfl (Jvm.hb hby at_71) rfl rfl kont) ?_
    show Goes p e below _ T21 (mkF m 73 #[.val (.int p1), .val (.int p2), .val (.int p3), .val (.int p4), .val (.int p5), .val (.int (4 : Int32)), .val (.long x0), .second, .val (.long x1), .second, .val (.long x2), .second, .val (.long x3), .second, .val (.ref ax), .unset, .unset, .unset, .unset, .unset, .unset, .unset, .unset, .unset, .unset, .unset, .unset] [(.ref ax)])
    refine Goes.of (fun _ kont => XS.iconst X21.here hx rfl (Jvm.hb hby at_73) kont) ?_
    show Goes p e below _ T21 (mkF m 74 #[.val (.int p1), .val (.int p2), .val (.int p3), .val (.int p4), .val (.int p5), .val (.int (4 : Int32)), .val (.long x0), .second, .val (.long x1), .second, .val (.long x2), .second, .val (.long x3), .second, .val (.ref ax), .unset, .unset, .unset, .unset, .unset, .unset, .unset, .unset, .unset, .unset, .unset, .unset] [(.int (2 : Int32)), (.ref ax)])
    refine Goes.of (fun _ kont => XT.lload X21.here hx rfl (Jvm.hb hby at_74) rfl kont) ?_
    show Goes p e below _ T21 (mkF m 76 #[.val (.int p1), .val (.int p2), .val (.int p3), .val (.int p4), .val (.int p5), .val (.int (4 : Int32)), .val (.long x0), .second, .val (.long x1), .second, .val (.long x2), .second, .val (.long x3), .second, .val (.ref ax), .unset, .unset, .unset, .unset, .unset, .unset, .unset, .unset, .unset, .unset, .unset, .unset] [(.long x2), (.int (2 : Int32)), (.ref ax)])
    refine Goes.of (fun _ kont => XS.l2dS X21.here hx rfl (Jvm.hb hby at_76) rfl rfl kont) ?_
    show Goes p e below _ T21 (mkF m 77 #[.val (.int p1), .val (.int p2), .val (.int p3), .val (.int p4), .val (.int p5), .val (.int (4 : Int32)), .val (.long x0), .second, .val (.long x1), .second, .val (.long x2), .second, .val (.long x3), .second, .val (.ref ax), .unset, .unset, .unset, .unset, .unset, .unset, .unset, .unset, .unset, .unset, .unset, .unset] [(.double (FP.l2d x2)), (.int (2 : Int32)), (.ref ax)])
    refine goStD X21 hx hZ e21 V_ax_21 2 (by decide) (by show 2 < 4; decide) (g := (mkF m 77 #[.val (.int p1), .val (.int p2), .val (.int p3), .val (.int p4), .val (.int p5), .val (.int (4 : Int32)), .val (.long x0), .second, .val (.long x1), .second, .val (.long x2), .second, .val (.long x3), .second, .val (.ref ax), .unset, .unset, .unset, .unset, .unset, .unset, .unset, .unset, .unset, .unset, .unset, .unset] [(.double (FP.l2d x2)), (.int (2 : Int32)), (.ref ax)])) rfl rfl (Jvm.hb hby at_77) N21 ge_ax ?_
    intro T22 h22 L22 X22 e22 N22 K22 V_ax_22
    replace V_ax_22 : DA Z h22 ax [(FP.l2d x0), (FP.l2d x1), (FP.l2d x2), 0] := V_ax_22
    have Z22 : n0 ≤ h22.size := Nat.le_trans ge_ax (Nat.le_of_lt V_ax_22.lt)
    show Goes p e below _ T22 (mkF m 78 #[.val (.int p1), .val (.int p2), .val (.int p3), .val (.int p4), .val (.int p5), .val (.int (4 : Int32)), .val (.long x0), .second, .val (.long x1), .second, .val (.long x2), .second, .val (.long x3), .second, .val (.ref ax), .unset, .unset, .unset, .unset, .unset, .unset, .unset, .unset, .unset, .unset, .unset, .unset] [])
    refine Goes.of (fun _ kont => XS.iload X22.here hx rfl (Jvm.hb hby at_78) rfl kont) ?_
    show Goes p e below _ T22 (mkF m 80 #[.val (.int p1), .val (.int p2), .val (.int p3), .val (.int p4), .val (.int p5), .val (.int (4 : Int32)), .val (.long x0), .second, .val (.long x1), .second, .val (.long x2), .second, .val (.long x3), .second, .val (.ref ax), .unset, .unset, .unset, .unset, .unset, .unset, .unset, .unset, .unset, .unset, .unset, .unset] [(.int (4 : Int32))])
    refine Goes.of (fun _ kont => XS.iconst X22.here hx rfl (Jvm.hb hby at_80) kont) ?_
    show Goes p e below _ T22 (mkF m 81 #[.val (.int p1), .val (.int p2), .val (.int p3), .val (.int p4), .val (.int p5), .val (.int (4 : Int32)), .val (.long x0), .second, .val (.long x1), .second, .val (.long x2), .second, .val (.long x3), .second, .val (.ref ax), .unset, .unset, .unset, .unset, .unset, .unset, .unset, .unset, .unset, .unset, .unset, .unset] [(.int (4 : Int32)), (.int (4 : Int32))])
    refine Goes.of (fun _ kont => XS.icmpNo X22.here hx rfl (Jvm.hb hby at_81) rfl (by decide) kont) ?_
    show Goes p e below _ T22 (mkF m 84 #[.val (.int p1), .val (.int p2), .val (.int p3), .val (.int p4), .val (.int p5), .val (.int (4 : Int32)), .val (.long x0), .second, .val (.long x1), .second, .val (.long x2), .second, .val (.long x3), .second, .val (.ref ax), .unset, .unset, .unset, .unset, .unset, .unset, .unset, .unset, .unset, .unset, .unset, .unset] [])
    refine Goes.of (fun _ kont => XS.aload X22.here hx rfl (Jvm.hb hby at_84) rfl rfl kont) ?_
    show Goes p e below _ T22 (mkF m 86 #[.val (.int p1), .val (.int p2), .val (.int p3), .val (.int p4), .val (.int p5), .val (.int (4 : Int32)), .val (.long x0), .second, .val (.long x1), .second, .val (.long x2), .second, .val (.long x3), .second, .val (.ref ax), .unset, .unset, .unset, .unset, .unset, .unset, .unset, .unset, .unset, .unset, .unset, .unset] [(.ref ax)])
    refine Goes.of (fun _ kont => XS.iconst X22.here hx rfl (Jvm.hb hby at_86) kont) ?_
    show Goes p e below _ T22 (mkF m 87 #[.val (.int p1), .val (.int p2), .val (.int p3), .val (.int p4), .val (.int p5), .val (.int (4 : Int32)), .val (.long x0), .second, .val (.long x1), .second, .val (.long x2), .second, .val (.long x3), .second, .val (.ref ax), .unset, .unset, .unset, .unset, .unset, .unset, .unset, .unset, .unset, .unset, .unset, .unset] [(.int (3 : Int32)), (.ref ax)])
    refine Goes.of (fun _ kont => XT.lload X22.here hx rfl (Jvm.hb hby at_87) rfl kont) ?_
    show Goes p e below _ T22 (mkF m 89 #[.val (.int p1), .val (.int p2), .val (.int p3), .val (.int p4), .val (.int p5), .val (.int (4 : Int32)), .val (.long x0), .second, .val (.long x1), .second, .val (.long x2), .second, .val (.long x3), .second, .val (.ref ax), .unset, .unset, .unset, .unset, .unset, .unset, .unset, .unset, .unset, .unset, .unset, .unset] [(.long x3), (.int (3 : Int32)), (.ref ax)])
    refine Goes.of (fun _ kont => XS.l2dS X22.here hx rfl (Jvm.hb hby at_89) rfl rfl kont) ?_
    show Goes p e below _ T22 (mkF m 90 #[.val (.int p1), .val (.int p2), .val (.int p3), .val (.int p4), .val (.int p5), .val (.int (4 : Int32)), .val (.long x0), .second, .val (.long x1), .second, .val (.long x2), .second, .val (.long x3), .second, .val (.ref ax), .unset, .unset, .unset, .unset, .unset, .unset, .unset, .unset, .unset, .unset, .unset, .unset] [(.double (FP.l2d x3)), (.int (3 : Int32)), (.ref ax)])
    refine goStD X22 hx hZ e22 V_ax_22 3 (by decide) (by show 3 < 4; decide) (g := (mkF m 90 #[.val (.int p1), .val (.int p2), .val (.int p3), .val (.int p4), .val (.int p5), .val (.int (4 : Int32)), .val (.long x0), .second, .val (.long x1), .second, .val (.long x2), .second, .val (.long x3), .second, .val (.ref ax), .unset, .unset, .unset, .unset, .unset, .unset, .unset, .unset, .unset, .unset, .unset, .unset] [(.double (FP.l2d x3)), (.int (3 : Int32)), (.ref ax)])) rfl rfl (Jvm.hb hby at_90) N22 ge_ax ?_
    intro T23 h23 L23 X23 e23 N23 K23 V_ax_23
    replace V_ax_23 : DA Z h23 ax [(FP.l2d x0), (FP.l2d x1), (FP.l2d x2), (FP.l2d x3)] := V_ax_23
    have Z23 : n0 ≤ h23.size := Nat.le_trans ge_ax (Nat.le_of_lt V_ax_23.lt)
    show Goes p e below _ T23 (mkF m 91 #[.val (.int p1), .val (.int p2), .val (.int p3), .val (.int p4), .val (.int p5), .val (.int (4 : Int32)), .val (.long x0), .second, .val (.long x1), .second, .val (.long x2), .second, .val (.long x3), .second, .val (.ref ax), .unset, .unset, .unset, .unset, .unset, .unset, .unset, .unset, .unset, .unset, .unset, .unset] [])
    have f2 := own_ladd (rfl : x0 + x1 = x0 + x1) (by omega) (by omega)
    have f3 := own_ladd (rfl : x0 + x1 + x2 = x0 + x1 + x2) (by rw [f2]; omega) (by omega)
    rw [f2] at f3
    have f4 := own_ladd (rfl : x0 + x1 + x2 + x3 = x0 + x1 + x2 + x3) (by rw [f3]; omega) (by omega)
    rw [f3] at f4
    refine Goes.of (fun _ kont => XT.lload X23.here hx rfl (Jvm.hb hby at_91) rfl kont) ?_
    show Goes p e below _ T23 (mkF m 93 #[.val (.int p1), .val (.int p2), .val (.int p3), .val (.int p4), .val (.int p5), .val (.int (4 : Int32)), .val (.long x0), .second, .val (.long x1), .second, .val (.long x2), .second, .val (.long x3), .second, .val (.ref ax), .unset, .unset, .unset, .unset, .unset, .unset, .unset, .unset, .unset, .unset, .unset, .unset] [(.long x0)])
    refine Goes.of (fun _ kont => XT.lstore X23.here hx rfl (Jvm.hb hby at_93) rfl (l' := #[.val (.int p1), .val (.int p2), .val (.int p3), .val (.int p4), .val (.int p5), .val (.int (4 : Int32)), .val (.long x0), .second, .val (.long x1), .second, .val (.long x2), .second, .val (.long x3), .second, .val (.ref ax), .val (.long x0), .second, .unset, .unset, .unset, .unset, .unset, .unset, .unset, .unset, .unset, .unset]) rfl kont) ?_
    show Goes p e below _ T23 (mkF m 95 #[.val (.int p1), .val (.int p2), .val (.int p3), .val (.int p4), .val (.int p5), .val (.int (4 : Int32)), .val (.long x0), .second, .val (.long x1), .second, .val (.long x2), .second, .val (.long x3), .second, .val (.ref ax), .val (.long x0), .second, .unset, .unset, .unset, .unset, .unset, .unset, .unset, .unset, .unset, .unset] [])
    refine Goes.of (fun _ kont => XT.lload X23.here hx rfl (Jvm.hb hby at_95) rfl kont) ?_
    show Goes p e below _ T23 (mkF m 97 #[.val (.int p1), .val (.int p2), .val (.int p3), .val (.int p4), .val (.int p5), .val (.int (4 : Int32)), .val (.long x0), .second, .val (.long x1), .second, .val (.long x2), .second, .val (.long x3), .second, .val (.ref ax), .val (.long x0), .second, .unset, .unset, .unset, .unset, .unset, .unset, .unset, .unset, .unset, .unset] [(.long x0)])
    refine Goes.of (fun _ kont => XT.lload X23.here hx rfl (Jvm.hb hby at_97) rfl kont) ?_
    show Goes p e below _ T23 (mkF m 99 #[.val (.int p1), .val (.int p2), .val (.int p3), .val (.int p4), .val (.int p5), .val (.int (4 : Int32)), .val (.long x0), .second, .val (.long x1), .second, .val (.long x2), .second, .val (.long x3), .second, .val (.ref ax), .val (.long x0), .second, .unset, .unset, .unset, .unset, .unset, .unset, .unset, .unset, .unset, .unset] [(.long x1), (.long x0)])
    refine Goes.of (fun _ kont => XT.ladd X23.here hx rfl (Jvm.hb hby at_99) rfl kont) ?_
    show Goes p e below _ T23 (mkF m 100 #[.val (.int p1), .val (.int p2), .val (.int p3), .val (.int p4), .val (.int p5), .val (.int (4 : Int32)), .val (.long x0), .second, .val (.long x1), .second, .val (.long x2), .second, .val (.long x3), .second, .val (.ref ax), .val (.long x0), .second, .unset, .unset, .unset, .unset, .unset, .unset, .unset, .unset, .unset, .unset] [(.long (x0 + x1))])
    generalize hs2 : (x0 + x1) = s2
    show Goes p e below _ T23 (mkF m 100 #[.val (.int p1), .val (.int p2), .val (.int p3), .val (.int p4), .val (.int p5), .val (.int (4 : Int32)), .val (.long x0), .second, .val (.long x1), .second, .val (.long x2), .second, .val (.long x3), .second, .val (.ref ax), .val (.long x0), .second, .unset, .unset, .unset, .unset, .unset, .unset, .unset, .unset, .unset, .unset] [(.long s2)])
    refine Goes.of (fun _ kont => XT.lstore X23.here hx rfl (Jvm.hb hby at_100) rfl (l' := #[.val (.int p1), .val (.int p2), .val (.int p3), .val (.int p4), .val (.int p5), .val (.int (4 : Int32)), .val (.long x0), .second, .val (.long x1), .second, .val (.long x2), .second, .val (.long x3), .second, .val (.ref ax), .val (.long x0), .second, .val (.long s2), .second, .unset, .unset, .unset, .unset, .unset, .unset, .unset, .unset]) rfl kont) ?_
    show Goes p e below _ T23 (mkF m 102 #[.val (.int p1), .val (.int p2), .val (.int p3), .val (.int p4), .val (.int p5), .val (.int (4 : Int32)), .val (.long x0), .second, .val (.long x1), .second, .val (.long x2), .second, .val (.long x3), .second, .val (.ref ax), .val (.long x0), .second, .val (.long s2), .second, .unset, .unset, .unset, .unset, .unset, .unset, .unset, .unset] [])
    refine Goes.of (fun _ kont => XT.lload X23.here hx rfl (Jvm.hb hby at_102) rfl kont) ?_
    show Goes p e below _ T23 (mkF m 104 #[.val (.int p1), .val (.int p2), .val (.int p3), .val (.int p4), .val (.int p5), .val (.int (4 : Int32)), .val (.long x0), .second, .val (.long x1), .second, .val (.long x2), .second, .val (.long x3), .second, .val (.ref ax), .val (.long x0), .second, .val (.long s2), .second, .unset, .unset, .unset, .unset, .unset, .unset, .unset, .unset] [(.long x0)])
    refine Goes.of (fun _ kont => XT.lload X23.here hx rfl (Jvm.hb hby at_104) rfl kont) ?_
    show Goes p e below _ T23 (mkF m 106 #[.val (.int p1), .val (.int p2), .val (.int p3), .val (.int p4), .val (.int p5), .val (.int (4 : Int32)), .val (.long x0), .second, .val (.long x1), .second, .val (.long x2), .second, .val (.long x3), .second, .val (.ref ax), .val (.long x0), .second, .val (.long s2), .second, .unset, .unset, .unset, .unset, .unset, .unset, .unset, .unset] [(.long x1), (.long x0)])
    refine Goes.of (fun _ kont => XT.ladd X23.here hx rfl (Jvm.hb hby at_106) rfl kont) ?_
    show Goes p e below _ T23 (mkF m 107 #[.val (.int p1), .val (.int p2), .val (.int p3), .val (.int p4), .val (.int p5), .val (.int (4 : Int32)), .val (.long x0), .second, .val (.long x1), .second, .val (.long x2), .second, .val (.long x3), .second, .val (.ref ax), .val (.long x0), .second, .val (.long s2), .second, .unset, .unset, .unset, .unset, .unset, .unset, .unset, .unset] [(.long (x0 + x1))])
    refine Goes.of (fun _ kont => XT.lload X23.here hx rfl (Jvm.hb hby at_107) rfl kont) ?_
    show Goes p e below _ T23 (mkF m 109 #[.val (.int p1), .val (.int p2), .val (.int p3), .val (.int p4), .val (.int p5), .val (.int (4 : Int32)), .val (.long x0), .second, .val (.long x1), .second, .val (.long x2), .second, .val (.long x3), .second, .val (.ref ax), .val (.long x0), .second, .val (.long s2), .second, .unset, .unset, .unset, .unset, .unset, .unset, .unset, .unset] [(.long x2), (.long (x0 + x1))])
    refine Goes.of (fun _ kont => XT.ladd X23.here hx rfl (Jvm.hb hby at_109) rfl kont) ?_
    show Goes p e below _ T23 (mkF m 110 #[.val (.int p1), .val (.int p2), .val (.int p3), .val (.int p4), .val (.int p5), .val (.int (4 : Int32)), .val (.long x0), .second, .val (.long x1), .second, .val (.long x2), .second, .val (.long x3), .second, .val (.ref ax), .val (.long x0), .second, .val (.long s2), .second, .unset, .unset, .unset, .unset, .unset, .unset, .unset, .unset] [(.long ((x0 + x1) + x2))])
    generalize hs3 : ((x0 + x1) + x2) = s3
    show Goes p e below _ T23 (mkF m 110 #[.val (.int p1), .val (.int p2), .val (.int p3), .val (.int p4), .val (.int p5), .val (.int (4 : Int32)), .val (.long x0), .second, .val (.long x1), .second, .val (.long x2), .second, .val (.long x3), .second, .val (.ref ax), .val (.long x0), .second, .val (.long s2), .second, .unset, .unset, .unset, .unset, .unset, .unset, .unset, .unset] [(.long s3)])
    refine Goes.of (fun _ kont => XT.lstore X23.here hx rfl (Jvm.hb hby at_110) rfl (l' := #[.val (.int p1), .val (.int p2), .val (.int p3), .val (.int p4), .val (.int p5), .val (.int (4 : Int32)), .val (.long x0), .second, .val (.long x1), .second, .val (.long x2), .second, .val (.long x3), .second, .val (.ref ax), .val (.long x0), .second, .val (.long s2), .second, .val (.long s3), .second, .unset, .unset, .unset, .unset, .unset, .unset]) rfl kont) ?_
    show Goes p e below _ T23 (mkF m 112 #[.val (.int p1), .val (.int p2), .val (.int p3), .val (.int p4), .val (.int p5), .val (.int (4 : Int32)), .val (.long x0), .second, .val (.long x1), .second, .val (.long x2), .second, .val (.long x3), .second, .val (.ref ax), .val (.long x0), .second, .val (.long s2), .second, .val (.long s3), .second, .unset, .unset, .unset, .unset, .unset, .unset] [])
    refine Goes.of (fun _ kont => XT.lload X23.here hx rfl (Jvm.hb hby at_112) rfl kont) ?_
    show Goes p e below _ T23 (mkF m 114 #[.val (.int p1), .val (.int p2), .val (.int p3), .val (.int p4), .val (.int p5), .val (.int (4 : Int32)), .val (.long x0), .second, .val (.long x1), .second, .val (.long x2), .second, .val (.long x3), .second, .val (.ref ax), .val (.long x0), .second, .val (.long s2), .second, .val (.long s3), .second, .unset, .unset, .unset, .unset, .unset, .unset] [(.long x0)])
    refine Goes.of (fun _ kont => XT.lload X23.here hx rfl (Jvm.hb hby at_114) rfl kont) ?_
    show Goes p e below _ T23 (mkF m 116 #[.val (.int p1), .val (.int p2), .val (.int p3), .val (.int p4), .val (.int p5), .val (.int (4 : Int32)), .val (.long x0), .second, .val (.long x1), .second, .val (.long x2), .second, .val (.long x3), .second, .val (.ref ax), .val (.long x0), .second, .val (.long s2), .second, .val (.long s3), .second, .unset, .unset, .unset, .unset, .unset, .unset] [(.long x1), (.long x0)])
    refine Goes.of (fun _ kont => XT.ladd X23.here hx rfl (Jvm.hb hby at_116) rfl kont) ?_
    show Goes p e below _ T23 (mkF m 117 #[.val (.int p1), .val (.int p2), .val (.int p3), .val (.int p4), .val (.int p5), .val (.int (4 : Int32)), .val (.long x0), .second, .val (.long x1), .second, .val (.long x2), .second, .val (.long x3), .second, .val (.ref ax), .val (.long x0), .second, .val (.long s2), .second, .val (.long s3), .second, .unset, .unset, .unset, .unset, .unset, .unset] [(.long (x0 + x1))])
    refine Goes.of (fun _ kont => XT.lload X23.here hx rfl (Jvm.hb hby at_117) rfl kont) ?_
    show Goes p e below _ T23 (mkF m 119 #[.val (.int p1), .val (.int p2), .val (.int p3), .val (.int p4), .val (.int p5), .val (.int (4 : Int32)), .val (.long x0), .second, .val (.long x1), .second, .val (.long x2), .second, .val (.long x3), .second, .val (.ref ax), .val (.long x0), .second, .val (.long s2), .second, .val (.long s3), .second, .unset, .unset, .unset, .unset, .unset, .unset] [(.long x2), (.long (x0 + x1))])
    refine Goes.of (fun _ kont => XT.ladd X23.here hx rfl (Jvm.hb hby at_119) rfl kont) ?_
    show Goes p e below _ T23 (mkF m 120 #[.val (.int p1), .val (.int p2), .val (.int p3), .val (.int p4), .val (.int p5), .val (.int (4 : Int32)), .val (.long x0), .second, .val (.long x1), .second, .val (.long x2), .second, .val (.long x3), .second, .val (.ref ax), .val (.long x0), .second, .val (.long s2), .second, .val (.long s3), .second, .unset, .unset, .unset, .unset, .unset, .unset] [(.long ((x0 + x1) + x2))])
    refine Goes.of (fun _ kont => XT.lload X23.here hx rfl (Jvm.hb hby at_120) rfl kont) ?_
    show Goes p e below _ T23 (mkF m 122 #[.val (.int p1), .val (.int p2), .val (.int p3), .val (.int p4), .val (.int p5), .val (.int (4 : Int32)), .val (.long x0), .second, .val (.long x1), .second, .val (.long x2), .second, .val (.long x3), .second, .val (.ref ax), .val (.long x0), .second, .val (.long s2), .second, .val (.long s3), .second, .unset, .unset, .unset, .unset, .unset, .unset] [(.long x3), (.long ((x0 + x1) + x2))])
    refine Goes.of (fun _ kont => XT.ladd X23.here hx rfl (Jvm.hb hby at_122) rfl kont) ?_
    show Goes p e below _ T23 (mkF m 123 #[.val (.int p1), .val (.int p2), .val (.int p3), .val (.int p4), .val (.int p5), .val (.int (4 : Int32)), .val (.long x0), .second, .val (.long x1), .second, .val (.long x2), .second, .val (.long x3), .second, .val (.ref ax), .val (.long x0), .second, .val (.long s2), .second, .val (.long s3), .second, .unset, .unset, .unset, .unset, .unset, .unset] [(.long (((x0 + x1) + x2) + x3))])
    generalize hs4 : (((x0 + x1) + x2) + x3) = s4
    show Goes p e below _ T23 (mkF m 123 #[.val (.int p1), .val (.int p2), .val (.int p3), .val (.int p4), .val (.int p5), .val (.int (4 : Int32)), .val (.long x0), .second, .val (.long x1), .second, .val (.long x2), .second, .val (.long x3), .second, .val (.ref ax), .val (.long x0), .second, .val (.long s2), .second, .val (.long s3), .second, .unset, .unset, .unset, .unset, .unset, .unset] [(.long s4)])
    have e2 := hs2 ▸ f2
    have e3 := hs3 ▸ f3
    have e4 := hs4 ▸ f4
    have r0 : (0 : Int64).toInt = 0 := by decide
    refine Goes.of (fun _ kont => XT.lstore X23.here hx rfl (Jvm.hb hby at_123) rfl (l' := #[.val (.int p1), .val (.int p2), .val (.int p3), .val (.int p4), .val (.int p5), .val (.int (4 : Int32)), .val (.long x0), .second, .val (.long x1), .second, .val (.long x2), .second, .val (.long x3), .second, .val (.ref ax), .val (.long x0), .second, .val (.long s2), .second, .val (.long s3), .second, .val (.long s4), .second, .unset, .unset, .unset, .unset]) rfl kont) ?_
    show Goes p e below _ T23 (mkF m 125 #[.val (.int p1), .val (.int p2), .val (.int p3), .val (.int p4), .val (.int p5), .val (.int (4 : Int32)), .val (.long x0), .second, .val (.long x1), .second, .val (.long x2), .second, .val (.long x3), .second, .val (.ref ax), .val (.long x0), .second, .val (.long s2), .second, .val (.long s3), .second, .val (.long s4), .second, .unset, .unset, .unset, .unset] [])
    refine Goes.of (fun _ kont => XT.lconst X23.here hx rfl (Jvm.hb hby at_125) kont) ?_
    show Goes p e below _ T23 (mkF m 126 #[.val (.int p1), .val (.int p2), .val (.int p3), .val (.int p4), .val (.int p5), .val (.int (4 : Int32)), .val (.long x0), .second, .val (.long x1), .second, .val (.long x2), .second, .val (.long x3), .second, .val (.ref ax), .val (.long x0), .second, .val (.long s2), .second, .val (.long s3), .second, .val (.long s4), .second, .unset, .unset, .unset, .unset] [(.long (0 : Int64))])
    refine Goes.of (fun _ kont => XT.lstore X23.here hx rfl (Jvm.hb hby at_126) rfl (l' := #[.val (.int p1), .val (.int p2), .val (.int p3), .val (.int p4), .val (.int p5), .val (.int (4 : Int32)), .val (.long x0), .second, .val (.long x1), .second, .val (.long x2), .second, .val (.long x3), .second, .val (.ref ax), .val (.long x0), .second, .val (.long s2), .second, .val (.long s3), .second, .val (.long s4), .second, .val (.long (0 : Int64)), .second, .unset, .unset]) rfl kont) ?_
    show Goes p e below _ T23 (mkF m 128 #[.val (.int p1), .val (.int p2), .val (.int p3), .val (.int p4), .val (.int p5), .val (.int (4 : Int32)), .val (.long x0), .second, .val (.long x1), .second, .val (.long x2), .second, .val (.long x3), .second, .val (.ref ax), .val (.long x0), .second, .val (.long s2), .second, .val (.long s3), .second, .val (.long s4), .second, .val (.long (0 : Int64)), .second, .unset, .unset] [])
    refine Goes.of (fun _ kont => XS.iload X23.here hx rfl (Jvm.hb hby at_128) rfl kont) ?_
    show Goes p e below _ T23 (mkF m 130 #[.val (.int p1), .val (.int p2), .val (.int p3), .val (.int p4), .val (.int p5), .val (.int (4 : Int32)), .val (.long x0), .second, .val (.long x1), .second, .val (.long x2), .second, .val (.long x3), .second, .val (.ref ax), .val (.long x0), .second, .val (.long s2), .second, .val (.long s3), .second, .val (.long s4), .second, .val (.long (0 : Int64)), .second, .unset, .unset] [(.int (4 : Int32))])
    refine Goes.of (fun _ kont => XS.iconst X23.here hx rfl (Jvm.hb hby at_130) kont) ?_
    show Goes p e below _ T23 (mkF m 131 #[.val (.int p1), .val (.int p2), .val (.int p3), .val (.int p4), .val (.int p5), .val (.int (4 : Int32)), .val (.long x0), .second, .val (.long x1), .second, .val (.long x2), .second, .val (.long x3), .second, .val (.ref ax), .val (.long x0), .second, .val (.long s2), .second, .val (.long s3), .second, .val (.long s4), .second, .val (.long (0 : Int64)), .second, .unset, .unset] [(.int (1 : Int32)), (.int (4 : Int32))])
    refine Goes.of (fun _ kont => XS.icmpNo X23.here hx rfl (Jvm.hb hby at_131) rfl (by decide) kont) ?_
    show Goes p e below _ T23 (mkF m 134 #[.val (.int p1), .val (.int p2), .val (.int p3), .val (.int p4), .val (.int p5), .val (.int (4 : Int32)), .val (.long x0), .second, .val (.long x1), .second, .val (.long x2), .second, .val (.long x3), .second, .val (.ref ax), .val (.long x0), .second, .val (.long s2), .second, .val (.long s3), .second, .val (.long s4), .second, .val (.long (0 : Int64)), .second, .unset, .unset] [])
    refine Goes.of (fun _ kont => XT.lload X23.here hx rfl (Jvm.hb hby at_134) rfl kont) ?_
    show Goes p e below _ T23 (mkF m 136 #[.val (.int p1), .val (.int p2), .val (.int p3), .val (.int p4), .val (.int p5), .val (.int (4 : Int32)), .val (.long x0), .second, .val (.long x1), .second, .val (.long x2), .second, .val (.long x3), .second, .val (.ref ax), .val (.long x0), .second, .val (.long s2), .second, .val (.long s3), .second, .val (.long s4), .second, .val (.long (0 : Int64)), .second, .unset, .unset] [(.long (0 : Int64))])
    refine Goes.of (fun _ kont => XT.lload X23.here hx rfl (Jvm.hb hby at_136) rfl kont) ?_
    show Goes p e below _ T23 (mkF m 138 #[.val (.int p1), .val (.int p2), .val (.int p3), .val (.int p4), .val (.int p5), .val (.int (4 : Int32)), .val (.long x0), .second, .val (.long x1), .second, .val (.long x2), .second, .val (.long x3), .second, .val (.ref ax), .val (.long x0), .second, .val (.long s2), .second, .val (.long s3), .second, .val (.long s4), .second, .val (.long (0 : Int64)), .second, .unset, .unset] [(.long x0), (.long (0 : Int64))])
    refine Goes.of (fun _ kont => XT.lload X23.here hx rfl (Jvm.hb hby at_138) rfl kont) ?_
    show Goes p e below _ T23 (mkF m 140 #[.val (.int p1), .val (.int p2), .val (.int p3), .val (.int p4), .val (.int p5), .val (.int (4 : Int32)), .val (.long x0), .second, .val (.long x1), .second, .val (.long x2), .second, .val (.long x3), .second, .val (.ref ax), .val (.long x0), .second, .val (.long s2), .second, .val (.long s3), .second, .val (.long s4), .second, .val (.long (0 : Int64)), .second, .unset, .unset] [(.long x0), (.long x0), (.long (0 : Int64))])
    refine Goes.of (fun _ kont => XT.lmul X23.here hx rfl (Jvm.hb hby at_140) rfl kont) ?_
    show Goes p e below _ T23 (mkF m 141 #[.val (.int p1), .val (.int p2), .val (.int p3), .val (.int p4), .val (.int p5), .val (.int (4 : Int32)), .val (.long x0), .second, .val (.long x1), .second, .val (.long x2), .second, .val (.long x3), .second, .val (.ref ax), .val (.long x0), .second, .val (.long s2), .second, .val (.long s3), .second, .val (.long s4), .second, .val (.long (0 : Int64)), .second, .unset, .unset] [(.long (x0 * x0)), (.long (0 : Int64))])
    refine Goes.of (fun _ kont => XT.ladd X23.here hx rfl (Jvm.hb hby at_141) rfl kont) ?_
    show Goes p e below _ T23 (mkF m 142 #[.val (.int p1), .val (.int p2), .val (.int p3), .val (.int p4), .val (.int p5), .val (.int (4 : Int32)), .val (.long x0), .second, .val (.long x1), .second, .val (.long x2), .second, .val (.long x3), .second, .val (.ref ax), .val (.long x0), .second, .val (.long s2), .second, .val (.long s3), .second, .val (.long s4), .second, .val (.long (0 : Int64)), .second, .unset, .unset] [(.long ((0 : Int64) + (x0 * x0)))])
    generalize hr1 : ((0 : Int64) + (x0 * x0)) = r1
    show Goes p e below _ T23 (mkF m 142 #[.val (.int p1), .val (.int p2), .val (.int p3), .val (.int p4), .val (.int p5), .val (.int (4 : Int32)), .val (.long x0), .second, .val (.long x1), .second, .val (.long x2), .second, .val (.long x3), .second, .val (.ref ax), .val (.long x0), .second, .val (.long s2), .second, .val (.long s3), .second, .val (.long s4), .second, .val (.long (0 : Int64)), .second, .unset, .unset] [(.long r1)])
    have er1 := own_lsq hr1 (by omega) (by omega)
    rw [r0, Int.zero_add] at er1
    refine Goes.of (fun _ kont => XT.lstore X23.here hx rfl (Jvm.hb hby at_142) rfl (l' := #[.val (.int p1), .val (.int p2), .val (.int p3), .val (.int p4), .val (.int p5), .val (.int (4 : Int32)), .val (.long x0), .second, .val (.long x1), .second, .val (.long x2), .second, .val (.long x3), .second, .val (.ref ax), .val (.long x0), .second, .val (.long s2), .second, .val (.long s3), .second, .val (.long s4), .second, .val (.long r1), .second, .unset, .unset]) rfl kont) ?_
    show Goes p e below _ T23 (mkF m 144 #[.val (.int p1), .val (.int p2), .val (.int p3), .val (.int p4), .val (.int p5), .val (.int (4 : Int32)), .val (.long x0), .second, .val (.long x1), .second, .val (.long x2), .second, .val (.long x3), .second, .val (.ref ax), .val (.long x0), .second, .val (.long s2), .second, .val (.long s3), .second, .val (.long s4), .second, .val (.long r1), .second, .unset, .unset] [])
    refine Goes.of (fun _ kont => XS.iload X23.here hx rfl (Jvm.hb hby at_144) rfl kont) ?_
    show Goes p e below _ T23 (mkF m 146 #[.val (.int p1), .val (.int p2), .val (.int p3), .val (.int p4), .val (.int p5), .val (.int (4 : Int32)), .val (.long x0), .second, .val (.long x1), .second, .val (.long x2), .second, .val (.long x3), .second, .val (.ref ax), .val (.long x0), .second, .val (.long s2), .second, .val (.long s3), .second, .val (.long s4), .second, .val (.long r1), .second, .unset, .unset] [(.int (4 : Int32))])
    refine Goes.of (fun _ kont => XS.iconst X23.here hx rfl (Jvm.hb hby at_146) kont) ?_
    show Goes p e below _ T23 (mkF m 147 #[.val (.int p1), .val (.int p2), .val (.int p3), .val (.int p4), .val (.int p5), .val (.int (4 : Int32)), .val (.long x0), .second, .val (.long x1), .second, .val (.long x2), .second, .val (.long x3), .second, .val (.ref ax), .val (.long x0), .second, .val (.long s2), .second, .val (.long s3), .second, .val (.long s4), .second, .val (.long r1), .second, .unset, .unset] [(.int (2 : Int32)), (.int (4 : Int32))])
    refine Goes.of (fun _ kont => XS.icmpNo X23.here hx rfl (Jvm.hb hby at_147) rfl (by decide) kont) ?_
    show Goes p e below _ T23 (mkF m 150 #[.val (.int p1), .val (.int p2), .val (.int p3), .val (.int p4), .val (.int p5), .val (.int (4 : Int32)), .val (.long x0), .second, .val (.long x1), .second, .val (.long x2), .second, .val (.long x3), .second, .val (.ref ax), .val (.long x0), .second, .val (.long s2), .second, .val (.long s3), .second, .val (.long s4), .second, .val (.long r1), .second, .unset, .unset] [])
    refine Goes.of (fun _ kont => XT.lload X23.here hx rfl (Jvm.hb hby at_150) rfl kont) ?_
    show Goes p e below _ T23 (mkF m 152 #[.val (.int p1), .val (.int p2), .val (.int p3), .val (.int p4), .val (.int p5), .val (.int (4 : Int32)), .val (.long x0), .second, .val (.long x1), .second, .val (.long x2), .second, .val (.long x3), .second, .val (.ref ax), .val (.long x0), .second, .val (.long s2), .second, .val (.long s3), .second, .val (.long s4), .second, .val (.long r1), .second, .unset, .unset] [(.long r1)])
    refine Goes.of (fun _ kont => XT.lload X23.here hx rfl (Jvm.hb hby at_152) rfl kont) ?_
    show Goes p e below _ T23 (mkF m 154 #[.val (.int p1), .val (.int p2), .val (.int p3), .val (.int p4), .val (.int p5), .val (.int (4 : Int32)), .val (.long x0), .second, .val (.long x1), .second, .val (.long x2), .second, .val (.long x3), .second, .val (.ref ax), .val (.long x0), .second, .val (.long s2), .second, .val (.long s3), .second, .val (.long s4), .second, .val (.long r1), .second, .unset, .unset] [(.long s2), (.long r1)])
    refine Goes.of (fun _ kont => XT.lload X23.here hx rfl (Jvm.hb hby at_154) rfl kont) ?_
    show Goes p e below _ T23 (mkF m 156 #[.val (.int p1), .val (.int p2), .val (.int p3), .val (.int p4), .val (.int p5), .val (.int (4 : Int32)), .val (.long x0), .second, .val (.long x1), .second, .val (.long x2), .second, .val (.long x3), .second, .val (.ref ax), .val (.long x0), .second, .val (.long s2), .second, .val (.long s3), .second, .val (.long s4), .second, .val (.long r1), .second, .unset, .unset] [(.long s2), (.long s2), (.long r1)])
    refine Goes.of (fun _ kont => XT.lmul X23.here hx rfl (Jvm.hb hby at_156) rfl kont) ?_
    show Goes p e below _ T23 (mkF m 157 #[.val (.int p1), .val (.int p2), .val (.int p3), .val (.int p4), .val (.int p5), .val (.int (4 : Int32)), .val (.long x0), .second, .val (.long x1), .second, .val (.long x2), .second, .val (.long x3), .second, .val (.ref ax), .val (.long x0), .second, .val (.long s2), .second, .val (.long s3), .second, .val (.long s4), .second, .val (.long r1), .second, .unset, .unset] [(.long (s2 * s2)), (.long r1)])
    refine Goes.of (fun _ kont => XT.ladd X23.here hx rfl (Jvm.hb hby at_157) rfl kont) ?_
    show Goes p e below _ T23 (mkF m 158 #[.val (.int p1), .val (.int p2), .val (.int p3), .val (.int p4), .val (.int p5), .val (.int (4 : Int32)), .val (.long x0), .second, .val (.long x1), .second, .val (.long x2), .second, .val (.long x3), .second, .val (.ref ax), .val (.long x0), .second, .val (.long s2), .second, .val (.long s3), .second, .val (.long s4), .second, .val (.long r1), .second, .unset, .unset] [(.long (r1 + (s2 * s2)))])
    generalize hr2 : (r1 + (s2 * s2)) = r2
    show Goes p e below _ T23 (mkF m 158 #[.val (.int p1), .val (.int p2), .val (.int p3), .val (.int p4), .val (.int p5), .val (.int (4 : Int32)), .val (.long x0), .second, .val (.long x1), .second, .val (.long x2), .second, .val (.long x3), .second, .val (.ref ax), .val (.long x0), .second, .val (.long s2), .second, .val (.long s3), .second, .val (.long s4), .second, .val (.long r1), .second, .unset, .unset] [(.long r2)])
    have er2 := own_lsq hr2 (by omega) (by have := own_sqb (a := x0.toInt) (A := 4194304) (by omega); omega)
    rw [er1, e2] at er2
    refine Goes.of (fun _ kont => XT.lstore X23.here hx rfl (Jvm.hb hby at_158) rfl (l' := #[.val (.int p1), .val (.int p2), .val (.int p3), .val (.int p4), .val (.int p5), .val (.int (4 : Int32)), .val (.long x0), .second, .val (.long x1), .second, .val (.long x2), .second, .val (.long x3), .second, .val (.ref ax), .val (.long x0), .second, .val (.long s2), .second, .val (.long s3), .second, .val (.long s4), .second, .val (.long r2), .second, .unset, .unset]) rfl kont) ?_
    show Goes p e below _ T23 (mkF m 160 #[.val (.int p1), .val (.int p2), .val (.int p3), .val (.int p4), .val (.int p5), .val (.int (4 : Int32)), .val (.long x0), .second, .val (.long x1), .second, .val (.long x2), .second, .val (.long x3), .second, .val (.ref ax), .val (.long x0), .second, .val (.long s2), .second, .val (.long s3), .second, .val (.long s4), .second, .val (.long r2), .second, .unset, .unset] [])
    refine Goes.of (fun _ kont => XS.iload X23.here hx rfl (Jvm.hb hby at_160) rfl kont) ?_
    show Goes p e below _ T23 (mkF m 162 #[.val (.int p1), .val (.int p2), .val (.int p3), .val (.int p4), .val (.int p5), .val (.int (4 : Int32)), .val (.long x0), .second, .val (.long x1), .second, .val (.long x2), .second, .val (.long x3), .second, .val (.ref ax), .val (.long x0), .second, .val (.long s2), .second, .val (.long s3), .second, .val (.long s4), .second, .val (.long r2), .second, .unset, .unset] [(.int (4 : Int32))])
    refine Goes.of (fun _ kont => XS.iconst X23.here hx rfl (Jvm.hb hby at_162) kont) ?_
    show Goes p e below _ T23 (mkF m 163 #[.val (.int p1), .val (.int p2), .val (.int p3), .val (.int p4), .val (.int p5), .val (.int (4 : Int32)), .val (.long x0), .second, .val (.long x1), .second, .val (.long x2), .second, .val (.long x3), .second, .val (.ref ax), .val (.long x0), .second, .val (.long s2), .second, .val (.long s3), .second, .val (.long s4), .second, .val (.long r2), .second, .unset, .unset] [(.int (3 : Int32)), (.int (4 : Int32))])
    refine Goes.of (fun _ kont => XS.icmpNo X23.here hx rfl (Jvm.hb hby at_163) rfl (by decide) kont) ?_
    show Goes p e below _ T23 (mkF m 166 #[.val (.int p1), .val (.int p2), .val (.int p3), .val (.int p4), .val (.int p5), .val (.int (4 : Int32)), .val (.long x0), .second, .val (.long x1), .second, .val (.long x2), .second, .val (.long x3), .second, .val (.ref ax), .val (.long x0), .second, .val (.long s2), .second, .val (.long s3), .second, .val (.long s4), .second, .val (.long r2), .second, .unset, .unset] [])
    refine Goes.of (fun _ kont => XT.lload X23.here hx rfl (Jvm.hb hby at_166) rfl kont) ?_
    show Goes p e below _ T23 (mkF m 168 #[.val (.int p1), .val (.int p2), .val (.int p3), .val (.int p4), .val (.int p5), .val (.int (4 : Int32)), .val (.long x0), .second, .val (.long x1), .second, .val (.long x2), .second, .val (.long x3), .second, .val (.ref ax), .val (.long x0), .second, .val (.long s2), .second, .val (.long s3), .second, .val (.long s4), .second, .val (.long r2), .second, .unset, .unset] [(.long r2)])
    refine Goes.of (fun _ kont => XT.lload X23.here hx rfl (Jvm.hb hby at_168) rfl kont) ?_
    show Goes p e below _ T23 (mkF m 170 #[.val (.int p1), .val (.int p2), .val (.int p3), .val (.int p4), .val (.int p5), .val (.int (4 : Int32)), .val (.long x0), .second, .val (.long x1), .second, .val (.long x2), .second, .val (.long x3), .second, .val (.ref ax), .val (.long x0), .second, .val (.long s2), .second, .val (.long s3), .second, .val (.long s4), .second, .val (.long r2), .second, .unset, .unset] [(.long s3), (.long r2)])
    refine Goes.of (fun _ kont => XT.lload X23.here hx rfl (Jvm.hb hby at_170) rfl kont) ?_
    show Goes p e below _ T23 (mkF m 172 #[.val (.int p1), .val (.int p2), .val (.int p3), .val (.int p4), .val (.int p5), .val (.int (4 : Int32)), .val (.long x0), .second, .val (.long x1), .second, .val (.long x2), .second, .val (.long x3), .second, .val (.ref ax), .val (.long x0), .second, .val (.long s2), .second, .val (.long s3), .second, .val (.long s4), .second, .val (.long r2), .second, .unset, .unset] [(.long s3), (.long s3), (.long r2)])
    refine Goes.of (fun _ kont => XT.lmul X23.here hx rfl (Jvm.hb hby at_172) rfl kont) ?_
    show Goes p e below _ T23 (mkF m 173 #[.val (.int p1), .val (.int p2), .val (.int p3), .val (.int p4), .val (.int p5), .val (.int (4 : Int32)), .val (.long x0), .second, .val (.long x1), .second, .val (.long x2), .second, .val (.long x3), .second, .val (.ref ax), .val (.long x0), .second, .val (.long s2), .second, .val (.long s3), .second, .val (.long s4), .second, .val (.long r2), .second, .unset, .unset] [(.long (s3 * s3)), (.long r2)])
    refine Goes.of (fun _ kont => XT.ladd X23.here hx rfl (Jvm.hb hby at_173) rfl kont) ?_
    show Goes p e below _ T23 (mkF m 174 #[.val (.int p1), .val (.int p2), .val (.int p3), .val (.int p4), .val (.int p5), .val (.int (4 : Int32)), .val (.long x0), .second, .val (.long x1), .second, .val (.long x2), .second, .val (.long x3), .second, .val (.ref ax), .val (.long x0), .second, .val (.long s2), .second, .val (.long s3), .second, .val (.long s4), .second, .val (.long r2), .second, .unset, .unset] [(.long (r2 + (s3 * s3)))])
    generalize hr3 : (r2 + (s3 * s3)) = r3
    show Goes p e below _ T23 (mkF m 174 #[.val (.int p1), .val (.int p2), .val (.int p3), .val (.int p4), .val (.int p5), .val (.int (4 : Int32)), .val (.long x0), .second, .val (.long x1), .second, .val (.long x2), .second, .val (.long x3), .second, .val (.ref ax), .val (.long x0), .second, .val (.long s2), .second, .val (.long s3), .second, .val (.long s4), .second, .val (.long r2), .second, .unset, .unset] [(.long r3)])
    have er3 := own_lsq hr3 (by omega) (by have := own_sqb (a := x0.toInt) (A := 4194304) (by omega); have := own_sqb (a := x0.toInt + x1.toInt) (A := 4194304) (by omega); omega)
    rw [er2, e3] at er3
    refine Goes.of (fun _ kont => XT.lstore X23.here hx rfl (Jvm.hb hby at_174) rfl (l' := #[.val (.int p1), .val (.int p2), .val (.int p3), .val (.int p4), .val (.int p5), .val (.int (4 : Int32)), .val (.long x0), .second, .val (.long x1), .second, .val (.long x2), .second, .val (.long x3), .second, .val (.ref ax), .val (.long x0), .second, .val (.long s2), .second, .val (.long s3), .second, .val (.long s4), .second, .val (.long r3), .second, .unset, .unset]) rfl kont) ?_
    show Goes p e below _ T23 (mkF m 176 #[.val (.int p1), .val (.int p2), .val (.int p3), .val (.int p4), .val (.int p5), .val (.int (4 : Int32)), .val (.long x0), .second, .val (.long x1), .second, .val (.long x2), .second, .val (.long x3), .second, .val (.ref ax), .val (.long x0), .second, .val (.long s2), .second, .val (.long s3), .second, .val (.long s4), .second, .val (.long r3), .second, .unset, .unset] [])
    refine Goes.of (fun _ kont => XS.iload X23.here hx rfl (Jvm.hb hby at_176) rfl kont) ?_
    show Goes p e below _ T23 (mkF m 178 #[.val (.int p1), .val (.int p2), .val (.int p3), .val (.int p4), .val (.int p5), .val (.int (4 : Int32)), .val (.long x0), .second, .val (.long x1), .second, .val (.long x2), .second, .val (.long x3), .second, .val (.ref ax), .val (.long x0), .second, .val (.long s2), .second, .val (.long s3), .second, .val (.long s4), .second, .val (.long r3), .second, .unset, .unset] [(.int (4 : Int32))])
    refine Goes.of (fun _ kont => XS.iconst X23.here hx rfl (Jvm.hb hby at_178) kont) ?_
    show Goes p e below _ T23 (mkF m 179 #[.val (.int p1), .val (.int p2), .val (.int p3), .val (.int p4), .val (.int p5), .val (.int (4 : Int32)), .val (.long x0), .second, .val (.long x1), .second, .val (.long x2), .second, .val (.long x3), .second, .val (.ref ax), .val (.long x0), .second, .val (.long s2), .second, .val (.long s3), .second, .val (.long s4), .second, .val (.long r3), .second, .unset, .unset] [(.int (4 : Int32)), (.int (4 : Int32))])
    refine Goes.of (fun _ kont => XS.icmpNo X23.here hx rfl (Jvm.hb hby at_179) rfl (by decide) kont) ?_
    show Goes p e below _ T23 (mkF m 182 #[.val (.int p1), .val (.int p2), .val (.int p3), .val (.int p4), .val (.int p5), .val (.int (4 : Int32)), .val (.long x0), .second, .val (.long x1), .second, .val (.long x2), .second, .val (.long x3), .second, .val (.ref ax), .val (.long x0), .second, .val (.long s2), .second, .val (.long s3), .second, .val (.long s4), .second, .val (.long r3), .second, .unset, .unset] [])
    refine Goes.of (fun _ kont => XT.lload X23.here hx rfl (Jvm.hb hby at_182) rfl kont) ?_
    show Goes p e below _ T23 (mkF m 184 #[.val (.int p1), .val (.int p2), .val (.int p3), .val (.int p4), .val (.int p5), .val (.int (4 : Int32)), .val (.long x0), .second, .val (.long x1), .second, .val (.long x2), .second, .val (.long x3), .second, .val (.ref ax), .val (.long x0), .second, .val (.long s2), .second, .val (.long s3), .second, .val (.long s4), .second, .val (.long r3), .second, .unset, .unset] [(.long r3)])
    refine Goes.of (fun _ kont => XT.lload X23.here hx rfl (Jvm.hb hby at_184) rfl kont) ?_
    show Goes p e below _ T23 (mkF m 186 #[.val (.int p1), .val (.int p2), .val (.int p3), .val (.int p4), .val (.int p5), .val (.int (4 : Int32)), .val (.long x0), .second, .val (.long x1), .second, .val (.long x2), .second, .val (.long x3), .second, .val (.ref ax), .val (.long x0), .second, .val (.long s2), .second, .val (.long s3), .second, .val (.long s4), .second, .val (.long r3), .second, .unset, .unset] [(.long s4), (.long r3)])
    refine Goes.of (fun _ kont => XT.lload X23.here hx rfl (Jvm.hb hby at_186) rfl kont) ?_
    show Goes p e below _ T23 (mkF m 188 #[.val (.int p1), .val (.int p2), .val (.int p3), .val (.int p4), .val (.int p5), .val (.int (4 : Int32)), .val (.long x0), .second, .val (.long x1), .second, .val (.long x2), .second, .val (.long x3), .second, .val (.ref ax), .val (.long x0), .second, .val (.long s2), .second, .val (.long s3), .second, .val (.long s4), .second, .val (.long r3), .second, .unset, .unset] [(.long s4), (.long s4), (.long r3)])
    refine Goes.of (fun _ kont => XT.lmul X23.here hx rfl (Jvm.hb hby at_188) rfl kont) ?_
    show Goes p e below _ T23 (mkF m 189 #[.val (.int p1), .val (.int p2), .val (.int p3), .val (.int p4), .val (.int p5), .val (.int (4 : Int32)), .val (.long x0), .second, .val (.long x1), .second, .val (.long x2), .second, .val (.long x3), .second, .val (.ref ax), .val (.long x0), .second, .val (.long s2), .second, .val (.long s3), .second, .val (.long s4), .second, .val (.long r3), .second, .unset, .unset] [(.long (s4 * s4)), (.long r3)])
    refine Goes.of (fun _ kont => XT.ladd X23.here hx rfl (Jvm.hb hby at_189) rfl kont) ?_
    show Goes p e below _ T23 (mkF m 190 #[.val (.int p1), .val (.int p2), .val (.int p3), .val (.int p4), .val (.int p5), .val (.int (4 : Int32)), .val (.long x0), .second, .val (.long x1), .second, .val (.long x2), .second, .val (.long x3), .second, .val (.ref ax), .val (.long x0), .second, .val (.long s2), .second, .val (.long s3), .second, .val (.long s4), .second, .val (.long r3), .second, .unset, .unset] [(.long (r3 + (s4 * s4)))])
    generalize hr4 : (r3 + (s4 * s4)) = r4
    show Goes p e below _ T23 (mkF m 190 #[.val (.int p1), .val (.int p2), .val (.int p3), .val (.int p4), .val (.int p5), .val (.int (4 : Int32)), .val (.long x0), .second, .val (.long x1), .second, .val (.long x2), .second, .val (.long x3), .second, .val (.ref ax), .val (.long x0), .second, .val (.long s2), .second, .val (.long s3), .second, .val (.long s4), .second, .val (.long r3), .second, .unset, .unset] [(.long r4)])
    have er4 := own_lsq hr4 (by omega) (by have := own_sqb (a := x0.toInt) (A := 4194304) (by omega); have := own_sqb (a := x0.toInt + x1.toInt) (A := 4194304) (by omega); have := own_sqb (a := x0.toInt + x1.toInt + x2.toInt) (A := 4194304) (by omega); omega)
    rw [er3, e4] at er4
    refine Goes.of (fun _ kont => XT.lstore X23.here hx rfl (Jvm.hb hby at_190) rfl (l' := #[.val (.int p1), .val (.int p2), .val (.int p3), .val (.int p4), .val (.int p5), .val (.int (4 : Int32)), .val (.long x0), .second, .val (.long x1), .second, .val (.long x2), .second, .val (.long x3), .second, .val (.ref ax), .val (.long x0), .second, .val (.long s2), .second, .val (.long s3), .second, .val (.long s4), .second, .val (.long r4), .second, .unset, .unset]) rfl kont) ?_
    show Goes p e below _ T23 (mkF m 192 #[.val (.int p1), .val (.int p2), .val (.int p3), .val (.int p4), .val (.int p5), .val (.int (4 : Int32)), .val (.long x0), .second, .val (.long x1), .second, .val (.long x2), .second, .val (.long x3), .second, .val (.ref ax), .val (.long x0), .second, .val (.long s2), .second, .val (.long s3), .second, .val (.long s4), .second, .val (.long r4), .second, .unset, .unset] [])
    refine Goes.of (fun _ kont => XS.aload X23.here hx rfl (Jvm.hb hby at_192) rfl rfl kont) ?_
    show Goes p e below _ T23 (mkF m 194 #[.val (.int p1), .val (.int p2), .val (.int p3), .val (.int p4), .val (.int p5), .val (.int (4 : Int32)), .val (.long x0), .second, .val (.long x1), .second, .val (.long x2), .second, .val (.long x3), .second, .val (.ref ax), .val (.long x0), .second, .val (.long s2), .second, .val (.long s3), .second, .val (.long s4), .second, .val (.long r4), .second, .unset, .unset] [(.ref ax)])
    refine callC X23 hx hZ hown (hw _ (List.mem_of_getElem? (i := 6) rfl)) (hw _ (List.mem_of_getElem? (i := 7) rfl)) (hw _ (List.mem_of_getElem? (i := 8) rfl)) (hw _ (List.mem_of_getElem? (i := 9) rfl)) (by decide) (as := [(.ref ax)]) (rm1_4 l Z a0 hw ax (FP.l2d x0) x0.toInt (FP.l2d x1) x1.toInt (FP.l2d x2) x2.toInt (FP.l2d x3) x3.toInt h23 n0 Z23 V_ax_23 D0 b0 D1 b1 D2 b2 D3 b3) 0 (by decide) (by decide) e23 (by decide) (by decide) (g := mkF m 194 #[.val (.int p1), .val (.int p2), .val (.int p3), .val (.int p4), .val (.int p5), .val (.int (4 : Int32)), .val (.long x0), .second, .val (.long x1), .second, .val (.long x2), .second, .val (.long x3), .second, .val (.ref ax), .val (.long x0), .second, .val (.long s2), .second, .val (.long s3), .second, .val (.long s4), .second, .val (.long r4), .second, .unset, .unset] [(.ref ax)]) rfl (by rw [hml]; rfl) (rest := []) (lenOf pd_1 rfl) rfl (by show 2 * 0 + _ ≤ _; exact Nat.le_of_eq rfl) (Jvm.hb hby at_194) ?_
    rintro _ T24 L24 X24 ⟨⟨z24, rfl, Dz24⟩, N24, e24⟩
    show Goes p e below _ T24 (mkF m 197 #[.val (.int p1), .val (.int p2), .val (.int p3), .val (.int p4), .val (.int p5), .val (.int (4 : Int32)), .val (.long x0), .second, .val (.long x1), .second, .val (.long x2), .second, .val (.long x3), .second, .val (.ref ax), .val (.long x0), .second, .val (.long s2), .second, .val (.long s3), .second, .val (.long s4), .second, .val (.long r4), .second, .unset, .unset] [(.double z24)])
    refine Goes.of (fun _ kont => XS.dstore X24.here hx rfl (Jvm.hb hby at_197) rfl (l' := #[.val (.int p1), .val (.int p2), .val (.int p3), .val (.int p4), .val (.int p5), .val (.int (4 : Int32)), .val (.long x0), .second, .val (.long x1), .second, .val (.long x2), .second, .val (.long x3), .second, .val (.ref ax), .val (.long x0), .second, .val (.long s2), .second, .val (.long s3), .second, .val (.long s4), .second, .val (.long r4), .second, .val (.double z24), .second]) rfl kont) ?_
    show Goes p e below _ T24 (mkF m 199 #[.val (.int p1), .val (.int p2), .val (.int p3), .val (.int p4), .val (.int p5), .val (.int (4 : Int32)), .val (.long x0), .second, .val (.long x1), .second, .val (.long x2), .second, .val (.long x3), .second, .val (.ref ax), .val (.long x0), .second, .val (.long s2), .second, .val (.long s3), .second, .val (.long s4), .second, .val (.long r4), .second, .val (.double z24), .second] [])
    refine Goes.of (fun _ kont => XS.dload X24.here hx rfl (Jvm.hb hby at_199) rfl kont) ?_
    show Goes p e below _ T24 (mkF m 201 #[.val (.int p1), .val (.int p2), .val (.int p3), .val (.int p4), .val (.int p5), .val (.int (4 : Int32)), .val (.long x0), .second, .val (.long x1), .second, .val (.long x2), .second, .val (.long x3), .second, .val (.ref ax), .val (.long x0), .second, .val (.long s2), .second, .val (.long s3), .second, .val (.long s4), .second, .val (.long r4), .second, .val (.double z24), .second] [(.double z24)])
    refine Goes.of (fun _ kont => XT.lload X24.here hx rfl (Jvm.hb hby at_201) rfl kont) ?_
    show Goes p e below _ T24 (mkF m 203 #[.val (.int p1), .val (.int p2), .val (.int p3), .val (.int p4), .val (.int p5), .val (.int (4 : Int32)), .val (.long x0), .second, .val (.long x1), .second, .val (.long x2), .second, .val (.long x3), .second, .val (.ref ax), .val (.long x0), .second, .val (.long s2), .second, .val (.long s3), .second, .val (.long s4), .second, .val (.long r4), .second, .val (.double z24), .second] [(.long r4), (.double z24)])
    refine Goes.of (fun _ kont => XS.l2dS X24.here hx rfl (Jvm.hb hby at_203) rfl rfl kont) ?_
    show Goes p e below _ T24 (mkF m 204 #[.val (.int p1), .val (.int p2), .val (.int p3), .val (.int p4), .val (.int p5), .val (.int (4 : Int32)), .val (.long x0), .second, .val (.long x1), .second, .val (.long x2), .second, .val (.long x3), .second, .val (.ref ax), .val (.long x0), .second, .val (.long s2), .second, .val (.long s3), .second, .val (.long s4), .second, .val (.long r4), .second, .val (.double z24), .second] [(.double (FP.l2d r4)), (.double z24)])
    refine Goes.of (fun _ kont => XS.dcmpS X24.here hx rfl (Jvm.hb hby at_204) rfl rfl kont) ?_
    show Goes p e below _ T24 (mkF m 205 #[.val (.int p1), .val (.int p2), .val (.int p3), .val (.int p4), .val (.int p5), .val (.int (4 : Int32)), .val (.long x0), .second, .val (.long x1), .second, .val (.long x2), .second, .val (.long x3), .second, .val (.ref ax), .val (.long x0), .second, .val (.long s2), .second, .val (.long s3), .second, .val (.long s4), .second, .val (.long r4), .second, .val (.double z24), .second] [(.int (cmpValue (FP.dcmp z24 (FP.l2d r4)) .l))])
    have De := dy_l2d (n := r4) (by have := own_sqb (a := x0.toInt) (A := 4194304) (by omega); have := own_sqb (a := x0.toInt + x1.toInt) (A := 4194304) (by omega); have := own_sqb (a := x0.toInt + x1.toInt + x2.toInt) (A := 4194304) (by omega); have := own_sqb (a := x0.toInt + x1.toInt + x2.toInt + x3.toInt) (A := 4194304) (by omega); rw [er4]; omega)
    rw [er4] at De
    refine Goes.of (fun _ kont => XS.ifNo X24.here hx rfl (Jvm.hb hby at_205) rfl (by rw [dy_eq Dz24 De rfl]; decide) kont) ?_
    show Goes p e below _ T24 (mkF m 208 #[.val (.int p1), .val (.int p2), .val (.int p3), .val (.int p4), .val (.int p5), .val (.int (4 : Int32)), .val (.long x0), .second, .val (.long x1), .second, .val (.long x2), .second, .val (.long x3), .second, .val (.ref ax), .val (.long x0), .second, .val (.long s2), .second, .val (.long s3), .second, .val (.long s4), .second, .val (.long r4), .second, .val (.double z24), .second] [])
    refine Goes.of (fun _ kont => XS.iconst X24.here hx rfl (Jvm.hb hby at_208) kont) ?_
    show Goes p e below _ T24 (mkF m 209 #[.val (.int p1), .val (.int p2), .val (.int p3), .val (.int p4), .val (.int p5), .val (.int (4 : Int32)), .val (.long x0), .second, .val (.long x1), .second, .val (.long x2), .second, .val (.long x3), .second, .val (.ref ax), .val (.long x0), .second, .val (.long s2), .second, .val (.long s3), .second, .val (.long s4), .second, .val (.long r4), .second, .val (.double z24), .second] [(.int (1 : Int32))])
    refine Goes.of (fun _ kont => XS.goto X24.here hx rfl (pc0 := 209) (pc' := 213) rfl (Jvm.hb hby at_209) (by decide) (by decide) kont) ?_
    show Goes p e below _ T24 (mkF m 213 #[.val (.int p1), .val (.int p2), .val (.int p3), .val (.int p4), .val (.int p5), .val (.int (4 : Int32)), .val (.long x0), .second, .val (.long x1), .second, .val (.long x2), .second, .val (.long x3), .second, .val (.ref ax), .val (.long x0), .second, .val (.long s2), .second, .val (.long s3), .second, .val (.long s4), .second, .val (.long r4), .second, .val (.double z24), .second] [(.int (1 : Int32))])
    exact retB X24 hx hlk (t := .boolean) hret (by simp) (Jvm.hb hby at_213) (by decide) (by decide) ⟨rfl, Fr.app N23 N24⟩
set_option maxRecDepth 65536 in
set_option maxHeartbeats 40000000 in
theorem comes_1 {Post : Tables → Env → Array Value → State → Outcome → State → Prop} (hpost : ∀ tb e args s v u, (limb_1_1.after args s (.returned v) u = true ∧ limb_1_2.after args s (.returned v) u = true ∧ True) → FrameEnd s (.returned v) u (Jvm.fieldLocs frame_1_writes args s ++ Jvm.arrayLocs frame_1_arrays args s ++ Jvm.staticLocs frame_1_statics s) 16 128 → Post tb e args s (.returned v) u) :
    ArmFor flags0 classFile x code maxLocals ret World_1 tables_1 room_1 Calls_1 rest_1 Pre_1 Post := by
  intro l hfl _ _ p e ha hc hk s m args below hf hA hF happ hP
  obtain ⟨hcalls, hrest, hpre⟩ := hP
  obtain ⟨-, -, -, hnamed, -, -, -, hat⟩ := (Spec.applies_iff hf).mp happ
  obtain ⟨hg, hn⟩ := and_e (Cond.before_iff.mp (show (Jvm.Cond.and given_1 narrow_1).before args s = true from hpre))
  obtain ⟨g0, r0⟩ := and_e hg
  obtain ⟨g1, r1⟩ := and_e r0
  obtain ⟨g2, r2⟩ := and_e r1
  obtain ⟨g3, r3⟩ := and_e r2
  obtain ⟨g4, r4⟩ := and_e r3
  obtain ⟨w0, w1, w2, w3, w4, rfl⟩ : ∃ w0 w1 w2 w3 w4 : Value, args = #[w0, w1, w2, w3, w4] := by
    have hs : args.size = 5 := by simpa [Cond.value, given_1] using g0
    obtain ⟨L⟩ := args
    match L, hs with
    | [w0, w1, w2, w3, w4], _ => exact ⟨w0, w1, w2, w3, w4, rfl⟩
  have hw := fun d (hd : d ∈ tables_1) => atoms_spec (ws := Jvm.Cond.code x code maxLocals ret :: tables_1) hat d (List.mem_cons_of_mem _ hd)
  obtain ⟨i0, ei0⟩ := is_v g1
  obtain rfl : w0 = (.int i0) := Option.some.inj ei0
  obtain ⟨i1, ei1⟩ := is_v g2
  obtain rfl : w1 = (.int i1) := Option.some.inj ei1
  obtain ⟨i2, ei2⟩ := is_v g3
  obtain rfl : w2 = (.int i2) := Option.some.inj ei2
  obtain ⟨i3, ei3⟩ := is_v g4
  obtain rfl : w3 = (.int i3) := Option.some.inj ei3
  obtain ⟨i4, ei4⟩ := is_v r4
  obtain rfl : w4 = (.int i4) := Option.some.inj ei4
  obtain ⟨n, o, h1, h2, h3, _, L, rfl, ⟨rfl, N⟩, hq⟩ := rm0 l s _ hw i0 i1 i2 i3 i4 s.heap s.heap.size (Nat.le_refl _) tables_1 p e ha hc hk s m _ below hf ((Spec.applies_iff_loose hf).mp happ).1 ⟨rfl, State.Warmed39.refl s, rfl⟩ trivial
  refine ⟨n, _, h1, h2, h3, hpost _ _ _ _ _ _ ⟨Cond.after_iff.mpr rfl, Cond.after_iff.mpr (eq_i res_at (Term.int_eval (1)) rfl), trivial⟩ ⟨hq.1, hq.2.1, (hq.2.2.sift fun y hy => Or.inr (N y hy)).mono (by decide) (by decide)⟩⟩
theorem main_1_1 : Claimed_1_1 := comes_1 fun _ _ _ _ _ _ h hF => ⟨h.1, hF⟩
theorem main_1_2 : Claimed_1_2 := comes_1 fun _ _ _ _ _ _ h hF => ⟨h.2.1, hF⟩
end Jvm.Pilot.@@N@@
namespace Jvm.Pilot.@@N@@
open Jvm Jvm.ClassFile Sem Op Lib Jvm.Free Jvm.Stand Jvm.Pilot.@@N@@.Jvm.D
/-! MADE BY PROGRAM (witnessworld.py) out of the Statement's table words and the real class files: 11 classes; the members and pool entries that the words name. The judged class is class 1, her method 2. -/
namespace start1
open Jvm.ClassFile
def u (s : String) : CpInfo := .utf8 (stringToUtf16 s)
/-- a pool by its gaps: so many unusable entries, then the entry; so many at the end -/
def gap : Nat → List CpInfo → List CpInfo
  | 0, r => r
  | n + 1, r => .unusable :: gap n r
def poolList (es : List (Nat × CpInfo)) (last : Nat) : List CpInfo := es.foldr (fun e r => gap e.1 (e.2 :: r)) (gap last [])
def pool (es : List (Nat × CpInfo)) (last : Nat) : Array CpInfo := ⟨poolList es last⟩
def fileOf (pool : Array CpInfo) (this : Nat) (attrs : Array Attribute := #[]) (ms : Array MethodInfo := #[]) (fl : Nat := 33) (sup : Nat := 0) (ifs : Array Nat := #[]) (fds : Array FieldInfo := #[]) : ClassFile where
  minorVersion := 0
  majorVersion := 65
  constantPool := pool
  accessFlags := fl
  thisClass := this
  superClass := sup
  interfaces := ifs
  fields := fds
  methods := ms
  attributes := attrs
def plain (name : String) (sup : Option ClassId) : Class where
  name := name
  kind := .ordinary
  loader := none
  accessFlags := 33
  super := sup
  interfaces := #[]
  cf := none
  fields := #[]
  methods := #[]
  instanceTypes := #[]
  staticTypes := #[]
  resolved := #[]
  callSites := []
  init := .initialized
  statics := none
  mirror := none

def pool0 : Array CpInfo := pool [(5, u "<init>"), (0, u "()V"), (1, .class_ 10), (1, u "java/lang/Object")] 113

def k0m0 : Method := { name := "<init>", desc := "()V", sig := { parameters := [], returnType := none }, accessFlags := 1, code := none }
/-- java/lang/Object -/
def k0 : Class := { plain "java/lang/Object" none with
  accessFlags := 33
  interfaces := #[]
  cf := some (fileOf pool0 8 #[] #[{ accessFlags := 1, nameIndex := 5, descriptorIndex := 6, attributes := #[] }] 33 0 #[] #[])
  fields := #[]
  methods := #[k0m0]
  instanceTypes := #[]
  staticTypes := #[]
  resolved := Array.replicate 124 none
  statics := none }

def pool1 : Array CpInfo := pool [(2, .class_ 4), (1, u "java/lang/Object"), (0, u "<init>"), (0, u "()V"), (0, .integer 2147483647), (0, .methodref 9 10), (0, .class_ 11), (0, .nameAndType 12 13), (0, u "com/example/memechain/memechain/benchmark/FunctionsSchwefel12PinLaw"), (0, u "small"), (0, u "(I)J"), (0, .methodref 15 16), (0, .class_ 17), (0, .nameAndType 18 19), (0, u "com/example/memechain/memechain/benchmark/Functions"), (0, u "schwefel12"), (0, u "([D)D"), (2, u "law"), (0, u "(IIIII)Z")] 5

def k1m0 : Method := { name := "<init>", desc := "()V", sig := { parameters := [], returnType := none }, accessFlags := 2, code := none }
def k1c1 : Code := { maxStack := 2, maxLocals := 1, code := method_2_code, exceptionTable := #[], attributes := #[] }
def k1m1 : Method := { name := "small", desc := "(I)J", sig := { parameters := [.int], returnType := some .long }, accessFlags := 10, code := some k1c1 }
def k1c2 : Code := { maxStack := 6, maxLocals := 27, code := code, exceptionTable := #[], attributes := #[] }
def k1m2 : Method := { name := "law", desc := "(IIIII)Z", sig := { parameters := [.int, .int, .int, .int, .int], returnType := some .boolean }, accessFlags := 9, code := some k1c2 }
/-- com/example/memechain/memechain/benchmark/FunctionsSchwefel12PinLaw -/
def k1 : Class := { plain "com/example/memechain/memechain/benchmark/FunctionsSchwefel12PinLaw" (some 0) with
  accessFlags := 49
  interfaces := #[]
  cf := some (fileOf pool1 9 #[] #[{ accessFlags := 2, nameIndex := 5, descriptorIndex := 6, attributes := #[] }, { accessFlags := 10, nameIndex := 12, descriptorIndex := 13, attributes := #[] }, { accessFlags := 9, nameIndex := 22, descriptorIndex := 23, attributes := #[] }] 49 2 #[] #[])
  fields := #[]
  methods := #[k1m0, k1m1, k1m2]
  instanceTypes := #[]
  staticTypes := #[]
  resolved := Array.replicate 29 none
  statics := none }

def pool2 : Array CpInfo := pool [(4, .class_ 6), (1, u "java/lang/Object"), (0, u "<init>"), (0, u "()V"), (0, .class_ 10), (0, u "com/example/memechain/memechain/benchmark/Functions"), (35, u "CEC2008"), (0, u "Ljava/util/List;"), (10, u "SCALABILITY"), (6, u "ALL"), (40, u "SUITES"), (0, u "Ljava/util/Map;"), (72, u "([D)D"), (24, .class_ 207), (1, u "com/example/memechain/memechain/benchmark/Functions$ShiftedError"), (104, u "CEC2008_MAX_DIMENSION"), (0, u "I"), (2, u "PAIRS_MIN_DIMENSION"), (1, u "SMALLEST_SAFE_SQUARES"), (0, u "D"), (0, u "UNLIMITED"), (28, u "schwefel12"), (11, .class_ 362), (0, u "com/example/memechain/memechain/benchmark/Functions$UnshiftedError")] 66

def k2m0 : Method := { name := "<init>", desc := "()V", sig := { parameters := [], returnType := none }, accessFlags := 2, code := none }
def k2c1 : Code := { maxStack := 6, maxLocals := 10, code := prog_26_method_20_code, exceptionTable := #[], attributes := #[] }
def k2m1 : Method := { name := "schwefel12", desc := "([D)D", sig := { parameters := [(.array .double)], returnType := some .double }, accessFlags := 8, code := some k2c1 }
/-- com/example/memechain/memechain/benchmark/Functions -/
def k2 : Class := { plain "com/example/memechain/memechain/benchmark/Functions" (some 0) with
  accessFlags := 49
  interfaces := #[]
  cf := some (fileOf pool2 9 #[.nestMembers #[361, 205]] #[{ accessFlags := 2, nameIndex := 7, descriptorIndex := 8, attributes := #[] }, { accessFlags := 8, nameIndex := 349, descriptorIndex := 180, attributes := #[] }] 49 4 #[] #[{ accessFlags := 26, nameIndex := 312, descriptorIndex := 313, attributes := #[] }, { accessFlags := 26, nameIndex := 316, descriptorIndex := 313, attributes := #[] }, { accessFlags := 26, nameIndex := 318, descriptorIndex := 319, attributes := #[] }, { accessFlags := 26, nameIndex := 320, descriptorIndex := 313, attributes := #[] }, { accessFlags := 26, nameIndex := 46, descriptorIndex := 47, attributes := #[] }, { accessFlags := 26, nameIndex := 58, descriptorIndex := 47, attributes := #[] }, { accessFlags := 26, nameIndex := 65, descriptorIndex := 47, attributes := #[] }, { accessFlags := 26, nameIndex := 106, descriptorIndex := 107, attributes := #[] }])
  fields := #[{ name := "CEC2008_MAX_DIMENSION", type := .int, accessFlags := 26, slot := 0, constantValue := 0 }, { name := "PAIRS_MIN_DIMENSION", type := .int, accessFlags := 26, slot := 1, constantValue := 0 }, { name := "SMALLEST_SAFE_SQUARES", type := .double, accessFlags := 26, slot := 2, constantValue := 0 }, { name := "UNLIMITED", type := .int, accessFlags := 26, slot := 3, constantValue := 0 }, { name := "CEC2008", type := (.object "java/util/List"), accessFlags := 26, slot := 4, constantValue := 0 }, { name := "SCALABILITY", type := (.object "java/util/List"), accessFlags := 26, slot := 5, constantValue := 0 }, { name := "ALL", type := (.object "java/util/List"), accessFlags := 26, slot := 6, constantValue := 0 }, { name := "SUITES", type := (.object "java/util/Map"), accessFlags := 26, slot := 7, constantValue := 0 }]
  methods := #[k2m0, k2m1]
  instanceTypes := #[]
  staticTypes := #[.int, .int, .double, .int, (.object "java/util/List"), (.object "java/util/List"), (.object "java/util/List"), (.object "java/util/Map")]
  resolved := Array.replicate 429 none
  statics := none }

def pool3 : Array CpInfo := pool [(1, u "java/lang/Cloneable"), (0, .class_ 1), (0, u "java/lang/Object"), (0, .class_ 3)] 3

/-- java/lang/Cloneable -/
def k3 : Class := { plain "java/lang/Cloneable" (some 0) with
  accessFlags := 1537
  interfaces := #[]
  cf := some (fileOf pool3 2 #[] #[] 1537 4 #[] #[])
  fields := #[]
  methods := #[]
  instanceTypes := #[]
  staticTypes := #[]
  resolved := Array.replicate 8 none
  statics := none }

def pool4 : Array CpInfo := pool [(1, u "java/io/Serializable"), (0, .class_ 1), (0, u "java/lang/Object"), (0, .class_ 3)] 3

/-- java/io/Serializable -/
def k4 : Class := { plain "java/io/Serializable" (some 0) with
  accessFlags := 1537
  interfaces := #[]
  cf := some (fileOf pool4 2 #[] #[] 1537 4 #[] #[])
  fields := #[]
  methods := #[]
  instanceTypes := #[]
  staticTypes := #[]
  resolved := Array.replicate 8 none
  statics := none }

/-- the primitive byte -/
def k5 : Class := { plain "byte" none with kind := .primitive 'B', accessFlags := 0x411 }
/-- [B -/
def k6 : Class := { plain "[B" (some 0) with kind := .array 5 .byte, interfaces := #[3, 4], accessFlags := 1041 }

/-- the primitive double -/
def k7 : Class := { plain "double" none with kind := .primitive 'D', accessFlags := 0x411 }
/-- [D -/
def k8 : Class := { plain "[D" (some 0) with kind := .array 7 .double, interfaces := #[3, 4], accessFlags := 1041 }

/-- the primitive int -/
def k9 : Class := { plain "int" none with kind := .primitive 'I', accessFlags := 0x411 }
/-- [I -/
def k10 : Class := { plain "[I" (some 0) with kind := .array 9 .int, interfaces := #[3, 4], accessFlags := 1041 }

def heap : Heap := #[]
def classes : Array Class := #[k0, k1, k2, k3, k4, k5, k6, k7, k8, k9, k10]
def interned : List (Array UInt16 × Addr) := []
def slotsUsed : Nat := 0
def theMethod : MethodId := ⟨1, 2⟩
def args0 : Array Value := #[.int 5, .int 3, .int 7, .int 2, .int 2]
def aboutOver (below : List Frame) : State where
  vm := { classes := classes, interned := interned.toArray }
  heap := heap
  slotsUsed := slotsUsed
  threads := #[{ frames := .invoking theMethod args0 :: below }]
def below0 : List Frame := [.native { method := ⟨0, 0⟩, args := #[] }]
def about1 : State := aboutOver below0
def p0 : Program := .bare "" "" ""
def e0 : Env := launch0.env 0 0 0
theorem w_frames : about1.frames = Frame.invoking theMethod args0 :: below0 := rfl
set_option maxRecDepth 65536 in
theorem w_args : argsFit about1.vm theMethod args0 = true := by decide +kernel
set_option maxRecDepth 65536 in
theorem w_heap : heapFits about1 = true := by decide +kernel
set_option maxRecDepth 65536 in
theorem w_runnable : about1.curStatus? = some .runnable := by decide +kernel
set_option maxRecDepth 65536 in
theorem w_alone : about1.alone = true := by decide +kernel
set_option maxRecDepth 65536 in
theorem w_named : about1.methodNamed? x = some theMethod := by decide +kernel
set_option maxRecDepth 65536 in
theorem w_hears : about1.hears theMethod below0 = true := by decide +kernel
set_option maxRecDepth 65536 in
theorem w_ripe : about1.ripe theMethod args0 below0 = true := by decide +kernel
theorem w_running : about1.status = .running := rfl
set_option maxRecDepth 65536 in
theorem w_room : about1.hasRoom e0.platform room_1 = true :=
  launch0.hasRoom_least _ room_1 (by decide +kernel) (by decide +kernel) (by decide +kernel) (by decide +kernel) (by decide +kernel) (by decide +kernel)
theorem allAtoms_all (ts : List Jvm.Cond) (a : Array Jvm.Value) (st : Jvm.State) : (allAtoms ts).before a st = ts.all (fun c => c.before a st) := by
  induction ts with
  | nil => rfl
  | cons c t ih =>
    show (Jvm.Cond.and c (allAtoms t)).before a st = _
    rw [Jvm.Cond.before_and, ih, List.all_cons]
def words1 : List Jvm.Cond := Jvm.Cond.code x code maxLocals ret :: tables_1
/-- a 'code' word, met by the world's own term for the bytes: nothing is compared byte by byte -/
theorem code_word {y : MethodName} {bytes : ByteArray} {mx : Nat} {rt : Option FieldType} {a : Array Value} {s : State} {m : MethodId} {meth : Method} {c : Code} (h1 : s.methodNamed? y = some m) (h2 : s.vm.method? m = some meth) (h3 : meth.code = some c) (h4 : c.code = bytes)
    (h5 : (c.maxLocals == mx && c.exceptionTable.isEmpty && decide (c.maxStack ≤ mostOperands) && decide (meth.sig.returnType = rt) && !meth.locks && decide (parseMethodDescriptor y.desc = some meth.sig)) = true) : (Jvm.Cond.code y bytes mx rt).before a s = true := by
  simp only [Bool.and_eq_true, beq_iff_eq, Bool.not_eq_true', decide_eq_true_eq] at h5
  obtain ⟨⟨⟨⟨⟨g1, g2⟩, g3⟩, g4⟩, g5⟩, g6⟩ := h5
  simp [Cond.before, Cond.holds, Cond.value, h1, h2, h3, h4, g1, g2, g3, g4, g5, g6]
def isCode : Jvm.Cond → Bool
  | .code _ _ _ _ => true
  | _ => false
theorem all_split {L : List Jvm.Cond} {P : Jvm.Cond → Bool} (h1 : L.all (fun c => isCode c || P c) = true) (h2 : ∀ c ∈ L.filter isCode, P c = true) : L.all P = true := by
  refine List.all_eq_true.mpr fun c hc => ?_
  have h := List.all_eq_true.mp h1 c hc
  rcases Bool.eq_false_or_eq_true (isCode c) with hi | hi
  · exact h2 c (List.mem_filter.mpr ⟨hc, hi⟩)
  · simpa [hi] using h
set_option maxRecDepth 65536 in
theorem w_c0 : (Jvm.Cond.code x code maxLocals ret).before args0 about1 = true := code_word (m := ⟨1, 2⟩) (meth := k1m2) (c := k1c2) (by decide +kernel) rfl rfl rfl (by decide +kernel)
set_option maxRecDepth 65536 in
theorem w_c1 : (Jvm.Cond.code ({ cls := "com/example/memechain/memechain/benchmark/FunctionsSchwefel12PinLaw", name := "small", desc := "(I)J" } : Jvm.MethodName) method_2_code (1 : Nat) (Option.some Jvm.ClassFile.FieldType.long)).before args0 about1 = true := code_word (m := ⟨1, 1⟩) (meth := k1m1) (c := k1c1) (by decide +kernel) rfl rfl rfl (by decide +kernel)
set_option maxRecDepth 65536 in
theorem w_c2 : (Jvm.Cond.code ({ cls := "com/example/memechain/memechain/benchmark/Functions", name := "schwefel12", desc := "([D)D" } : Jvm.MethodName) prog_26_method_20_code (10 : Nat) (Option.some Jvm.ClassFile.FieldType.double)).before args0 about1 = true := code_word (m := ⟨2, 1⟩) (meth := k2m1) (c := k2c1) (by decide +kernel) rfl rfl rfl (by decide +kernel)
def codes1 : List Jvm.Cond := [Jvm.Cond.code x code maxLocals ret, Jvm.Cond.code ({ cls := "com/example/memechain/memechain/benchmark/FunctionsSchwefel12PinLaw", name := "small", desc := "(I)J" } : Jvm.MethodName) method_2_code (1 : Nat) (Option.some Jvm.ClassFile.FieldType.long), Jvm.Cond.code ({ cls := "com/example/memechain/memechain/benchmark/Functions", name := "schwefel12", desc := "([D)D" } : Jvm.MethodName) prog_26_method_20_code (10 : Nat) (Option.some Jvm.ClassFile.FieldType.double)]
set_option maxRecDepth 65536 in
theorem codes_eq : words1.filter isCode = codes1 := rfl
theorem w_codes : ∀ c ∈ words1.filter isCode, c.before args0 about1 = true := by
  rw [codes_eq]
  intro c hc
  simp only [codes1, List.mem_cons, List.not_mem_nil, or_false] at hc
  rcases hc with rfl | rfl | rfl
  · exact w_c0
  · exact w_c1
  · exact w_c2
set_option maxRecDepth 65536 in
theorem w_t1 : words1.all (fun c => isCode c || c.before args0 about1) = true := by decide +kernel
theorem w_tables : (allAtoms (Jvm.Cond.code x code maxLocals ret :: tables_1)).before args0 about1 = true := by
  rw [allAtoms_all]
  show words1.all (fun c => c.before args0 about1) = true
  refine all_split ?_ w_codes
  rw [w_t1]
set_option maxRecDepth 65536 in
theorem w_case : (Jvm.Cond.and given_1 narrow_1).before args0 about1 = true := by decide +kernel
theorem w_applies : (headSpec (Jvm.Cond.code x code maxLocals ret :: tables_1) room_1).applies x e0.platform about1 = true :=
  (Spec.applies_iff w_frames).mpr ⟨w_running, w_runnable, w_alone, w_named, w_hears, w_ripe, w_room, w_tables⟩
theorem atStart : AtStart classFile x code maxLocals ret World_1 tables_1 room_1 Calls_1 rest_1 Pre_1 launch0 p0 e0 about1 theMethod args0 below0 :=
  ⟨lists_1, trivial, launch0.admits_env _ _ _, launch0.least_env, fairChoices_fair.cas, fairChoices_fair.clock, w_frames, w_args, w_heap, w_applies, trivial, trivial, w_case⟩
end start1
theorem witness_1 : WitnessClaimed_1 := ⟨start1.p0, start1.e0, start1.about1, start1.theMethod, start1.args0, start1.below0, start1.atStart⟩
end Jvm.Pilot.@@N@@
