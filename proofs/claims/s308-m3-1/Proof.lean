import JvmDerived
import JvmDerived.Pilot.@@N@@Statement
import JvmDerived.Pilot.@@N@@Code
set_option linter.unusedVariables false
set_option linter.unusedSimpArgs false
@@BLOCK:NumsL.lean.txt@@
namespace Jvm.Pilot.@@N@@
open Jvm Jvm.ClassFile Sem Op Lib Jvm.Free Jvm.Stand Jvm.LawKit Jvm.RoadKit Bundle Jvm.Pilot.@@N@@.Jvm.D
namespace Own
open Jvm.FP Jvm.Free.Fl
/-- the datum with its exponent less by e -/
def sh (e : Int) : Core.Datum → Core.Datum
  | .nan => .nan
  | .inf s => .inf s
  | .fin s c q => .fin s c (q - e)
/-- d is the number i * 2 ^ e -/
def Dyd (i e : Int) (d : Core.Datum) : Prop := Core.Whole i (sh e d)
def Dy (i e : Int) (a : UInt64) : Prop := Dyd i e (Core.val64 a)
theorem sh_zero (d : Core.Datum) : sh 0 d = d := by cases d <;> simp [sh]
theorem dyd_whole {i : Int} {d : Core.Datum} : Dyd i 0 d ↔ Core.Whole i d := by unfold Dyd; rw [sh_zero]
theorem dy_of_int {i : Int} {a : UInt64} (h : Core.DInt i a) : Dy i 0 a := dyd_whole.mpr h
theorem dy_i2d (n : Int32) : Dy n.toInt 0 (FP.i2d n) := dy_of_int (Core.i2d_int n)
theorem dy_l2d {n : Int64} (h : n.toInt.natAbs ≤ 2 ^ 53) : Dy n.toInt 0 (FP.l2d n) := dy_of_int (Core.l2d_int h)
theorem Dyd.ne_nan {i e : Int} {d : Core.Datum} (h : Dyd i e d) : d ≠ .nan := by rintro rfl; exact h.elim
theorem Dy.noNaN {i e : Int} {a : UInt64} (h : Dy i e a) : NoNaN64 a := val64_no.mpr h.ne_nan
theorem Dy.fin {i e : Int} {a : UInt64} (h : Dy i e a) : Fin64 a := by
  refine fin64_core.mpr ?_
  unfold Dy at h
  revert h
  unfold Core.DFin
  cases Core.val64 a with
  | nan => exact fun h => h.elim
  | inf => exact fun h => h.elim
  | fin s c q => exact fun _ => ⟨s, c, q, rfl⟩
theorem sh_sum (e : Int) (x y : Core.Datum) : sh e (Core.exactSum x y) = Core.exactSum (sh e x) (sh e y) := by
  cases x with
  | nan => rfl
  | inf s =>
    cases y with
    | nan => rfl
    | inf t => by_cases h : s = t <;> simp only [Core.exactSum, sh, h, if_true, if_false]
    | fin t d r => rfl
  | fin s c q =>
    cases y with
    | nan => rfl
    | inf t => rfl
    | fin t d r =>
      have h1 : min (q - e) (r - e) = min q r - e := by omega
      have h2 : Core.sumUnits s c (q - e) t d (r - e) (min q r - e) = Core.sumUnits s c q t d r (min q r) := by
        unfold Core.sumUnits Core.inUnits
        rw [show q - e - (min q r - e) = q - min q r by omega, show r - e - (min q r - e) = r - min q r by omega]
      simp only [Core.exactSum, sh, h1, h2]
theorem sh_negate (e : Int) (x : Core.Datum) : sh e (Core.negate x) = Core.negate (sh e x) := by cases x <;> rfl
theorem sh_product (e f : Int) (x y : Core.Datum) : sh (e + f) (Core.exactProduct x y) = Core.exactProduct (sh e x) (sh f y) := by
  cases x with
  | nan => rfl
  | inf s =>
    cases y with
    | nan => rfl
    | inf t => rfl
    | fin t d r => by_cases h : d = 0 <;> simp only [Core.exactProduct, sh, h, if_true, if_false]
  | fin s c q =>
    cases y with
    | nan => rfl
    | inf t => by_cases h : c = 0 <;> simp only [Core.exactProduct, sh, h, if_true, if_false]
    | fin t d r => simp only [Core.exactProduct, sh]; rw [show q + r - (e + f) = q - e + (r - f) by omega]
theorem sh_order (e : Int) (x y : Core.Datum) : Core.order (sh e x) (sh e y) = Core.order x y := by
  cases x with
  | nan => rfl
  | inf s => cases y <;> rfl
  | fin s c q =>
    cases y with
    | nan => rfl
    | inf t => rfl
    | fin t d r =>
      have h1 : min (q - e) (r - e) = min q r - e := by omega
      simp only [Core.order, sh, h1, Core.inUnits]
      rw [show q - e - (min q r - e) = q - min q r by omega, show r - e - (min q r - e) = r - min q r by omega]
/-- finer units -/
theorem dyd_finer {i e : Int} {d : Core.Datum} (k : Nat) (h : Dyd i e d) : Dyd (i * ((2 ^ k : Nat) : Int)) (e - k) d := by
  cases d with
  | nan => exact h.elim
  | inf => exact h.elim
  | fin s c q =>
    have h0 : Core.signed s (c * 2 ^ (q - e).toNat) = i * ((2 ^ (-(q - e)).toNat : Nat) : Int) := h
    show Core.signed s (c * 2 ^ (q - (e - k)).toNat) = i * ((2 ^ k : Nat) : Int) * ((2 ^ (-(q - (e - k))).toNat : Nat) : Int)
    have p2 : ((2 ^ (q - e).toNat : Nat) : Int) ≠ 0 := by have := Nat.two_pow_pos (q - e).toNat; omega
    refine Int.eq_of_mul_eq_mul_right p2 ?_
    have ex : (-(q - e)).toNat + (q - (e - k)).toNat = k + (-(q - (e - k))).toNat + (q - e).toNat := by omega
    calc Core.signed s (c * 2 ^ (q - (e - k)).toNat) * ((2 ^ (q - e).toNat : Nat) : Int)
        = Core.signed s (c * 2 ^ (q - e).toNat) * ((2 ^ (q - (e - k)).toNat : Nat) : Int) := by
          rw [← Core.signed_mul, ← Core.signed_mul]; congr 1; ac_rfl
      _ = i * (((2 ^ ((-(q - e)).toNat + (q - (e - k)).toNat) : Nat)) : Int) := by rw [h0, Nat.pow_add, Int.natCast_mul, Int.mul_assoc]
      _ = i * ((2 ^ k : Nat) : Int) * ((2 ^ (-(q - (e - k))).toNat : Nat) : Int) * ((2 ^ (q - e).toNat : Nat) : Int) := by
          rw [ex, Nat.pow_add, Nat.pow_add, Int.natCast_mul, Int.natCast_mul]; ac_rfl
theorem Dy.finer {i e : Int} {a : UInt64} (k : Nat) (h : Dy i e a) : Dy (i * ((2 ^ k : Nat) : Int)) (e - k) a := dyd_finer k h
theorem Dy.to {i e i' e' : Int} {a : UInt64} (h : Dy i e a) (k : Nat) (h1 : e' = e - k) (h2 : i' = i * ((2 ^ k : Nat) : Int)) : Dy i' e' a := by subst h1 h2; exact h.finer k
/-- what is small enough rounds to itself -/
theorem dyd_ratio {s : Bool} {i e : Int} (hs : Core.signed s i.natAbs = i) (hi : i.natAbs < 2 ^ 53) (h1 : -1074 ≤ e) (h2 : e ≤ 971) : Dyd i e (Core.roundRatio Core.b64 s i.natAbs 1 e) := by
  obtain ⟨c', q', h3, h4⟩ := Core.round_exact Core.good_b64 s (c := i.natAbs) (q := e) hi h1 h2
  have e2 : Core.roundRatio Core.b64 s i.natAbs 1 e = .fin s c' q' := h3
  have hf : Core.fits Core.b64 (.fin s c' q') := h3 ▸ Core.round_fits Core.good_b64 _
  have hq : -1074 ≤ q' := hf.2.1
  rw [e2]
  show Core.signed s (c' * 2 ^ (q' - e).toNat) = i * ((2 ^ (-(q' - e)).toNat : Nat) : Int)
  have h5 : c' * 2 ^ (q' - -1074).toNat = i.natAbs * 2 ^ (e - -1074).toNat := h4
  have key : c' * 2 ^ (q' - e).toNat = i.natAbs * 2 ^ (-(q' - e)).toNat := by
    by_cases hle : e ≤ q'
    · have x1 : (q' - -1074).toNat = (q' - e).toNat + (e - -1074).toNat := by omega
      have x2 : (-(q' - e)).toNat = 0 := by omega
      rw [x1, Nat.pow_add, ← Nat.mul_assoc] at h5
      rw [x2, Nat.pow_zero, Nat.mul_one]
      exact Nat.eq_of_mul_eq_mul_right (Nat.two_pow_pos _) h5
    · have x1 : (e - -1074).toNat = (-(q' - e)).toNat + (q' - -1074).toNat := by omega
      have x2 : (q' - e).toNat = 0 := by omega
      rw [x1, Nat.pow_add, ← Nat.mul_assoc] at h5
      rw [x2, Nat.pow_zero, Nat.mul_one]
      exact Nat.eq_of_mul_eq_mul_right (Nat.two_pow_pos _) h5
  rw [key, Core.signed_mul, hs]
theorem signed_of_whole {i : Int} {s : Bool} {c : Nat} {q : Int} (h : Core.Whole i (.fin s c q)) : Core.signed s i.natAbs = i := by
  by_cases hi : i = 0
  · subst hi; exact Core.signed_zero s
  · rw [Core.whole_sign h hi]
    unfold Core.signed
    by_cases h : i < 0 <;> simp [h] <;> omega
theorem dyd_round {i e : Int} {d : Core.Datum} (hi : i.natAbs < 2 ^ 53) (h1 : -1074 ≤ e) (h2 : e ≤ 971) (h : Dyd i e d) : Dyd i e (Core.round Core.b64 d) := by
  cases d with
  | nan => exact h.elim
  | inf => exact h.elim
  | fin s c q =>
    have hw : Core.Whole i (.fin s c (q - e)) := h
    have hn := Core.whole_natAbs hw
    have e1 : Core.round Core.b64 (.fin s c q) = Core.roundRatio Core.b64 s i.natAbs 1 e := by
      refine Core.roundRatio_congr (by decide) (by decide) ?_
      rw [show (e - q).toNat = (-(q - e)).toNat by omega]; simpa using hn
    rw [e1]
    exact dyd_ratio (signed_of_whole hw) hi h1 h2
theorem dy_add {i j e : Int} {a b : UInt64} (ha : Dy i e a) (hb : Dy j e b) (hi : (i + j).natAbs < 2 ^ 53) (h1 : -1074 ≤ e) (h2 : e ≤ 971) : Dy (i + j) e (FP.dadd a b) := by
  show Dyd _ _ (Core.val64 (Core.dadd a b))
  rw [Core.val64_dadd]
  refine dyd_round hi h1 h2 ?_
  unfold Dyd
  rw [sh_sum]
  exact Core.whole_sum ha hb
theorem dy_sub {i j e : Int} {a b : UInt64} (ha : Dy i e a) (hb : Dy j e b) (hi : (i - j).natAbs < 2 ^ 53) (h1 : -1074 ≤ e) (h2 : e ≤ 971) : Dy (i - j) e (FP.dsub a b) := by
  show Dyd _ _ (Core.val64 (Core.dsub a b))
  rw [Core.val64_dsub]
  refine dyd_round hi h1 h2 ?_
  unfold Dyd
  rw [sh_sum, sh_negate]
  exact Core.whole_sum ha (Core.whole_negate hb)
theorem dy_mul {i j e f : Int} {a b : UInt64} (ha : Dy i e a) (hb : Dy j f b) (hi : (i * j).natAbs < 2 ^ 53) (h1 : -1074 ≤ e + f) (h2 : e + f ≤ 971) : Dy (i * j) (e + f) (FP.dmul a b) := by
  show Dyd _ _ (Core.val64 (Core.dmul a b))
  rw [Core.val64_dmul]
  refine dyd_round hi h1 h2 ?_
  unfold Dyd
  rw [sh_product]
  exact Core.whole_product ha hb
theorem dyd_quot {i j m e f : Int} {x y : Core.Datum} (hx : Dyd i e x) (hy : Dyd j f y) (hj : j ≠ 0) (hm : i = j * m) (hb : m.natAbs < 2 ^ 53) (h1 : -1074 ≤ e - f) (h2 : e - f ≤ 971) : Dyd m (e - f) (Core.quotient Core.b64 x y) := by
  cases x with
  | nan => exact hx.elim
  | inf => exact hx.elim
  | fin s c q =>
  cases y with
  | nan => exact hy.elim
  | inf => exact hy.elim
  | fin t d r =>
    have wx : Core.Whole i (.fin s c (q - e)) := hx
    have wy : Core.Whole j (.fin t d (r - f)) := hy
    have hd : d ≠ 0 := fun h => hj ((Core.whole_zero wy).mp h)
    have nx := Core.whole_natAbs wx
    have ny := Core.whole_natAbs wy
    have hn : i.natAbs = j.natAbs * m.natAbs := by rw [hm, Int.natAbs_mul]
    simp only [Core.quotient]
    rw [if_neg hd]
    have e1 : Core.roundRatio Core.b64 (s != t) c d (q - r) = Core.roundRatio Core.b64 (s != t) m.natAbs 1 (e - f) := by
      refine Core.roundRatio_congr (Nat.pos_of_ne_zero hd) (by decide) ?_
      rw [Nat.mul_one]
      refine Nat.eq_of_mul_eq_mul_right (Nat.mul_pos (Nat.two_pow_pos (q - e).toNat) (Nat.two_pow_pos (r - f).toNat)) ?_
      have ex : (-(q - e)).toNat + (q - r - (e - f)).toNat + (r - f).toNat = (-(r - f)).toNat + (e - f - (q - r)).toNat + (q - e).toNat := by omega
      calc c * 2 ^ (q - r - (e - f)).toNat * (2 ^ (q - e).toNat * 2 ^ (r - f).toNat)
          = (c * 2 ^ (q - e).toNat) * (2 ^ (q - r - (e - f)).toNat * 2 ^ (r - f).toNat) := by ac_rfl
        _ = j.natAbs * m.natAbs * 2 ^ ((-(q - e)).toNat + (q - r - (e - f)).toNat + (r - f).toNat) := by rw [nx, hn, Nat.pow_add, Nat.pow_add]; ac_rfl
        _ = m.natAbs * (j.natAbs * 2 ^ (-(r - f)).toNat) * (2 ^ (e - f - (q - r)).toNat * 2 ^ (q - e).toNat) := by rw [ex, Nat.pow_add, Nat.pow_add]; ac_rfl
        _ = m.natAbs * d * 2 ^ (e - f - (q - r)).toNat * (2 ^ (q - e).toNat * 2 ^ (r - f).toNat) := by rw [← ny]; ac_rfl
    rw [e1]
    refine dyd_ratio ?_ hb h1 h2
    have si := signed_of_whole wx
    have sj := signed_of_whole wy
    have hj0 : (j.natAbs : Int) ≠ 0 := by omega
    refine Int.eq_of_mul_eq_mul_left hj0 ?_
    rw [hn] at si
    have k1 : Core.signed s (j.natAbs * m.natAbs) = Core.signed t j.natAbs * m := by rw [si, sj, hm]
    cases s <;> cases t <;> simp only [Core.signed, bne_self_eq_false, Bool.false_bne, Bool.bne_false, Bool.false_eq_true, if_false, if_true, Int.natCast_mul, Int.neg_mul, Int.mul_neg, Int.neg_inj] at k1 ⊢ <;> omega
theorem dy_div {i j m e f : Int} {a b : UInt64} (ha : Dy i e a) (hb : Dy j f b) (hj : j ≠ 0) (hm : i = j * m) (hi : m.natAbs < 2 ^ 53) (h1 : -1074 ≤ e - f) (h2 : e - f ≤ 971) : Dy m (e - f) (FP.ddiv a b) := by
  show Dyd _ _ (Core.val64 (Core.ddiv a b))
  rw [Core.val64_ddiv]
  exact dyd_quot ha hb hj hm hi h1 h2
theorem dy_cmp {i j e : Int} {a b : UInt64} (ha : Dy i e a) (hb : Dy j e b) : FP.dcmp a b = some (compare i j) := by
  show Core.order (Core.val64 a) (Core.val64 b) = _
  rw [← sh_order e]
  exact Core.order_whole ha hb
theorem cmp_lt {i j : Int} (h : i < j) : compare i j = .lt := by simp [compare, compareOfLessAndEq, h]
theorem cmp_eq {i j : Int} (h : i = j) : compare i j = .eq := by simp [compare, compareOfLessAndEq, h]
theorem cmp_gt {i j : Int} (h : j < i) : compare i j = .gt := by simp only [compare, compareOfLessAndEq]; rw [if_neg (by omega), if_neg (by omega)]
theorem dy_lt {i j e : Int} {a b : UInt64} (ha : Dy i e a) (hb : Dy j e b) (h : i < j) : FP.dcmp a b = some .lt := by rw [dy_cmp ha hb, cmp_lt h]
theorem dy_eq {i j e : Int} {a b : UInt64} (ha : Dy i e a) (hb : Dy j e b) (h : i = j) : FP.dcmp a b = some .eq := by rw [dy_cmp ha hb, cmp_eq h]
theorem dy_gt {i j e : Int} {a b : UInt64} (ha : Dy i e a) (hb : Dy j e b) (h : j < i) : FP.dcmp a b = some .gt := by rw [dy_cmp ha hb, cmp_gt h]
theorem dy_zero (e : Int) : Dy 0 e FP.dconst0 := by
  show Dyd 0 e (Core.val64 Core.dconst0)
  rw [Core.val64_dconst0]
  show Core.signed false (0 * _) = 0 * _
  rw [Nat.zero_mul, Int.zero_mul]; rfl
theorem dy_one : Dy 1 0 FP.dconst1 := by
  show Dyd 1 0 (Core.val64 Core.dconst1)
  rw [Core.val64_dconst1]
  show Core.signed false (2 ^ 52 * 2 ^ ((-52 : Int) - 0).toNat) = 1 * ((2 ^ (-((-52 : Int) - 0)).toNat : Nat) : Int)
  decide +kernel
end Own
namespace Own
theorem irem_nn {x y : Int32} (hx : 0 ≤ x.toInt) (hy : 0 < y.toInt) : (x - x / y * y).toInt = x.toInt % y.toInt := by
  have hd : (x / y).toInt = x.toInt / y.toInt := by rw [Jvm.Kit.i32_div (by omega), Int.tdiv_eq_ediv_of_nonneg hx]
  have b1 := x.toInt_lt
  have b2 : x.toInt / y.toInt * y.toInt ≤ x.toInt := Int.ediv_mul_le _ (by omega)
  have b3 : 0 ≤ x.toInt / y.toInt * y.toInt := Int.mul_nonneg (Int.ediv_nonneg hx (by omega)) (by omega)
  have hm : (x / y * y).toInt = x.toInt / y.toInt * y.toInt := by rw [Jvm.Kit.i32_mul (by rw [hd]; omega) (by rw [hd]; omega), hd]
  rw [Jvm.Kit.i32_sub (by rw [hm]; omega) (by rw [hm]; omega), hm]
  have := Int.mul_ediv_add_emod x.toInt y.toInt
  rw [Int.mul_comm] at this
  omega
theorem irem_t {x y : Int32} (hy : 0 < y.toInt) : (x - x / y * y).toInt = x.toInt.tmod y.toInt := by
  have hd : (x / y).toInt = x.toInt.tdiv y.toInt := Jvm.Kit.i32_div (by omega)
  have b1 := x.toInt_lt
  have b0 := x.le_toInt
  have k : y.toInt * x.toInt.tdiv y.toInt + x.toInt.tmod y.toInt = x.toInt := Int.mul_tdiv_add_tmod _ _
  have k2 : (y.toInt * x.toInt.tdiv y.toInt).natAbs ≤ x.toInt.natAbs := by
    rw [Int.natAbs_mul, Int.natAbs_tdiv]; exact Nat.mul_div_le _ _
  have t3 : (x.toInt.tmod y.toInt).natAbs < y.toInt.natAbs := by
    rw [Int.natAbs_tmod]; exact Nat.mod_lt _ (by omega)
  have b4 := y.toInt_lt
  have hm : (x / y * y).toInt = y.toInt * x.toInt.tdiv y.toInt := by
    have q : (x / y).toInt * y.toInt = y.toInt * x.toInt.tdiv y.toInt := by rw [hd, Int.mul_comm]
    by_cases hz : -2 ^ 31 ≤ (x / y).toInt * y.toInt ∧ (x / y).toInt * y.toInt < 2 ^ 31
    · rw [Jvm.Kit.i32_mul hz.1 hz.2, q]
    · exfalso
      have e1 : x.toInt.natAbs ≤ 2 ^ 31 := by omega
      by_cases hs : 0 ≤ x.toInt
      · have t1 : 0 ≤ x.toInt.tmod y.toInt := Int.tmod_nonneg _ hs
        omega
      · omega
  rw [Jvm.Kit.i32_sub (by rw [hm]; omega) (by rw [hm]; omega), hm]
  omega
theorem hlt {x : Int32} (h : ifCond.holds .lt x = true) : x.toInt < 0 := by
  simpa [ifCond.holds, Int32.lt_iff_toInt_lt] using h
theorem hge {x : Int32} (h : ifCond.holds .lt x = false) : 0 ≤ x.toInt := by
  simpa [ifCond.holds, Int32.lt_iff_toInt_lt] using h
theorem cgt {x y : Int32} (h : if_icmp.holds .gt x y = true) : y.toInt < x.toInt := by
  simpa [if_icmp.holds, Int32.lt_iff_toInt_lt] using h
theorem cle {x y : Int32} (h : if_icmp.holds .gt x y = false) : x.toInt ≤ y.toInt := by
  simpa [if_icmp.holds, Int32.lt_iff_toInt_lt] using h
theorem one_shl (k : Int32) (h1 : 0 ≤ k.toInt) (h2 : k.toInt ≤ 30) : ((1 : Int32) <<< (k &&& 31)).toInt = ((2 ^ k.toInt.toNat : Nat) : Int) := by
  have all : ∀ j : Fin 31, ((1 : Int32) <<< (Int32.ofNat j.val &&& 31)).toInt = ((2 ^ j.val : Nat) : Int) := by decide
  have e : k = Int32.ofNat k.toInt.toNat := by
    apply Int32.toInt_inj.mp
    rw [Int32.toInt_ofNat_of_lt (by omega)]
    omega
  have := all ⟨k.toInt.toNat, by omega⟩
  simp only at this
  rw [← e] at this
  exact this
end Own
namespace Own
section Walks
variable {p : Program} {l : Launch} {e : Env} {R : Room} {s : State} {m : MethodId} {args : Array Value} {below : List Frame} {meth : Method} {c : Code} {T T' : State} {locs : List Loc} {cells slots : Nat} {Z : State} {a0 : Array Value} {h : Heap}
/-- from the frame g on top of T the run comes to a state that G holds of -/
def Goes (p : Program) (e : Env) (below : List Frame) (G : State → Prop) (T : State) (g : JFrame) : Prop := ∃ t, Steps p.tables e below (T.setTop g) t ∧ G t
theorem Goes.of {G : State → Prop} {g g' : JFrame} (f : ∀ t, Steps p.tables e below (T'.setTop g') t → Steps p.tables e below (T.setTop g) t) (k : Goes p e below G T' g') : Goes p e below G T g := by
  obtain ⟨t, h1, h2⟩ := k
  exact ⟨t, f t h1, h2⟩
theorem Goes.cast {G : State → Prop} {g g' : JFrame} (q : g = g') (k : Goes p e below G T g') : Goes p e below G T g := q ▸ k
/-- the method has returned, with what Q says -/
def Fini (s : State) (below : List Frame) (Q : Option Value → Heap → List Loc → Prop) (kc ks : Nat) (t : State) : Prop := t.status = .running ∧ ∃ v L, Ended t below (.returned v) ∧ Q v t.heap L ∧ FrameEnd s (.returned v) t L kc ks
/-- a contract: called with as on the heap h0, the method returns with what Q says, and takes the room rm -/
def Ct (l : Launch) (y : MethodName) (bytes : ByteArray) (maxL : Nat) (ret : Option FieldType) (rm : Room) (Z : State) (as : List Value) (h0 : Heap) (Q : Option Value → Heap → List Loc → Prop) : Prop :=
  ∀ ws : List Jvm.Cond, MetFree l y (head1 (Jvm.Cond.code y bytes maxL ret :: ws) rm) (fun a U => a = as.toArray ∧ Z.Warmed39 U.vm ∧ U.heap = h0) (fun _ _ _ _ _ => True) (fun _ U o U' => ∃ v L, o = .returned v ∧ Q v U'.heap L ∧ FrameEnd U o U' L rm.cells rm.slots)
theorem met {l : Launch} {y : MethodName} {bytes : ByteArray} {maxL : Nat} {ret : Option FieldType} {rm : Room} {Z : State} {as : List Value} {h0 : Heap} {Q : Option Value → Heap → List Loc → Prop} (hp : plainFor y = true)
    (walk : ∀ (p : Program) (e : Env) (s : State) (m : MethodId) (below : List Frame) (meth : Method) (c : Code) (T : State), p.tables.exec = Jvm.exec → c.code = bytes → c.maxLocals = maxL → s.vm.findClass y.cls = some m.cls → meth.sig.returnType = ret → meth.locks = false → meth.name = y.name → Z.Warmed39 s.vm →
      Stand p l e rm s m as.toArray below meth c T [] 0 0 → T.heap = h0 → Goes p e below (Fini s below Q rm.cells rm.slots) T (entryFrame m as.toArray maxL)) : Ct l y bytes maxL ret rm Z as h0 Q := by
  intro ws
  refine MetFree.of_bodySF hp hisR ?_
  intro p e s m args below meth c s₁ Bd hml0 hP hK
  obtain ⟨rfl, hZ, hh⟩ := hP
  have e0 : s₁.heap = h0 := by rw [← hh, Bd.state]; rfl
  obtain ⟨t, h1, h2, v, L, h3, h4, h5⟩ := walk p e s m below meth c s₁ Bd.exec Bd.bytes hml0 (findClass_of_methodNamed Bd.named) Bd.returns Bd.notSynchronized (name_of_methodNamed Bd.named Bd.method).1 hZ (Stand.of_body Bd) e0
  exact ⟨t, _, h1, h2, h3, v, L, rfl, h4, h5⟩
theorem retB (X : Stand p l e R s m args below meth c T locs cells slots) (hx : p.tables.exec = Jvm.exec) (hlk : meth.locks = false) {pc : Nat} {Ls : Array Slot} {z : Int32} {t : FieldType} {rest : List Value} (hret : meth.sig.returnType = some t) (ht : t = .boolean ∨ t = .byte ∨ t = .char ∨ t = .short) (hd : decode c.code pc = .ok (.ireturn, 1))
    {Q : Option Value → Heap → List Loc → Prop} {kc ks : Nat} (h1 : cells ≤ kc) (h2 : slots ≤ ks) (hQ : Q (some (.int (nar t z))) T.heap locs) : Goes p e below (Fini s below Q kc ks) T (mkF m pc Ls (.int z :: rest)) := by
  obtain ⟨fs, hr, hrun, hended, hW, hsame⟩ := X.leave (v := some (.int (nar t z))) (fun q => by rw [hret] at q; cases q) hlk
  exact ⟨_, retN X hx hret ht hd hr, hrun, _, _, hended, hQ, ⟨_, rfl⟩, hW, hsame.mono h1 h2⟩
theorem retI (X : Stand p l e R s m args below meth c T locs cells slots) (hx : p.tables.exec = Jvm.exec) (hlk : meth.locks = false) {pc : Nat} {Ls : Array Slot} {z : Int32} {rest : List Value} (hret : meth.sig.returnType = some .int) (hd : decode c.code pc = .ok (.ireturn, 1))
    {Q : Option Value → Heap → List Loc → Prop} {kc ks : Nat} (h1 : cells ≤ kc) (h2 : slots ≤ ks) (hQ : Q (some (.int z)) T.heap locs) : Goes p e below (Fini s below Q kc ks) T (mkF m pc Ls (.int z :: rest)) := by
  obtain ⟨fs, hr, hrun, hended, hW, hsame⟩ := X.leave (v := some (.int z)) (fun q => by rw [hret] at q; cases q) hlk
  refine ⟨_, ?_, hrun, _, _, hended, hQ, ⟨_, rfl⟩, hW, hsame.mono h1 h2⟩
  have hm' : T.vm.method? m = some meth := X.method'
  have hn : narrow .int (.int z) = .int z := rfl
  show Steps p.tables e below (T.setTop { method := m, pc := pc, locals := Ls, stack := _ :: rest, locked := none }) _
  jvm_step X.here [X.here.top, hx, hd, hm', hret, hn]
  first | (intro acts; rw [hr _ acts rfl rfl rfl]) | rw [hr _ _ rfl rfl rfl]
  exact Steps.refl _
theorem retJ (X : Stand p l e R s m args below meth c T locs cells slots) (hx : p.tables.exec = Jvm.exec) (hlk : meth.locks = false) {pc : Nat} {Ls : Array Slot} {z : Int64} (hret : meth.sig.returnType = some .long) (hd : decode c.code pc = .ok (.lreturn, 1))
    {Q : Option Value → Heap → List Loc → Prop} {kc ks : Nat} (h1 : cells ≤ kc) (h2 : slots ≤ ks) (hQ : Q (some (.long z)) T.heap locs) : Goes p e below (Fini s below Q kc ks) T (mkF m pc Ls [.long z]) := by
  obtain ⟨fs, hr, hrun, hended, hW, hsame⟩ := X.leave (v := some (.long z)) (fun q => by rw [hret] at q; cases q) hlk
  exact ⟨_, X.lreturnOut hx hret hd hr, hrun, _, _, hended, hQ, ⟨_, rfl⟩, hW, hsame.mono h1 h2⟩
theorem retD (X : Stand p l e R s m args below meth c T locs cells slots) (hx : p.tables.exec = Jvm.exec) (hlk : meth.locks = false) {pc : Nat} {Ls : Array Slot} {z : UInt64} (hret : meth.sig.returnType = some .double) (hd : decode c.code pc = .ok (.dreturn, 1))
    {Q : Option Value → Heap → List Loc → Prop} {kc ks : Nat} (h1 : cells ≤ kc) (h2 : slots ≤ ks) (hQ : Q (some (.double z)) T.heap locs) : Goes p e below (Fini s below Q kc ks) T (mkF m pc Ls [.double z]) := by
  obtain ⟨fs, hr, hrun, hended, hW, hsame⟩ := X.leave (v := some (.double z)) (fun q => by rw [hret] at q; cases q) hlk
  refine ⟨_, ?_, hrun, _, _, hended, hQ, ⟨_, rfl⟩, hW, hsame.mono h1 h2⟩
  have hm' : T.vm.method? m = some meth := X.method'
  show Steps p.tables e below (T.setTop { method := m, pc := pc, locals := Ls, stack := [.double z], locked := none }) _
  jvm_step X.here [X.here.top, hx, hd, hm', hret]
  first | (intro acts; rw [hr _ acts rfl rfl rfl]) | rw [hr _ _ rfl rfl rfl]
  exact Steps.refl _
theorem retV (X : Stand p l e R s m args below meth c T locs cells slots) (hx : p.tables.exec = Jvm.exec) (hlk : meth.locks = false) {pc : Nat} {Ls : Array Slot} {st : List Value} (hret : meth.sig.returnType = none) (hd : decode c.code pc = .ok (.return_, 1))
    {Q : Option Value → Heap → List Loc → Prop} {kc ks : Nat} (h1 : cells ≤ kc) (h2 : slots ≤ ks) (hQ : Q none T.heap locs) : Goes p e below (Fini s below Q kc ks) T (mkF m pc Ls st) := by
  obtain ⟨fs, hr, hrun, hended, hW, hsame⟩ := X.leave (v := none) (fun _ => rfl) hlk
  refine ⟨_, ?_, hrun, _, _, hended, hQ, ⟨_, rfl⟩, hW, hsame.mono h1 h2⟩
  have hm' : T.vm.method? m = some meth := X.method'
  show Steps p.tables e below (T.setTop { method := m, pc := pc, locals := Ls, stack := st, locked := none }) _
  jvm_step X.here [X.here.top, hx, hd, hm', hret]
  first | (intro acts; rw [hr _ acts rfl rfl rfl]) | rw [hr _ _ rfl rfl rfl]
  exact Steps.refl _
theorem retA (X : Stand p l e R s m args below meth c T locs cells slots) (hx : p.tables.exec = Jvm.exec) (hlk : meth.locks = false) {pc : Nat} {Ls : Array Slot} {z : Value} {t : FieldType} {rest : List Value} (hz : z.isRef = true) (hret : meth.sig.returnType = some t) (ht : t.isReference = true) (hd : decode c.code pc = .ok (.areturn, 1))
    {Q : Option Value → Heap → List Loc → Prop} {kc ks : Nat} (h1 : cells ≤ kc) (h2 : slots ≤ ks) (hQ : Q (some z) T.heap locs) : Goes p e below (Fini s below Q kc ks) T (mkF m pc Ls (z :: rest)) := by
  obtain ⟨fs, hr, hrun, hended, hW, hsame⟩ := X.leave (v := some z) (fun q => by rw [hret] at q; cases q) hlk
  refine ⟨_, ?_, hrun, _, _, hended, hQ, ⟨_, rfl⟩, hW, hsame.mono h1 h2⟩
  have hm' : T.vm.method? m = some meth := X.method'
  show Steps p.tables e below (T.setTop { method := m, pc := pc, locals := Ls, stack := z :: rest, locked := none }) _
  jvm_step X.here [X.here.top, hx, hd, hm', hret, hz, ht]
  first | (intro acts; rw [hr _ acts rfl rfl rfl]) | rw [hr _ _ rfl rfl rfl]
  exact Steps.refl _
/-- a static method by its contract -/
theorem callC (X : Stand p l e R s m args below meth c T locs cells slots) (hx : p.tables.exec = Jvm.exec) (hZ : Z.Warmed39 s.vm) {own : String} {index : Nat} {y : MethodName} {bytes : ByteArray} {maxL : Nat} {ret : Option FieldType}
    (hown : s.vm.findClass own = some m.cls) (w1 : (Jvm.Cond.methodLink own index y).before a0 Z = true) (w2 : (Jvm.Cond.static y).before a0 Z = true) (w3 : (Jvm.Cond.initialized y.cls).before a0 Z = true) (w4 : (Jvm.Cond.code y bytes maxL ret).before a0 Z = true)
    (hy : y.cls ≠ "java/lang/invoke/MethodHandle" ∧ y.cls ≠ "java/lang/invoke/VarHandle") {rm : Room} {as : List Value} {Q : Option Value → Heap → List Loc → Prop}
    (hM : Ct l y bytes maxL ret rm Z as h Q)
    (W : Nat) (hf : rm.frames + 1 ≤ R.frames) (hl : W + (maxL + 11) + rm.locals ≤ R.locals) (eT : T.heap = h) (hc : cells + rm.cells ≤ R.cells) (hs : slots + rm.slots ≤ R.slots)
    {g : JFrame} (hg : g.method = m) (hsize : g.locals.size = c.maxLocals) {rest : List Value} (hlen : ∀ sig, parseMethodDescriptor y.desc = some sig → as.length = sig.parameters.length)
    (hst : g.stack = as.reverse ++ rest) (hW : 2 * g.monitorRoom + (rest.map fun v => v.category).sum ≤ W) (hd : decode c.code g.pc = .ok (.invokestatic index, 3)) {G : State → Prop}
    (k : ∀ (v : Option Value) (T' : State) (L : List Loc), Stand p l e R s m args below meth c T' (locs ++ L) (cells + rm.cells) (slots + rm.slots) → Q v T'.heap L → Goes p e below G T' { g with pc := g.pc + 3, stack := v.toList ++ rest }) : Goes p e below G T g := by
  obtain ⟨v, vm1, ⟨U, lo, ce, sl⟩, -, X', ⟨L, hQ, l1, l2, l3⟩, st⟩ := Jvm.LawKit.callS X hx (y := y) hown (mvT hZ w1) (mvT hZ w2) (mvT hZ w3) (mvT hZ w4) hy (backOf (W := W) (hM []) hZ w4 w3 hf hl) (g := g) hg hsize (argsL := as) (rest := rest) hlen hst hW hd (fun _ _ => ⟨rfl, eT, hc, hs⟩)
  dsimp only [Pt.U, Pt.locs, Pt.cells, Pt.slots] at X' l1 l2 l3 st hQ
  subst l1 l2 l3
  exact Goes.of st (k v U L X' hQ)
theorem Goes.via {G : State → Prop} {g g' : JFrame} (f : Steps p.tables e below (T.setTop g) (T'.setTop g')) (k : Goes p e below G T' g') : Goes p e below G T g := by
  obtain ⟨t, h1, h2⟩ := k
  exact ⟨t, f.trans h1, h2⟩
/-- an instance method by its contract -/
theorem callV (X : Stand p l e R s m args below meth c T locs cells slots) (hx : p.tables.exec = Jvm.exec) (hZ : Z.Warmed39 s.vm) {own C : String} {index : Nat} {y z : MethodName} {bytes : ByteArray} {maxL : Nat} {ret : Option FieldType}
    (hown : s.vm.findClass own = some m.cls) (w1 : (Jvm.Cond.methodLink own index y).before a0 Z = true) (w2 : (Jvm.Cond.declares y).before a0 Z = true) (hnf : NotFace s y) (w3 : (Jvm.Cond.selects C y z).before a0 Z = true) (w4 : (Jvm.Cond.instanceMethod z).before a0 Z = true) (w5 : (Jvm.Cond.code z bytes maxL ret).before a0 Z = true) (w6 : (Jvm.Cond.initialized z.cls).before a0 Z = true)
    (hy : y.cls ≠ "java/lang/invoke/MethodHandle" ∧ y.cls ≠ "java/lang/invoke/VarHandle") {b : Addr} (E : Exa Z h b C) {rm : Room} {as : List Value} {Q : Option Value → Heap → List Loc → Prop}
    (hM : Ct l z bytes maxL ret rm Z (.ref b :: as) h Q)
    (W : Nat) (hf : rm.frames + 1 ≤ R.frames) (hl : W + (maxL + 11) + rm.locals ≤ R.locals) (eT : T.heap = h) (hc : cells + rm.cells ≤ R.cells) (hs : slots + rm.slots ≤ R.slots)
    {g : JFrame} (hg : g.method = m) (hsize : g.locals.size = c.maxLocals) {rest : List Value} (hlen : ∀ sig, parseMethodDescriptor y.desc = some sig → as.length = sig.parameters.length)
    (hst : g.stack = as.reverse ++ .ref b :: rest) (hW : 2 * g.monitorRoom + (rest.map fun v => v.category).sum ≤ W) (hd : decode c.code g.pc = .ok (.invokevirtual index, 3)) {G : State → Prop}
    (k : ∀ (v : Option Value) (T' : State) (L : List Loc), Stand p l e R s m args below meth c T' (locs ++ L) (cells + rm.cells) (slots + rm.slots) → Q v T'.heap L → Goes p e below G T' { g with pc := g.pc + 3, stack := v.toList ++ rest }) : Goes p e below G T g := by
  obtain ⟨cq, kq, qa, qb, qc⟩ := isOf hZ eT E
  obtain ⟨v, vm1, ⟨U, lo, ce, sl⟩, -, X', ⟨L, hQ, l1, l2, l3⟩, st⟩ := X.virtualBack hx (y := y) (z := z) hown (mvT hZ w1) (mvT hZ w2) hnf (mvT hZ w3) (mvT hZ w4) hy (backOf (W := W) (hM []) hZ w5 w6 hf hl) qa qc (g := g) hg hsize (Steps.refl _) (argsL := as) (rest := rest) hlen hst hW hd (fun _ _ => ⟨rfl, eT, hc, hs⟩)
  dsimp only [Pt.U, Pt.locs, Pt.cells, Pt.slots] at X' l1 l2 l3 st hQ
  subst l1 l2 l3
  exact Goes.via st (k v U L X' hQ)
/-- a static field is read -/
theorem goS (X : Stand p l e R s m args below meth c T locs cells slots) (hx : p.tables.exec = Jvm.exec) (hZ : Z.Warmed39 s.vm) {own R0 O n d : String} {index : Nat} (hown : s.vm.findClass own = some m.cls) (w : (Jvm.Cond.fieldLink own index R0 n d).before a0 Z = true) (via : Via Z R0 O n d)
    (eT : T.heap = h) {v : Value} (F : Sta Z h O n d v) {g : JFrame} (hg : g.method = m) (hd : decode c.code g.pc = .ok (.getstatic index, 3)) {G : State → Prop}
    (k : ∀ T', Stand p l e R s m args below meth c T' locs cells slots → T'.heap = h → Goes p e below G T' { g with pc := g.pc + 3, stack := v :: g.stack }) : Goes p e below G T g := by
  obtain ⟨T', X', e', st⟩ := getS (host := "") X hx hZ hown w via eT F hg hd
  exact Goes.of st (k T' X' e')
end Walks
end Own
namespace Own
section Arrays
variable {p : Program} {l : Launch} {e : Env} {R : Room} {s : State} {m : MethodId} {args : Array Value} {below : List Frame} {meth : Method} {c : Code} {T T' : State} {locs : List Loc} {cells slots : Nat} {Z : State} {a0 : Array Value} {h h' : Heap} {a b : Addr} {xs ys : List UInt64} {sl : Nat} {v : Value}
/-- at a lies a double[] with the elements xs -/
def DA (Z : State) (h : Heap) (a : Addr) (xs : List UInt64) : Prop := ∃ c : Cell, Arr Z h a c .double ∧ c.slots.size = xs.length ∧ xs.length < 2 ^ 31 ∧ ∀ (i : Nat) (v : UInt64), xs[i]? = some v → c.slots[i]? = some (.double v)
theorem DA.ext (F : DA Z h a xs) (E : Ext h h') : DA Z h' a xs := by obtain ⟨c, A, r⟩ := F; exact ⟨c, A.ext E, r⟩
theorem DA.other (F : DA Z h b xs) (W : Wr h h' a sl v) (q : b ≠ a) : DA Z h' b xs := by obtain ⟨c, A, r⟩ := F; exact ⟨c, A.other W q, r⟩
theorem DA.lt (F : DA Z h a xs) : a < h.size := by obtain ⟨c, A, -⟩ := F; exact A.lt
theorem clamp {j : Int32} {i : Nat} (hj : j.toInt = i) : j.toNatClampNeg = i ∧ ¬ j < 0 := by
  refine ⟨by simp only [Int32.toNatClampNeg]; omega, ?_⟩
  rw [Int32.lt_iff_toInt_lt, show (0 : Int32).toInt = 0 from rfl]; omega
theorem goNewD (X : Stand p l e R s m args below meth c T locs cells slots) (hx : p.tables.exec = Jvm.exec) (hZ : Z.Warmed39 s.vm) (w : (Jvm.Cond.arrayClass .double).before a0 Z = true) (eT : T.heap = h) {g : JFrame} (hg : g.method = m) (hd : decode c.code g.pc = .ok (.newarray .double, 2)) {n : Int32} {rest : List Value} (hs : g.stack = .int n :: rest)
    (k : Nat) (hn : n.toInt = k) (hk : k ≤ 1000) (hc : cells + 1 ≤ R.cells) (hl : slots + k ≤ R.slots) {G : State → Prop}
    (kk : ∀ (T' : State) (h' : Heap) (a : Addr), a = h.size → Stand p l e R s m args below meth c T' locs (cells + 1) (slots + k) → T'.heap = h' → Ext h h' → DA Z h' a (List.replicate k 0) → Goes p e below G T' { g with pc := g.pc + 2, stack := .ref a :: rest }) : Goes p e below G T g := by
  obtain ⟨q1, q2⟩ := clamp hn
  obtain ⟨T', h', cA, X', e', E, A, st⟩ := newP X hx hZ (aty := .double) w eT hg hd hs q2 (cap := k) (by omega) (by omega) hc hl
  refine Goes.of st (kk T' h' _ rfl X' e' E ⟨_, A, ?_, ?_, ?_⟩)
  · rw [sz_new, q1, List.length_replicate]
  · rw [List.length_replicate]; omega
  · intro i v hi
    rw [List.getElem?_replicate] at hi
    split at hi
    · rename_i hlt
      cases hi
      simp only [newA, Array.getElem?_replicate, q1, if_pos hlt]
      rfl
    · cases hi
theorem goStD (X : Stand p l e R s m args below meth c T locs cells slots) (hx : p.tables.exec = Jvm.exec) (hZ : Z.Warmed39 s.vm) (eT : T.heap = h) (A : DA Z h a xs) {j : Int32} (i : Nat) (hj : j.toInt = i) (hi : i < xs.length) {x : UInt64} {g : JFrame} (hg : g.method = m) {rest : List Value}
    (hs : g.stack = .double x :: .int j :: .ref a :: rest) (hd : decode c.code g.pc = .ok (.dastore, 1)) {n0 : Nat} (N : Fr n0 locs) (ge : n0 ≤ a) {G : State → Prop}
    (k : ∀ (T' : State) (h' : Heap) (locs' : List Loc), Stand p l e R s m args below meth c T' locs' cells slots → T'.heap = h' → Fr n0 locs' → (∀ (b : Addr) (ys : List UInt64), b ≠ a → DA Z h b ys → DA Z h' b ys) → DA Z h' a (xs.set i x) → Goes p e below G T' { g with pc := g.pc + 1, stack := rest }) : Goes p e below G T g := by
  obtain ⟨q1, q2⟩ := clamp hj
  obtain ⟨cl, Ar, S, B, H⟩ := A
  have hin : ¬ (j < 0 ∨ cl.slots.size ≤ j.toNatClampNeg) := by rw [q1, S]; exact fun q => q.elim q2 (fun r => by omega)
  obtain ⟨T', h', X', e', W, st⟩ := stD X hx hZ eT Ar (j := j) (x := x) hin hg hs hd
  refine Goes.of st (k T' h' _ X' e' (Fr.snoc X' N ge) (fun b ys q F => F.other W q) ⟨_, Ar.same W, ?_, ?_, ?_⟩)
  · rw [sz_set, S, List.length_set]
  · rw [List.length_set]; exact B
  · intro i' v' hv
    rw [q1]
    by_cases u : i = i'
    · subst u
      rw [List.getElem?_set_self hi] at hv
      cases hv
      simp [Cell.setSlot, S, hi]
    · rw [List.getElem?_set_ne u] at hv
      have := H i' v' hv
      simp only [Cell.setSlot]
      rw [Array.getElem?_setIfInBounds_ne u]; exact this
theorem goLdD (X : Stand p l e R s m args below meth c T locs cells slots) (hx : p.tables.exec = Jvm.exec) (hZ : Z.Warmed39 s.vm) (eT : T.heap = h) (A : DA Z h a xs) {j : Int32} (i : Nat) (hj : j.toInt = i) {w : UInt64} (hv : xs[i]? = some w) {g : JFrame} (hg : g.method = m) {rest : List Value}
    (hs : g.stack = .int j :: .ref a :: rest) (hd : decode c.code g.pc = .ok (.daload, 1)) {G : State → Prop} (k : Goes p e below G T { g with pc := g.pc + 1, stack := .double w :: rest }) : Goes p e below G T g := by
  obtain ⟨q1, q2⟩ := clamp hj
  obtain ⟨cl, Ar, S, B, H⟩ := A
  have hi : i < xs.length := (List.getElem?_eq_some_iff.mp hv).1
  have hin : ¬ (j < 0 ∨ cl.slots.size ≤ j.toNatClampNeg) := by rw [q1, S]; exact fun q => q.elim q2 (fun r => by omega)
  exact Goes.of (fun t => X.daload hx (by rw [eT]; exact Ar.1) (State.isArrayOf_alike hZ.alike Ar.2.1) Ar.2.2 hin (by rw [q1]; exact H i w hv) hg hs hd t) k
theorem goLen (X : Stand p l e R s m args below meth c T locs cells slots) (hx : p.tables.exec = Jvm.exec) (hZ : Z.Warmed39 s.vm) (eT : T.heap = h) (A : DA Z h a xs) {n : Int32} (hn : n.toInt = xs.length) {g : JFrame} (hg : g.method = m) {rest : List Value}
    (hs : g.stack = .ref a :: rest) (hd : decode c.code g.pc = .ok (.arraylength, 1)) {G : State → Prop} (k : Goes p e below G T { g with pc := g.pc + 1, stack := .int n :: rest }) : Goes p e below G T g := by
  obtain ⟨cl, Ar, S, B, H⟩ := A
  have en : cl.slots.size.toInt32 = n := by
    apply Int32.toInt_inj.mp
    rw [S, hn]
    exact len_toInt B
  exact Goes.of (fun t => X.arraylength hx (by rw [eT]; exact Ar.1) (State.isArrayOf_alike hZ.alike Ar.2.1) hg hs hd t) (by rw [en]; exact k)
end Arrays
end Own
open Own
section Law
theorem own_sqb {a b : Int} {A : Nat} (ha : a.natAbs ≤ A) (hb : b.natAbs ≤ A) : ((a - b) * (a - b)).natAbs ≤ (2 * A) * (2 * A) := by
  rw [Int.natAbs_mul]; exact Nat.mul_le_mul (by omega) (by omega)
variable {a b t : Int} {x y z : UInt64}
theorem own_d1 (hx : Dy a 0 x) (hy : Dy b 0 y) (ba : a.natAbs ≤ 32768) (bb : b.natAbs ≤ 32768) : Dy (a - b) 0 (FP.dsub x y) := dy_sub hx hy (by omega) (by decide) (by decide)
theorem own_d2 {u : UInt64} (hu : Dy (a - b) 0 u) (ba : a.natAbs ≤ 32768) (bb : b.natAbs ≤ 32768) : Dy ((a - b) * (a - b)) 0 (FP.dmul u u) := by
  have := own_sqb ba bb
  exact dy_mul hu hu (by omega) (by decide) (by decide)
theorem own_d3 {u : UInt64} (hz : Dy t 0 z) (hu : Dy ((a - b) * (a - b)) 0 u) (ba : a.natAbs ≤ 32768) (bb : b.natAbs ≤ 32768) (t0 : t.natAbs ≤ 2 ^ 40) : Dy (t + (a - b) * (a - b)) 0 (FP.dadd z u) := by
  have := own_sqb ba bb
  exact dy_add hz hu (by omega) (by decide) (by decide)
theorem own_b16 {p : Int32} {v : Int64} (h : Int32.toInt64 (p).toInt16.toInt32 = v) : v.toInt.natAbs ≤ 32768 := by
  have e : v.toInt = p.toInt16.toInt := by rw [← h, Int32.toInt_toInt64, Int16.toInt_toInt32]
  have b1 := p.toInt16.toInt_lt
  have b2 := p.toInt16.le_toInt
  omega
theorem own_ref {r x y r' : Int64} (hx : x.toInt.natAbs ≤ 32768) (hy : y.toInt.natAbs ≤ 32768) (hr : r.toInt.natAbs ≤ 2 ^ 36) (h : r + (x - y) * (x - y) = r') : r'.toInt = r.toInt + (x.toInt - y.toInt) * (x.toInt - y.toInt) := by
  have := own_sqb hx hy
  have e1 : (x - y).toInt = x.toInt - y.toInt := Jvm.Kit.i64_sub (by omega) (by omega)
  have e2 : ((x - y) * (x - y)).toInt = (x.toInt - y.toInt) * (x.toInt - y.toInt) := by rw [Jvm.Kit.i64_mul (by rw [e1]; omega) (by rw [e1]; omega), e1]
  rw [← h, Jvm.Kit.i64_add (by rw [e2]; omega) (by rw [e2]; omega), e2]
theorem own_and3 {p n : Int32} (h : p &&& 3 = n) : n = 0 ∨ n = 1 ∨ n = 2 ∨ n = 3 := by
  have e1 : (p &&& 3).toInt = p.toInt % 2 ^ 2 := Jvm.Kit.i32_mask p 3 (k := 2) (by decide) (by decide)
  rw [h] at e1
  have : n.toInt = 0 ∨ n.toInt = 1 ∨ n.toInt = 2 ∨ n.toInt = 3 := by omega
  rcases this with q | q | q | q
  · exact Or.inl (Int32.toInt_inj.mp q)
  · exact Or.inr (Or.inl (Int32.toInt_inj.mp q))
  · exact Or.inr (Or.inr (Or.inl (Int32.toInt_inj.mp q)))
  · exact Or.inr (Or.inr (Or.inr (Int32.toInt_inj.mp q)))
end Law
theorem d1_0 : decode prog_26_method_12_code 0 = .ok (.dconst 0, 1) := by decide +kernel
theorem d1_1 : decode prog_26_method_12_code 1 = .ok (.dstore_n 2, 1) := by decide +kernel
theorem d1_2 : decode prog_26_method_12_code 2 = .ok (.iconst 0, 1) := by decide +kernel
theorem d1_3 : decode prog_26_method_12_code 3 = .ok (.istore 4, 2) := by decide +kernel
theorem d1_5 : decode prog_26_method_12_code 5 = .ok (.iload 4, 2) := by decide +kernel
theorem d1_7 : decode prog_26_method_12_code 7 = .ok (.aload_n 0, 1) := by decide +kernel
theorem d1_8 : decode prog_26_method_12_code 8 = .ok (.arraylength, 1) := by decide +kernel
theorem d1_9 : decode prog_26_method_12_code 9 = .ok (.if_icmp .ge 28, 3) := by decide +kernel
theorem d1_37 : decode prog_26_method_12_code 37 = .ok (.dload_n 2, 1) := by decide +kernel
theorem d1_38 : decode prog_26_method_12_code 38 = .ok (.dreturn, 1) := by decide +kernel
theorem d1_12 : decode prog_26_method_12_code 12 = .ok (.aload_n 0, 1) := by decide +kernel
theorem d1_13 : decode prog_26_method_12_code 13 = .ok (.iload 4, 2) := by decide +kernel
theorem d1_15 : decode prog_26_method_12_code 15 = .ok (.daload, 1) := by decide +kernel
theorem d1_16 : decode prog_26_method_12_code 16 = .ok (.aload_n 1, 1) := by decide +kernel
theorem d1_17 : decode prog_26_method_12_code 17 = .ok (.iload 4, 2) := by decide +kernel
theorem d1_19 : decode prog_26_method_12_code 19 = .ok (.daload, 1) := by decide +kernel
theorem d1_20 : decode prog_26_method_12_code 20 = .ok (.dsub, 1) := by decide +kernel
theorem d1_21 : decode prog_26_method_12_code 21 = .ok (.dstore 5, 2) := by decide +kernel
theorem d1_23 : decode prog_26_method_12_code 23 = .ok (.dload_n 2, 1) := by decide +kernel
theorem d1_24 : decode prog_26_method_12_code 24 = .ok (.dload 5, 2) := by decide +kernel
theorem d1_26 : decode prog_26_method_12_code 26 = .ok (.dload 5, 2) := by decide +kernel
theorem d1_28 : decode prog_26_method_12_code 28 = .ok (.dmul, 1) := by decide +kernel
theorem d1_29 : decode prog_26_method_12_code 29 = .ok (.dadd, 1) := by decide +kernel
theorem d1_30 : decode prog_26_method_12_code 30 = .ok (.dstore_n 2, 1) := by decide +kernel
theorem d1_31 : decode prog_26_method_12_code 31 = .ok (.iinc 4 1, 3) := by decide +kernel
theorem d1_34 : decode prog_26_method_12_code 34 = .ok (.goto (-29), 3) := by decide +kernel
theorem pd_0 : parseMethodDescriptor "([D[D)D" = some ⟨[(.array .double), (.array .double)], some .double⟩ := by decide +kernel
theorem ef_1 (m : MethodId) (x0 : Addr) (x1 : Addr) : entryFrame m #[(.ref x0), (.ref x1)] 7 = mkF m 0 #[.val (.ref x0), .val (.ref x1), .unset, .unset, .unset, .unset, .unset] [] := by first | (simp [entryFrame, mkF, argsToLocals, Value.category]; done) | rfl
theorem pn_1_0 : plainFor (⟨"com/example/memechain/memechain/benchmark/Functions", "shiftedSphere", "([D[D)D"⟩ : MethodName) = true := plainFor_of_name (by first | (simp [plainName, overriddenIn]; done) | decide +kernel)
set_option maxRecDepth 65536 in
set_option maxHeartbeats 40000000 in
theorem rm1_0 (l : Launch) (Z : State) (a0 : Array Value) (hw : ∀ d ∈ tables_1, d.before a0 Z = true) (aX : Addr) (aY : Addr)  (h0 : Heap) (n0 : Nat) (Z0 : n0 ≤ h0.size) (VX : DA Z h0 aX []) (VY : DA Z h0 aY []) :
    Ct l (⟨"com/example/memechain/memechain/benchmark/Functions", "shiftedSphere", "([D[D)D"⟩ : MethodName) prog_26_method_12_code 7 (some .double) ({ frames := 0, cells := 0, slots := 0, locals := 0 } : Room) Z [(.ref aX), (.ref aY)] h0 (fun v h L => (∃ z, v = some (.double z) ∧ Dy (0) 0 z) ∧ Fr n0 L ∧ h = h0) := by
  refine met pn_1_0 ?_
  intro p e s m below meth c T0 hx hby hml hown hret hlk hnm hZ X0 e0
  have N0 := Fr.nil n0
  have hown : s.vm.findClass "com/example/memechain/memechain/benchmark/Functions" = some m.cls := hown
  refine Goes.cast (ef_1 m aX aY) ?_
  show Goes p e below _ T0 (mkF m 0 #[.val (.ref aX), .val (.ref aY), .unset, .unset, .unset, .unset, .unset] [])
  refine Goes.of (fun _ kont => XS.dconst0 X0.here hx rfl (Jvm.hb hby d1_0) rfl kont) ?_
  show Goes p e below _ T0 (mkF m 1 #[.val (.ref aX), .val (.ref aY), .unset, .unset, .unset, .unset, .unset] [(.double FP.dconst0)])
  refine Goes.of (fun _ kont => XS.dstoreN X0.here hx rfl (Jvm.hb hby d1_1) rfl (l' := #[.val (.ref aX), .val (.ref aY), .val (.double FP.dconst0), .second, .unset, .unset, .unset]) rfl kont) ?_
  show Goes p e below _ T0 (mkF m 2 #[.val (.ref aX), .val (.ref aY), .val (.double FP.dconst0), .second, .unset, .unset, .unset] [])
  refine Goes.of (fun _ kont => XS.iconst X0.here hx rfl (Jvm.hb hby d1_2) kont) ?_
  show Goes p e below _ T0 (mkF m 3 #[.val (.ref aX), .val (.ref aY), .val (.double FP.dconst0), .second, .unset, .unset, .unset] [(.int (0 : Int32))])
  refine Goes.of (fun _ kont => XS.istore X0.here hx rfl (Jvm.hb hby d1_3) rfl (l' := #[.val (.ref aX), .val (.ref aY), .val (.double FP.dconst0), .second, .val (.int (0 : Int32)), .unset, .unset]) rfl kont) ?_
  show Goes p e below _ T0 (mkF m 5 #[.val (.ref aX), .val (.ref aY), .val (.double FP.dconst0), .second, .val (.int (0 : Int32)), .unset, .unset] [])
  have Dz0 := dy_zero 0
  refine Goes.of (fun _ kont => XS.iload X0.here hx rfl (Jvm.hb hby d1_5) rfl kont) ?_
  show Goes p e below _ T0 (mkF m 7 #[.val (.ref aX), .val (.ref aY), .val (.double FP.dconst0), .second, .val (.int (0 : Int32)), .unset, .unset] [(.int (0 : Int32))])
  refine Goes.of (fun _ kont => XS.aloadN X0.here hx rfl (Jvm.hb hby d1_7) rfl rfl kont) ?_
  show Goes p e below _ T0 (mkF m 8 #[.val (.ref aX), .val (.ref aY), .val (.double FP.dconst0), .second, .val (.int (0 : Int32)), .unset, .unset] [(.ref aX), (.int (0 : Int32))])
  refine goLen X0 hx hZ e0 VX (n := 0) (by show Int32.toInt 0 = ((0 : Nat) : Int); decide) (g := (mkF m 8 #[.val (.ref aX), .val (.ref aY), .val (.double FP.dconst0), .second, .val (.int (0 : Int32)), .unset, .unset] [(.ref aX), (.int (0 : Int32))])) rfl rfl (Jvm.hb hby d1_8) ?_
  show Goes p e below _ T0 (mkF m 9 #[.val (.ref aX), .val (.ref aY), .val (.double FP.dconst0), .second, .val (.int (0 : Int32)), .unset, .unset] [(.int (0 : Int32)), (.int (0 : Int32))])
  refine Goes.of (fun _ kont => XS.icmpYes X0.here hx rfl (pc0 := 9) (pc' := 37) rfl (Jvm.hb hby d1_9) rfl (by decide) (by decide) (by decide) kont) ?_
  show Goes p e below _ T0 (mkF m 37 #[.val (.ref aX), .val (.ref aY), .val (.double FP.dconst0), .second, .val (.int (0 : Int32)), .unset, .unset] [])
  refine Goes.of (fun _ kont => XS.dloadN X0.here hx rfl (Jvm.hb hby d1_37) rfl kont) ?_
  show Goes p e below _ T0 (mkF m 38 #[.val (.ref aX), .val (.ref aY), .val (.double FP.dconst0), .second, .val (.int (0 : Int32)), .unset, .unset] [(.double FP.dconst0)])
  exact retD X0 hx hlk hret (Jvm.hb hby d1_38) (by decide) (by decide) ⟨⟨_, rfl, Dz0⟩, N0, e0⟩
theorem pn_1_1 : plainFor (⟨"com/example/memechain/memechain/benchmark/Functions", "shiftedSphere", "([D[D)D"⟩ : MethodName) = true := plainFor_of_name (by first | (simp [plainName, overriddenIn]; done) | decide +kernel)
set_option maxRecDepth 65536 in
set_option maxHeartbeats 40000000 in
theorem rm1_1 (l : Launch) (Z : State) (a0 : Array Value) (hw : ∀ d ∈ tables_1, d.before a0 Z = true) (aX : Addr) (aY : Addr) (x0 y0 : UInt64) (a0 b0 : Int) (h0 : Heap) (n0 : Nat) (Z0 : n0 ≤ h0.size) (VX : DA Z h0 aX [x0]) (VY : DA Z h0 aY [y0]) (D0x : Dy a0 0 x0) (D0y : Dy b0 0 y0) (b0x : a0.natAbs ≤ 32768) (b0y : b0.natAbs ≤ 32768) :
    Ct l (⟨"com/example/memechain/memechain/benchmark/Functions", "shiftedSphere", "([D[D)D"⟩ : MethodName) prog_26_method_12_code 7 (some .double) ({ frames := 0, cells := 0, slots := 0, locals := 0 } : Room) Z [(.ref aX), (.ref aY)] h0 (fun v h L => (∃ z, v = some (.double z) ∧ Dy (0 + (a0 - b0) * (a0 - b0)) 0 z) ∧ Fr n0 L ∧ h = h0) := by
  refine met pn_1_1 ?_
  intro p e s m below meth c T0 hx hby hml hown hret hlk hnm hZ X0 e0
  have N0 := Fr.nil n0
  have hown : s.vm.findClass "com/example/memechain/memechain/benchmark/Functions" = some m.cls := hown
  refine Goes.cast (ef_1 m aX aY) ?_
  show Goes p e below _ T0 (mkF m 0 #[.val (.ref aX), .val (.ref aY), .unset, .unset, .unset, .unset, .unset] [])
  refine Goes.of (fun _ kont => XS.dconst0 X0.here hx rfl (Jvm.hb hby d1_0) rfl kont) ?_
  show Goes p e below _ T0 (mkF m 1 #[.val (.ref aX), .val (.ref aY), .unset, .unset, .unset, .unset, .unset] [(.double FP.dconst0)])
  refine Goes.of (fun _ kont => XS.dstoreN X0.here hx rfl (Jvm.hb hby d1_1) rfl (l' := #[.val (.ref aX), .val (.ref aY), .val (.double FP.dconst0), .second, .unset, .unset, .unset]) rfl kont) ?_
  show Goes p e below _ T0 (mkF m 2 #[.val (.ref aX), .val (.ref aY), .val (.double FP.dconst0), .second, .unset, .unset, .unset] [])
  refine Goes.of (fun _ kont => XS.iconst X0.here hx rfl (Jvm.hb hby d1_2) kont) ?_
  show Goes p e below _ T0 (mkF m 3 #[.val (.ref aX), .val (.ref aY), .val (.double FP.dconst0), .second, .unset, .unset, .unset] [(.int (0 : Int32))])
  refine Goes.of (fun _ kont => XS.istore X0.here hx rfl (Jvm.hb hby d1_3) rfl (l' := #[.val (.ref aX), .val (.ref aY), .val (.double FP.dconst0), .second, .val (.int (0 : Int32)), .unset, .unset]) rfl kont) ?_
  show Goes p e below _ T0 (mkF m 5 #[.val (.ref aX), .val (.ref aY), .val (.double FP.dconst0), .second, .val (.int (0 : Int32)), .unset, .unset] [])
  have Dz0 := dy_zero 0
  refine Goes.of (fun _ kont => XS.iload X0.here hx rfl (Jvm.hb hby d1_5) rfl kont) ?_
  show Goes p e below _ T0 (mkF m 7 #[.val (.ref aX), .val (.ref aY), .val (.double FP.dconst0), .second, .val (.int (0 : Int32)), .unset, .unset] [(.int (0 : Int32))])
  refine Goes.of (fun _ kont => XS.aloadN X0.here hx rfl (Jvm.hb hby d1_7) rfl rfl kont) ?_
  show Goes p e below _ T0 (mkF m 8 #[.val (.ref aX), .val (.ref aY), .val (.double FP.dconst0), .second, .val (.int (0 : Int32)), .unset, .unset] [(.ref aX), (.int (0 : Int32))])
  refine goLen X0 hx hZ e0 VX (n := 1) (by show Int32.toInt 1 = ((1 : Nat) : Int); decide) (g := (mkF m 8 #[.val (.ref aX), .val (.ref aY), .val (.double FP.dconst0), .second, .val (.int (0 : Int32)), .unset, .unset] [(.ref aX), (.int (0 : Int32))])) rfl rfl (Jvm.hb hby d1_8) ?_
  show Goes p e below _ T0 (mkF m 9 #[.val (.ref aX), .val (.ref aY), .val (.double FP.dconst0), .second, .val (.int (0 : Int32)), .unset, .unset] [(.int (1 : Int32)), (.int (0 : Int32))])
  refine Goes.of (fun _ kont => XS.icmpNo X0.here hx rfl (Jvm.hb hby d1_9) rfl (by decide) kont) ?_
  show Goes p e below _ T0 (mkF m 12 #[.val (.ref aX), .val (.ref aY), .val (.double FP.dconst0), .second, .val (.int (0 : Int32)), .unset, .unset] [])
  refine Goes.of (fun _ kont => XS.aloadN X0.here hx rfl (Jvm.hb hby d1_12) rfl rfl kont) ?_
  show Goes p e below _ T0 (mkF m 13 #[.val (.ref aX), .val (.ref aY), .val (.double FP.dconst0), .second, .val (.int (0 : Int32)), .unset, .unset] [(.ref aX)])
  refine Goes.of (fun _ kont => XS.iload X0.here hx rfl (Jvm.hb hby d1_13) rfl kont) ?_
  show Goes p e below _ T0 (mkF m 15 #[.val (.ref aX), .val (.ref aY), .val (.double FP.dconst0), .second, .val (.int (0 : Int32)), .unset, .unset] [(.int (0 : Int32)), (.ref aX)])
  refine goLdD X0 hx hZ e0 VX 0 (by decide) (w := x0) rfl (g := (mkF m 15 #[.val (.ref aX), .val (.ref aY), .val (.double FP.dconst0), .second, .val (.int (0 : Int32)), .unset, .unset] [(.int (0 : Int32)), (.ref aX)])) rfl rfl (Jvm.hb hby d1_15) ?_
  show Goes p e below _ T0 (mkF m 16 #[.val (.ref aX), .val (.ref aY), .val (.double FP.dconst0), .second, .val (.int (0 : Int32)), .unset, .unset] [(.double x0)])
  refine Goes.of (fun _ kont => XS.aloadN X0.here hx rfl (Jvm.hb hby d1_16) rfl rfl kont) ?_
  show Goes p e below _ T0 (mkF m 17 #[.val (.ref aX), .val (.ref aY), .val (.double FP.dconst0), .second, .val (.int (0 : Int32)), .unset, .unset] [(.ref aY), (.double x0)])
  refine Goes.of (fun _ kont => XS.iload X0.here hx rfl (Jvm.hb hby d1_17) rfl kont) ?_
  show Goes p e below _ T0 (mkF m 19 #[.val (.ref aX), .val (.ref aY), .val (.double FP.dconst0), .second, .val (.int (0 : Int32)), .unset, .unset] [(.int (0 : Int32)), (.ref aY), (.double x0)])
  refine goLdD X0 hx hZ e0 VY 0 (by decide) (w := y0) rfl (g := (mkF m 19 #[.val (.ref aX), .val (.ref aY), .val (.double FP.dconst0), .second, .val (.int (0 : Int32)), .unset, .unset] [(.int (0 : Int32)), (.ref aY), (.double x0)])) rfl rfl (Jvm.hb hby d1_19) ?_
  show Goes p e below _ T0 (mkF m 20 #[.val (.ref aX), .val (.ref aY), .val (.double FP.dconst0), .second, .val (.int (0 : Int32)), .unset, .unset] [(.double y0), (.double x0)])
  have Dd0 := own_d1 D0x D0y b0x b0y
  refine Goes.of (fun _ kont => XS.dsubS X0.here hx rfl (Jvm.hb hby d1_20) rfl Dd0.noNaN rfl kont) ?_
  show Goes p e below _ T0 (mkF m 21 #[.val (.ref aX), .val (.ref aY), .val (.double FP.dconst0), .second, .val (.int (0 : Int32)), .unset, .unset] [(.double (FP.dsub x0 y0))])
  generalize hd0 : (FP.dsub x0 y0) = d0
  show Goes p e below _ T0 (mkF m 21 #[.val (.ref aX), .val (.ref aY), .val (.double FP.dconst0), .second, .val (.int (0 : Int32)), .unset, .unset] [(.double d0)])
  rw [hd0] at Dd0
  refine Goes.of (fun _ kont => XS.dstore X0.here hx rfl (Jvm.hb hby d1_21) rfl (l' := #[.val (.ref aX), .val (.ref aY), .val (.double FP.dconst0), .second, .val (.int (0 : Int32)), .val (.double d0), .second]) rfl kont) ?_
  show Goes p e below _ T0 (mkF m 23 #[.val (.ref aX), .val (.ref aY), .val (.double FP.dconst0), .second, .val (.int (0 : Int32)), .val (.double d0), .second] [])
  refine Goes.of (fun _ kont => XS.dloadN X0.here hx rfl (Jvm.hb hby d1_23) rfl kont) ?_
  show Goes p e below _ T0 (mkF m 24 #[.val (.ref aX), .val (.ref aY), .val (.double FP.dconst0), .second, .val (.int (0 : Int32)), .val (.double d0), .second] [(.double FP.dconst0)])
  refine Goes.of (fun _ kont => XS.dload X0.here hx rfl (Jvm.hb hby d1_24) rfl kont) ?_
  show Goes p e below _ T0 (mkF m 26 #[.val (.ref aX), .val (.ref aY), .val (.double FP.dconst0), .second, .val (.int (0 : Int32)), .val (.double d0), .second] [(.double d0), (.double FP.dconst0)])
  refine Goes.of (fun _ kont => XS.dload X0.here hx rfl (Jvm.hb hby d1_26) rfl kont) ?_
  show Goes p e below _ T0 (mkF m 28 #[.val (.ref aX), .val (.ref aY), .val (.double FP.dconst0), .second, .val (.int (0 : Int32)), .val (.double d0), .second] [(.double d0), (.double d0), (.double FP.dconst0)])
  have Dq0 := own_d2 Dd0 b0x b0y
  refine Goes.of (fun _ kont => XS.dmulS X0.here hx rfl (Jvm.hb hby d1_28) rfl Dq0.noNaN rfl kont) ?_
  show Goes p e below _ T0 (mkF m 29 #[.val (.ref aX), .val (.ref aY), .val (.double FP.dconst0), .second, .val (.int (0 : Int32)), .val (.double d0), .second] [(.double (FP.dmul d0 d0)), (.double FP.dconst0)])
  generalize hq0 : (FP.dmul d0 d0) = q0
  show Goes p e below _ T0 (mkF m 29 #[.val (.ref aX), .val (.ref aY), .val (.double FP.dconst0), .second, .val (.int (0 : Int32)), .val (.double d0), .second] [(.double q0), (.double FP.dconst0)])
  rw [hq0] at Dq0
  have Dz1 := own_d3 Dz0 Dq0 b0x b0y (by omega)
  refine Goes.of (fun _ kont => XS.daddS X0.here hx rfl (Jvm.hb hby d1_29) rfl Dz1.noNaN rfl kont) ?_
  show Goes p e below _ T0 (mkF m 30 #[.val (.ref aX), .val (.ref aY), .val (.double FP.dconst0), .second, .val (.int (0 : Int32)), .val (.double d0), .second] [(.double (FP.dadd FP.dconst0 q0))])
  generalize hz1 : (FP.dadd FP.dconst0 q0) = z1
  show Goes p e below _ T0 (mkF m 30 #[.val (.ref aX), .val (.ref aY), .val (.double FP.dconst0), .second, .val (.int (0 : Int32)), .val (.double d0), .second] [(.double z1)])
  rw [hz1] at Dz1
  refine Goes.of (fun _ kont => XS.dstoreN X0.here hx rfl (Jvm.hb hby d1_30) rfl (l' := #[.val (.ref aX), .val (.ref aY), .val (.double z1), .second, .val (.int (0 : Int32)), .val (.double d0), .second]) rfl kont) ?_
  show Goes p e below _ T0 (mkF m 31 #[.val (.ref aX), .val (.ref aY), .val (.double z1), .second, .val (.int (0 : Int32)), .val (.double d0), .second] [])
  refine Goes.of (fun _ kont => XS.iinc X0.here hx rfl (Jvm.hb hby d1_31) rfl (l' := #[.val (.ref aX), .val (.ref aY), .val (.double z1), .second, .val (.int (1 : Int32)), .val (.double d0), .second]) rfl kont) ?_
  show Goes p e below _ T0 (mkF m 34 #[.val (.ref aX), .val (.ref aY), .val (.double z1), .second, .val (.int (1 : Int32)), .val (.double d0), .second] [])
  refine Goes.of (fun _ kont => XS.goto X0.here hx rfl (pc0 := 34) (pc' := 5) rfl (Jvm.hb hby d1_34) (by decide) (by decide) kont) ?_
  show Goes p e below _ T0 (mkF m 5 #[.val (.ref aX), .val (.ref aY), .val (.double z1), .second, .val (.int (1 : Int32)), .val (.double d0), .second] [])
  refine Goes.of (fun _ kont => XS.iload X0.here hx rfl (Jvm.hb hby d1_5) rfl kont) ?_
  show Goes p e below _ T0 (mkF m 7 #[.val (.ref aX), .val (.ref aY), .val (.double z1), .second, .val (.int (1 : Int32)), .val (.double d0), .second] [(.int (1 : Int32))])
  refine Goes.of (fun _ kont => XS.aloadN X0.here hx rfl (Jvm.hb hby d1_7) rfl rfl kont) ?_
  show Goes p e below _ T0 (mkF m 8 #[.val (.ref aX), .val (.ref aY), .val (.double z1), .second, .val (.int (1 : Int32)), .val (.double d0), .second] [(.ref aX), (.int (1 : Int32))])
  refine goLen X0 hx hZ e0 VX (n := 1) (by show Int32.toInt 1 = ((1 : Nat) : Int); decide) (g := (mkF m 8 #[.val (.ref aX), .val (.ref aY), .val (.double z1), .second, .val (.int (1 : Int32)), .val (.double d0), .second] [(.ref aX), (.int (1 : Int32))])) rfl rfl (Jvm.hb hby d1_8) ?_
  show Goes p e below _ T0 (mkF m 9 #[.val (.ref aX), .val (.ref aY), .val (.double z1), .second, .val (.int (1 : Int32)), .val (.double d0), .second] [(.int (1 : Int32)), (.int (1 : Int32))])
  refine Goes.of (fun _ kont => XS.icmpYes X0.here hx rfl (pc0 := 9) (pc' := 37) rfl (Jvm.hb hby d1_9) rfl (by decide) (by decide) (by decide) kont) ?_
  show Goes p e below _ T0 (mkF m 37 #[.val (.ref aX), .val (.ref aY), .val (.double z1), .second, .val (.int (1 : Int32)), .val (.double d0), .second] [])
  refine Goes.of (fun _ kont => XS.dloadN X0.here hx rfl (Jvm.hb hby d1_37) rfl kont) ?_
  show Goes p e below _ T0 (mkF m 38 #[.val (.ref aX), .val (.ref aY), .val (.double z1), .second, .val (.int (1 : Int32)), .val (.double d0), .second] [(.double z1)])
  exact retD X0 hx hlk hret (Jvm.hb hby d1_38) (by decide) (by decide) ⟨⟨_, rfl, Dz1⟩, N0, e0⟩
theorem pn_1_2 : plainFor (⟨"com/example/memechain/memechain/benchmark/Functions", "shiftedSphere", "([D[D)D"⟩ : MethodName) = true := plainFor_of_name (by first | (simp [plainName, overriddenIn]; done) | decide +kernel)
set_option maxRecDepth 65536 in
set_option maxHeartbeats 40000000 in
theorem rm1_2 (l : Launch) (Z : State) (a0 : Array Value) (hw : ∀ d ∈ tables_1, d.before a0 Z = true) (aX : Addr) (aY : Addr) (x0 y0 : UInt64) (a0 b0 : Int) (x1 y1 : UInt64) (a1 b1 : Int) (h0 : Heap) (n0 : Nat) (Z0 : n0 ≤ h0.size) (VX : DA Z h0 aX [x0, x1]) (VY : DA Z h0 aY [y0, y1]) (D0x : Dy a0 0 x0) (D0y : Dy b0 0 y0) (b0x : a0.natAbs ≤ 32768) (b0y : b0.natAbs ≤ 32768) (D1x : Dy a1 0 x1) (D1y : Dy b1 0 y1) (b1x : a1.natAbs ≤ 32768) (b1y : b1.natAbs ≤ 32768) :
    Ct l (⟨"com/example/memechain/memechain/benchmark/Functions", "shiftedSphere", "([D[D)D"⟩ : MethodName) prog_26_method_12_code 7 (some .double) ({ frames := 0, cells := 0, slots := 0, locals := 0 } : Room) Z [(.ref aX), (.ref aY)] h0 (fun v h L => (∃ z, v = some (.double z) ∧ Dy (0 + (a0 - b0) * (a0 - b0) + (a1 - b1) * (a1 - b1)) 0 z) ∧ Fr n0 L ∧ h = h0) := by
  refine met pn_1_2 ?_
  intro p e s m below meth c T0 hx hby hml hown hret hlk hnm hZ X0 e0
  have N0 := Fr.nil n0
  have hown : s.vm.findClass "com/example/memechain/memechain/benchmark/Functions" = some m.cls := hown
  refine Goes.cast (ef_1 m aX aY) ?_
  show Goes p e below _ T0 (mkF m 0 #[.val (.ref aX), .val (.ref aY), .unset, .unset, .unset, .unset, .unset] [])
  refine Goes.of (fun _ kont => XS.dconst0 X0.here hx rfl (Jvm.hb hby d1_0) rfl kont) ?_
  show Goes p e below _ T0 (mkF m 1 #[.val (.ref aX), .val (.ref aY), .unset, .unset, .unset, .unset, .unset] [(.double FP.dconst0)])
  refine Goes.of (fun _ kont => XS.dstoreN X0.here hx rfl (Jvm.hb hby d1_1) rfl (l' := #[.val (.ref aX), .val (.ref aY), .val (.double FP.dconst0), .second, .unset, .unset, .unset]) rfl kont) ?_
  show Goes p e below _ T0 (mkF m 2 #[.val (.ref aX), .val (.ref aY), .val (.double FP.dconst0), .second, .unset, .unset, .unset] [])
  refine Goes.of (fun _ kont => XS.iconst X0.here hx rfl (Jvm.hb hby d1_2) kont) ?_
  show Goes p e below _ T0 (mkF m 3 #[.val (.ref aX), .val (.ref aY), .val (.double FP.dconst0), .second, .unset, .unset, .unset] [(.int (0 : Int32))])
  refine Goes.of (fun _ kont => XS.istore X0.here hx rfl (Jvm.hb hby d1_3) rfl (l' := #[.val (.ref aX), .val (.ref aY), .val (.double FP.dconst0), .second, .val (.int (0 : Int32)), .unset, .unset]) rfl kont) ?_
  show Goes p e below _ T0 (mkF m 5 #[.val (.ref aX), .val (.ref aY), .val (.double FP.dconst0), .second, .val (.int (0 : Int32)), .unset, .unset] [])
  have Dz0 := dy_zero 0
  refine Goes.of (fun _ kont => XS.iload X0.here hx rfl (Jvm.hb hby d1_5) rfl kont) ?_
  show Goes p e below _ T0 (mkF m 7 #[.val (.ref aX), .val (.ref aY), .val (.double FP.dconst0), .second, .val (.int (0 : Int32)), .unset, .unset] [(.int (0 : Int32))])
  refine Goes.of (fun _ kont => XS.aloadN X0.here hx rfl (Jvm.hb hby d1_7) rfl rfl kont) ?_
  show Goes p e below _ T0 (mkF m 8 #[.val (.ref aX), .val (.ref aY), .val (.double FP.dconst0), .second, .val (.int (0 : Int32)), .unset, .unset] [(.ref aX), (.int (0 : Int32))])
  refine goLen X0 hx hZ e0 VX (n := 2) (by show Int32.toInt 2 = ((2 : Nat) : Int); decide) (g := (mkF m 8 #[.val (.ref aX), .val (.ref aY), .val (.double FP.dconst0), .second, .val (.int (0 : Int32)), .unset, .unset] [(.ref aX), (.int (0 : Int32))])) rfl rfl (Jvm.hb hby d1_8) ?_
  show Goes p e below _ T0 (mkF m 9 #[.val (.ref aX), .val (.ref aY), .val (.double FP.dconst0), .second, .val (.int (0 : Int32)), .unset, .unset] [(.int (2 : Int32)), (.int (0 : Int32))])
  refine Goes.of (fun _ kont => XS.icmpNo X0.here hx rfl (Jvm.hb hby d1_9) rfl (by decide) kont) ?_
  show Goes p e below _ T0 (mkF m 12 #[.val (.ref aX), .val (.ref aY), .val (.double FP.dconst0), .second, .val (.int (0 : Int32)), .unset, .unset] [])
  refine Goes.of (fun _ kont => XS.aloadN X0.here hx rfl (Jvm.hb hby d1_12) rfl rfl kont) ?_
  show Goes p e below _ T0 (mkF m 13 #[.val (.ref aX), .val (.ref aY), .val (.double FP.dconst0), .second, .val (.int (0 : Int32)), .unset, .unset] [(.ref aX)])
  refine Goes.of (fun _ kont => XS.iload X0.here hx rfl (Jvm.hb hby d1_13) rfl kont) ?_
  show Goes p e below _ T0 (mkF m 15 #[.val (.ref aX), .val (.ref aY), .val (.double FP.dconst0), .second, .val (.int (0 : Int32)), .unset, .unset] [(.int (0 : Int32)), (.ref aX)])
  refine goLdD X0 hx hZ e0 VX 0 (by decide) (w := x0) rfl (g := (mkF m 15 #[.val (.ref aX), .val (.ref aY), .val (.double FP.dconst0), .second, .val (.int (0 : Int32)), .unset, .unset] [(.int (0 : Int32)), (.ref aX)])) rfl rfl (Jvm.hb hby d1_15) ?_
  show Goes p e below _ T0 (mkF m 16 #[.val (.ref aX), .val (.ref aY), .val (.double FP.dconst0), .second, .val (.int (0 : Int32)), .unset, .unset] [(.double x0)])
  refine Goes.of (fun _ kont => XS.aloadN X0.here hx rfl (Jvm.hb hby d1_16) rfl rfl kont) ?_
  show Goes p e below _ T0 (mkF m 17 #[.val (.ref aX), .val (.ref aY), .val (.double FP.dconst0), .second, .val (.int (0 : Int32)), .unset, .unset] [(.ref aY), (.double x0)])
  refine Goes.of (fun _ kont => XS.iload X0.here hx rfl (Jvm.hb hby d1_17) rfl kont) ?_
  show Goes p e below _ T0 (mkF m 19 #[.val (.ref aX), .val (.ref aY), .val (.double FP.dconst0), .second, .val (.int (0 : Int32)), .unset, .unset] [(.int (0 : Int32)), (.ref aY), (.double x0)])
  refine goLdD X0 hx hZ e0 VY 0 (by decide) (w := y0) rfl (g := (mkF m 19 #[.val (.ref aX), .val (.ref aY), .val (.double FP.dconst0), .second, .val (.int (0 : Int32)), .unset, .unset] [(.int (0 : Int32)), (.ref aY), (.double x0)])) rfl rfl (Jvm.hb hby d1_19) ?_
  show Goes p e below _ T0 (mkF m 20 #[.val (.ref aX), .val (.ref aY), .val (.double FP.dconst0), .second, .val (.int (0 : Int32)), .unset, .unset] [(.double y0), (.double x0)])
  have Dd0 := own_d1 D0x D0y b0x b0y
  refine Goes.of (fun _ kont => XS.dsubS X0.here hx rfl (Jvm.hb hby d1_20) rfl Dd0.noNaN rfl kont) ?_
  show Goes p e below _ T0 (mkF m 21 #[.val (.ref aX), .val (.ref aY), .val (.double FP.dconst0), .second, .val (.int (0 : Int32)), .unset, .unset] [(.double (FP.dsub x0 y0))])
  generalize hd0 : (FP.dsub x0 y0) = d0
  show Goes p e below _ T0 (mkF m 21 #[.val (.ref aX), .val (.ref aY), .val (.double FP.dconst0), .second, .val (.int (0 : Int32)), .unset, .unset] [(.double d0)])
  rw [hd0] at Dd0
  refine Goes.of (fun _ kont => XS.dstore X0.here hx rfl (Jvm.hb hby d1_21) rfl (l' := #[.val (.ref aX), .val (.ref aY), .val (.double FP.dconst0), .second, .val (.int (0 : Int32)), .val (.double d0), .second]) rfl kont) ?_
  show Goes p e below _ T0 (mkF m 23 #[.val (.ref aX), .val (.ref aY), .val (.double FP.dconst0), .second, .val (.int (0 : Int32)), .val (.double d0), .second] [])
  refine Goes.of (fun _ kont => XS.dloadN X0.here hx rfl (Jvm.hb hby d1_23) rfl kont) ?_
  show Goes p e below _ T0 (mkF m 24 #[.val (.ref aX), .val (.ref aY), .val (.double FP.dconst0), .second, .val (.int (0 : Int32)), .val (.double d0), .second] [(.double FP.dconst0)])
  refine Goes.of (fun _ kont => XS.dload X0.here hx rfl (Jvm.hb hby d1_24) rfl kont) ?_
  show Goes p e below _ T0 (mkF m 26 #[.val (.ref aX), .val (.ref aY), .val (.double FP.dconst0), .second, .val (.int (0 : Int32)), .val (.double d0), .second] [(.double d0), (.double FP.dconst0)])
  refine Goes.of (fun _ kont => XS.dload X0.here hx rfl (Jvm.hb hby d1_26) rfl kont) ?_
  show Goes p e below _ T0 (mkF m 28 #[.val (.ref aX), .val (.ref aY), .val (.double FP.dconst0), .second, .val (.int (0 : Int32)), .val (.double d0), .second] [(.double d0), (.double d0), (.double FP.dconst0)])
  have Dq0 := own_d2 Dd0 b0x b0y
  refine Goes.of (fun _ kont => XS.dmulS X0.here hx rfl (Jvm.hb hby d1_28) rfl Dq0.noNaN rfl kont) ?_
  show Goes p e below _ T0 (mkF m 29 #[.val (.ref aX), .val (.ref aY), .val (.double FP.dconst0), .second, .val (.int (0 : Int32)), .val (.double d0), .second] [(.double (FP.dmul d0 d0)), (.double FP.dconst0)])
  generalize hq0 : (FP.dmul d0 d0) = q0
  show Goes p e below _ T0 (mkF m 29 #[.val (.ref aX), .val (.ref aY), .val (.double FP.dconst0), .second, .val (.int (0 : Int32)), .val (.double d0), .second] [(.double q0), (.double FP.dconst0)])
  rw [hq0] at Dq0
  have Dz1 := own_d3 Dz0 Dq0 b0x b0y (by omega)
  refine Goes.of (fun _ kont => XS.daddS X0.here hx rfl (Jvm.hb hby d1_29) rfl Dz1.noNaN rfl kont) ?_
  show Goes p e below _ T0 (mkF m 30 #[.val (.ref aX), .val (.ref aY), .val (.double FP.dconst0), .second, .val (.int (0 : Int32)), .val (.double d0), .second] [(.double (FP.dadd FP.dconst0 q0))])
  generalize hz1 : (FP.dadd FP.dconst0 q0) = z1
  show Goes p e below _ T0 (mkF m 30 #[.val (.ref aX), .val (.ref aY), .val (.double FP.dconst0), .second, .val (.int (0 : Int32)), .val (.double d0), .second] [(.double z1)])
  rw [hz1] at Dz1
  refine Goes.of (fun _ kont => XS.dstoreN X0.here hx rfl (Jvm.hb hby d1_30) rfl (l' := #[.val (.ref aX), .val (.ref aY), .val (.double z1), .second, .val (.int (0 : Int32)), .val (.double d0), .second]) rfl kont) ?_
  show Goes p e below _ T0 (mkF m 31 #[.val (.ref aX), .val (.ref aY), .val (.double z1), .second, .val (.int (0 : Int32)), .val (.double d0), .second] [])
  refine Goes.of (fun _ kont => XS.iinc X0.here hx rfl (Jvm.hb hby d1_31) rfl (l' := #[.val (.ref aX), .val (.ref aY), .val (.double z1), .second, .val (.int (1 : Int32)), .val (.double d0), .second]) rfl kont) ?_
  show Goes p e below _ T0 (mkF m 34 #[.val (.ref aX), .val (.ref aY), .val (.double z1), .second, .val (.int (1 : Int32)), .val (.double d0), .second] [])
  refine Goes.of (fun _ kont => XS.goto X0.here hx rfl (pc0 := 34) (pc' := 5) rfl (Jvm.hb hby d1_34) (by decide) (by decide) kont) ?_
  show Goes p e below _ T0 (mkF m 5 #[.val (.ref aX), .val (.ref aY), .val (.double z1), .second, .val (.int (1 : Int32)), .val (.double d0), .second] [])
  refine Goes.of (fun _ kont => XS.iload X0.here hx rfl (Jvm.hb hby d1_5) rfl kont) ?_
  show Goes p e below _ T0 (mkF m 7 #[.val (.ref aX), .val (.ref aY), .val (.double z1), .second, .val (.int (1 : Int32)), .val (.double d0), .second] [(.int (1 : Int32))])
  refine Goes.of (fun _ kont => XS.aloadN X0.here hx rfl (Jvm.hb hby d1_7) rfl rfl kont) ?_
  show Goes p e below _ T0 (mkF m 8 #[.val (.ref aX), .val (.ref aY), .val (.double z1), .second, .val (.int (1 : Int32)), .val (.double d0), .second] [(.ref aX), (.int (1 : Int32))])
  refine goLen X0 hx hZ e0 VX (n := 2) (by show Int32.toInt 2 = ((2 : Nat) : Int); decide) (g := (mkF m 8 #[.val (.ref aX), .val (.ref aY), .val (.double z1), .second, .val (.int (1 : Int32)), .val (.double d0), .second] [(.ref aX), (.int (1 : Int32))])) rfl rfl (Jvm.hb hby d1_8) ?_
  show Goes p e below _ T0 (mkF m 9 #[.val (.ref aX), .val (.ref aY), .val (.double z1), .second, .val (.int (1 : Int32)), .val (.double d0), .second] [(.int (2 : Int32)), (.int (1 : Int32))])
  refine Goes.of (fun _ kont => XS.icmpNo X0.here hx rfl (Jvm.hb hby d1_9) rfl (by decide) kont) ?_
  show Goes p e below _ T0 (mkF m 12 #[.val (.ref aX), .val (.ref aY), .val (.double z1), .second, .val (.int (1 : Int32)), .val (.double d0), .second] [])
  refine Goes.of (fun _ kont => XS.aloadN X0.here hx rfl (Jvm.hb hby d1_12) rfl rfl kont) ?_
  show Goes p e below _ T0 (mkF m 13 #[.val (.ref aX), .val (.ref aY), .val (.double z1), .second, .val (.int (1 : Int32)), .val (.double d0), .second] [(.ref aX)])
  refine Goes.of (fun _ kont => XS.iload X0.here hx rfl (Jvm.hb hby d1_13) rfl kont) ?_
  show Goes p e below _ T0 (mkF m 15 #[.val (.ref aX), .val (.ref aY), .val (.double z1), .second, .val (.int (1 : Int32)), .val (.double d0), .second] [(.int (1 : Int32)), (.ref aX)])
  refine goLdD X0 hx hZ e0 VX 1 (by decide) (w := x1) rfl (g := (mkF m 15 #[.val (.ref aX), .val (.ref aY), .val (.double z1), .second, .val (.int (1 : Int32)), .val (.double d0), .second] [(.int (1 : Int32)), (.ref aX)])) rfl rfl (Jvm.hb hby d1_15) ?_
  show Goes p e below _ T0 (mkF m 16 #[.val (.ref aX), .val (.ref aY), .val (.double z1), .second, .val (.int (1 : Int32)), .val (.double d0), .second] [(.double x1)])
  refine Goes.of (fun _ kont => XS.aloadN X0.here hx rfl (Jvm.hb hby d1_16) rfl rfl kont) ?_
  show Goes p e below _ T0 (mkF m 17 #[.val (.ref aX), .val (.ref aY), .val (.double z1), .second, .val (.int (1 : Int32)), .val (.double d0), .second] [(.ref aY), (.double x1)])
  refine Goes.of (fun _ kont => XS.iload X0.here hx rfl (Jvm.hb hby d1_17) rfl kont) ?_
  show Goes p e below _ T0 (mkF m 19 #[.val (.ref aX), .val (.ref aY), .val (.double z1), .second, .val (.int (1 : Int32)), .val (.double d0), .second] [(.int (1 : Int32)), (.ref aY), (.double x1)])
  refine goLdD X0 hx hZ e0 VY 1 (by decide) (w := y1) rfl (g := (mkF m 19 #[.val (.ref aX), .val (.ref aY), .val (.double z1), .second, .val (.int (1 : Int32)), .val (.double d0), .second] [(.int (1 : Int32)), (.ref aY), (.double x1)])) rfl rfl (Jvm.hb hby d1_19) ?_
  show Goes p e below _ T0 (mkF m 20 #[.val (.ref aX), .val (.ref aY), .val (.double z1), .second, .val (.int (1 : Int32)), .val (.double d0), .second] [(.double y1), (.double x1)])
  have Dd1 := own_d1 D1x D1y b1x b1y
  refine Goes.of (fun _ kont => XS.dsubS X0.here hx rfl (Jvm.hb hby d1_20) rfl Dd1.noNaN rfl kont) ?_
  show Goes p e below _ T0 (mkF m 21 #[.val (.ref aX), .val (.ref aY), .val (.double z1), .second, .val (.int (1 : Int32)), .val (.double d0), .second] [(.double (FP.dsub x1 y1))])
  generalize hd1 : (FP.dsub x1 y1) = d1
  show Goes p e below _ T0 (mkF m 21 #[.val (.ref aX), .val (.ref aY), .val (.double z1), .second, .val (.int (1 : Int32)), .val (.double d0), .second] [(.double d1)])
  rw [hd1] at Dd1
  refine Goes.of (fun _ kont => XS.dstore X0.here hx rfl (Jvm.hb hby d1_21) rfl (l' := #[.val (.ref aX), .val (.ref aY), .val (.double z1), .second, .val (.int (1 : Int32)), .val (.double d1), .second]) rfl kont) ?_
  show Goes p e below _ T0 (mkF m 23 #[.val (.ref aX), .val (.ref aY), .val (.double z1), .second, .val (.int (1 : Int32)), .val (.double d1), .second] [])
  refine Goes.of (fun _ kont => XS.dloadN X0.here hx rfl (Jvm.hb hby d1_23) rfl kont) ?_
  show Goes p e below _ T0 (mkF m 24 #[.val (.ref aX), .val (.ref aY), .val (.double z1), .second, .val (.int (1 : Int32)), .val (.double d1), .second] [(.double z1)])
  refine Goes.of (fun _ kont => XS.dload X0.here hx rfl (Jvm.hb hby d1_24) rfl kont) ?_
  show Goes p e below _ T0 (mkF m 26 #[.val (.ref aX), .val (.ref aY), .val (.double z1), .second, .val (.int (1 : Int32)), .val (.double d1), .second] [(.double d1), (.double z1)])
  refine Goes.of (fun _ kont => XS.dload X0.here hx rfl (Jvm.hb hby d1_26) rfl kont) ?_
  show Goes p e below _ T0 (mkF m 28 #[.val (.ref aX), .val (.ref aY), .val (.double z1), .second, .val (.int (1 : Int32)), .val (.double d1), .second] [(.double d1), (.double d1), (.double z1)])
  have Dq1 := own_d2 Dd1 b1x b1y
  refine Goes.of (fun _ kont => XS.dmulS X0.here hx rfl (Jvm.hb hby d1_28) rfl Dq1.noNaN rfl kont) ?_
  show Goes p e below _ T0 (mkF m 29 #[.val (.ref aX), .val (.ref aY), .val (.double z1), .second, .val (.int (1 : Int32)), .val (.double d1), .second] [(.double (FP.dmul d1 d1)), (.double z1)])
  generalize hq1 : (FP.dmul d1 d1) = q1
  show Goes p e below _ T0 (mkF m 29 #[.val (.ref aX), .val (.ref aY), .val (.double z1), .second, .val (.int (1 : Int32)), .val (.double d1), .second] [(.double q1), (.double z1)])
  rw [hq1] at Dq1
  have Dz2 := own_d3 Dz1 Dq1 b1x b1y (by have := own_sqb b0x b0y; omega)
  refine Goes.of (fun _ kont => XS.daddS X0.here hx rfl (Jvm.hb hby d1_29) rfl Dz2.noNaN rfl kont) ?_
  show Goes p e below _ T0 (mkF m 30 #[.val (.ref aX), .val (.ref aY), .val (.double z1), .second, .val (.int (1 : Int32)), .val (.double d1), .second] [(.double (FP.dadd z1 q1))])
  generalize hz2 : (FP.dadd z1 q1) = z2
  show Goes p e below _ T0 (mkF m 30 #[.val (.ref aX), .val (.ref aY), .val (.double z1), .second, .val (.int (1 : Int32)), .val (.double d1), .second] [(.double z2)])
  rw [hz2] at Dz2
  refine Goes.of (fun _ kont => XS.dstoreN X0.here hx rfl (Jvm.hb hby d1_30) rfl (l' := #[.val (.ref aX), .val (.ref aY), .val (.double z2), .second, .val (.int (1 : Int32)), .val (.double d1), .second]) rfl kont) ?_
  show Goes p e below _ T0 (mkF m 31 #[.val (.ref aX), .val (.ref aY), .val (.double z2), .second, .val (.int (1 : Int32)), .val (.double d1), .second] [])
  refine Goes.of (fun _ kont => XS.iinc X0.here hx rfl (Jvm.hb hby d1_31) rfl (l' := #[.val (.ref aX), .val (.ref aY), .val (.double z2), .second, .val (.int (2 : Int32)), .val (.double d1), .second]) rfl kont) ?_
  show Goes p e below _ T0 (mkF m 34 #[.val (.ref aX), .val (.ref aY), .val (.double z2), .second, .val (.int (2 : Int32)), .val (.double d1), .second] [])
  refine Goes.of (fun _ kont => XS.goto X0.here hx rfl (pc0 := 34) (pc' := 5) rfl (Jvm.hb hby d1_34) (by decide) (by decide) kont) ?_
  show Goes p e below _ T0 (mkF m 5 #[.val (.ref aX), .val (.ref aY), .val (.double z2), .second, .val (.int (2 : Int32)), .val (.double d1), .second] [])
  refine Goes.of (fun _ kont => XS.iload X0.here hx rfl (Jvm.hb hby d1_5) rfl kont) ?_
  show Goes p e below _ T0 (mkF m 7 #[.val (.ref aX), .val (.ref aY), .val (.double z2), .second, .val (.int (2 : Int32)), .val (.double d1), .second] [(.int (2 : Int32))])
  refine Goes.of (fun _ kont => XS.aloadN X0.here hx rfl (Jvm.hb hby d1_7) rfl rfl kont) ?_
  show Goes p e below _ T0 (mkF m 8 #[.val (.ref aX), .val (.ref aY), .val (.double z2), .second, .val (.int (2 : Int32)), .val (.double d1), .second] [(.ref aX), (.int (2 : Int32))])
  refine goLen X0 hx hZ e0 VX (n := 2) (by show Int32.toInt 2 = ((2 : Nat) : Int); decide) (g := (mkF m 8 #[.val (.ref aX), .val (.ref aY), .val (.double z2), .second, .val (.int (2 : Int32)), .val (.double d1), .second] [(.ref aX), (.int (2 : Int32))])) rfl rfl (Jvm.hb hby d1_8) ?_
  show Goes p e below _ T0 (mkF m 9 #[.val (.ref aX), .val (.ref aY), .val (.double z2), .second, .val (.int (2 : Int32)), .val (.double d1), .second] [(.int (2 : Int32)), (.int (2 : Int32))])
  refine Goes.of (fun _ kont => XS.icmpYes X0.here hx rfl (pc0 := 9) (pc' := 37) rfl (Jvm.hb hby d1_9) rfl (by decide) (by decide) (by decide) kont) ?_
  show Goes p e below _ T0 (mkF m 37 #[.val (.ref aX), .val (.ref aY), .val (.double z2), .second, .val (.int (2 : Int32)), .val (.double d1), .second] [])
  refine Goes.of (fun _ kont => XS.dloadN X0.here hx rfl (Jvm.hb hby d1_37) rfl kont) ?_
  show Goes p e below _ T0 (mkF m 38 #[.val (.ref aX), .val (.ref aY), .val (.double z2), .second, .val (.int (2 : Int32)), .val (.double d1), .second] [(.double z2)])
  exact retD X0 hx hlk hret (Jvm.hb hby d1_38) (by decide) (by decide) ⟨⟨_, rfl, Dz2⟩, N0, e0⟩
theorem pn_1_3 : plainFor (⟨"com/example/memechain/memechain/benchmark/Functions", "shiftedSphere", "([D[D)D"⟩ : MethodName) = true := plainFor_of_name (by first | (simp [plainName, overriddenIn]; done) | decide +kernel)
set_option maxRecDepth 65536 in
set_option maxHeartbeats 40000000 in
theorem rm1_3 (l : Launch) (Z : State) (a0 : Array Value) (hw : ∀ d ∈ tables_1, d.before a0 Z = true) (aX : Addr) (aY : Addr) (x0 y0 : UInt64) (a0 b0 : Int) (x1 y1 : UInt64) (a1 b1 : Int) (x2 y2 : UInt64) (a2 b2 : Int) (h0 : Heap) (n0 : Nat) (Z0 : n0 ≤ h0.size) (VX : DA Z h0 aX [x0, x1, x2]) (VY : DA Z h0 aY [y0, y1, y2]) (D0x : Dy a0 0 x0) (D0y : Dy b0 0 y0) (b0x : a0.natAbs ≤ 32768) (b0y : b0.natAbs ≤ 32768) (D1x : Dy a1 0 x1) (D1y : Dy b1 0 y1) (b1x : a1.natAbs ≤ 32768) (b1y : b1.natAbs ≤ 32768) (D2x : Dy a2 0 x2) (D2y : Dy b2 0 y2) (b2x : a2.natAbs ≤ 32768) (b2y : b2.natAbs ≤ 32768) :
    Ct l (⟨"com/example/memechain/memechain/benchmark/Functions", "shiftedSphere", "([D[D)D"⟩ : MethodName) prog_26_method_12_code 7 (some .double) ({ frames := 0, cells := 0, slots := 0, locals := 0 } : Room) Z [(.ref aX), (.ref aY)] h0 (fun v h L => (∃ z, v = some (.double z) ∧ Dy (0 + (a0 - b0) * (a0 - b0) + (a1 - b1) * (a1 - b1) + (a2 - b2) * (a2 - b2)) 0 z) ∧ Fr n0 L ∧ h = h0) := by
  refine met pn_1_3 ?_
  intro p e s m below meth c T0 hx hby hml hown hret hlk hnm hZ X0 e0
  have N0 := Fr.nil n0
  have hown : s.vm.findClass "com/example/memechain/memechain/benchmark/Functions" = some m.cls := hown
  refine Goes.cast (ef_1 m aX aY) ?_
  show Goes p e below _ T0 (mkF m 0 #[.val (.ref aX), .val (.ref aY), .unset, .unset, .unset, .unset, .unset] [])
  refine Goes.of (fun _ kont => XS.dconst0 X0.here hx rfl (Jvm.hb hby d1_0) rfl kont) ?_
  show Goes p e below _ T0 (mkF m 1 #[.val (.ref aX), .val (.ref aY), .unset, .unset, .unset, .unset, .unset] [(.double FP.dconst0)])
  refine Goes.of (fun _ kont => XS.dstoreN X0.here hx rfl (Jvm.hb hby d1_1) rfl (l' := #[.val (.ref aX), .val (.ref aY), .val (.double FP.dconst0), .second, .unset, .unset, .unset]) rfl kont) ?_
  show Goes p e below _ T0 (mkF m 2 #[.val (.ref aX), .val (.ref aY), .val (.double FP.dconst0), .second, .unset, .unset, .unset] [])
  refine Goes.of (fun _ kont => XS.iconst X0.here hx rfl (Jvm.hb hby d1_2) kont) ?_
  show Goes p e below _ T0 (mkF m 3 #[.val (.ref aX), .val (.ref aY), .val (.double FP.dconst0), .second, .unset, .unset, .unset] [(.int (0 : Int32))])
  refine Goes.of (fun _ kont => XS.istore X0.here hx rfl (Jvm.hb hby d1_3) rfl (l' := #[.val (.ref aX), .val (.ref aY), .val (.double FP.dconst0), .second, .val (.int (0 : Int32)), .unset, .unset]) rfl kont) ?_
  show Goes p e below _ T0 (mkF m 5 #[.val (.ref aX), .val (.ref aY), .val (.double FP.dconst0), .second, .val (.int (0 : Int32)), .unset, .unset] [])
  have Dz0 := dy_zero 0
  refine Goes.of (fun _ kont => XS.iload X0.here hx rfl (Jvm.hb hby d1_5) rfl kont) ?_
  show Goes p e below _ T0 (mkF m 7 #[.val (.ref aX), .val (.ref aY), .val (.double FP.dconst0), .second, .val (.int (0 : Int32)), .unset, .unset] [(.int (0 : Int32))])
  refine Goes.of (fun _ kont => XS.aloadN X0.here hx rfl (Jvm.hb hby d1_7) rfl rfl kont) ?_
  show Goes p e below _ T0 (mkF m 8 #[.val (.ref aX), .val (.ref aY), .val (.double FP.dconst0), .second, .val (.int (0 : Int32)), .unset, .unset] [(.ref aX), (.int (0 : Int32))])
  refine goLen X0 hx hZ e0 VX (n := 3) (by show Int32.toInt 3 = ((3 : Nat) : Int); decide) (g := (mkF m 8 #[.val (.ref aX), .val (.ref aY), .val (.double FP.dconst0), .second, .val (.int (0 : Int32)), .unset, .unset] [(.ref aX), (.int (0 : Int32))])) rfl rfl (Jvm.hb hby d1_8) ?_
  show Goes p e below _ T0 (mkF m 9 #[.val (.ref aX), .val (.ref aY), .val (.double FP.dconst0), .second, .val (.int (0 : Int32)), .unset, .unset] [(.int (3 : Int32)), (.int (0 : Int32))])
  refine Goes.of (fun _ kont => XS.icmpNo X0.here hx rfl (Jvm.hb hby d1_9) rfl (by decide) kont) ?_
  show Goes p e below _ T0 (mkF m 12 #[.val (.ref aX), .val (.ref aY), .val (.double FP.dconst0), .second, .val (.int (0 : Int32)), .unset, .unset] [])
  refine Goes.of (fun _ kont => XS.aloadN X0.here hx rfl (Jvm.hb hby d1_12) rfl rfl kont) ?_
  show Goes p e below _ T0 (mkF m 13 #[.val (.ref aX), .val (.ref aY), .val (.double FP.dconst0), .second, .val (.int (0 : Int32)), .unset, .unset] [(.ref aX)])
  refine Goes.of (fun _ kont => XS.iload X0.here hx rfl (Jvm.hb hby d1_13) rfl kont) ?_
  show Goes p e below _ T0 (mkF m 15 #[.val (.ref aX), .val (.ref aY), .val (.double FP.dconst0), .second, .val (.int (0 : Int32)), .unset, .unset] [(.int (0 : Int32)), (.ref aX)])
  refine goLdD X0 hx hZ e0 VX 0 (by decide) (w := x0) rfl (g := (mkF m 15 #[.val (.ref aX), .val (.ref aY), .val (.double FP.dconst0), .second, .val (.int (0 : Int32)), .unset, .unset] [(.int (0 : Int32)), (.ref aX)])) rfl rfl (Jvm.hb hby d1_15) ?_
  show Goes p e below _ T0 (mkF m 16 #[.val (.ref aX), .val (.ref aY), .val (.double FP.dconst0), .second, .val (.int (0 : Int32)), .unset, .unset] [(.double x0)])
  refine Goes.of (fun _ kont => XS.aloadN X0.here hx rfl (Jvm.hb hby d1_16) rfl rfl kont) ?_
  show Goes p e below _ T0 (mkF m 17 #[.val (.ref aX), .val (.ref aY), .val (.double FP.dconst0), .second, .val (.int (0 : Int32)), .unset, .unset] [(.ref aY), (.double x0)])
  refine Goes.of (fun _ kont => XS.iload X0.here hx rfl (Jvm.hb hby d1_17) rfl kont) ?_
  show Goes p e below _ T0 (mkF m 19 #[.val (.ref aX), .val (.ref aY), .val (.double FP.dconst0), .second, .val (.int (0 : Int32)), .unset, .unset] [(.int (0 : Int32)), (.ref aY), (.double x0)])
  refine goLdD X0 hx hZ e0 VY 0 (by decide) (w := y0) rfl (g := (mkF m 19 #[.val (.ref aX), .val (.ref aY), .val (.double FP.dconst0), .second, .val (.int (0 : Int32)), .unset, .unset] [(.int (0 : Int32)), (.ref aY), (.double x0)])) rfl rfl (Jvm.hb hby d1_19) ?_
  show Goes p e below _ T0 (mkF m 20 #[.val (.ref aX), .val (.ref aY), .val (.double FP.dconst0), .second, .val (.int (0 : Int32)), .unset, .unset] [(.double y0), (.double x0)])
  have Dd0 := own_d1 D0x D0y b0x b0y
  refine Goes.of (fun _ kont => XS.dsubS X0.here hx rfl (Jvm.hb hby d1_20) rfl Dd0.noNaN rfl kont) ?_
  show Goes p e below _ T0 (mkF m 21 #[.val (.ref aX), .val (.ref aY), .val (.double FP.dconst0), .second, .val (.int (0 : Int32)), .unset, .unset] [(.double (FP.dsub x0 y0))])
  generalize hd0 : (FP.dsub x0 y0) = d0
  show Goes p e below _ T0 (mkF m 21 #[.val (.ref aX), .val (.ref aY), .val (.double FP.dconst0), .second, .val (.int (0 : Int32)), .unset, .unset] [(.double d0)])
  rw [hd0] at Dd0
  refine Goes.of (fun _ kont => XS.dstore X0.here hx rfl (Jvm.hb hby d1_21) rfl (l' := #[.val (.ref aX), .val (.ref aY), .val (.double FP.dconst0), .second, .val (.int (0 : Int32)), .val (.double d0), .second]) rfl kont) ?_
  show Goes p e below _ T0 (mkF m 23 #[.val (.ref aX), .val (.ref aY), .val (.double FP.dconst0), .second, .val (.int (0 : Int32)), .val (.double d0), .second] [])
  refine Goes.of (fun _ kont => XS.dloadN X0.here hx rfl (Jvm.hb hby d1_23) rfl kont) ?_
  show Goes p e below _ T0 (mkF m 24 #[.val (.ref aX), .val (.ref aY), .val (.double FP.dconst0), .second, .val (.int (0 : Int32)), .val (.double d0), .second] [(.double FP.dconst0)])
  refine Goes.of (fun _ kont => XS.dload X0.here hx rfl (Jvm.hb hby d1_24) rfl kont) ?_
  show Goes p e below _ T0 (mkF m 26 #[.val (.ref aX), .val (.ref aY), .val (.double FP.dconst0), .second, .val (.int (0 : Int32)), .val (.double d0), .second] [(.double d0), (.double FP.dconst0)])
  refine Goes.of (fun _ kont => XS.dload X0.here hx rfl (Jvm.hb hby d1_26) rfl kont) ?_
  show Goes p e below _ T0 (mkF m 28 #[.val (.ref aX), .val (.ref aY), .val (.double FP.dconst0), .second, .val (.int (0 : Int32)), .val (.double d0), .second] [(.double d0), (.double d0), (.double FP.dconst0)])
  have Dq0 := own_d2 Dd0 b0x b0y
  refine Goes.of (fun _ kont => XS.dmulS X0.here hx rfl (Jvm.hb hby d1_28) rfl Dq0.noNaN rfl kont) ?_
  show Goes p e below _ T0 (mkF m 29 #[.val (.ref aX), .val (.ref aY), .val (.double FP.dconst0), .second, .val (.int (0 : Int32)), .val (.double d0), .second] [(.double (FP.dmul d0 d0)), (.double FP.dconst0)])
  generalize hq0 : (FP.dmul d0 d0) = q0
  show Goes p e below _ T0 (mkF m 29 #[.val (.ref aX), .val (.ref aY), .val (.double FP.dconst0), .second, .val (.int (0 : Int32)), .val (.double d0), .second] [(.double q0), (.double FP.dconst0)])
  rw [hq0] at Dq0
  have Dz1 := own_d3 Dz0 Dq0 b0x b0y (by omega)
  refine Goes.of (fun _ kont => XS.daddS X0.here hx rfl (Jvm.hb hby d1_29) rfl Dz1.noNaN rfl kont) ?_
  show Goes p e below _ T0 (mkF m 30 #[.val (.ref aX), .val (.ref aY), .val (.double FP.dconst0), .second, .val (.int (0 : Int32)), .val (.double d0), .second] [(.double (FP.dadd FP.dconst0 q0))])
  generalize hz1 : (FP.dadd FP.dconst0 q0) = z1
  show Goes p e below _ T0 (mkF m 30 #[.val (.ref aX), .val (.ref aY), .val (.double FP.dconst0), .second, .val (.int (0 : Int32)), .val (.double d0), .second] [(.double z1)])
  rw [hz1] at Dz1
  refine Goes.of (fun _ kont => XS.dstoreN X0.here hx rfl (Jvm.hb hby d1_30) rfl (l' := #[.val (.ref aX), .val (.ref aY), .val (.double z1), .second, .val (.int (0 : Int32)), .val (.double d0), .second]) rfl kont) ?_
  show Goes p e below _ T0 (mkF m 31 #[.val (.ref aX), .val (.ref aY), .val (.double z1), .second, .val (.int (0 : Int32)), .val (.double d0), .second] [])
  refine Goes.of (fun _ kont => XS.iinc X0.here hx rfl (Jvm.hb hby d1_31) rfl (l' := #[.val (.ref aX), .val (.ref aY), .val (.double z1), .second, .val (.int (1 : Int32)), .val (.double d0), .second]) rfl kont) ?_
  show Goes p e below _ T0 (mkF m 34 #[.val (.ref aX), .val (.ref aY), .val (.double z1), .second, .val (.int (1 : Int32)), .val (.double d0), .second] [])
  refine Goes.of (fun _ kont => XS.goto X0.here hx rfl (pc0 := 34) (pc' := 5) rfl (Jvm.hb hby d1_34) (by decide) (by decide) kont) ?_
  show Goes p e below _ T0 (mkF m 5 #[.val (.ref aX), .val (.ref aY), .val (.double z1), .second, .val (.int (1 : Int32)), .val (.double d0), .second] [])
  refine Goes.of (fun _ kont => XS.iload X0.here hx rfl (Jvm.hb hby d1_5) rfl kont) ?_
  show Goes p e below _ T0 (mkF m 7 #[.val (.ref aX), .val (.ref aY), .val (.double z1), .second, .val (.int (1 : Int32)), .val (.double d0), .second] [(.int (1 : Int32))])
  refine Goes.of (fun _ kont => XS.aloadN X0.here hx rfl (Jvm.hb hby d1_7) rfl rfl kont) ?_
  show Goes p e below _ T0 (mkF m 8 #[.val (.ref aX), .val (.ref aY), .val (.double z1), .second, .val (.int (1 : Int32)), .val (.double d0), .second] [(.ref aX), (.int (1 : Int32))])
  refine goLen X0 hx hZ e0 VX (n := 3) (by show Int32.toInt 3 = ((3 : Nat) : Int); decide) (g := (mkF m 8 #[.val (.ref aX), .val (.ref aY), .val (.double z1), .second, .val (.int (1 : Int32)), .val (.double d0), .second] [(.ref aX), (.int (1 : Int32))])) rfl rfl (Jvm.hb hby d1_8) ?_
  show Goes p e below _ T0 (mkF m 9 #[.val (.ref aX), .val (.ref aY), .val (.double z1), .second, .val (.int (1 : Int32)), .val (.double d0), .second] [(.int (3 : Int32)), (.int (1 : Int32))])
  refine Goes.of (fun _ kont => XS.icmpNo X0.here hx rfl (Jvm.hb hby d1_9) rfl (by decide) kont) ?_
  show Goes p e below _ T0 (mkF m 12 #[.val (.ref aX), .val (.ref aY), .val (.double z1), .second, .val (.int (1 : Int32)), .val (.double d0), .second] [])
  refine Goes.of (fun _ kont => XS.aloadN X0.here hx rfl (Jvm.hb hby d1_12) rfl rfl kont) ?_
  show Goes p e below _ T0 (mkF m 13 #[.val (.ref aX), .val (.ref aY), .val (.double z1), .second, .val (.int (1 : Int32)), .val (.double d0), .second] [(.ref aX)])
  refine Goes.of (fun _ kont => XS.iload X0.here hx rfl (Jvm.hb hby d1_13) rfl kont) ?_
  show Goes p e below _ T0 (mkF m 15 #[.val (.ref aX), .val (.ref aY), .val (.double z1), .second, .val (.int (1 : Int32)), .val (.double d0), .second] [(.int (1 : Int32)), (.ref aX)])
  refine goLdD X0 hx hZ e0 VX 1 (by decide) (w := x1) rfl (g := (mkF m 15 #[.val (.ref aX), .val (.ref aY), .val (.double z1), .second, .val (.int (1 : Int32)), .val (.double d0), .second] [(.int (1 : Int32)), (.ref aX)])) rfl rfl (Jvm.hb hby d1_15) ?_
  show Goes p e below _ T0 (mkF m 16 #[.val (.ref aX), .val (.ref aY), .val (.double z1), .second, .val (.int (1 : Int32)), .val (.double d0), .second] [(.double x1)])
  refine Goes.of (fun _ kont => XS.aloadN X0.here hx rfl (Jvm.hb hby d1_16) rfl rfl kont) ?_
  show Goes p e below _ T0 (mkF m 17 #[.val (.ref aX), .val (.ref aY), .val (.double z1), .second, .val (.int (1 : Int32)), .val (.double d0), .second] [(.ref aY), (.double x1)])
  refine Goes.of (fun _ kont => XS.iload X0.here hx rfl (Jvm.hb hby d1_17) rfl kont) ?_
  show Goes p e below _ T0 (mkF m 19 #[.val (.ref aX), .val (.ref aY), .val (.double z1), .second, .val (.int (1 : Int32)), .val (.double d0), .second] [(.int (1 : Int32)), (.ref aY), (.double x1)])
  refine goLdD X0 hx hZ e0 VY 1 (by decide) (w := y1) rfl (g := (mkF m 19 #[.val (.ref aX), .val (.ref aY), .val (.double z1), .second, .val (.int (1 : Int32)), .val (.double d0), .second] [(.int (1 : Int32)), (.ref aY), (.double x1)])) rfl rfl (Jvm.hb hby d1_19) ?_
  show Goes p e below _ T0 (mkF m 20 #[.val (.ref aX), .val (.ref aY), .val (.double z1), .second, .val (.int (1 : Int32)), .val (.double d0), .second] [(.double y1), (.double x1)])
  have Dd1 := own_d1 D1x D1y b1x b1y
  refine Goes.of (fun _ kont => XS.dsubS X0.here hx rfl (Jvm.hb hby d1_20) rfl Dd1.noNaN rfl kont) ?_
  show Goes p e below _ T0 (mkF m 21 #[.val (.ref aX), .val (.ref aY), .val (.double z1), .second, .val (.int (1 : Int32)), .val (.double d0), .second] [(.double (FP.dsub x1 y1))])
  generalize hd1 : (FP.dsub x1 y1) = d1
  show Goes p e below _ T0 (mkF m 21 #[.val (.ref aX), .val (.ref aY), .val (.double z1), .second, .val (.int (1 : Int32)), .val (.double d0), .second] [(.double d1)])
  rw [hd1] at Dd1
  refine Goes.of (fun _ kont => XS.dstore X0.here hx rfl (Jvm.hb hby d1_21) rfl (l' := #[.val (.ref aX), .val (.ref aY), .val (.double z1), .second, .val (.int (1 : Int32)), .val (.double d1), .second]) rfl kont) ?_
  show Goes p e below _ T0 (mkF m 23 #[.val (.ref aX), .val (.ref aY), .val (.double z1), .second, .val (.int (1 : Int32)), .val (.double d1), .second] [])
  refine Goes.of (fun _ kont => XS.dloadN X0.here hx rfl (Jvm.hb hby d1_23) rfl kont) ?_
  show Goes p e below _ T0 (mkF m 24 #[.val (.ref aX), .val (.ref aY), .val (.double z1), .second, .val (.int (1 : Int32)), .val (.double d1), .second] [(.double z1)])
  refine Goes.of (fun _ kont => XS.dload X0.here hx rfl (Jvm.hb hby d1_24) rfl kont) ?_
  show Goes p e below _ T0 (mkF m 26 #[.val (.ref aX), .val (.ref aY), .val (.double z1), .second, .val (.int (1 : Int32)), .val (.double d1), .second] [(.double d1), (.double z1)])
  refine Goes.of (fun _ kont => XS.dload X0.here hx rfl (Jvm.hb hby d1_26) rfl kont) ?_
  show Goes p e below _ T0 (mkF m 28 #[.val (.ref aX), .val (.ref aY), .val (.double z1), .second, .val (.int (1 : Int32)), .val (.double d1), .second] [(.double d1), (.double d1), (.double z1)])
  have Dq1 := own_d2 Dd1 b1x b1y
  refine Goes.of (fun _ kont => XS.dmulS X0.here hx rfl (Jvm.hb hby d1_28) rfl Dq1.noNaN rfl kont) ?_
  show Goes p e below _ T0 (mkF m 29 #[.val (.ref aX), .val (.ref aY), .val (.double z1), .second, .val (.int (1 : Int32)), .val (.double d1), .second] [(.double (FP.dmul d1 d1)), (.double z1)])
  generalize hq1 : (FP.dmul d1 d1) = q1
  show Goes p e below _ T0 (mkF m 29 #[.val (.ref aX), .val (.ref aY), .val (.double z1), .second, .val (.int (1 : Int32)), .val (.double d1), .second] [(.double q1), (.double z1)])
  rw [hq1] at Dq1
  have Dz2 := own_d3 Dz1 Dq1 b1x b1y (by have := own_sqb b0x b0y; omega)
  refine Goes.of (fun _ kont => XS.daddS X0.here hx rfl (Jvm.hb hby d1_29) rfl Dz2.noNaN rfl kont) ?_
  show Goes p e below _ T0 (mkF m 30 #[.val (.ref aX), .val (.ref aY), .val (.double z1), .second, .val (.int (1 : Int32)), .val (.double d1), .second] [(.double (FP.dadd z1 q1))])
  generalize hz2 : (FP.dadd z1 q1) = z2
  show Goes p e below _ T0 (mkF m 30 #[.val (.ref aX), .val (.ref aY), .val (.double z1), .second, .val (.int (1 : Int32)), .val (.double d1), .second] [(.double z2)])
  rw [hz2] at Dz2
  refine Goes.of (fun _ kont => XS.dstoreN X0.here hx rfl (Jvm.hb hby d1_30) rfl (l' := #[.val (.ref aX), .val (.ref aY), .val (.double z2), .second, .val (.int (1 : Int32)), .val (.double d1), .second]) rfl kont) ?_
  show Goes p e below _ T0 (mkF m 31 #[.val (.ref aX), .val (.ref aY), .val (.double z2), .second, .val (.int (1 : Int32)), .val (.double d1), .second] [])
  refine Goes.of (fun _ kont => XS.iinc X0.here hx rfl (Jvm.hb hby d1_31) rfl (l' := #[.val (.ref aX), .val (.ref aY), .val (.double z2), .second, .val (.int (2 : Int32)), .val (.double d1), .second]) rfl kont) ?_
  show Goes p e below _ T0 (mkF m 34 #[.val (.ref aX), .val (.ref aY), .val (.double z2), .second, .val (.int (2 : Int32)), .val (.double d1), .second] [])
  refine Goes.of (fun _ kont => XS.goto X0.here hx rfl (pc0 := 34) (pc' := 5) rfl (Jvm.hb hby d1_34) (by decide) (by decide) kont) ?_
  show Goes p e below _ T0 (mkF m 5 #[.val (.ref aX), .val (.ref aY), .val (.double z2), .second, .val (.int (2 : Int32)), .val (.double d1), .second] [])
  refine Goes.of (fun _ kont => XS.iload X0.here hx rfl (Jvm.hb hby d1_5) rfl kont) ?_
  show Goes p e below _ T0 (mkF m 7 #[.val (.ref aX), .val (.ref aY), .val (.double z2), .second, .val (.int (2 : Int32)), .val (.double d1), .second] [(.int (2 : Int32))])
  refine Goes.of (fun _ kont => XS.aloadN X0.here hx rfl (Jvm.hb hby d1_7) rfl rfl kont) ?_
  show Goes p e below _ T0 (mkF m 8 #[.val (.ref aX), .val (.ref aY), .val (.double z2), .second, .val (.int (2 : Int32)), .val (.double d1), .second] [(.ref aX), (.int (2 : Int32))])
  refine goLen X0 hx hZ e0 VX (n := 3) (by show Int32.toInt 3 = ((3 : Nat) : Int); decide) (g := (mkF m 8 #[.val (.ref aX), .val (.ref aY), .val (.double z2), .second, .val (.int (2 : Int32)), .val (.double d1), .second] [(.ref aX), (.int (2 : Int32))])) rfl rfl (Jvm.hb hby d1_8) ?_
  show Goes p e below _ T0 (mkF m 9 #[.val (.ref aX), .val (.ref aY), .val (.double z2), .second, .val (.int (2 : Int32)), .val (.double d1), .second] [(.int (3 : Int32)), (.int (2 : Int32))])
  refine Goes.of (fun _ kont => XS.icmpNo X0.here hx rfl (Jvm.hb hby d1_9) rfl (by decide) kont) ?_
  show Goes p e below _ T0 (mkF m 12 #[.val (.ref aX), .val (.ref aY), .val (.double z2), .second, .val (.int (2 : Int32)), .val (.double d1), .second] [])
  refine Goes.of (fun _ kont => XS.aloadN X0.here hx rfl (Jvm.hb hby d1_12) rfl rfl kont) ?_
  show Goes p e below _ T0 (mkF m 13 #[.val (.ref aX), .val (.ref aY), .val (.double z2), .second, .val (.int (2 : Int32)), .val (.double d1), .second] [(.ref aX)])
  refine Goes.of (fun _ kont => XS.iload X0.here hx rfl (Jvm.hb hby d1_13) rfl kont) ?_
  show Goes p e below _ T0 (mkF m 15 #[.val (.ref aX), .val (.ref aY), .val (.double z2), .second, .val (.int (2 : Int32)), .val (.double d1), .second] [(.int (2 : Int32)), (.ref aX)])
  refine goLdD X0 hx hZ e0 VX 2 (by decide) (w := x2) rfl (g := (mkF m 15 #[.val (.ref aX), .val (.ref aY), .val (.double z2), .second, .val (.int (2 : Int32)), .val (.double d1), .second] [(.int (2 : Int32)), (.ref aX)])) rfl rfl (Jvm.hb hby d1_15) ?_
  show Goes p e below _ T0 (mkF m 16 #[.val (.ref aX), .val (.ref aY), .val (.double z2), .second, .val (.int (2 : Int32)), .val (.double d1), .second] [(.double x2)])
  refine Goes.of (fun _ kont => XS.aloadN X0.here hx rfl (Jvm.hb hby d1_16) rfl rfl kont) ?_
  show Goes p e below _ T0 (mkF m 17 #[.val (.ref aX), .val (.ref aY), .val (.double z2), .second, .val (.int (2 : Int32)), .val (.double d1), .second] [(.ref aY), (.double x2)])
  refine Goes.of (fun _ kont => XS.iload X0.here hx rfl (Jvm.hb hby d1_17) rfl kont) ?_
  show Goes p e below _ T0 (mkF m 19 #[.val (.ref aX), .val (.ref aY), .val (.double z2), .second, .val (.int (2 : Int32)), .val (.double d1), .second] [(.int (2 : Int32)), (.ref aY), (.double x2)])
  refine goLdD X0 hx hZ e0 VY 2 (by decide) (w := y2) rfl (g := (mkF m 19 #[.val (.ref aX), .val (.ref aY), .val (.double z2), .second, .val (.int (2 : Int32)), .val (.double d1), .second] [(.int (2 : Int32)), (.ref aY), (.double x2)])) rfl rfl (Jvm.hb hby d1_19) ?_
  show Goes p e below _ T0 (mkF m 20 #[.val (.ref aX), .val (.ref aY), .val (.double z2), .second, .val (.int (2 : Int32)), .val (.double d1), .second] [(.double y2), (.double x2)])
  have Dd2 := own_d1 D2x D2y b2x b2y
  refine Goes.of (fun _ kont => XS.dsubS X0.here hx rfl (Jvm.hb hby d1_20) rfl Dd2.noNaN rfl kont) ?_
  show Goes p e below _ T0 (mkF m 21 #[.val (.ref aX), .val (.ref aY), .val (.double z2), .second, .val (.int (2 : Int32)), .val (.double d1), .second] [(.double (FP.dsub x2 y2))])
  generalize hd2 : (FP.dsub x2 y2) = d2
  show Goes p e below _ T0 (mkF m 21 #[.val (.ref aX), .val (.ref aY), .val (.double z2), .second, .val (.int (2 : Int32)), .val (.double d1), .second] [(.double d2)])
  rw [hd2] at Dd2
  refine Goes.of (fun _ kont => XS.dstore X0.here hx rfl (Jvm.hb hby d1_21) rfl (l' := #[.val (.ref aX), .val (.ref aY), .val (.double z2), .second, .val (.int (2 : Int32)), .val (.double d2), .second]) rfl kont) ?_
  show Goes p e below _ T0 (mkF m 23 #[.val (.ref aX), .val (.ref aY), .val (.double z2), .second, .val (.int (2 : Int32)), .val (.double d2), .second] [])
  refine Goes.of (fun _ kont => XS.dloadN X0.here hx rfl (Jvm.hb hby d1_23) rfl kont) ?_
  show Goes p e below _ T0 (mkF m 24 #[.val (.ref aX), .val (.ref aY), .val (.double z2), .second, .val (.int (2 : Int32)), .val (.double d2), .second] [(.double z2)])
  refine Goes.of (fun _ kont => XS.dload X0.here hx rfl (Jvm.hb hby d1_24) rfl kont) ?_
  show Goes p e below _ T0 (mkF m 26 #[.val (.ref aX), .val (.ref aY), .val (.double z2), .second, .val (.int (2 : Int32)), .val (.double d2), .second] [(.double d2), (.double z2)])
  refine Goes.of (fun _ kont => XS.dload X0.here hx rfl (Jvm.hb hby d1_26) rfl kont) ?_
  show Goes p e below _ T0 (mkF m 28 #[.val (.ref aX), .val (.ref aY), .val (.double z2), .second, .val (.int (2 : Int32)), .val (.double d2), .second] [(.double d2), (.double d2), (.double z2)])
  have Dq2 := own_d2 Dd2 b2x b2y
  refine Goes.of (fun _ kont => XS.dmulS X0.here hx rfl (Jvm.hb hby d1_28) rfl Dq2.noNaN rfl kont) ?_
  show Goes p e below _ T0 (mkF m 29 #[.val (.ref aX), .val (.ref aY), .val (.double z2), .second, .val (.int (2 : Int32)), .val (.double d2), .second] [(.double (FP.dmul d2 d2)), (.double z2)])
  generalize hq2 : (FP.dmul d2 d2) = q2
  show Goes p e below _ T0 (mkF m 29 #[.val (.ref aX), .val (.ref aY), .val (.double z2), .second, .val (.int (2 : Int32)), .val (.double d2), .second] [(.double q2), (.double z2)])
  rw [hq2] at Dq2
  have Dz3 := own_d3 Dz2 Dq2 b2x b2y (by have := own_sqb b0x b0y; have := own_sqb b1x b1y; omega)
  refine Goes.of (fun _ kont => XS.daddS X0.here hx rfl (Jvm.hb hby d1_29) rfl Dz3.noNaN rfl kont) ?_
  show Goes p e below _ T0 (mkF m 30 #[.val (.ref aX), .val (.ref aY), .val (.double z2), .second, .val (.int (2 : Int32)), .val (.double d2), .second] [(.double (FP.dadd z2 q2))])
  generalize hz3 : (FP.dadd z2 q2) = z3
  show Goes p e below _ T0 (mkF m 30 #[.val (.ref aX), .val (.ref aY), .val (.double z2), .second, .val (.int (2 : Int32)), .val (.double d2), .second] [(.double z3)])
  rw [hz3] at Dz3
  refine Goes.of (fun _ kont => XS.dstoreN X0.here hx rfl (Jvm.hb hby d1_30) rfl (l' := #[.val (.ref aX), .val (.ref aY), .val (.double z3), .second, .val (.int (2 : Int32)), .val (.double d2), .second]) rfl kont) ?_
  show Goes p e below _ T0 (mkF m 31 #[.val (.ref aX), .val (.ref aY), .val (.double z3), .second, .val (.int (2 : Int32)), .val (.double d2), .second] [])
  refine Goes.of (fun _ kont => XS.iinc X0.here hx rfl (Jvm.hb hby d1_31) rfl (l' := #[.val (.ref aX), .val (.ref aY), .val (.double z3), .second, .val (.int (3 : Int32)), .val (.double d2), .second]) rfl kont) ?_
  show Goes p e below _ T0 (mkF m 34 #[.val (.ref aX), .val (.ref aY), .val (.double z3), .second, .val (.int (3 : Int32)), .val (.double d2), .second] [])
  refine Goes.of (fun _ kont => XS.goto X0.here hx rfl (pc0 := 34) (pc' := 5) rfl (Jvm.hb hby d1_34) (by decide) (by decide) kont) ?_
  show Goes p e below _ T0 (mkF m 5 #[.val (.ref aX), .val (.ref aY), .val (.double z3), .second, .val (.int (3 : Int32)), .val (.double d2), .second] [])
  refine Goes.of (fun _ kont => XS.iload X0.here hx rfl (Jvm.hb hby d1_5) rfl kont) ?_
  show Goes p e below _ T0 (mkF m 7 #[.val (.ref aX), .val (.ref aY), .val (.double z3), .second, .val (.int (3 : Int32)), .val (.double d2), .second] [(.int (3 : Int32))])
  refine Goes.of (fun _ kont => XS.aloadN X0.here hx rfl (Jvm.hb hby d1_7) rfl rfl kont) ?_
  show Goes p e below _ T0 (mkF m 8 #[.val (.ref aX), .val (.ref aY), .val (.double z3), .second, .val (.int (3 : Int32)), .val (.double d2), .second] [(.ref aX), (.int (3 : Int32))])
  refine goLen X0 hx hZ e0 VX (n := 3) (by show Int32.toInt 3 = ((3 : Nat) : Int); decide) (g := (mkF m 8 #[.val (.ref aX), .val (.ref aY), .val (.double z3), .second, .val (.int (3 : Int32)), .val (.double d2), .second] [(.ref aX), (.int (3 : Int32))])) rfl rfl (Jvm.hb hby d1_8) ?_
  show Goes p e below _ T0 (mkF m 9 #[.val (.ref aX), .val (.ref aY), .val (.double z3), .second, .val (.int (3 : Int32)), .val (.double d2), .second] [(.int (3 : Int32)), (.int (3 : Int32))])
  refine Goes.of (fun _ kont => XS.icmpYes X0.here hx rfl (pc0 := 9) (pc' := 37) rfl (Jvm.hb hby d1_9) rfl (by decide) (by decide) (by decide) kont) ?_
  show Goes p e below _ T0 (mkF m 37 #[.val (.ref aX), .val (.ref aY), .val (.double z3), .second, .val (.int (3 : Int32)), .val (.double d2), .second] [])
  refine Goes.of (fun _ kont => XS.dloadN X0.here hx rfl (Jvm.hb hby d1_37) rfl kont) ?_
  show Goes p e below _ T0 (mkF m 38 #[.val (.ref aX), .val (.ref aY), .val (.double z3), .second, .val (.int (3 : Int32)), .val (.double d2), .second] [(.double z3)])
  exact retD X0 hx hlk hret (Jvm.hb hby d1_38) (by decide) (by decide) ⟨⟨_, rfl, Dz3⟩, N0, e0⟩
theorem ef_0 (m : MethodId) (x0 : Int32) (x1 : Int32) (x2 : Int32) (x3 : Int32) : entryFrame m #[(.int x0), (.int x1), (.int x2), (.int x3)] maxLocals = mkF m 0 #[.val (.int x0), .val (.int x1), .val (.int x2), .val (.int x3), .unset, .unset, .unset, .unset, .unset, .unset, .unset, .unset, .unset, .unset, .unset, .unset, .unset, .unset, .unset, .unset, .unset, .unset, .unset] [] := by first | (simp [entryFrame, mkF, argsToLocals, Value.category, maxLocals]; done) | rfl
theorem pn_0 : plainFor (⟨"com/example/memechain/memechain/benchmark/FunctionsShiftedSpherePinLaw", "law", "(IIII)Z"⟩ : MethodName) = true := plainFor_of_name (by first | (simp [plainName, overriddenIn]; done) | decide +kernel)
set_option maxRecDepth 65536 in
set_option maxHeartbeats 40000000 in
theorem rm0 (l : Launch) (Z : State) (a0 : Array Value) (hw : ∀ d ∈ tables_1, d.before a0 Z = true) (p1 : Int32) (p2 : Int32) (p3 : Int32) (p4 : Int32)  (h0 : Heap) (n0 : Nat) (Z0 : n0 ≤ h0.size) :
    Ct l x code maxLocals ret room_1 Z [(.int p1), (.int p2), (.int p3), (.int p4)] h0 (fun v h L => v = some (.int 1) ∧ Fr n0 L) := by
  refine met pn_0 ?_
  intro p e s m below meth c T0 hx hby hml hown hret hlk hnm hZ X0 e0
  have N0 := Fr.nil n0
  have hret : meth.sig.returnType = some .boolean := hret
  have hml : c.maxLocals = 23 := hml
  have hown : s.vm.findClass "com/example/memechain/memechain/benchmark/FunctionsShiftedSpherePinLaw" = some m.cls := hown
  refine Goes.cast (ef_0 m p1 p2 p3 p4) ?_
  show Goes p e below _ T0 (mkF m 0 #[.val (.int p1), .val (.int p2), .val (.int p3), .val (.int p4), .unset, .unset, .unset, .unset, .unset, .unset, .unset, .unset, .unset, .unset, .unset, .unset, .unset, .unset, .unset, .unset, .unset, .unset, .unset] [])
  refine Goes.of (fun _ kont => XS.iloadN X0.here hx rfl (Jvm.hb hby at_0) rfl kont) ?_
  show Goes p e below _ T0 (mkF m 1 #[.val (.int p1), .val (.int p2), .val (.int p3), .val (.int p4), .unset, .unset, .unset, .unset, .unset, .unset, .unset, .unset, .unset, .unset, .unset, .unset, .unset, .unset, .unset, .unset, .unset, .unset, .unset] [(.int p4)])
  refine Goes.of (fun _ kont => XS.iconst X0.here hx rfl (Jvm.hb hby at_1) kont) ?_
  show Goes p e below _ T0 (mkF m 2 #[.val (.int p1), .val (.int p2), .val (.int p3), .val (.int p4), .unset, .unset, .unset, .unset, .unset, .unset, .unset, .unset, .unset, .unset, .unset, .unset, .unset, .unset, .unset, .unset, .unset, .unset, .unset] [(.int (3 : Int32)), (.int p4)])
  refine Goes.of (fun _ kont => XS.iand X0.here hx rfl (Jvm.hb hby at_2) rfl kont) ?_
  show Goes p e below _ T0 (mkF m 3 #[.val (.int p1), .val (.int p2), .val (.int p3), .val (.int p4), .unset, .unset, .unset, .unset, .unset, .unset, .unset, .unset, .unset, .unset, .unset, .unset, .unset, .unset, .unset, .unset, .unset, .unset, .unset] [(.int (p4 &&& (3 : Int32)))])
  generalize hnn : (p4 &&& (3 : Int32)) = nn
  show Goes p e below _ T0 (mkF m 3 #[.val (.int p1), .val (.int p2), .val (.int p3), .val (.int p4), .unset, .unset, .unset, .unset, .unset, .unset, .unset, .unset, .unset, .unset, .unset, .unset, .unset, .unset, .unset, .unset, .unset, .unset, .unset] [(.int nn)])
  refine Goes.of (fun _ kont => XS.istore X0.here hx rfl (Jvm.hb hby at_3) rfl (l' := #[.val (.int p1), .val (.int p2), .val (.int p3), .val (.int p4), .val (.int nn), .unset, .unset, .unset, .unset, .unset, .unset, .unset, .unset, .unset, .unset, .unset, .unset, .unset, .unset, .unset, .unset, .unset, .unset]) rfl kont) ?_
  show Goes p e below _ T0 (mkF m 5 #[.val (.int p1), .val (.int p2), .val (.int p3), .val (.int p4), .val (.int nn), .unset, .unset, .unset, .unset, .unset, .unset, .unset, .unset, .unset, .unset, .unset, .unset, .unset, .unset, .unset, .unset, .unset, .unset] [])
  refine Goes.of (fun _ kont => XS.iloadN X0.here hx rfl (Jvm.hb hby at_5) rfl kont) ?_
  show Goes p e below _ T0 (mkF m 6 #[.val (.int p1), .val (.int p2), .val (.int p3), .val (.int p4), .val (.int nn), .unset, .unset, .unset, .unset, .unset, .unset, .unset, .unset, .unset, .unset, .unset, .unset, .unset, .unset, .unset, .unset, .unset, .unset] [(.int p1)])
  refine Goes.of (fun _ kont => XT.i2s X0.here hx rfl (Jvm.hb hby at_6) rfl kont) ?_
  show Goes p e below _ T0 (mkF m 7 #[.val (.int p1), .val (.int p2), .val (.int p3), .val (.int p4), .val (.int nn), .unset, .unset, .unset, .unset, .unset, .unset, .unset, .unset, .unset, .unset, .unset, .unset, .unset, .unset, .unset, .unset, .unset, .unset] [(.int (p1).toInt16.toInt32)])
  refine Goes.of (fun _ kont => XT.i2l X0.here hx rfl (Jvm.hb hby at_7) rfl kont) ?_
  show Goes p e below _ T0 (mkF m 8 #[.val (.int p1), .val (.int p2), .val (.int p3), .val (.int p4), .val (.int nn), .unset, .unset, .unset, .unset, .unset, .unset, .unset, .unset, .unset, .unset, .unset, .unset, .unset, .unset, .unset, .unset, .unset, .unset] [(.long (Int32.toInt64 (p1).toInt16.toInt32))])
  generalize hx0 : (Int32.toInt64 (p1).toInt16.toInt32) = x0
  show Goes p e below _ T0 (mkF m 8 #[.val (.int p1), .val (.int p2), .val (.int p3), .val (.int p4), .val (.int nn), .unset, .unset, .unset, .unset, .unset, .unset, .unset, .unset, .unset, .unset, .unset, .unset, .unset, .unset, .unset, .unset, .unset, .unset] [(.long x0)])
  refine Goes.of (fun _ kont => XT.lstore X0.here hx rfl (Jvm.hb hby at_8) rfl (l' := #[.val (.int p1), .val (.int p2), .val (.int p3), .val (.int p4), .val (.int nn), .val (.long x0), .second, .unset, .unset, .unset, .unset, .unset, .unset, .unset, .unset, .unset, .unset, .unset, .unset, .unset, .unset, .unset, .unset]) rfl kont) ?_
  show Goes p e below _ T0 (mkF m 10 #[.val (.int p1), .val (.int p2), .val (.int p3), .val (.int p4), .val (.int nn), .val (.long x0), .second, .unset, .unset, .unset, .unset, .unset, .unset, .unset, .unset, .unset, .unset, .unset, .unset, .unset, .unset, .unset, .unset] [])
  refine Goes.of (fun _ kont => XS.iloadN X0.here hx rfl (Jvm.hb hby at_10) rfl kont) ?_
  show Goes p e below _ T0 (mkF m 11 #[.val (.int p1), .val (.int p2), .val (.int p3), .val (.int p4), .val (.int nn), .val (.long x0), .second, .unset, .unset, .unset, .unset, .unset, .unset, .unset, .unset, .unset, .unset, .unset, .unset, .unset, .unset, .unset, .unset] [(.int p1)])
  refine Goes.of (fun _ kont => XS.bipush X0.here hx rfl (Jvm.hb hby at_11) kont) ?_
  show Goes p e below _ T0 (mkF m 13 #[.val (.int p1), .val (.int p2), .val (.int p3), .val (.int p4), .val (.int nn), .val (.long x0), .second, .unset, .unset, .unset, .unset, .unset, .unset, .unset, .unset, .unset, .unset, .unset, .unset, .unset, .unset, .unset, .unset] [(.int (16 : Int32)), (.int p1)])
  refine Goes.of (fun _ kont => XT.ishr X0.here hx rfl (Jvm.hb hby at_13) rfl kont) ?_
  show Goes p e below _ T0 (mkF m 14 #[.val (.int p1), .val (.int p2), .val (.int p3), .val (.int p4), .val (.int nn), .val (.long x0), .second, .unset, .unset, .unset, .unset, .unset, .unset, .unset, .unset, .unset, .unset, .unset, .unset, .unset, .unset, .unset, .unset] [(.int (p1 >>> ((16 : Int32) &&& 31)))])
  refine Goes.of (fun _ kont => XT.i2s X0.here hx rfl (Jvm.hb hby at_14) rfl kont) ?_
  show Goes p e below _ T0 (mkF m 15 #[.val (.int p1), .val (.int p2), .val (.int p3), .val (.int p4), .val (.int nn), .val (.long x0), .second, .unset, .unset, .unset, .unset, .unset, .unset, .unset, .unset, .unset, .unset, .unset, .unset, .unset, .unset, .unset, .unset] [(.int ((p1 >>> ((16 : Int32) &&& 31))).toInt16.toInt32)])
  refine Goes.of (fun _ kont => XT.i2l X0.here hx rfl (Jvm.hb hby at_15) rfl kont) ?_
  show Goes p e below _ T0 (mkF m 16 #[.val (.int p1), .val (.int p2), .val (.int p3), .val (.int p4), .val (.int nn), .val (.long x0), .second, .unset, .unset, .unset, .unset, .unset, .unset, .unset, .unset, .unset, .unset, .unset, .unset, .unset, .unset, .unset, .unset] [(.long (Int32.toInt64 ((p1 >>> ((16 : Int32) &&& 31))).toInt16.toInt32))])
  generalize hy0 : (Int32.toInt64 ((p1 >>> ((16 : Int32) &&& 31))).toInt16.toInt32) = y0
  show Goes p e below _ T0 (mkF m 16 #[.val (.int p1), .val (.int p2), .val (.int p3), .val (.int p4), .val (.int nn), .val (.long x0), .second, .unset, .unset, .unset, .unset, .unset, .unset, .unset, .unset, .unset, .unset, .unset, .unset, .unset, .unset, .unset, .unset] [(.long y0)])
  refine Goes.of (fun _ kont => XT.lstore X0.here hx rfl (Jvm.hb hby at_16) rfl (l' := #[.val (.int p1), .val (.int p2), .val (.int p3), .val (.int p4), .val (.int nn), .val (.long x0), .second, .val (.long y0), .second, .unset, .unset, .unset, .unset, .unset, .unset, .unset, .unset, .unset, .unset, .unset, .unset, .unset, .unset]) rfl kont) ?_
  show Goes p e below _ T0 (mkF m 18 #[.val (.int p1), .val (.int p2), .val (.int p3), .val (.int p4), .val (.int nn), .val (.long x0), .second, .val (.long y0), .second, .unset, .unset, .unset, .unset, .unset, .unset, .unset, .unset, .unset, .unset, .unset, .unset, .unset, .unset] [])
  refine Goes.of (fun _ kont => XS.iloadN X0.here hx rfl (Jvm.hb hby at_18) rfl kont) ?_
  show Goes p e below _ T0 (mkF m 19 #[.val (.int p1), .val (.int p2), .val (.int p3), .val (.int p4), .val (.int nn), .val (.long x0), .second, .val (.long y0), .second, .unset, .unset, .unset, .unset, .unset, .unset, .unset, .unset, .unset, .unset, .unset, .unset, .unset, .unset] [(.int p2)])
  refine Goes.of (fun _ kont => XT.i2s X0.here hx rfl (Jvm.hb hby at_19) rfl kont) ?_
  show Goes p e below _ T0 (mkF m 20 #[.val (.int p1), .val (.int p2), .val (.int p3), .val (.int p4), .val (.int nn), .val (.long x0), .second, .val (.long y0), .second, .unset, .unset, .unset, .unset, .unset, .unset, .unset, .unset, .unset, .unset, .unset, .unset, .unset, .unset] [(.int (p2).toInt16.toInt32)])
  refine Goes.of (fun _ kont => XT.i2l X0.here hx rfl (Jvm.hb hby at_20) rfl kont) ?_
  show Goes p e below _ T0 (mkF m 21 #[.val (.int p1), .val (.int p2), .val (.int p3), .val (.int p4), .val (.int nn), .val (.long x0), .second, .val (.long y0), .second, .unset, .unset, .unset, .unset, .unset, .unset, .unset, .unset, .unset, .unset, .unset, .unset, .unset, .unset] [(.long (Int32.toInt64 (p2).toInt16.toInt32))])
  generalize hx1 : (Int32.toInt64 (p2).toInt16.toInt32) = x1
  show Goes p e below _ T0 (mkF m 21 #[.val (.int p1), .val (.int p2), .val (.int p3), .val (.int p4), .val (.int nn), .val (.long x0), .second, .val (.long y0), .second, .unset, .unset, .unset, .unset, .unset, .unset, .unset, .unset, .unset, .unset, .unset, .unset, .unset, .unset] [(.long x1)])
  refine Goes.of (fun _ kont => XT.lstore X0.here hx rfl (Jvm.hb hby at_21) rfl (l' := #[.val (.int p1), .val (.int p2), .val (.int p3), .val (.int p4), .val (.int nn), .val (.long x0), .second, .val (.long y0), .second, .val (.long x1), .second, .unset, .unset, .unset, .unset, .unset, .unset, .unset, .unset, .unset, .unset, .unset, .unset]) rfl kont) ?_
  show Goes p e below _ T0 (mkF m 23 #[.val (.int p1), .val (.int p2), .val (.int p3), .val (.int p4), .val (.int nn), .val (.long x0), .second, .val (.long y0), .second, .val (.long x1), .second, .unset, .unset, .unset, .unset, .unset, .unset, .unset, .unset, .unset, .unset, .unset, .unset] [])
  refine Goes.of (fun _ kont => XS.iloadN X0.here hx rfl (Jvm.hb hby at_23) rfl kont) ?_
  show Goes p e below _ T0 (mkF m 24 #[.val (.int p1), .val (.int p2), .val (.int p3), .val (.int p4), .val (.int nn), .val (.long x0), .second, .val (.long y0), .second, .val (.long x1), .second, .unset, .unset, .unset, .unset, .unset, .unset, .unset, .unset, .unset, .unset, .unset, .unset] [(.int p2)])
  refine Goes.of (fun _ kont => XS.bipush X0.here hx rfl (Jvm.hb hby at_24) kont) ?_
  show Goes p e below _ T0 (mkF m 26 #[.val (.int p1), .val (.int p2), .val (.int p3), .val (.int p4), .val (.int nn), .val (.long x0), .second, .val (.long y0), .second, .val (.long x1), .second, .unset, .unset, .unset, .unset, .unset, .unset, .unset, .unset, .unset, .unset, .unset, .unset] [(.int (16 : Int32)), (.int p2)])
  refine Goes.of (fun _ kont => XT.ishr X0.here hx rfl (Jvm.hb hby at_26) rfl kont) ?_
  show Goes p e below _ T0 (mkF m 27 #[.val (.int p1), .val (.int p2), .val (.int p3), .val (.int p4), .val (.int nn), .val (.long x0), .second, .val (.long y0), .second, .val (.long x1), .second, .unset, .unset, .unset, .unset, .unset, .unset, .unset, .unset, .unset, .unset, .unset, .unset] [(.int (p2 >>> ((16 : Int32) &&& 31)))])
  refine Goes.of (fun _ kont => XT.i2s X0.here hx rfl (Jvm.hb hby at_27) rfl kont) ?_
  show Goes p e below _ T0 (mkF m 28 #[.val (.int p1), .val (.int p2), .val (.int p3), .val (.int p4), .val (.int nn), .val (.long x0), .second, .val (.long y0), .second, .val (.long x1), .second, .unset, .unset, .unset, .unset, .unset, .unset, .unset, .unset, .unset, .unset, .unset, .unset] [(.int ((p2 >>> ((16 : Int32) &&& 31))).toInt16.toInt32)])
  refine Goes.of (fun _ kont => XT.i2l X0.here hx rfl (Jvm.hb hby at_28) rfl kont) ?_
  show Goes p e below _ T0 (mkF m 29 #[.val (.int p1), .val (.int p2), .val (.int p3), .val (.int p4), .val (.int nn), .val (.long x0), .second, .val (.long y0), .second, .val (.long x1), .second, .unset, .unset, .unset, .unset, .unset, .unset, .unset, .unset, .unset, .unset, .unset, .unset] [(.long (Int32.toInt64 ((p2 >>> ((16 : Int32) &&& 31))).toInt16.toInt32))])
  generalize hy1 : (Int32.toInt64 ((p2 >>> ((16 : Int32) &&& 31))).toInt16.toInt32) = y1
  show Goes p e below _ T0 (mkF m 29 #[.val (.int p1), .val (.int p2), .val (.int p3), .val (.int p4), .val (.int nn), .val (.long x0), .second, .val (.long y0), .second, .val (.long x1), .second, .unset, .unset, .unset, .unset, .unset, .unset, .unset, .unset, .unset, .unset, .unset, .unset] [(.long y1)])
  refine Goes.of (fun _ kont => XT.lstore X0.here hx rfl (Jvm.hb hby at_29) rfl (l' := #[.val (.int p1), .val (.int p2), .val (.int p3), .val (.int p4), .val (.int nn), .val (.long x0), .second, .val (.long y0), .second, .val (.long x1), .second, .val (.long y1), .second, .unset, .unset, .unset, .unset, .unset, .unset, .unset, .unset, .unset, .unset]) rfl kont) ?_
  show Goes p e below _ T0 (mkF m 31 #[.val (.int p1), .val (.int p2), .val (.int p3), .val (.int p4), .val (.int nn), .val (.long x0), .second, .val (.long y0), .second, .val (.long x1), .second, .val (.long y1), .second, .unset, .unset, .unset, .unset, .unset, .unset, .unset, .unset, .unset, .unset] [])
  refine Goes.of (fun _ kont => XS.iloadN X0.here hx rfl (Jvm.hb hby at_31) rfl kont) ?_
  show Goes p e below _ T0 (mkF m 32 #[.val (.int p1), .val (.int p2), .val (.int p3), .val (.int p4), .val (.int nn), .val (.long x0), .second, .val (.long y0), .second, .val (.long x1), .second, .val (.long y1), .second, .unset, .unset, .unset, .unset, .unset, .unset, .unset, .unset, .unset, .unset] [(.int p3)])
  refine Goes.of (fun _ kont => XT.i2s X0.here hx rfl (Jvm.hb hby at_32) rfl kont) ?_
  show Goes p e below _ T0 (mkF m 33 #[.val (.int p1), .val (.int p2), .val (.int p3), .val (.int p4), .val (.int nn), .val (.long x0), .second, .val (.long y0), .second, .val (.long x1), .second, .val (.long y1), .second, .unset, .unset, .unset, .unset, .unset, .unset, .unset, .unset, .unset, .unset] [(.int (p3).toInt16.toInt32)])
  refine Goes.of (fun _ kont => XT.i2l X0.here hx rfl (Jvm.hb hby at_33) rfl kont) ?_
  show Goes p e below _ T0 (mkF m 34 #[.val (.int p1), .val (.int p2), .val (.int p3), .val (.int p4), .val (.int nn), .val (.long x0), .second, .val (.long y0), .second, .val (.long x1), .second, .val (.long y1), .second, .unset, .unset, .unset, .unset, .unset, .unset, .unset, .unset, .unset, .unset] [(.long (Int32.toInt64 (p3).toInt16.toInt32))])
  generalize hx2 : (Int32.toInt64 (p3).toInt16.toInt32) = x2
  show Goes p e below _ T0 (mkF m 34 #[.val (.int p1), .val (.int p2), .val (.int p3), .val (.int p4), .val (.int nn), .val (.long x0), .second, .val (.long y0), .second, .val (.long x1), .second, .val (.long y1), .second, .unset, .unset, .unset, .unset, .unset, .unset, .unset, .unset, .unset, .unset] [(.long x2)])
  refine Goes.of (fun _ kont => XT.lstore X0.here hx rfl (Jvm.hb hby at_34) rfl (l' := #[.val (.int p1), .val (.int p2), .val (.int p3), .val (.int p4), .val (.int nn), .val (.long x0), .second, .val (.long y0), .second, .val (.long x1), .second, .val (.long y1), .second, .val (.long x2), .second, .unset, .unset, .unset, .unset, .unset, .unset, .unset, .unset]) rfl kont) ?_
  show Goes p e below _ T0 (mkF m 36 #[.val (.int p1), .val (.int p2), .val (.int p3), .val (.int p4), .val (.int nn), .val (.long x0), .second, .val (.long y0), .second, .val (.long x1), .second, .val (.long y1), .second, .val (.long x2), .second, .unset, .unset, .unset, .unset, .unset, .unset, .unset, .unset] [])
  refine Goes.of (fun _ kont => XS.iloadN X0.here hx rfl (Jvm.hb hby at_36) rfl kont) ?_
  show Goes p e below _ T0 (mkF m 37 #[.val (.int p1), .val (.int p2), .val (.int p3), .val (.int p4), .val (.int nn), .val (.long x0), .second, .val (.long y0), .second, .val (.long x1), .second, .val (.long y1), .second, .val (.long x2), .second, .unset, .unset, .unset, .unset, .unset, .unset, .unset, .unset] [(.int p3)])
  refine Goes.of (fun _ kont => XS.bipush X0.here hx rfl (Jvm.hb hby at_37) kont) ?_
  show Goes p e below _ T0 (mkF m 39 #[.val (.int p1), .val (.int p2), .val (.int p3), .val (.int p4), .val (.int nn), .val (.long x0), .second, .val (.long y0), .second, .val (.long x1), .second, .val (.long y1), .second, .val (.long x2), .second, .unset, .unset, .unset, .unset, .unset, .unset, .unset, .unset] [(.int (16 : Int32)), (.int p3)])
  refine Goes.of (fun _ kont => XT.ishr X0.here hx rfl (Jvm.hb hby at_39) rfl kont) ?_
  show Goes p e below _ T0 (mkF m 40 #[.val (.int p1), .val (.int p2), .val (.int p3), .val (.int p4), .val (.int nn), .val (.long x0), .second, .val (.long y0), .second, .val (.long x1), .second, .val (.long y1), .second, .val (.long x2), .second, .unset, .unset, .unset, .unset, .unset, .unset, .unset, .unset] [(.int (p3 >>> ((16 : Int32) &&& 31)))])
  refine Goes.of (fun _ kont => XT.i2s X0.here hx rfl (Jvm.hb hby at_40) rfl kont) ?_
  show Goes p e below _ T0 (mkF m 41 #[.val (.int p1), .val (.int p2), .val (.int p3), .val (.int p4), .val (.int nn), .val (.long x0), .second, .val (.long y0), .second, .val (.long x1), .second, .val (.long y1), .second, .val (.long x2), .second, .unset, .unset, .unset, .unset, .unset, .unset, .unset, .unset] [(.int ((p3 >>> ((16 : Int32) &&& 31))).toInt16.toInt32)])
  refine Goes.of (fun _ kont => XT.i2l X0.here hx rfl (Jvm.hb hby at_41) rfl kont) ?_
  show Goes p e below _ T0 (mkF m 42 #[.val (.int p1), .val (.int p2), .val (.int p3), .val (.int p4), .val (.int nn), .val (.long x0), .second, .val (.long y0), .second, .val (.long x1), .second, .val (.long y1), .second, .val (.long x2), .second, .unset, .unset, .unset, .unset, .unset, .unset, .unset, .unset] [(.long (Int32.toInt64 ((p3 >>> ((16 : Int32) &&& 31))).toInt16.toInt32))])
  generalize hy2 : (Int32.toInt64 ((p3 >>> ((16 : Int32) &&& 31))).toInt16.toInt32) = y2
  show Goes p e below _ T0 (mkF m 42 #[.val (.int p1), .val (.int p2), .val (.int p3), .val (.int p4), .val (.int nn), .val (.long x0), .second, .val (.long y0), .second, .val (.long x1), .second, .val (.long y1), .second, .val (.long x2), .second, .unset, .unset, .unset, .unset, .unset, .unset, .unset, .unset] [(.long y2)])
  have bx0 := own_b16 hx0
  have Dx0 := dy_l2d (n := x0) (by omega)
  have by0 := own_b16 hy0
  have Dy0 := dy_l2d (n := y0) (by omega)
  have bx1 := own_b16 hx1
  have Dx1 := dy_l2d (n := x1) (by omega)
  have by1 := own_b16 hy1
  have Dy1 := dy_l2d (n := y1) (by omega)
  have bx2 := own_b16 hx2
  have Dx2 := dy_l2d (n := x2) (by omega)
  have by2 := own_b16 hy2
  have Dy2 := dy_l2d (n := y2) (by omega)
  refine Goes.of (fun _ kont => XT.lstore X0.here hx rfl (Jvm.hb hby at_42) rfl (l' := #[.val (.int p1), .val (.int p2), .val (.int p3), .val (.int p4), .val (.int nn), .val (.long x0), .second, .val (.long y0), .second, .val (.long x1), .second, .val (.long y1), .second, .val (.long x2), .second, .val (.long y2), .second, .unset, .unset, .unset, .unset, .unset, .unset]) rfl kont) ?_
  show Goes p e below _ T0 (mkF m 44 #[.val (.int p1), .val (.int p2), .val (.int p3), .val (.int p4), .val (.int nn), .val (.long x0), .second, .val (.long y0), .second, .val (.long x1), .second, .val (.long y1), .second, .val (.long x2), .second, .val (.long y2), .second, .unset, .unset, .unset, .unset, .unset, .unset] [])
  rcases own_and3 hnn with rfl | rfl | rfl | rfl
  · show Goes p e below _ T0 (mkF m 44 #[.val (.int p1), .val (.int p2), .val (.int p3), .val (.int p4), .val (.int (0 : Int32)), .val (.long x0), .second, .val (.long y0), .second, .val (.long x1), .second, .val (.long y1), .second, .val (.long x2), .second, .val (.long y2), .second, .unset, .unset, .unset, .unset, .unset, .unset] [])
    refine Goes.of (fun _ kont => XS.iload X0.here hx rfl (Jvm.hb hby at_44) rfl kont) ?_
    show Goes p e below _ T0 (mkF m 46 #[.val (.int p1), .val (.int p2), .val (.int p3), .val (.int p4), .val (.int (0 : Int32)), .val (.long x0), .second, .val (.long y0), .second, .val (.long x1), .second, .val (.long y1), .second, .val (.long x2), .second, .val (.long y2), .second, .unset, .unset, .unset, .unset, .unset, .unset] [(.int (0 : Int32))])
    refine goNewD X0 hx hZ (hw _ (List.mem_of_getElem? (i := 0) rfl)) e0 (g := mkF m 46 #[.val (.int p1), .val (.int p2), .val (.int p3), .val (.int p4), .val (.int (0 : Int32)), .val (.long x0), .second, .val (.long y0), .second, .val (.long x1), .second, .val (.long y1), .second, .val (.long x2), .second, .val (.long y2), .second, .unset, .unset, .unset, .unset, .unset, .unset] [(.int (0 : Int32))]) rfl (Jvm.hb hby at_46) rfl 0 (by decide) (by decide) (by decide) (by decide) ?_
    intro T1 h1 ax gax X1 e1 E1 V_ax
    have ge_ax : n0 ≤ ax := by rw [gax]; exact Z0
    have Z1 : n0 ≤ h1.size := Nat.le_trans Z0 E1.1
    show Goes p e below _ T1 (mkF m 48 #[.val (.int p1), .val (.int p2), .val (.int p3), .val (.int p4), .val (.int (0 : Int32)), .val (.long x0), .second, .val (.long y0), .second, .val (.long x1), .second, .val (.long y1), .second, .val (.long x2), .second, .val (.long y2), .second, .unset, .unset, .unset, .unset, .unset, .unset] [(.ref ax)])
    refine Goes.of (fun _ kont => XS.astore X1.here hx rfl (Jvm.hb hby at_48) rfl rfl (l' := #[.val (.int p1), .val (.int p2), .val (.int p3), .val (.int p4), .val (.int (0 : Int32)), .val (.long x0), .second, .val (.long y0), .second, .val (.long x1), .second, .val (.long y1), .second, .val (.long x2), .second, .val (.long y2), .second, .val (.ref ax), .unset, .unset, .unset, .unset, .unset]) rfl kont) ?_
    show Goes p e below _ T1 (mkF m 50 #[.val (.int p1), .val (.int p2), .val (.int p3), .val (.int p4), .val (.int (0 : Int32)), .val (.long x0), .second, .val (.long y0), .second, .val (.long x1), .second, .val (.long y1), .second, .val (.long x2), .second, .val (.long y2), .second, .val (.ref ax), .unset, .unset, .unset, .unset, .unset] [])
    refine Goes.of (fun _ kont => XS.iload X1.here hx rfl (Jvm.hb hby at_50) rfl kont) ?_
    show Goes p e below _ T1 (mkF m 52 #[.val (.int p1), .val (.int p2), .val (.int p3), .val (.int p4), .val (.int (0 : Int32)), .val (.long x0), .second, .val (.long y0), .second, .val (.long x1), .second, .val (.long y1), .second, .val (.long x2), .second, .val (.long y2), .second, .val (.ref ax), .unset, .unset, .unset, .unset, .unset] [(.int (0 : Int32))])
    refine goNewD X1 hx hZ (hw _ (List.mem_of_getElem? (i := 0) rfl)) e1 (g := mkF m 52 #[.val (.int p1), .val (.int p2), .val (.int p3), .val (.int p4), .val (.int (0 : Int32)), .val (.long x0), .second, .val (.long y0), .second, .val (.long x1), .second, .val (.long y1), .second, .val (.long x2), .second, .val (.long y2), .second, .val (.ref ax), .unset, .unset, .unset, .unset, .unset] [(.int (0 : Int32))]) rfl (Jvm.hb hby at_52) rfl 0 (by decide) (by decide) (by decide) (by decide) ?_
    intro T2 h2 ay gay X2 e2 E2 V_ay
    have ge_ay : n0 ≤ ay := by rw [gay]; exact Z1
    have Z2 : n0 ≤ h2.size := Nat.le_trans Z1 E2.1
    have ne_ax_ay : ax ≠ ay := by rw [gay]; exact Nat.ne_of_lt V_ax.lt
    have V_ax_2 := V_ax.ext E2
    show Goes p e below _ T2 (mkF m 54 #[.val (.int p1), .val (.int p2), .val (.int p3), .val (.int p4), .val (.int (0 : Int32)), .val (.long x0), .second, .val (.long y0), .second, .val (.long x1), .second, .val (.long y1), .second, .val (.long x2), .second, .val (.long y2), .second, .val (.ref ax), .unset, .unset, .unset, .unset, .unset] [(.ref ay)])
    refine Goes.of (fun _ kont => XS.astore X2.here hx rfl (Jvm.hb hby at_54) rfl rfl (l' := #[.val (.int p1), .val (.int p2), .val (.int p3), .val (.int p4), .val (.int (0 : Int32)), .val (.long x0), .second, .val (.long y0), .second, .val (.long x1), .second, .val (.long y1), .second, .val (.long x2), .second, .val (.long y2), .second, .val (.ref ax), .val (.ref ay), .unset, .unset, .unset, .unset]) rfl kont) ?_
    show Goes p e below _ T2 (mkF m 56 #[.val (.int p1), .val (.int p2), .val (.int p3), .val (.int p4), .val (.int (0 : Int32)), .val (.long x0), .second, .val (.long y0), .second, .val (.long x1), .second, .val (.long y1), .second, .val (.long x2), .second, .val (.long y2), .second, .val (.ref ax), .val (.ref ay), .unset, .unset, .unset, .unset] [])
    refine Goes.of (fun _ kont => XT.lconst X2.here hx rfl (Jvm.hb hby at_56) kont) ?_
    show Goes p e below _ T2 (mkF m 57 #[.val (.int p1), .val (.int p2), .val (.int p3), .val (.int p4), .val (.int (0 : Int32)), .val (.long x0), .second, .val (.long y0), .second, .val (.long x1), .second, .val (.long y1), .second, .val (.long x2), .second, .val (.long y2), .second, .val (.ref ax), .val (.ref ay), .unset, .unset, .unset, .unset] [(.long (0 : Int64))])
    refine Goes.of (fun _ kont => XT.lstore X2.here hx rfl (Jvm.hb hby at_57) rfl (l' := #[.val (.int p1), .val (.int p2), .val (.int p3), .val (.int p4), .val (.int (0 : Int32)), .val (.long x0), .second, .val (.long y0), .second, .val (.long x1), .second, .val (.long y1), .second, .val (.long x2), .second, .val (.long y2), .second, .val (.ref ax), .val (.ref ay), .val (.long (0 : Int64)), .second, .unset, .unset]) rfl kont) ?_
    show Goes p e below _ T2 (mkF m 59 #[.val (.int p1), .val (.int p2), .val (.int p3), .val (.int p4), .val (.int (0 : Int32)), .val (.long x0), .second, .val (.long y0), .second, .val (.long x1), .second, .val (.long y1), .second, .val (.long x2), .second, .val (.long y2), .second, .val (.ref ax), .val (.ref ay), .val (.long (0 : Int64)), .second, .unset, .unset] [])
    refine Goes.of (fun _ kont => XS.iload X2.here hx rfl (Jvm.hb hby at_59) rfl kont) ?_
    show Goes p e below _ T2 (mkF m 61 #[.val (.int p1), .val (.int p2), .val (.int p3), .val (.int p4), .val (.int (0 : Int32)), .val (.long x0), .second, .val (.long y0), .second, .val (.long x1), .second, .val (.long y1), .second, .val (.long x2), .second, .val (.long y2), .second, .val (.ref ax), .val (.ref ay), .val (.long (0 : Int64)), .second, .unset, .unset] [(.int (0 : Int32))])
    have r0 : (0 : Int64).toInt = 0 := by decide
    refine Goes.of (fun _ kont => XS.ifYes X2.here hx rfl (pc0 := 61) (pc' := 94) rfl (Jvm.hb hby at_61) rfl (by decide) (by decide) (by decide) kont) ?_
    show Goes p e below _ T2 (mkF m 94 #[.val (.int p1), .val (.int p2), .val (.int p3), .val (.int p4), .val (.int (0 : Int32)), .val (.long x0), .second, .val (.long y0), .second, .val (.long x1), .second, .val (.long y1), .second, .val (.long x2), .second, .val (.long y2), .second, .val (.ref ax), .val (.ref ay), .val (.long (0 : Int64)), .second, .unset, .unset] [])
    refine Goes.of (fun _ kont => XS.iload X2.here hx rfl (Jvm.hb hby at_94) rfl kont) ?_
    show Goes p e below _ T2 (mkF m 96 #[.val (.int p1), .val (.int p2), .val (.int p3), .val (.int p4), .val (.int (0 : Int32)), .val (.long x0), .second, .val (.long y0), .second, .val (.long x1), .second, .val (.long y1), .second, .val (.long x2), .second, .val (.long y2), .second, .val (.ref ax), .val (.ref ay), .val (.long (0 : Int64)), .second, .unset, .unset] [(.int (0 : Int32))])
    refine Goes.of (fun _ kont => XS.iconst X2.here hx rfl (Jvm.hb hby at_96) kont) ?_
    show Goes p e below _ T2 (mkF m 97 #[.val (.int p1), .val (.int p2), .val (.int p3), .val (.int p4), .val (.int (0 : Int32)), .val (.long x0), .second, .val (.long y0), .second, .val (.long x1), .second, .val (.long y1), .second, .val (.long x2), .second, .val (.long y2), .second, .val (.ref ax), .val (.ref ay), .val (.long (0 : Int64)), .second, .unset, .unset] [(.int (1 : Int32)), (.int (0 : Int32))])
    refine Goes.of (fun _ kont => XS.icmpYes X2.here hx rfl (pc0 := 97) (pc' := 130) rfl (Jvm.hb hby at_97) rfl (by decide) (by decide) (by decide) kont) ?_
    show Goes p e below _ T2 (mkF m 130 #[.val (.int p1), .val (.int p2), .val (.int p3), .val (.int p4), .val (.int (0 : Int32)), .val (.long x0), .second, .val (.long y0), .second, .val (.long x1), .second, .val (.long y1), .second, .val (.long x2), .second, .val (.long y2), .second, .val (.ref ax), .val (.ref ay), .val (.long (0 : Int64)), .second, .unset, .unset] [])
    refine Goes.of (fun _ kont => XS.iload X2.here hx rfl (Jvm.hb hby at_130) rfl kont) ?_
    show Goes p e below _ T2 (mkF m 132 #[.val (.int p1), .val (.int p2), .val (.int p3), .val (.int p4), .val (.int (0 : Int32)), .val (.long x0), .second, .val (.long y0), .second, .val (.long x1), .second, .val (.long y1), .second, .val (.long x2), .second, .val (.long y2), .second, .val (.ref ax), .val (.ref ay), .val (.long (0 : Int64)), .second, .unset, .unset] [(.int (0 : Int32))])
    refine Goes.of (fun _ kont => XS.iconst X2.here hx rfl (Jvm.hb hby at_132) kont) ?_
    show Goes p e below _ T2 (mkF m 133 #[.val (.int p1), .val (.int p2), .val (.int p3), .val (.int p4), .val (.int (0 : Int32)), .val (.long x0), .second, .val (.long y0), .second, .val (.long x1), .second, .val (.long y1), .second, .val (.long x2), .second, .val (.long y2), .second, .val (.ref ax), .val (.ref ay), .val (.long (0 : Int64)), .second, .unset, .unset] [(.int (2 : Int32)), (.int (0 : Int32))])
    refine Goes.of (fun _ kont => XS.icmpYes X2.here hx rfl (pc0 := 133) (pc' := 166) rfl (Jvm.hb hby at_133) rfl (by decide) (by decide) (by decide) kont) ?_
    show Goes p e below _ T2 (mkF m 166 #[.val (.int p1), .val (.int p2), .val (.int p3), .val (.int p4), .val (.int (0 : Int32)), .val (.long x0), .second, .val (.long y0), .second, .val (.long x1), .second, .val (.long y1), .second, .val (.long x2), .second, .val (.long y2), .second, .val (.ref ax), .val (.ref ay), .val (.long (0 : Int64)), .second, .unset, .unset] [])
    refine Goes.of (fun _ kont => XS.aload X2.here hx rfl (Jvm.hb hby at_166) rfl rfl kont) ?_
    show Goes p e below _ T2 (mkF m 168 #[.val (.int p1), .val (.int p2), .val (.int p3), .val (.int p4), .val (.int (0 : Int32)), .val (.long x0), .second, .val (.long y0), .second, .val (.long x1), .second, .val (.long y1), .second, .val (.long x2), .second, .val (.long y2), .second, .val (.ref ax), .val (.ref ay), .val (.long (0 : Int64)), .second, .unset, .unset] [(.ref ax)])
    refine Goes.of (fun _ kont => XS.aload X2.here hx rfl (Jvm.hb hby at_168) rfl rfl kont) ?_
    show Goes p e below _ T2 (mkF m 170 #[.val (.int p1), .val (.int p2), .val (.int p3), .val (.int p4), .val (.int (0 : Int32)), .val (.long x0), .second, .val (.long y0), .second, .val (.long x1), .second, .val (.long y1), .second, .val (.long x2), .second, .val (.long y2), .second, .val (.ref ax), .val (.ref ay), .val (.long (0 : Int64)), .second, .unset, .unset] [(.ref ay), (.ref ax)])
    refine callC X2 hx hZ hown (hw _ (List.mem_of_getElem? (i := 1) rfl)) (hw _ (List.mem_of_getElem? (i := 2) rfl)) (hw _ (List.mem_of_getElem? (i := 3) rfl)) (hw _ (List.mem_of_getElem? (i := 4) rfl)) (by decide) (as := [(.ref ax), (.ref ay)]) (rm1_0 l Z a0 hw ax ay  h2 n0 Z2 V_ax_2 V_ay ) 0 (by decide) (by decide) e2 (by decide) (by decide) (g := mkF m 170 #[.val (.int p1), .val (.int p2), .val (.int p3), .val (.int p4), .val (.int (0 : Int32)), .val (.long x0), .second, .val (.long y0), .second, .val (.long x1), .second, .val (.long y1), .second, .val (.long x2), .second, .val (.long y2), .second, .val (.ref ax), .val (.ref ay), .val (.long (0 : Int64)), .second, .unset, .unset] [(.ref ay), (.ref ax)]) rfl (by rw [hml]; rfl) (rest := []) (lenOf pd_0 rfl) rfl (by show 2 * 0 + _ ≤ _; exact Nat.le_of_eq rfl) (Jvm.hb hby at_170) ?_
    rintro _ T3 L3 X3 ⟨⟨z3, rfl, Dz3⟩, N3, e3⟩
    show Goes p e below _ T3 (mkF m 173 #[.val (.int p1), .val (.int p2), .val (.int p3), .val (.int p4), .val (.int (0 : Int32)), .val (.long x0), .second, .val (.long y0), .second, .val (.long x1), .second, .val (.long y1), .second, .val (.long x2), .second, .val (.long y2), .second, .val (.ref ax), .val (.ref ay), .val (.long (0 : Int64)), .second, .unset, .unset] [(.double z3)])
    refine Goes.of (fun _ kont => XS.dstore X3.here hx rfl (Jvm.hb hby at_173) rfl (l' := #[.val (.int p1), .val (.int p2), .val (.int p3), .val (.int p4), .val (.int (0 : Int32)), .val (.long x0), .second, .val (.long y0), .second, .val (.long x1), .second, .val (.long y1), .second, .val (.long x2), .second, .val (.long y2), .second, .val (.ref ax), .val (.ref ay), .val (.long (0 : Int64)), .second, .val (.double z3), .second]) rfl kont) ?_
    show Goes p e below _ T3 (mkF m 175 #[.val (.int p1), .val (.int p2), .val (.int p3), .val (.int p4), .val (.int (0 : Int32)), .val (.long x0), .second, .val (.long y0), .second, .val (.long x1), .second, .val (.long y1), .second, .val (.long x2), .second, .val (.long y2), .second, .val (.ref ax), .val (.ref ay), .val (.long (0 : Int64)), .second, .val (.double z3), .second] [])
    refine Goes.of (fun _ kont => XS.dload X3.here hx rfl (Jvm.hb hby at_175) rfl kont) ?_
    show Goes p e below _ T3 (mkF m 177 #[.val (.int p1), .val (.int p2), .val (.int p3), .val (.int p4), .val (.int (0 : Int32)), .val (.long x0), .second, .val (.long y0), .second, .val (.long x1), .second, .val (.long y1), .second, .val (.long x2), .second, .val (.long y2), .second, .val (.ref ax), .val (.ref ay), .val (.long (0 : Int64)), .second, .val (.double z3), .second] [(.double z3)])
    refine Goes.of (fun _ kont => XT.lload X3.here hx rfl (Jvm.hb hby at_177) rfl kont) ?_
    show Goes p e below _ T3 (mkF m 179 #[.val (.int p1), .val (.int p2), .val (.int p3), .val (.int p4), .val (.int (0 : Int32)), .val (.long x0), .second, .val (.long y0), .second, .val (.long x1), .second, .val (.long y1), .second, .val (.long x2), .second, .val (.long y2), .second, .val (.ref ax), .val (.ref ay), .val (.long (0 : Int64)), .second, .val (.double z3), .second] [(.long (0 : Int64)), (.double z3)])
    refine Goes.of (fun _ kont => XS.l2dS X3.here hx rfl (Jvm.hb hby at_179) rfl rfl kont) ?_
    show Goes p e below _ T3 (mkF m 180 #[.val (.int p1), .val (.int p2), .val (.int p3), .val (.int p4), .val (.int (0 : Int32)), .val (.long x0), .second, .val (.long y0), .second, .val (.long x1), .second, .val (.long y1), .second, .val (.long x2), .second, .val (.long y2), .second, .val (.ref ax), .val (.ref ay), .val (.long (0 : Int64)), .second, .val (.double z3), .second] [(.double (FP.l2d (0 : Int64))), (.double z3)])
    refine Goes.of (fun _ kont => XS.dcmpS X3.here hx rfl (Jvm.hb hby at_180) rfl rfl kont) ?_
    show Goes p e below _ T3 (mkF m 181 #[.val (.int p1), .val (.int p2), .val (.int p3), .val (.int p4), .val (.int (0 : Int32)), .val (.long x0), .second, .val (.long y0), .second, .val (.long x1), .second, .val (.long y1), .second, .val (.long x2), .second, .val (.long y2), .second, .val (.ref ax), .val (.ref ay), .val (.long (0 : Int64)), .second, .val (.double z3), .second] [(.int (cmpValue (FP.dcmp z3 (FP.l2d (0 : Int64))) .l))])
    have De := dy_l2d (n := (0 : Int64)) (by rw [r0]; omega)
    rw [r0] at De
    refine Goes.of (fun _ kont => XS.ifNo X3.here hx rfl (Jvm.hb hby at_181) rfl (by rw [dy_eq Dz3 De rfl]; decide) kont) ?_
    show Goes p e below _ T3 (mkF m 184 #[.val (.int p1), .val (.int p2), .val (.int p3), .val (.int p4), .val (.int (0 : Int32)), .val (.long x0), .second, .val (.long y0), .second, .val (.long x1), .second, .val (.long y1), .second, .val (.long x2), .second, .val (.long y2), .second, .val (.ref ax), .val (.ref ay), .val (.long (0 : Int64)), .second, .val (.double z3), .second] [])
    refine Goes.of (fun _ kont => XS.iconst X3.here hx rfl (Jvm.hb hby at_184) kont) ?_
    show Goes p e below _ T3 (mkF m 185 #[.val (.int p1), .val (.int p2), .val (.int p3), .val (.int p4), .val (.int (0 : Int32)), .val (.long x0), .second, .val (.long y0), .second, .val (.long x1), .second, .val (.long y1), .second, .val (.long x2), .second, .val (.long y2), .second, .val (.ref ax), .val (.ref ay), .val (.long (0 : Int64)), .second, .val (.double z3), .second] [(.int (1 : Int32))])
    refine Goes.of (fun _ kont => XS.goto X3.here hx rfl (pc0 := 185) (pc' := 189) rfl (Jvm.hb hby at_185) (by decide) (by decide) kont) ?_
    show Goes p e below _ T3 (mkF m 189 #[.val (.int p1), .val (.int p2), .val (.int p3), .val (.int p4), .val (.int (0 : Int32)), .val (.long x0), .second, .val (.long y0), .second, .val (.long x1), .second, .val (.long y1), .second, .val (.long x2), .second, .val (.long y2), .second, .val (.ref ax), .val (.ref ay), .val (.long (0 : Int64)), .second, .val (.double z3), .second] [(.int (1 : Int32))])
    exact retB X3 hx hlk (t := .boolean) hret (by simp) (Jvm.hb hby at_189) (by decide) (by decide) ⟨rfl, Fr.app N0 N3⟩
  · show Goes p e below _ T0 (mkF m 44 #[.val (.int p1), .val (.int p2), .val (.int p3), .val (.int p4), .val (.int (1 : Int32)), .val (.long x0), .second, .val (.long y0), .second, .val (.long x1), .second, .val (.long y1), .second, .val (.long x2), .second, .val (.long y2), .second, .unset, .unset, .unset, .unset, .unset, .unset] [])
    refine Goes.of (fun _ kont => XS.iload X0.here hx rfl (Jvm.hb hby at_44) rfl kont) ?_
    show Goes p e below _ T0 (mkF m 46 #[.val (.int p1), .val (.int p2), .val (.int p3), .val (.int p4), .val (.int (1 : Int32)), .val (.long x0), .second, .val (.long y0), .second, .val (.long x1), .second, .val (.long y1), .second, .val (.long x2), .second, .val (.long y2), .second, .unset, .unset, .unset, .unset, .unset, .unset] [(.int (1 : Int32))])
    refine goNewD X0 hx hZ (hw _ (List.mem_of_getElem? (i := 0) rfl)) e0 (g := mkF m 46 #[.val (.int p1), .val (.int p2), .val (.int p3), .val (.int p4), .val (.int (1 : Int32)), .val (.long x0), .second, .val (.long y0), .second, .val (.long x1), .second, .val (.long y1), .second, .val (.long x2), .second, .val (.long y2), .second, .unset, .unset, .unset, .unset, .unset, .unset] [(.int (1 : Int32))]) rfl (Jvm.hb hby at_46) rfl 1 (by decide) (by decide) (by decide) (by decide) ?_
    intro T4 h4 ax gax X4 e4 E4 V_ax
    have ge_ax : n0 ≤ ax := by rw [gax]; exact Z0
    have Z4 : n0 ≤ h4.size := Nat.le_trans Z0 E4.1
    show Goes p e below _ T4 (mkF m 48 #[.val (.int p1), .val (.int p2), .val (.int p3), .val (.int p4), .val (.int (1 : Int32)), .val (.long x0), .second, .val (.long y0), .second, .val (.long x1), .second, .val (.long y1), .second, .val (.long x2), .second, .val (.long y2), .second, .unset, .unset, .unset, .unset, .unset, .unset] [(.ref ax)])
    refine Goes.of (fun _ kont => XS.astore X4.here hx rfl (Jvm.hb hby at_48) rfl rfl (l' := #[.val (.int p1), .val (.int p2), .val (.int p3), .val (.int p4), .val (.int (1 : Int32)), .val (.long x0), .second, .val (.long y0), .second, .val (.long x1), .second, .val (.long y1), .second, .val (.long x2), .second, .val (.long y2), .second, .val (.ref ax), .unset, .unset, .unset, .unset, .unset]) rfl kont) ?_
    show Goes p e below _ T4 (mkF m 50 #[.val (.int p1), .val (.int p2), .val (.int p3), .val (.int p4), .val (.int (1 : Int32)), .val (.long x0), .second, .val (.long y0), .second, .val (.long x1), .second, .val (.long y1), .second, .val (.long x2), .second, .val (.long y2), .second, .val (.ref ax), .unset, .unset, .unset, .unset, .unset] [])
    refine Goes.of (fun _ kont => XS.iload X4.here hx rfl (Jvm.hb hby at_50) rfl kont) ?_
    show Goes p e below _ T4 (mkF m 52 #[.val (.int p1), .val (.int p2), .val (.int p3), .val (.int p4), .val (.int (1 : Int32)), .val (.long x0), .second, .val (.long y0), .second, .val (.long x1), .second, .val (.long y1), .second, .val (.long x2), .second, .val (.long y2), .second, .val (.ref ax), .unset, .unset, .unset, .unset, .unset] [(.int (1 : Int32))])
    refine goNewD X4 hx hZ (hw _ (List.mem_of_getElem? (i := 0) rfl)) e4 (g := mkF m 52 #[.val (.int p1), .val (.int p2), .val (.int p3), .val (.int p4), .val (.int (1 : Int32)), .val (.long x0), .second, .val (.long y0), .second, .val (.long x1), .second, .val (.long y1), .second, .val (.long x2), .second, .val (.long y2), .second, .val (.ref ax), .unset, .unset, .unset, .unset, .unset] [(.int (1 : Int32))]) rfl (Jvm.hb hby at_52) rfl 1 (by decide) (by decide) (by decide) (by decide) ?_
    intro T5 h5 ay gay X5 e5 E5 V_ay
    have ge_ay : n0 ≤ ay := by rw [gay]; exact Z4
    have Z5 : n0 ≤ h5.size := Nat.le_trans Z4 E5.1
    have ne_ax_ay : ax ≠ ay := by rw [gay]; exact Nat.ne_of_lt V_ax.lt
    have V_ax_5 := V_ax.ext E5
    show Goes p e below _ T5 (mkF m 54 #[.val (.int p1), .val (.int p2), .val (.int p3), .val (.int p4), .val (.int (1 : Int32)), .val (.long x0), .second, .val (.long y0), .second, .val (.long x1), .second, .val (.long y1), .second, .val (.long x2), .second, .val (.long y2), .second, .val (.ref ax), .unset, .unset, .unset, .unset, .unset] [(.ref ay)])
    refine Goes.of (fun _ kont => XS.astore X5.here hx rfl (Jvm.hb hby at_54) rfl rfl (l' := #[.val (.int p1), .val (.int p2), .val (.int p3), .val (.int p4), .val (.int (1 : Int32)), .val (.long x0), .second, .val (.long y0), .second, .val (.long x1), .second, .val (.long y1), .second, .val (.long x2), .second, .val (.long y2), .second, .val (.ref ax), .val (.ref ay), .unset, .unset, .unset, .unset]) rfl kont) ?_
    show Goes p e below _ T5 (mkF m 56 #[.val (.int p1), .val (.int p2), .val (.int p3), .val (.int p4), .val (.int (1 : Int32)), .val (.long x0), .second, .val (.long y0), .second, .val (.long x1), .second, .val (.long y1), .second, .val (.long x2), .second, .val (.long y2), .second, .val (.ref ax), .val (.ref ay), .unset, .unset, .unset, .unset] [])
    refine Goes.of (fun _ kont => XT.lconst X5.here hx rfl (Jvm.hb hby at_56) kont) ?_
    show Goes p e below _ T5 (mkF m 57 #[.val (.int p1), .val (.int p2), .val (.int p3), .val (.int p4), .val (.int (1 : Int32)), .val (.long x0), .second, .val (.long y0), .second, .val (.long x1), .second, .val (.long y1), .second, .val (.long x2), .second, .val (.long y2), .second, .val (.ref ax), .val (.ref ay), .unset, .unset, .unset, .unset] [(.long (0 : Int64))])
    refine Goes.of (fun _ kont => XT.lstore X5.here hx rfl (Jvm.hb hby at_57) rfl (l' := #[.val (.int p1), .val (.int p2), .val (.int p3), .val (.int p4), .val (.int (1 : Int32)), .val (.long x0), .second, .val (.long y0), .second, .val (.long x1), .second, .val (.long y1), .second, .val (.long x2), .second, .val (.long y2), .second, .val (.ref ax), .val (.ref ay), .val (.long (0 : Int64)), .second, .unset, .unset]) rfl kont) ?_
    show Goes p e below _ T5 (mkF m 59 #[.val (.int p1), .val (.int p2), .val (.int p3), .val (.int p4), .val (.int (1 : Int32)), .val (.long x0), .second, .val (.long y0), .second, .val (.long x1), .second, .val (.long y1), .second, .val (.long x2), .second, .val (.long y2), .second, .val (.ref ax), .val (.ref ay), .val (.long (0 : Int64)), .second, .unset, .unset] [])
    refine Goes.of (fun _ kont => XS.iload X5.here hx rfl (Jvm.hb hby at_59) rfl kont) ?_
    show Goes p e below _ T5 (mkF m 61 #[.val (.int p1), .val (.int p2), .val (.int p3), .val (.int p4), .val (.int (1 : Int32)), .val (.long x0), .second, .val (.long y0), .second, .val (.long x1), .second, .val (.long y1), .second, .val (.long x2), .second, .val (.long y2), .second, .val (.ref ax), .val (.ref ay), .val (.long (0 : Int64)), .second, .unset, .unset] [(.int (1 : Int32))])
    have r0 : (0 : Int64).toInt = 0 := by decide
    refine Goes.of (fun _ kont => XS.ifNo X5.here hx rfl (Jvm.hb hby at_61) rfl (by decide) kont) ?_
    show Goes p e below _ T5 (mkF m 64 #[.val (.int p1), .val (.int p2), .val (.int p3), .val (.int p4), .val (.int (1 : Int32)), .val (.long x0), .second, .val (.long y0), .second, .val (.long x1), .second, .val (.long y1), .second, .val (.long x2), .second, .val (.long y2), .second, .val (.ref ax), .val (.ref ay), .val (.long (0 : Int64)), .second, .unset, .unset] [])
    refine Goes.of (fun _ kont => XS.aload X5.here hx rfl (Jvm.hb hby at_64) rfl rfl kont) ?_
    show Goes p e below _ T5 (mkF m 66 #[.val (.int p1), .val (.int p2), .val (.int p3), .val (.int p4), .val (.int (1 : Int32)), .val (.long x0), .second, .val (.long y0), .second, .val (.long x1), .second, .val (.long y1), .second, .val (.long x2), .second, .val (.long y2), .second, .val (.ref ax), .val (.ref ay), .val (.long (0 : Int64)), .second, .unset, .unset] [(.ref ax)])
    refine Goes.of (fun _ kont => XS.iconst X5.here hx rfl (Jvm.hb hby at_66) kont) ?_
    show Goes p e below _ T5 (mkF m 67 #[.val (.int p1), .val (.int p2), .val (.int p3), .val (.int p4), .val (.int (1 : Int32)), .val (.long x0), .second, .val (.long y0), .second, .val (.long x1), .second, .val (.long y1), .second, .val (.long x2), .second, .val (.long y2), .second, .val (.ref ax), .val (.ref ay), .val (.long (0 : Int64)), .second, .unset, .unset] [(.int (0 : Int32)), (.ref ax)])
    refine Goes.of (fun _ kont => XT.lload X5.here hx rfl (Jvm.hb hby at_67) rfl kont) ?_
    show Goes p e below _ T5 (mkF m 69 #[.val (.int p1), .val (.int p2), .val (.int p3), .val (.int p4), .val (.int (1 : Int32)), .val (.long x0), .second, .val (.long y0), .second, .val (.long x1), .second, .val (.long y1), .second, .val (.long x2), .second, .val (.long y2), .second, .val (.ref ax), .val (.ref ay), .val (.long (0 : Int64)), .second, .unset, .unset] [(.long x0), (.int (0 : Int32)), (.ref ax)])
    refine Goes.of (fun _ kont => XS.l2dS X5.here hx rfl (Jvm.hb hby at_69) rfl rfl kont) ?_
    show Goes p e below _ T5 (mkF m 70 #[.val (.int p1), .val (.int p2), .val (.int p3), .val (.int p4), .val (.int (1 : Int32)), .val (.long x0), .second, .val (.long y0), .second, .val (.long x1), .second, .val (.long y1), .second, .val (.long x2), .second, .val (.long y2), .second, .val (.ref ax), .val (.ref ay), .val (.long (0 : Int64)), .second, .unset, .unset] [(.double (FP.l2d x0)), (.int (0 : Int32)), (.ref ax)])
    refine goStD X5 hx hZ e5 V_ax_5 0 (by decide) (by show 0 < 1; decide) (g := (mkF m 70 #[.val (.int p1), .val (.int p2), .val (.int p3), .val (.int p4), .val (.int (1 : Int32)), .val (.long x0), .second, .val (.long y0), .second, .val (.long x1), .second, .val (.long y1), .second, .val (.long x2), .second, .val (.long y2), .second, .val (.ref ax), .val (.ref ay), .val (.long (0 : Int64)), .second, .unset, .unset] [(.double (FP.l2d x0)), (.int (0 : Int32)), (.ref ax)])) rfl rfl (Jvm.hb hby at_70) N0 ge_ax ?_
    intro T6 h6 L6 X6 e6 N6 K6 V_ax_6
    replace V_ax_6 : DA Z h6 ax [(FP.l2d x0)] := V_ax_6
    have V_ay_6 := K6 _ _ (Ne.symm ne_ax_ay) V_ay
    have Z6 : n0 ≤ h6.size := Nat.le_trans ge_ax (Nat.le_of_lt V_ax_6.lt)
    show Goes p e below _ T6 (mkF m 71 #[.val (.int p1), .val (.int p2), .val (.int p3), .val (.int p4), .val (.int (1 : Int32)), .val (.long x0), .second, .val (.long y0), .second, .val (.long x1), .second, .val (.long y1), .second, .val (.long x2), .second, .val (.long y2), .second, .val (.ref ax), .val (.ref ay), .val (.long (0 : Int64)), .second, .unset, .unset] [])
    refine Goes.of (fun _ kont => XS.aload X6.here hx rfl (Jvm.hb hby at_71) rfl rfl kont) ?_
    show Goes p e below _ T6 (mkF m 73 #[.val (.int p1), .val (.int p2), .val (.int p3), .val (.int p4), .val (.int (1 : Int32)), .val (.long x0), .second, .val (.long y0), .second, .val (.long x1), .second, .val (.long y1), .second, .val (.long x2), .second, .val (.long y2), .second, .val (.ref ax), .val (.ref ay), .val (.long (0 : Int64)), .second, .unset, .unset] [(.ref ay)])
    refine Goes.of (fun _ kont => XS.iconst X6.here hx rfl (Jvm.hb hby at_73) kont) ?_
    show Goes p e below _ T6 (mkF m 74 #[.val (.int p1), .val (.int p2), .val (.int p3), .val (.int p4), .val (.int (1 : Int32)), .val (.long x0), .second, .val (.long y0), .second, .val (.long x1), .second, .val (.long y1), .second, .val (.long x2), .second, .val (.long y2), .second, .val (.ref ax), .val (.ref ay), .val (.long (0 : Int64)), .second, .unset, .unset] [(.int (0 : Int32)), (.ref ay)])
    refine Goes.of (fun _ kont => XT.lload X6.here hx rfl (Jvm.hb hby at_74) rfl kont) ?_
    show Goes p e below _ T6 (mkF m 76 #[.val (.int p1), .val (.int p2), .val (.int p3), .val (.int p4), .val (.int (1 : Int32)), .val (.long x0), .second, .val (.long y0), .second, .val (.long x1), .second, .val (.long y1), .second, .val (.long x2), .second, .val (.long y2), .second, .val (.ref ax), .val (.ref ay), .val (.long (0 : Int64)), .second, .unset, .unset] [(.long y0), (.int (0 : Int32)), (.ref ay)])
    refine Goes.of (fun _ kont => XS.l2dS X6.here hx rfl (Jvm.hb hby at_76) rfl rfl kont) ?_
    show Goes p e below _ T6 (mkF m 77 #[.val (.int p1), .val (.int p2), .val (.int p3), .val (.int p4), .val (.int (1 : Int32)), .val (.long x0), .second, .val (.long y0), .second, .val (.long x1), .second, .val (.long y1), .second, .val (.long x2), .second, .val (.long y2), .second, .val (.ref ax), .val (.ref ay), .val (.long (0 : Int64)), .second, .unset, .unset] [(.double (FP.l2d y0)), (.int (0 : Int32)), (.ref ay)])
    refine goStD X6 hx hZ e6 V_ay_6 0 (by decide) (by show 0 < 1; decide) (g := (mkF m 77 #[.val (.int p1), .val (.int p2), .val (.int p3), .val (.int p4), .val (.int (1 : Int32)), .val (.long x0), .second, .val (.long y0), .second, .val (.long x1), .second, .val (.long y1), .second, .val (.long x2), .second, .val (.long y2), .second, .val (.ref ax), .val (.ref ay), .val (.long (0 : Int64)), .second, .unset, .unset] [(.double (FP.l2d y0)), (.int (0 : Int32)), (.ref ay)])) rfl rfl (Jvm.hb hby at_77) N6 ge_ay ?_
    intro T7 h7 L7 X7 e7 N7 K7 V_ay_7
    replace V_ay_7 : DA Z h7 ay [(FP.l2d y0)] := V_ay_7
    have V_ax_7 := K7 _ _ ne_ax_ay V_ax_6
    have Z7 : n0 ≤ h7.size := Nat.le_trans ge_ay (Nat.le_of_lt V_ay_7.lt)
    show Goes p e below _ T7 (mkF m 78 #[.val (.int p1), .val (.int p2), .val (.int p3), .val (.int p4), .val (.int (1 : Int32)), .val (.long x0), .second, .val (.long y0), .second, .val (.long x1), .second, .val (.long y1), .second, .val (.long x2), .second, .val (.long y2), .second, .val (.ref ax), .val (.ref ay), .val (.long (0 : Int64)), .second, .unset, .unset] [])
    refine Goes.of (fun _ kont => XT.lload X7.here hx rfl (Jvm.hb hby at_78) rfl kont) ?_
    show Goes p e below _ T7 (mkF m 80 #[.val (.int p1), .val (.int p2), .val (.int p3), .val (.int p4), .val (.int (1 : Int32)), .val (.long x0), .second, .val (.long y0), .second, .val (.long x1), .second, .val (.long y1), .second, .val (.long x2), .second, .val (.long y2), .second, .val (.ref ax), .val (.ref ay), .val (.long (0 : Int64)), .second, .unset, .unset] [(.long (0 : Int64))])
    refine Goes.of (fun _ kont => XT.lload X7.here hx rfl (Jvm.hb hby at_80) rfl kont) ?_
    show Goes p e below _ T7 (mkF m 82 #[.val (.int p1), .val (.int p2), .val (.int p3), .val (.int p4), .val (.int (1 : Int32)), .val (.long x0), .second, .val (.long y0), .second, .val (.long x1), .second, .val (.long y1), .second, .val (.long x2), .second, .val (.long y2), .second, .val (.ref ax), .val (.ref ay), .val (.long (0 : Int64)), .second, .unset, .unset] [(.long x0), (.long (0 : Int64))])
    refine Goes.of (fun _ kont => XT.lload X7.here hx rfl (Jvm.hb hby at_82) rfl kont) ?_
    show Goes p e below _ T7 (mkF m 84 #[.val (.int p1), .val (.int p2), .val (.int p3), .val (.int p4), .val (.int (1 : Int32)), .val (.long x0), .second, .val (.long y0), .second, .val (.long x1), .second, .val (.long y1), .second, .val (.long x2), .second, .val (.long y2), .second, .val (.ref ax), .val (.ref ay), .val (.long (0 : Int64)), .second, .unset, .unset] [(.long y0), (.long x0), (.long (0 : Int64))])
    refine Goes.of (fun _ kont => XT.lsub X7.here hx rfl (Jvm.hb hby at_84) rfl kont) ?_
    show Goes p e below _ T7 (mkF m 85 #[.val (.int p1), .val (.int p2), .val (.int p3), .val (.int p4), .val (.int (1 : Int32)), .val (.long x0), .second, .val (.long y0), .second, .val (.long x1), .second, .val (.long y1), .second, .val (.long x2), .second, .val (.long y2), .second, .val (.ref ax), .val (.ref ay), .val (.long (0 : Int64)), .second, .unset, .unset] [(.long (x0 - y0)), (.long (0 : Int64))])
    refine Goes.of (fun _ kont => XT.lload X7.here hx rfl (Jvm.hb hby at_85) rfl kont) ?_
    show Goes p e below _ T7 (mkF m 87 #[.val (.int p1), .val (.int p2), .val (.int p3), .val (.int p4), .val (.int (1 : Int32)), .val (.long x0), .second, .val (.long y0), .second, .val (.long x1), .second, .val (.long y1), .second, .val (.long x2), .second, .val (.long y2), .second, .val (.ref ax), .val (.ref ay), .val (.long (0 : Int64)), .second, .unset, .unset] [(.long x0), (.long (x0 - y0)), (.long (0 : Int64))])
    refine Goes.of (fun _ kont => XT.lload X7.here hx rfl (Jvm.hb hby at_87) rfl kont) ?_
    show Goes p e below _ T7 (mkF m 89 #[.val (.int p1), .val (.int p2), .val (.int p3), .val (.int p4), .val (.int (1 : Int32)), .val (.long x0), .second, .val (.long y0), .second, .val (.long x1), .second, .val (.long y1), .second, .val (.long x2), .second, .val (.long y2), .second, .val (.ref ax), .val (.ref ay), .val (.long (0 : Int64)), .second, .unset, .unset] [(.long y0), (.long x0), (.long (x0 - y0)), (.long (0 : Int64))])
    refine Goes.of (fun _ kont => XT.lsub X7.here hx rfl (Jvm.hb hby at_89) rfl kont) ?_
    show Goes p e below _ T7 (mkF m 90 #[.val (.int p1), .val (.int p2), .val (.int p3), .val (.int p4), .val (.int (1 : Int32)), .val (.long x0), .second, .val (.long y0), .second, .val (.long x1), .second, .val (.long y1), .second, .val (.long x2), .second, .val (.long y2), .second, .val (.ref ax), .val (.ref ay), .val (.long (0 : Int64)), .second, .unset, .unset] [(.long (x0 - y0)), (.long (x0 - y0)), (.long (0 : Int64))])
    refine Goes.of (fun _ kont => XT.lmul X7.here hx rfl (Jvm.hb hby at_90) rfl kont) ?_
    show Goes p e below _ T7 (mkF m 91 #[.val (.int p1), .val (.int p2), .val (.int p3), .val (.int p4), .val (.int (1 : Int32)), .val (.long x0), .second, .val (.long y0), .second, .val (.long x1), .second, .val (.long y1), .second, .val (.long x2), .second, .val (.long y2), .second, .val (.ref ax), .val (.ref ay), .val (.long (0 : Int64)), .second, .unset, .unset] [(.long ((x0 - y0) * (x0 - y0))), (.long (0 : Int64))])
    refine Goes.of (fun _ kont => XT.ladd X7.here hx rfl (Jvm.hb hby at_91) rfl kont) ?_
    show Goes p e below _ T7 (mkF m 92 #[.val (.int p1), .val (.int p2), .val (.int p3), .val (.int p4), .val (.int (1 : Int32)), .val (.long x0), .second, .val (.long y0), .second, .val (.long x1), .second, .val (.long y1), .second, .val (.long x2), .second, .val (.long y2), .second, .val (.ref ax), .val (.ref ay), .val (.long (0 : Int64)), .second, .unset, .unset] [(.long ((0 : Int64) + ((x0 - y0) * (x0 - y0))))])
    generalize hrf1 : ((0 : Int64) + ((x0 - y0) * (x0 - y0))) = rf1
    show Goes p e below _ T7 (mkF m 92 #[.val (.int p1), .val (.int p2), .val (.int p3), .val (.int p4), .val (.int (1 : Int32)), .val (.long x0), .second, .val (.long y0), .second, .val (.long x1), .second, .val (.long y1), .second, .val (.long x2), .second, .val (.long y2), .second, .val (.ref ax), .val (.ref ay), .val (.long (0 : Int64)), .second, .unset, .unset] [(.long rf1)])
    have r1 := own_ref bx0 by0 (by omega) hrf1
    rw [r0] at r1
    refine Goes.of (fun _ kont => XT.lstore X7.here hx rfl (Jvm.hb hby at_92) rfl (l' := #[.val (.int p1), .val (.int p2), .val (.int p3), .val (.int p4), .val (.int (1 : Int32)), .val (.long x0), .second, .val (.long y0), .second, .val (.long x1), .second, .val (.long y1), .second, .val (.long x2), .second, .val (.long y2), .second, .val (.ref ax), .val (.ref ay), .val (.long rf1), .second, .unset, .unset]) rfl kont) ?_
    show Goes p e below _ T7 (mkF m 94 #[.val (.int p1), .val (.int p2), .val (.int p3), .val (.int p4), .val (.int (1 : Int32)), .val (.long x0), .second, .val (.long y0), .second, .val (.long x1), .second, .val (.long y1), .second, .val (.long x2), .second, .val (.long y2), .second, .val (.ref ax), .val (.ref ay), .val (.long rf1), .second, .unset, .unset] [])
    refine Goes.of (fun _ kont => XS.iload X7.here hx rfl (Jvm.hb hby at_94) rfl kont) ?_
    show Goes p e below _ T7 (mkF m 96 #[.val (.int p1), .val (.int p2), .val (.int p3), .val (.int p4), .val (.int (1 : Int32)), .val (.long x0), .second, .val (.long y0), .second, .val (.long x1), .second, .val (.long y1), .second, .val (.long x2), .second, .val (.long y2), .second, .val (.ref ax), .val (.ref ay), .val (.long rf1), .second, .unset, .unset] [(.int (1 : Int32))])
    refine Goes.of (fun _ kont => XS.iconst X7.here hx rfl (Jvm.hb hby at_96) kont) ?_
    show Goes p e below _ T7 (mkF m 97 #[.val (.int p1), .val (.int p2), .val (.int p3), .val (.int p4), .val (.int (1 : Int32)), .val (.long x0), .second, .val (.long y0), .second, .val (.long x1), .second, .val (.long y1), .second, .val (.long x2), .second, .val (.long y2), .second, .val (.ref ax), .val (.ref ay), .val (.long rf1), .second, .unset, .unset] [(.int (1 : Int32)), (.int (1 : Int32))])
    refine Goes.of (fun _ kont => XS.icmpYes X7.here hx rfl (pc0 := 97) (pc' := 130) rfl (Jvm.hb hby at_97) rfl (by decide) (by decide) (by decide) kont) ?_
    show Goes p e below _ T7 (mkF m 130 #[.val (.int p1), .val (.int p2), .val (.int p3), .val (.int p4), .val (.int (1 : Int32)), .val (.long x0), .second, .val (.long y0), .second, .val (.long x1), .second, .val (.long y1), .second, .val (.long x2), .second, .val (.long y2), .second, .val (.ref ax), .val (.ref ay), .val (.long rf1), .second, .unset, .unset] [])
    refine Goes.of (fun _ kont => XS.iload X7.here hx rfl (Jvm.hb hby at_130) rfl kont) ?_
    show Goes p e below _ T7 (mkF m 132 #[.val (.int p1), .val (.int p2), .val (.int p3), .val (.int p4), .val (.int (1 : Int32)), .val (.long x0), .second, .val (.long y0), .second, .val (.long x1), .second, .val (.long y1), .second, .val (.long x2), .second, .val (.long y2), .second, .val (.ref ax), .val (.ref ay), .val (.long rf1), .second, .unset, .unset] [(.int (1 : Int32))])
    refine Goes.of (fun _ kont => XS.iconst X7.here hx rfl (Jvm.hb hby at_132) kont) ?_
    show Goes p e below _ T7 (mkF m 133 #[.val (.int p1), .val (.int p2), .val (.int p3), .val (.int p4), .val (.int (1 : Int32)), .val (.long x0), .second, .val (.long y0), .second, .val (.long x1), .second, .val (.long y1), .second, .val (.long x2), .second, .val (.long y2), .second, .val (.ref ax), .val (.ref ay), .val (.long rf1), .second, .unset, .unset] [(.int (2 : Int32)), (.int (1 : Int32))])
    refine Goes.of (fun _ kont => XS.icmpYes X7.here hx rfl (pc0 := 133) (pc' := 166) rfl (Jvm.hb hby at_133) rfl (by decide) (by decide) (by decide) kont) ?_
    show Goes p e below _ T7 (mkF m 166 #[.val (.int p1), .val (.int p2), .val (.int p3), .val (.int p4), .val (.int (1 : Int32)), .val (.long x0), .second, .val (.long y0), .second, .val (.long x1), .second, .val (.long y1), .second, .val (.long x2), .second, .val (.long y2), .second, .val (.ref ax), .val (.ref ay), .val (.long rf1), .second, .unset, .unset] [])
    refine Goes.of (fun _ kont => XS.aload X7.here hx rfl (Jvm.hb hby at_166) rfl rfl kont) ?_
    show Goes p e below _ T7 (mkF m 168 #[.val (.int p1), .val (.int p2), .val (.int p3), .val (.int p4), .val (.int (1 : Int32)), .val (.long x0), .second, .val (.long y0), .second, .val (.long x1), .second, .val (.long y1), .second, .val (.long x2), .second, .val (.long y2), .second, .val (.ref ax), .val (.ref ay), .val (.long rf1), .second, .unset, .unset] [(.ref ax)])
    refine Goes.of (fun _ kont => XS.aload X7.here hx rfl (Jvm.hb hby at_168) rfl rfl kont) ?_
    show Goes p e below _ T7 (mkF m 170 #[.val (.int p1), .val (.int p2), .val (.int p3), .val (.int p4), .val (.int (1 : Int32)), .val (.long x0), .second, .val (.long y0), .second, .val (.long x1), .second, .val (.long y1), .second, .val (.long x2), .second, .val (.long y2), .second, .val (.ref ax), .val (.ref ay), .val (.long rf1), .second, .unset, .unset] [(.ref ay), (.ref ax)])
    refine callC X7 hx hZ hown (hw _ (List.mem_of_getElem? (i := 1) rfl)) (hw _ (List.mem_of_getElem? (i := 2) rfl)) (hw _ (List.mem_of_getElem? (i := 3) rfl)) (hw _ (List.mem_of_getElem? (i := 4) rfl)) (by decide) (as := [(.ref ax), (.ref ay)]) (rm1_1 l Z a0 hw ax ay (FP.l2d x0) (FP.l2d y0) x0.toInt y0.toInt h7 n0 Z7 V_ax_7 V_ay_7 Dx0 Dy0 bx0 by0) 0 (by decide) (by decide) e7 (by decide) (by decide) (g := mkF m 170 #[.val (.int p1), .val (.int p2), .val (.int p3), .val (.int p4), .val (.int (1 : Int32)), .val (.long x0), .second, .val (.long y0), .second, .val (.long x1), .second, .val (.long y1), .second, .val (.long x2), .second, .val (.long y2), .second, .val (.ref ax), .val (.ref ay), .val (.long rf1), .second, .unset, .unset] [(.ref ay), (.ref ax)]) rfl (by rw [hml]; rfl) (rest := []) (lenOf pd_0 rfl) rfl (by show 2 * 0 + _ ≤ _; exact Nat.le_of_eq rfl) (Jvm.hb hby at_170) ?_
    rintro _ T8 L8 X8 ⟨⟨z8, rfl, Dz8⟩, N8, e8⟩
    show Goes p e below _ T8 (mkF m 173 #[.val (.int p1), .val (.int p2), .val (.int p3), .val (.int p4), .val (.int (1 : Int32)), .val (.long x0), .second, .val (.long y0), .second, .val (.long x1), .second, .val (.long y1), .second, .val (.long x2), .second, .val (.long y2), .second, .val (.ref ax), .val (.ref ay), .val (.long rf1), .second, .unset, .unset] [(.double z8)])
    refine Goes.of (fun _ kont => XS.dstore X8.here hx rfl (Jvm.hb hby at_173) rfl (l' := #[.val (.int p1), .val (.int p2), .val (.int p3), .val (.int p4), .val (.int (1 : Int32)), .val (.long x0), .second, .val (.long y0), .second, .val (.long x1), .second, .val (.long y1), .second, .val (.long x2), .second, .val (.long y2), .second, .val (.ref ax), .val (.ref ay), .val (.long rf1), .second, .val (.double z8), .second]) rfl kont) ?_
    show Goes p e below _ T8 (mkF m 175 #[.val (.int p1), .val (.int p2), .val (.int p3), .val (.int p4), .val (.int (1 : Int32)), .val (.long x0), .second, .val (.long y0), .second, .val (.long x1), .second, .val (.long y1), .second, .val (.long x2), .second, .val (.long y2), .second, .val (.ref ax), .val (.ref ay), .val (.long rf1), .second, .val (.double z8), .second] [])
    refine Goes.of (fun _ kont => XS.dload X8.here hx rfl (Jvm.hb hby at_175) rfl kont) ?_
    show Goes p e below _ T8 (mkF m 177 #[.val (.int p1), .val (.int p2), .val (.int p3), .val (.int p4), .val (.int (1 : Int32)), .val (.long x0), .second, .val (.long y0), .second, .val (.long x1), .second, .val (.long y1), .second, .val (.long x2), .second, .val (.long y2), .second, .val (.ref ax), .val (.ref ay), .val (.long rf1), .second, .val (.double z8), .second] [(.double z8)])
    refine Goes.of (fun _ kont => XT.lload X8.here hx rfl (Jvm.hb hby at_177) rfl kont) ?_
    show Goes p e below _ T8 (mkF m 179 #[.val (.int p1), .val (.int p2), .val (.int p3), .val (.int p4), .val (.int (1 : Int32)), .val (.long x0), .second, .val (.long y0), .second, .val (.long x1), .second, .val (.long y1), .second, .val (.long x2), .second, .val (.long y2), .second, .val (.ref ax), .val (.ref ay), .val (.long rf1), .second, .val (.double z8), .second] [(.long rf1), (.double z8)])
    refine Goes.of (fun _ kont => XS.l2dS X8.here hx rfl (Jvm.hb hby at_179) rfl rfl kont) ?_
    show Goes p e below _ T8 (mkF m 180 #[.val (.int p1), .val (.int p2), .val (.int p3), .val (.int p4), .val (.int (1 : Int32)), .val (.long x0), .second, .val (.long y0), .second, .val (.long x1), .second, .val (.long y1), .second, .val (.long x2), .second, .val (.long y2), .second, .val (.ref ax), .val (.ref ay), .val (.long rf1), .second, .val (.double z8), .second] [(.double (FP.l2d rf1)), (.double z8)])
    refine Goes.of (fun _ kont => XS.dcmpS X8.here hx rfl (Jvm.hb hby at_180) rfl rfl kont) ?_
    show Goes p e below _ T8 (mkF m 181 #[.val (.int p1), .val (.int p2), .val (.int p3), .val (.int p4), .val (.int (1 : Int32)), .val (.long x0), .second, .val (.long y0), .second, .val (.long x1), .second, .val (.long y1), .second, .val (.long x2), .second, .val (.long y2), .second, .val (.ref ax), .val (.ref ay), .val (.long rf1), .second, .val (.double z8), .second] [(.int (cmpValue (FP.dcmp z8 (FP.l2d rf1)) .l))])
    have De := dy_l2d (n := rf1) (by have := own_sqb bx0 by0; rw [r1]; omega)
    rw [r1] at De
    refine Goes.of (fun _ kont => XS.ifNo X8.here hx rfl (Jvm.hb hby at_181) rfl (by rw [dy_eq Dz8 De rfl]; decide) kont) ?_
    show Goes p e below _ T8 (mkF m 184 #[.val (.int p1), .val (.int p2), .val (.int p3), .val (.int p4), .val (.int (1 : Int32)), .val (.long x0), .second, .val (.long y0), .second, .val (.long x1), .second, .val (.long y1), .second, .val (.long x2), .second, .val (.long y2), .second, .val (.ref ax), .val (.ref ay), .val (.long rf1), .second, .val (.double z8), .second] [])
    refine Goes.of (fun _ kont => XS.iconst X8.here hx rfl (Jvm.hb hby at_184) kont) ?_
    show Goes p e below _ T8 (mkF m 185 #[.val (.int p1), .val (.int p2), .val (.int p3), .val (.int p4), .val (.int (1 : Int32)), .val (.long x0), .second, .val (.long y0), .second, .val (.long x1), .second, .val (.long y1), .second, .val (.long x2), .second, .val (.long y2), .second, .val (.ref ax), .val (.ref ay), .val (.long rf1), .second, .val (.double z8), .second] [(.int (1 : Int32))])
    refine Goes.of (fun _ kont => XS.goto X8.here hx rfl (pc0 := 185) (pc' := 189) rfl (Jvm.hb hby at_185) (by decide) (by decide) kont) ?_
    show Goes p e below _ T8 (mkF m 189 #[.val (.int p1), .val (.int p2), .val (.int p3), .val (.int p4), .val (.int (1 : Int32)), .val (.long x0), .second, .val (.long y0), .second, .val (.long x1), .second, .val (.long y1), .second, .val (.long x2), .second, .val (.long y2), .second, .val (.ref ax), .val (.ref ay), .val (.long rf1), .second, .val (.double z8), .second] [(.int (1 : Int32))])
    exact retB X8 hx hlk (t := .boolean) hret (by simp) (Jvm.hb hby at_189) (by decide) (by decide) ⟨rfl, Fr.app N7 N8⟩
  · show Goes p e below _ T0 (mkF m 44 #[.val (.int p1), .val (.int p2), .val (.int p3), .val (.int p4), .val (.int (2 : Int32)), .val (.long x0), .second, .val (.long y0), .second, .val (.long x1), .second, .val (.long y1), .second, .val (.long x2), .second, .val (.long y2), .second, .unset, .unset, .unset, .unset, .unset, .unset] [])
    refine Goes.of (fun _ kont => XS.iload X0.here hx rfl (Jvm.hb hby at_44) rfl kont) ?_
    show Goes p e below _ T0 (mkF m 46 #[.val (.int p1), .val (.int p2), .val (.int p3), .val (.int p4), .val (.int (2 : Int32)), .val (.long x0), .second, .val (.long y0), .second, .val (.long x1), .second, .val (.long y1), .second, .val (.long x2), .second, .val (.long y2), .second, .unset, .unset, .unset, .unset, .unset, .unset] [(.int (2 : Int32))])
    refine goNewD X0 hx hZ (hw _ (List.mem_of_getElem? (i := 0) rfl)) e0 (g := mkF m 46 #[.val (.int p1), .val (.int p2), .val (.int p3), .val (.int p4), .val (.int (2 : Int32)), .val (.long x0), .second, .val (.long y0), .second, .val (.long x1), .second, .val (.long y1), .second, .val (.long x2), .second, .val (.long y2), .second, .unset, .unset, .unset, .unset, .unset, .unset] [(.int (2 : Int32))]) rfl (Jvm.hb hby at_46) rfl 2 (by decide) (by decide) (by decide) (by decide) ?_
    intro T9 h9 ax gax X9 e9 E9 V_ax
    have ge_ax : n0 ≤ ax := by rw [gax]; exact Z0
    have Z9 : n0 ≤ h9.size := Nat.le_trans Z0 E9.1
    show Goes p e below _ T9 (mkF m 48 #[.val (.int p1), .val (.int p2), .val (.int p3), .val (.int p4), .val (.int (2 : Int32)), .val (.long x0), .second, .val (.long y0), .second, .val (.long x1), .second, .val (.long y1), .second, .val (.long x2), .second, .val (.long y2), .second, .unset, .unset, .unset, .unset, .unset, .unset] [(.ref ax)])
    refine Goes.of (fun _ kont => XS.astore X9.here hx rfl (Jvm.hb hby at_48) rfl rfl (l' := #[.val (.int p1), .val (.int p2), .val (.int p3), .val (.int p4), .val (.int (2 : Int32)), .val (.long x0), .second, .val (.long y0), .second, .val (.long x1), .second, .val (.long y1), .second, .val (.long x2), .second, .val (.long y2), .second, .val (.ref ax), .unset, .unset, .unset, .unset, .unset]) rfl kont) ?_
    show Goes p e below _ T9 (mkF m 50 #[.val (.int p1), .val (.int p2), .val (.int p3), .val (.int p4), .val (.int (2 : Int32)), .val (.long x0), .second, .val (.long y0), .second, .val (.long x1), .second, .val (.long y1), .second, .val (.long x2), .second, .val (.long y2), .second, .val (.ref ax), .unset, .unset, .unset, .unset, .unset] [])
    refine Goes.of (fun _ kont => XS.iload X9.here hx rfl (Jvm.hb hby at_50) rfl kont) ?_
    show Goes p e below _ T9 (mkF m 52 #[.val (.int p1), .val (.int p2), .val (.int p3), .val (.int p4), .val (.int (2 : Int32)), .val (.long x0), .second, .val (.long y0), .second, .val (.long x1), .second, .val (.long y1), .second, .val (.long x2), .second, .val (.long y2), .second, .val (.ref ax), .unset, .unset, .unset, .unset, .unset] [(.int (2 : Int32))])
    refine goNewD X9 hx hZ (hw _ (List.mem_of_getElem? (i := 0) rfl)) e9 (g := mkF m 52 #[.val (.int p1), .val (.int p2), .val (.int p3), .val (.int p4), .val (.int (2 : Int32)), .val (.long x0), .second, .val (.long y0), .second, .val (.long x1), .second, .val (.long y1), .second, .val (.long x2), .second, .val (.long y2), .second, .val (.ref ax), .unset, .unset, .unset, .unset, .unset] [(.int (2 : Int32))]) rfl (Jvm.hb hby at_52) rfl 2 (by decide) (by decide) (by decide) (by decide) ?_
    intro T10 h10 ay gay X10 e10 E10 V_ay
    have ge_ay : n0 ≤ ay := by rw [gay]; exact Z9
    have Z10 : n0 ≤ h10.size := Nat.le_trans Z9 E10.1
    have ne_ax_ay : ax ≠ ay := by rw [gay]; exact Nat.ne_of_lt V_ax.lt
    have V_ax_10 := V_ax.ext E10
    show Goes p e below _ T10 (mkF m 54 #[.val (.int p1), .val (.int p2), .val (.int p3), .val (.int p4), .val (.int (2 : Int32)), .val (.long x0), .second, .val (.long y0), .second, .val (.long x1), .second, .val (.long y1), .second, .val (.long x2), .second, .val (.long y2), .second, .val (.ref ax), .unset, .unset, .unset, .unset, .unset] [(.ref ay)])
    refine Goes.of (fun _ kont => XS.astore X10.here hx rfl (Jvm.hb hby at_54) rfl rfl (l' := #[.val (.int p1), .val (.int p2), .val (.int p3), .val (.int p4), .val (.int (2 : Int32)), .val (.long x0), .second, .val (.long y0), .second, .val (.long x1), .second, .val (.long y1), .second, .val (.long x2), .second, .val (.long y2), .second, .val (.ref ax), .val (.ref ay), .unset, .unset, .unset, .unset]) rfl kont) ?_
    show Goes p e below _ T10 (mkF m 56 #[.val (.int p1), .val (.int p2), .val (.int p3), .val (.int p4), .val (.int (2 : Int32)), .val (.long x0), .second, .val (.long y0), .second, .val (.long x1), .second, .val (.long y1), .second, .val (.long x2), .second, .val (.long y2), .second, .val (.ref ax), .val (.ref ay), .unset, .unset, .unset, .unset] [])
    refine Goes.of (fun _ kont => XT.lconst X10.here hx rfl (Jvm.hb hby at_56) kont) ?_
    show Goes p e below _ T10 (mkF m 57 #[.val (.int p1), .val (.int p2), .val (.int p3), .val (.int p4), .val (.int (2 : Int32)), .val (.long x0), .second, .val (.long y0), .second, .val (.long x1), .second, .val (.long y1), .second, .val (.long x2), .second, .val (.long y2), .second, .val (.ref ax), .val (.ref ay), .unset, .unset, .unset, .unset] [(.long (0 : Int64))])
    refine Goes.of (fun _ kont => XT.lstore X10.here hx rfl (Jvm.hb hby at_57) rfl (l' := #[.val (.int p1), .val (.int p2), .val (.int p3), .val (.int p4), .val (.int (2 : Int32)), .val (.long x0), .second, .val (.long y0), .second, .val (.long x1), .second, .val (.long y1), .second, .val (.long x2), .second, .val (.long y2), .second, .val (.ref ax), .val (.ref ay), .val (.long (0 : Int64)), .second, .unset, .unset]) rfl kont) ?_
    show Goes p e below _ T10 (mkF m 59 #[.val (.int p1), .val (.int p2), .val (.int p3), .val (.int p4), .val (.int (2 : Int32)), .val (.long x0), .second, .val (.long y0), .second, .val (.long x1), .second, .val (.long y1), .second, .val (.long x2), .second, .val (.long y2), .second, .val (.ref ax), .val (.ref ay), .val (.long (0 : Int64)), .second, .unset, .unset] [])
    refine Goes.of (fun _ kont => XS.iload X10.here hx rfl (Jvm.hb hby at_59) rfl kont) ?_
    show Goes p e below _ T10 (mkF m 61 #[.val (.int p1), .val (.int p2), .val (.int p3), .val (.int p4), .val (.int (2 : Int32)), .val (.long x0), .second, .val (.long y0), .second, .val (.long x1), .second, .val (.long y1), .second, .val (.long x2), .second, .val (.long y2), .second, .val (.ref ax), .val (.ref ay), .val (.long (0 : Int64)), .second, .unset, .unset] [(.int (2 : Int32))])
    have r0 : (0 : Int64).toInt = 0 := by decide
    refine Goes.of (fun _ kont => XS.ifNo X10.here hx rfl (Jvm.hb hby at_61) rfl (by decide) kont) ?_
    show Goes p e below _ T10 (mkF m 64 #[.val (.int p1), .val (.int p2), .val (.int p3), .val (.int p4), .val (.int (2 : Int32)), .val (.long x0), .second, .val (.long y0), .second, .val (.long x1), .second, .val (.long y1), .second, .val (.long x2), .second, .val (.long y2), .second, .val (.ref ax), .val (.ref ay), .val (.long (0 : Int64)), .second, .unset, .unset] [])
    refine Goes.of (fun _ kont => XS.aload X10.here hx rfl (Jvm.hb hby at_64) rfl rfl kont) ?_
    show Goes p e below _ T10 (mkF m 66 #[.val (.int p1), .val (.int p2), .val (.int p3), .val (.int p4), .val (.int (2 : Int32)), .val (.long x0), .second, .val (.long y0), .second, .val (.long x1), .second, .val (.long y1), .second, .val (.long x2), .second, .val (.long y2), .second, .val (.ref ax), .val (.ref ay), .val (.long (0 : Int64)), .second, .unset, .unset] [(.ref ax)])
    refine Goes.of (fun _ kont => XS.iconst X10.here hx rfl (Jvm.hb hby at_66) kont) ?_
    show Goes p e below _ T10 (mkF m 67 #[.val (.int p1), .val (.int p2), .val (.int p3), .val (.int p4), .val (.int (2 : Int32)), .val (.long x0), .second, .val (.long y0), .second, .val (.long x1), .second, .val (.long y1), .second, .val (.long x2), .second, .val (.long y2), .second, .val (.ref ax), .val (.ref ay), .val (.long (0 : Int64)), .second, .unset, .unset] [(.int (0 : Int32)), (.ref ax)])
    refine Goes.of (fun _ kont => XT.lload X10.here hx rfl (Jvm.hb hby at_67) rfl kont) ?_
    show Goes p e below _ T10 (mkF m 69 #[.val (.int p1), .val (.int p2), .val (.int p3), .val (.int p4), .val (.int (2 : Int32)), .val (.long x0), .second, .val (.long y0), .second, .val (.long x1), .second, .val (.long y1), .second, .val (.long x2), .second, .val (.long y2), .second, .val (.ref ax), .val (.ref ay), .val (.long (0 : Int64)), .second, .unset, .unset] [(.long x0), (.int (0 : Int32)), (.ref ax)])
    refine Goes.of (fun _ kont => XS.l2dS X10.here hx rfl (Jvm.hb hby at_69) rfl rfl kont) ?_
    show Goes p e below _ T10 (mkF m 70 #[.val (.int p1), .val (.int p2), .val (.int p3), .val (.int p4), .val (.int (2 : Int32)), .val (.long x0), .second, .val (.long y0), .second, .val (.long x1), .second, .val (.long y1), .second, .val (.long x2), .second, .val (.long y2), .second, .val (.ref ax), .val (.ref ay), .val (.long (0 : Int64)), .second, .unset, .unset] [(.double (FP.l2d x0)), (.int (0 : Int32)), (.ref ax)])
    refine goStD X10 hx hZ e10 V_ax_10 0 (by decide) (by show 0 < 2; decide) (g := (mkF m 70 #[.val (.int p1), .val (.int p2), .val (.int p3), .val (.int p4), .val (.int (2 : Int32)), .val (.long x0), .second, .val (.long y0), .second, .val (.long x1), .second, .val (.long y1), .second, .val (.long x2), .second, .val (.long y2), .second, .val (.ref ax), .val (.ref ay), .val (.long (0 : Int64)), .second, .unset, .unset] [(.double (FP.l2d x0)), (.int (0 : Int32)), (.ref ax)])) rfl rfl (Jvm.hb hby at_70) N0 ge_ax ?_
    intro T11 h11 L11 X11 e11 N11 K11 V_ax_11
    replace V_ax_11 : DA Z h11 ax [(FP.l2d x0), 0] := V_ax_11
    have V_ay_11 := K11 _ _ (Ne.symm ne_ax_ay) V_ay
    have Z11 : n0 ≤ h11.size := Nat.le_trans ge_ax (Nat.le_of_lt V_ax_11.lt)
    show Goes p e below _ T11 (mkF m 71 #[.val (.int p1), .val (.int p2), .val (.int p3), .val (.int p4), .val (.int (2 : Int32)), .val (.long x0), .second, .val (.long y0), .second, .val (.long x1), .second, .val (.long y1), .second, .val (.long x2), .second, .val (.long y2), .second, .val (.ref ax), .val (.ref ay), .val (.long (0 : Int64)), .second, .unset, .unset] [])
    refine Goes.of (fun _ kont => XS.aload X11.here hx rfl (Jvm.hb hby at_71) rfl rfl kont) ?_
    show Goes p e below _ T11 (mkF m 73 #[.val (.int p1), .val (.int p2), .val (.int p3), .val (.int p4), .val (.int (2 : Int32)), .val (.long x0), .second, .val (.long y0), .second, .val (.long x1), .second, .val (.long y1), .second, .val (.long x2), .second, .val (.long y2), .second, .val (.ref ax), .val (.ref ay), .val (.long (0 : Int64)), .second, .unset, .unset] [(.ref ay)])
    refine Goes.of (fun _ kont => XS.iconst X11.here hx rfl (Jvm.hb hby at_73) kont) ?_
    show Goes p e below _ T11 (mkF m 74 #[.val (.int p1), .val (.int p2), .val (.int p3), .val (.int p4), .val (.int (2 : Int32)), .val (.long x0), .second, .val (.long y0), .second, .val (.long x1), .second, .val (.long y1), .second, .val (.long x2), .second, .val (.long y2), .second, .val (.ref ax), .val (.ref ay), .val (.long (0 : Int64)), .second, .unset, .unset] [(.int (0 : Int32)), (.ref ay)])
    refine Goes.of (fun _ kont => XT.lload X11.here hx rfl (Jvm.hb hby at_74) rfl kont) ?_
    show Goes p e below _ T11 (mkF m 76 #[.val (.int p1), .val (.int p2), .val (.int p3), .val (.int p4), .val (.int (2 : Int32)), .val (.long x0), .second, .val (.long y0), .second, .val (.long x1), .second, .val (.long y1), .second, .val (.long x2), .second, .val (.long y2), .second, .val (.ref ax), .val (.ref ay), .val (.long (0 : Int64)), .second, .unset, .unset] [(.long y0), (.int (0 : Int32)), (.ref ay)])
    refine Goes.of (fun _ kont => XS.l2dS X11.here hx rfl (Jvm.hb hby at_76) rfl rfl kont) ?_
    show Goes p e below _ T11 (mkF m 77 #[.val (.int p1), .val (.int p2), .val (.int p3), .val (.int p4), .val (.int (2 : Int32)), .val (.long x0), .second, .val (.long y0), .second, .val (.long x1), .second, .val (.long y1), .second, .val (.long x2), .second, .val (.long y2), .second, .val (.ref ax), .val (.ref ay), .val (.long (0 : Int64)), .second, .unset, .unset] [(.double (FP.l2d y0)), (.int (0 : Int32)), (.ref ay)])
    refine goStD X11 hx hZ e11 V_ay_11 0 (by decide) (by show 0 < 2; decide) (g := (mkF m 77 #[.val (.int p1), .val (.int p2), .val (.int p3), .val (.int p4), .val (.int (2 : Int32)), .val (.long x0), .second, .val (.long y0), .second, .val (.long x1), .second, .val (.long y1), .second, .val (.long x2), .second, .val (.long y2), .second, .val (.ref ax), .val (.ref ay), .val (.long (0 : Int64)), .second, .unset, .unset] [(.double (FP.l2d y0)), (.int (0 : Int32)), (.ref ay)])) rfl rfl (Jvm.hb hby at_77) N11 ge_ay ?_
    intro T12 h12 L12 X12 e12 N12 K12 V_ay_12
    replace V_ay_12 : DA Z h12 ay [(FP.l2d y0), 0] := V_ay_12
    have V_ax_12 := K12 _ _ ne_ax_ay V_ax_11
    have Z12 : n0 ≤ h12.size := Nat.le_trans ge_ay (Nat.le_of_lt V_ay_12.lt)
    show Goes p e below _ T12 (mkF m 78 #[.val (.int p1), .val (.int p2), .val (.int p3), .val (.int p4), .val (.int (2 : Int32)), .val (.long x0), .second, .val (.long y0), .second, .val (.long x1), .second, .val (.long y1), .second, .val (.long x2), .second, .val (.long y2), .second, .val (.ref ax), .val (.ref ay), .val (.long (0 : Int64)), .second, .unset, .unset] [])
    refine Goes.of (fun _ kont => XT.lload X12.here hx rfl (Jvm.hb hby at_78) rfl kont) ?_
    show Goes p e below _ T12 (mkF m 80 #[.val (.int p1), .val (.int p2), .val (.int p3), .val (.int p4), .val (.int (2 : Int32)), .val (.long x0), .second, .val (.long y0), .second, .val (.long x1), .second, .val (.long y1), .second, .val (.long x2), .second, .val (.long y2), .second, .val (.ref ax), .val (.ref ay), .val (.long (0 : Int64)), .second, .unset, .unset] [(.long (0 : Int64))])
    refine Goes.of (fun _ kont => XT.lload X12.here hx rfl (Jvm.hb hby at_80) rfl kont) ?_
    show Goes p e below _ T12 (mkF m 82 #[.val (.int p1), .val (.int p2), .val (.int p3), .val (.int p4), .val (.int (2 : Int32)), .val (.long x0), .second, .val (.long y0), .second, .val (.long x1), .second, .val (.long y1), .second, .val (.long x2), .second, .val (.long y2), .second, .val (.ref ax), .val (.ref ay), .val (.long (0 : Int64)), .second, .unset, .unset] [(.long x0), (.long (0 : Int64))])
    refine Goes.of (fun _ kont => XT.lload X12.here hx rfl (Jvm.hb hby at_82) rfl kont) ?_
    show Goes p e below _ T12 (mkF m 84 #[.val (.int p1), .val (.int p2), .val (.int p3), .val (.int p4), .val (.int (2 : Int32)), .val (.long x0), .second, .val (.long y0), .second, .val (.long x1), .second, .val (.long y1), .second, .val (.long x2), .second, .val (.long y2), .second, .val (.ref ax), .val (.ref ay), .val (.long (0 : Int64)), .second, .unset, .unset] [(.long y0), (.long x0), (.long (0 : Int64))])
    refine Goes.of (fun _ kont => XT.lsub X12.here hx rfl (Jvm.hb hby at_84) rfl kont) ?_
    show Goes p e below _ T12 (mkF m 85 #[.val (.int p1), .val (.int p2), .val (.int p3), .val (.int p4), .val (.int (2 : Int32)), .val (.long x0), .second, .val (.long y0), .second, .val (.long x1), .second, .val (.long y1), .second, .val (.long x2), .second, .val (.long y2), .second, .val (.ref ax), .val (.ref ay), .val (.long (0 : Int64)), .second, .unset, .unset] [(.long (x0 - y0)), (.long (0 : Int64))])
    refine Goes.of (fun _ kont => XT.lload X12.here hx rfl (Jvm.hb hby at_85) rfl kont) ?_
    show Goes p e below _ T12 (mkF m 87 #[.val (.int p1), .val (.int p2), .val (.int p3), .val (.int p4), .val (.int (2 : Int32)), .val (.long x0), .second, .val (.long y0), .second, .val (.long x1), .second, .val (.long y1), .second, .val (.long x2), .second, .val (.long y2), .second, .val (.ref ax), .val (.ref ay), .val (.long (0 : Int64)), .second, .unset, .unset] [(.long x0), (.long (x0 - y0)), (.long (0 : Int64))])
    refine Goes.of (fun _ kont => XT.lload X12.here hx rfl (Jvm.hb hby at_87) rfl kont) ?_
    show Goes p e below _ T12 (mkF m 89 #[.val (.int p1), .val (.int p2), .val (.int p3), .val (.int p4), .val (.int (2 : Int32)), .val (.long x0), .second, .val (.long y0), .second, .val (.long x1), .second, .val (.long y1), .second, .val (.long x2), .second, .val (.long y2), .second, .val (.ref ax), .val (.ref ay), .val (.long (0 : Int64)), .second, .unset, .unset] [(.long y0), (.long x0), (.long (x0 - y0)), (.long (0 : Int64))])
    refine Goes.of (fun _ kont => XT.lsub X12.here hx rfl (Jvm.hb hby at_89) rfl kont) ?_
    show Goes p e below _ T12 (mkF m 90 #[.val (.int p1), .val (.int p2), .val (.int p3), .val (.int p4), .val (.int (2 : Int32)), .val (.long x0), .second, .val (.long y0), .second, .val (.long x1), .second, .val (.long y1), .second, .val (.long x2), .second, .val (.long y2), .second, .val (.ref ax), .val (.ref ay), .val (.long (0 : Int64)), .second, .unset, .unset] [(.long (x0 - y0)), (.long (x0 - y0)), (.long (0 : Int64))])
    refine Goes.of (fun _ kont => XT.lmul X12.here hx rfl (Jvm.hb hby at_90) rfl kont) ?_
    show Goes p e below _ T12 (mkF m 91 #[.val (.int p1), .val (.int p2), .val (.int p3), .val (.int p4), .val (.int (2 : Int32)), .val (.long x0), .second, .val (.long y0), .second, .val (.long x1), .second, .val (.long y1), .second, .val (.long x2), .second, .val (.long y2), .second, .val (.ref ax), .val (.ref ay), .val (.long (0 : Int64)), .second, .unset, .unset] [(.long ((x0 - y0) * (x0 - y0))), (.long (0 : Int64))])
    refine Goes.of (fun _ kont => XT.ladd X12.here hx rfl (Jvm.hb hby at_91) rfl kont) ?_
    show Goes p e below _ T12 (mkF m 92 #[.val (.int p1), .val (.int p2), .val (.int p3), .val (.int p4), .val (.int (2 : Int32)), .val (.long x0), .second, .val (.long y0), .second, .val (.long x1), .second, .val (.long y1), .second, .val (.long x2), .second, .val (.long y2), .second, .val (.ref ax), .val (.ref ay), .val (.long (0 : Int64)), .second, .unset, .unset] [(.long ((0 : Int64) + ((x0 - y0) * (x0 - y0))))])
    generalize hrf1 : ((0 : Int64) + ((x0 - y0) * (x0 - y0))) = rf1
    show Goes p e below _ T12 (mkF m 92 #[.val (.int p1), .val (.int p2), .val (.int p3), .val (.int p4), .val (.int (2 : Int32)), .val (.long x0), .second, .val (.long y0), .second, .val (.long x1), .second, .val (.long y1), .second, .val (.long x2), .second, .val (.long y2), .second, .val (.ref ax), .val (.ref ay), .val (.long (0 : Int64)), .second, .unset, .unset] [(.long rf1)])
    have r1 := own_ref bx0 by0 (by omega) hrf1
    rw [r0] at r1
    refine Goes.of (fun _ kont => XT.lstore X12.here hx rfl (Jvm.hb hby at_92) rfl (l' := #[.val (.int p1), .val (.int p2), .val (.int p3), .val (.int p4), .val (.int (2 : Int32)), .val (.long x0), .second, .val (.long y0), .second, .val (.long x1), .second, .val (.long y1), .second, .val (.long x2), .second, .val (.long y2), .second, .val (.ref ax), .val (.ref ay), .val (.long rf1), .second, .unset, .unset]) rfl kont) ?_
    show Goes p e below _ T12 (mkF m 94 #[.val (.int p1), .val (.int p2), .val (.int p3), .val (.int p4), .val (.int (2 : Int32)), .val (.long x0), .second, .val (.long y0), .second, .val (.long x1), .second, .val (.long y1), .second, .val (.long x2), .second, .val (.long y2), .second, .val (.ref ax), .val (.ref ay), .val (.long rf1), .second, .unset, .unset] [])
    refine Goes.of (fun _ kont => XS.iload X12.here hx rfl (Jvm.hb hby at_94) rfl kont) ?_
    show Goes p e below _ T12 (mkF m 96 #[.val (.int p1), .val (.int p2), .val (.int p3), .val (.int p4), .val (.int (2 : Int32)), .val (.long x0), .second, .val (.long y0), .second, .val (.long x1), .second, .val (.long y1), .second, .val (.long x2), .second, .val (.long y2), .second, .val (.ref ax), .val (.ref ay), .val (.long rf1), .second, .unset, .unset] [(.int (2 : Int32))])
    refine Goes.of (fun _ kont => XS.iconst X12.here hx rfl (Jvm.hb hby at_96) kont) ?_
    show Goes p e below _ T12 (mkF m 97 #[.val (.int p1), .val (.int p2), .val (.int p3), .val (.int p4), .val (.int (2 : Int32)), .val (.long x0), .second, .val (.long y0), .second, .val (.long x1), .second, .val (.long y1), .second, .val (.long x2), .second, .val (.long y2), .second, .val (.ref ax), .val (.ref ay), .val (.long rf1), .second, .unset, .unset] [(.int (1 : Int32)), (.int (2 : Int32))])
    refine Goes.of (fun _ kont => XS.icmpNo X12.here hx rfl (Jvm.hb hby at_97) rfl (by decide) kont) ?_
    show Goes p e below _ T12 (mkF m 100 #[.val (.int p1), .val (.int p2), .val (.int p3), .val (.int p4), .val (.int (2 : Int32)), .val (.long x0), .second, .val (.long y0), .second, .val (.long x1), .second, .val (.long y1), .second, .val (.long x2), .second, .val (.long y2), .second, .val (.ref ax), .val (.ref ay), .val (.long rf1), .second, .unset, .unset] [])
    refine Goes.of (fun _ kont => XS.aload X12.here hx rfl (Jvm.hb hby at_100) rfl rfl kont) ?_
    show Goes p e below _ T12 (mkF m 102 #[.val (.int p1), .val (.int p2), .val (.int p3), .val (.int p4), .val (.int (2 : Int32)), .val (.long x0), .second, .val (.long y0), .second, .val (.long x1), .second, .val (.long y1), .second, .val (.long x2), .second, .val (.long y2), .second, .val (.ref ax), .val (.ref ay), .val (.long rf1), .second, .unset, .unset] [(.ref ax)])
    refine Goes.of (fun _ kont => XS.iconst X12.here hx rfl (Jvm.hb hby at_102) kont) ?_
    show Goes p e below _ T12 (mkF m 103 #[.val (.int p1), .val (.int p2), .val (.int p3), .val (.int p4), .val (.int (2 : Int32)), .val (.long x0), .second, .val (.long y0), .second, .val (.long x1), .second, .val (.long y1), .second, .val (.long x2), .second, .val (.long y2), .second, .val (.ref ax), .val (.ref ay), .val (.long rf1), .second, .unset, .unset] [(.int (1 : Int32)), (.ref ax)])
    refine Goes.of (fun _ kont => XT.lload X12.here hx rfl (Jvm.hb hby at_103) rfl kont) ?_
    show Goes p e below _ T12 (mkF m 105 #[.val (.int p1), .val (.int p2), .val (.int p3), .val (.int p4), .val (.int (2 : Int32)), .val (.long x0), .second, .val (.long y0), .second, .val (.long x1), .second, .val (.long y1), .second, .val (.long x2), .second, .val (.long y2), .second, .val (.ref ax), .val (.ref ay), .val (.long rf1), .second, .unset, .unset] [(.long x1), (.int (1 : Int32)), (.ref ax)])
    refine Goes.of (fun _ kont => XS.l2dS X12.here hx rfl (Jvm.hb hby at_105) rfl rfl kont) ?_
    show Goes p e below _ T12 (mkF m 106 #[.val (.int p1), .val (.int p2), .val (.int p3), .val (.int p4), .val (.int (2 : Int32)), .val (.long x0), .second, .val (.long y0), .second, .val (.long x1), .second, .val (.long y1), .second, .val (.long x2), .second, .val (.long y2), .second, .val (.ref ax), .val (.ref ay), .val (.long rf1), .second, .unset, .unset] [(.double (FP.l2d x1)), (.int (1 : Int32)), (.ref ax)])
    refine goStD X12 hx hZ e12 V_ax_12 1 (by decide) (by show 1 < 2; decide) (g := (mkF m 106 #[.val (.int p1), .val (.int p2), .val (.int p3), .val (.int p4), .val (.int (2 : Int32)), .val (.long x0), .second, .val (.long y0), .second, .val (.long x1), .second, .val (.long y1), .second, .val (.long x2), .second, .val (.long y2), .second, .val (.ref ax), .val (.ref ay), .val (.long rf1), .second, .unset, .unset] [(.double (FP.l2d x1)), (.int (1 : Int32)), (.ref ax)])) rfl rfl (Jvm.hb hby at_106) N12 ge_ax ?_
    intro T13 h13 L13 X13 e13 N13 K13 V_ax_13
    replace V_ax_13 : DA Z h13 ax [(FP.l2d x0), (FP.l2d x1)] := V_ax_13
    have V_ay_13 := K13 _ _ (Ne.symm ne_ax_ay) V_ay_12
    have Z13 : n0 ≤ h13.size := Nat.le_trans ge_ax (Nat.le_of_lt V_ax_13.lt)
    show Goes p e below _ T13 (mkF m 107 #[.val (.int p1), .val (.int p2), .val (.int p3), .val (.int p4), .val (.int (2 : Int32)), .val (.long x0), .second, .val (.long y0), .second, .val (.long x1), .second, .val (.long y1), .second, .val (.long x2), .second, .val (.long y2), .second, .val (.ref ax), .val (.ref ay), .val (.long rf1), .second, .unset, .unset] [])
    refine Goes.of (fun _ kont => XS.aload X13.here hx rfl (Jvm.hb hby at_107) rfl rfl kont) ?_
    show Goes p e below _ T13 (mkF m 109 #[.val (.int p1), .val (.int p2), .val (.int p3), .val (.int p4), .val (.int (2 : Int32)), .val (.long x0), .second, .val (.long y0), .second, .val (.long x1), .second, .val (.long y1), .second, .val (.long x2), .second, .val (.long y2), .second, .val (.ref ax), .val (.ref ay), .val (.long rf1), .second, .unset, .unset] [(.ref ay)])
    refine Goes.of (fun _ kont => XS.iconst X13.here hx rfl (Jvm.hb hby at_109) kont) ?_
    show Goes p e below _ T13 (mkF m 110 #[.val (.int p1), .val (.int p2), .val (.int p3), .val (.int p4), .val (.int (2 : Int32)), .val (.long x0), .second, .val (.long y0), .second, .val (.long x1), .second, .val (.long y1), .second, .val (.long x2), .second, .val (.long y2), .second, .val (.ref ax), .val (.ref ay), .val (.long rf1), .second, .unset, .unset] [(.int (1 : Int32)), (.ref ay)])
    refine Goes.of (fun _ kont => XT.lload X13.here hx rfl (Jvm.hb hby at_110) rfl kont) ?_
    show Goes p e below _ T13 (mkF m 112 #[.val (.int p1), .val (.int p2), .val (.int p3), .val (.int p4), .val (.int (2 : Int32)), .val (.long x0), .second, .val (.long y0), .second, .val (.long x1), .second, .val (.long y1), .second, .val (.long x2), .second, .val (.long y2), .second, .val (.ref ax), .val (.ref ay), .val (.long rf1), .second, .unset, .unset] [(.long y1), (.int (1 : Int32)), (.ref ay)])
    refine Goes.of (fun _ kont => XS.l2dS X13.here hx rfl (Jvm.hb hby at_112) rfl rfl kont) ?_
    show Goes p e below _ T13 (mkF m 113 #[.val (.int p1), .val (.int p2), .val (.int p3), .val (.int p4), .val (.int (2 : Int32)), .val (.long x0), .second, .val (.long y0), .second, .val (.long x1), .second, .val (.long y1), .second, .val (.long x2), .second, .val (.long y2), .second, .val (.ref ax), .val (.ref ay), .val (.long rf1), .second, .unset, .unset] [(.double (FP.l2d y1)), (.int (1 : Int32)), (.ref ay)])
    refine goStD X13 hx hZ e13 V_ay_13 1 (by decide) (by show 1 < 2; decide) (g := (mkF m 113 #[.val (.int p1), .val (.int p2), .val (.int p3), .val (.int p4), .val (.int (2 : Int32)), .val (.long x0), .second, .val (.long y0), .second, .val (.long x1), .second, .val (.long y1), .second, .val (.long x2), .second, .val (.long y2), .second, .val (.ref ax), .val (.ref ay), .val (.long rf1), .second, .unset, .unset] [(.double (FP.l2d y1)), (.int (1 : Int32)), (.ref ay)])) rfl rfl (Jvm.hb hby at_113) N13 ge_ay ?_
    intro T14 h14 L14 X14 e14 N14 K14 V_ay_14
    replace V_ay_14 : DA Z h14 ay [(FP.l2d y0), (FP.l2d y1)] := V_ay_14
    have V_ax_14 := K14 _ _ ne_ax_ay V_ax_13
    have Z14 : n0 ≤ h14.size := Nat.le_trans ge_ay (Nat.le_of_lt V_ay_14.lt)
    show Goes p e below _ T14 (mkF m 114 #[.val (.int p1), .val (.int p2), .val (.int p3), .val (.int p4), .val (.int (2 : Int32)), .val (.long x0), .second, .val (.long y0), .second, .val (.long x1), .second, .val (.long y1), .second, .val (.long x2), .second, .val (.long y2), .second, .val (.ref ax), .val (.ref ay), .val (.long rf1), .second, .unset, .unset] [])
    refine Goes.of (fun _ kont => XT.lload X14.here hx rfl (Jvm.hb hby at_114) rfl kont) ?_
    show Goes p e below _ T14 (mkF m 116 #[.val (.int p1), .val (.int p2), .val (.int p3), .val (.int p4), .val (.int (2 : Int32)), .val (.long x0), .second, .val (.long y0), .second, .val (.long x1), .second, .val (.long y1), .second, .val (.long x2), .second, .val (.long y2), .second, .val (.ref ax), .val (.ref ay), .val (.long rf1), .second, .unset, .unset] [(.long rf1)])
    refine Goes.of (fun _ kont => XT.lload X14.here hx rfl (Jvm.hb hby at_116) rfl kont) ?_
    show Goes p e below _ T14 (mkF m 118 #[.val (.int p1), .val (.int p2), .val (.int p3), .val (.int p4), .val (.int (2 : Int32)), .val (.long x0), .second, .val (.long y0), .second, .val (.long x1), .second, .val (.long y1), .second, .val (.long x2), .second, .val (.long y2), .second, .val (.ref ax), .val (.ref ay), .val (.long rf1), .second, .unset, .unset] [(.long x1), (.long rf1)])
    refine Goes.of (fun _ kont => XT.lload X14.here hx rfl (Jvm.hb hby at_118) rfl kont) ?_
    show Goes p e below _ T14 (mkF m 120 #[.val (.int p1), .val (.int p2), .val (.int p3), .val (.int p4), .val (.int (2 : Int32)), .val (.long x0), .second, .val (.long y0), .second, .val (.long x1), .second, .val (.long y1), .second, .val (.long x2), .second, .val (.long y2), .second, .val (.ref ax), .val (.ref ay), .val (.long rf1), .second, .unset, .unset] [(.long y1), (.long x1), (.long rf1)])
    refine Goes.of (fun _ kont => XT.lsub X14.here hx rfl (Jvm.hb hby at_120) rfl kont) ?_
    show Goes p e below _ T14 (mkF m 121 #[.val (.int p1), .val (.int p2), .val (.int p3), .val (.int p4), .val (.int (2 : Int32)), .val (.long x0), .second, .val (.long y0), .second, .val (.long x1), .second, .val (.long y1), .second, .val (.long x2), .second, .val (.long y2), .second, .val (.ref ax), .val (.ref ay), .val (.long rf1), .second, .unset, .unset] [(.long (x1 - y1)), (.long rf1)])
    refine Goes.of (fun _ kont => XT.lload X14.here hx rfl (Jvm.hb hby at_121) rfl kont) ?_
    show Goes p e below _ T14 (mkF m 123 #[.val (.int p1), .val (.int p2), .val (.int p3), .val (.int p4), .val (.int (2 : Int32)), .val (.long x0), .second, .val (.long y0), .second, .val (.long x1), .second, .val (.long y1), .second, .val (.long x2), .second, .val (.long y2), .second, .val (.ref ax), .val (.ref ay), .val (.long rf1), .second, .unset, .unset] [(.long x1), (.long (x1 - y1)), (.long rf1)])
    refine Goes.of (fun _ kont => XT.lload X14.here hx rfl (Jvm.hb hby at_123) rfl kont) ?_
    show Goes p e below _ T14 (mkF m 125 #[.val (.int p1), .val (.int p2), .val (.int p3), .val (.int p4), .val (.int (2 : Int32)), .val (.long x0), .second, .val (.long y0), .second, .val (.long x1), .second, .val (.long y1), .second, .val (.long x2), .second, .val (.long y2), .second, .val (.ref ax), .val (.ref ay), .val (.long rf1), .second, .unset, .unset] [(.long y1), (.long x1), (.long (x1 - y1)), (.long rf1)])
    refine Goes.of (fun _ kont => XT.lsub X14.here hx rfl (Jvm.hb hby at_125) rfl kont) ?_
    show Goes p e below _ T14 (mkF m 126 #[.val (.int p1), .val (.int p2), .val (.int p3), .val (.int p4), .val (.int (2 : Int32)), .val (.long x0), .second, .val (.long y0), .second, .val (.long x1), .second, .val (.long y1), .second, .val (.long x2), .second, .val (.long y2), .second, .val (.ref ax), .val (.ref ay), .val (.long rf1), .second, .unset, .unset] [(.long (x1 - y1)), (.long (x1 - y1)), (.long rf1)])
    refine Goes.of (fun _ kont => XT.lmul X14.here hx rfl (Jvm.hb hby at_126) rfl kont) ?_
    show Goes p e below _ T14 (mkF m 127 #[.val (.int p1), .val (.int p2), .val (.int p3), .val (.int p4), .val (.int (2 : Int32)), .val (.long x0), .second, .val (.long y0), .second, .val (.long x1), .second, .val (.long y1), .second, .val (.long x2), .second, .val (.long y2), .second, .val (.ref ax), .val (.ref ay), .val (.long rf1), .second, .unset, .unset] [(.long ((x1 - y1) * (x1 - y1))), (.long rf1)])
    refine Goes.of (fun _ kont => XT.ladd X14.here hx rfl (Jvm.hb hby at_127) rfl kont) ?_
    show Goes p e below _ T14 (mkF m 128 #[.val (.int p1), .val (.int p2), .val (.int p3), .val (.int p4), .val (.int (2 : Int32)), .val (.long x0), .second, .val (.long y0), .second, .val (.long x1), .second, .val (.long y1), .second, .val (.long x2), .second, .val (.long y2), .second, .val (.ref ax), .val (.ref ay), .val (.long rf1), .second, .unset, .unset] [(.long (rf1 + ((x1 - y1) * (x1 - y1))))])
    generalize hrf2 : (rf1 + ((x1 - y1) * (x1 - y1))) = rf2
    show Goes p e below _ T14 (mkF m 128 #[.val (.int p1), .val (.int p2), .val (.int p3), .val (.int p4), .val (.int (2 : Int32)), .val (.long x0), .second, .val (.long y0), .second, .val (.long x1), .second, .val (.long y1), .second, .val (.long x2), .second, .val (.long y2), .second, .val (.ref ax), .val (.ref ay), .val (.long rf1), .second, .unset, .unset] [(.long rf2)])
    have r2 := own_ref bx1 by1 (by have := own_sqb bx0 by0; omega) hrf2
    rw [r1] at r2
    refine Goes.of (fun _ kont => XT.lstore X14.here hx rfl (Jvm.hb hby at_128) rfl (l' := #[.val (.int p1), .val (.int p2), .val (.int p3), .val (.int p4), .val (.int (2 : Int32)), .val (.long x0), .second, .val (.long y0), .second, .val (.long x1), .second, .val (.long y1), .second, .val (.long x2), .second, .val (.long y2), .second, .val (.ref ax), .val (.ref ay), .val (.long rf2), .second, .unset, .unset]) rfl kont) ?_
    show Goes p e below _ T14 (mkF m 130 #[.val (.int p1), .val (.int p2), .val (.int p3), .val (.int p4), .val (.int (2 : Int32)), .val (.long x0), .second, .val (.long y0), .second, .val (.long x1), .second, .val (.long y1), .second, .val (.long x2), .second, .val (.long y2), .second, .val (.ref ax), .val (.ref ay), .val (.long rf2), .second, .unset, .unset] [])
    refine Goes.of (fun _ kont => XS.iload X14.here hx rfl (Jvm.hb hby at_130) rfl kont) ?_
    show Goes p e below _ T14 (mkF m 132 #[.val (.int p1), .val (.int p2), .val (.int p3), .val (.int p4), .val (.int (2 : Int32)), .val (.long x0), .second, .val (.long y0), .second, .val (.long x1), .second, .val (.long y1), .second, .val (.long x2), .second, .val (.long y2), .second, .val (.ref ax), .val (.ref ay), .val (.long rf2), .second, .unset, .unset] [(.int (2 : Int32))])
    refine Goes.of (fun _ kont => XS.iconst X14.here hx rfl (Jvm.hb hby at_132) kont) ?_
    show Goes p e below _ T14 (mkF m 133 #[.val (.int p1), .val (.int p2), .val (.int p3), .val (.int p4), .val (.int (2 : Int32)), .val (.long x0), .second, .val (.long y0), .second, .val (.long x1), .second, .val (.long y1), .second, .val (.long x2), .second, .val (.long y2), .second, .val (.ref ax), .val (.ref ay), .val (.long rf2), .second, .unset, .unset] [(.int (2 : Int32)), (.int (2 : Int32))])
    refine Goes.of (fun _ kont => XS.icmpYes X14.here hx rfl (pc0 := 133) (pc' := 166) rfl (Jvm.hb hby at_133) rfl (by decide) (by decide) (by decide) kont) ?_
    show Goes p e below _ T14 (mkF m 166 #[.val (.int p1), .val (.int p2), .val (.int p3), .val (.int p4), .val (.int (2 : Int32)), .val (.long x0), .second, .val (.long y0), .second, .val (.long x1), .second, .val (.long y1), .second, .val (.long x2), .second, .val (.long y2), .second, .val (.ref ax), .val (.ref ay), .val (.long rf2), .second, .unset, .unset] [])
    refine Goes.of (fun _ kont => XS.aload X14.here hx rfl (Jvm.hb hby at_166) rfl rfl kont) ?_
    show Goes p e below _ T14 (mkF m 168 #[.val (.int p1), .val (.int p2), .val (.int p3), .val (.int p4), .val (.int (2 : Int32)), .val (.long x0), .second, .val (.long y0), .second, .val (.long x1), .second, .val (.long y1), .second, .val (.long x2), .second, .val (.long y2), .second, .val (.ref ax), .val (.ref ay), .val (.long rf2), .second, .unset, .unset] [(.ref ax)])
    refine Goes.of (fun _ kont => XS.aload X14.here hx rfl (Jvm.hb hby at_168) rfl rfl kont) ?_
    show Goes p e below _ T14 (mkF m 170 #[.val (.int p1), .val (.int p2), .val (.int p3), .val (.int p4), .val (.int (2 : Int32)), .val (.long x0), .second, .val (.long y0), .second, .val (.long x1), .second, .val (.long y1), .second, .val (.long x2), .second, .val (.long y2), .second, .val (.ref ax), .val (.ref ay), .val (.long rf2), .second, .unset, .unset] [(.ref ay), (.ref ax)])
    refine callC X14 hx hZ hown (hw _ (List.mem_of_getElem? (i := 1) rfl)) (hw _ (List.mem_of_getElem? (i := 2) rfl)) (hw _ (List.mem_of_getElem? (i := 3) rfl)) (hw _ (List.mem_of_getElem? (i := 4) rfl)) (by decide) (as := [(.ref ax), (.ref ay)]) (rm1_2 l Z a0 hw ax ay (FP.l2d x0) (FP.l2d y0) x0.toInt y0.toInt (FP.l2d x1) (FP.l2d y1) x1.toInt y1.toInt h14 n0 Z14 V_ax_14 V_ay_14 Dx0 Dy0 bx0 by0 Dx1 Dy1 bx1 by1) 0 (by decide) (by decide) e14 (by decide) (by decide) (g := mkF m 170 #[.val (.int p1), .val (.int p2), .val (.int p3), .val (.int p4), .val (.int (2 : Int32)), .val (.long x0), .second, .val (.long y0), .second, .val (.long x1), .second, .val (.long y1), .second, .val (.long x2), .second, .val (.long y2), .second, .val (.ref ax), .val (.ref ay), .val (.long rf2), .second, .unset, .unset] [(.ref ay), (.ref ax)]) rfl (by rw [hml]; rfl) (rest := []) (lenOf pd_0 rfl) rfl (by show 2 * 0 + _ ≤ _; exact Nat.le_of_eq rfl) (Jvm.hb hby at_170) ?_
    rintro _ T15 L15 X15 ⟨⟨z15, rfl, Dz15⟩, N15, e15⟩
    show Goes p e below _ T15 (mkF m 173 #[.val (.int p1), .val (.int p2), .val (.int p3), .val (.int p4), .val (.int (2 : Int32)), .val (.long x0), .second, .val (.long y0), .second, .val (.long x1), .second, .val (.long y1), .second, .val (.long x2), .second, .val (.long y2), .second, .val (.ref ax), .val (.ref ay), .val (.long rf2), .second, .unset, .unset] [(.double z15)])
    refine Goes.of (fun _ kont => XS.dstore X15.here hx rfl (Jvm.hb hby at_173) rfl (l' := #[.val (.int p1), .val (.int p2), .val (.int p3), .val (.int p4), .val (.int (2 : Int32)), .val (.long x0), .second, .val (.long y0), .second, .val (.long x1), .second, .val (.long y1), .second, .val (.long x2), .second, .val (.long y2), .second, .val (.ref ax), .val (.ref ay), .val (.long rf2), .second, .val (.double z15), .second]) rfl kont) ?_
    show Goes p e below _ T15 (mkF m 175 #[.val (.int p1), .val (.int p2), .val (.int p3), .val (.int p4), .val (.int (2 : Int32)), .val (.long x0), .second, .val (.long y0), .second, .val (.long x1), .second, .val (.long y1), .second, .val (.long x2), .second, .val (.long y2), .second, .val (.ref ax), .val (.ref ay), .val (.long rf2), .second, .val (.double z15), .second] [])
    refine Goes.of (fun _ kont => XS.dload X15.here hx rfl (Jvm.hb hby at_175) rfl kont) ?_
    show Goes p e below _ T15 (mkF m 177 #[.val (.int p1), .val (.int p2), .val (.int p3), .val (.int p4), .val (.int (2 : Int32)), .val (.long x0), .second, .val (.long y0), .second, .val (.long x1), .second, .val (.long y1), .second, .val (.long x2), .second, .val (.long y2), .second, .val (.ref ax), .val (.ref ay), .val (.long rf2), .second, .val (.double z15), .second] [(.double z15)])
    refine Goes.of (fun _ kont => XT.lload X15.here hx rfl (Jvm.hb hby at_177) rfl kont) ?_
    show Goes p e below _ T15 (mkF m 179 #[.val (.int p1), .val (.int p2), .val (.int p3), .val (.int p4), .val (.int (2 : Int32)), .val (.long x0), .second, .val (.long y0), .second, .val (.long x1), .second, .val (.long y1), .second, .val (.long x2), .second, .val (.long y2), .second, .val (.ref ax), .val (.ref ay), .val (.long rf2), .second, .val (.double z15), .second] [(.long rf2), (.double z15)])
    refine Goes.of (fun _ kont => XS.l2dS X15.here hx rfl (Jvm.hb hby at_179) rfl rfl kont) ?_
    show Goes p e below _ T15 (mkF m 180 #[.val (.int p1), .val (.int p2), .val (.int p3), .val (.int p4), .val (.int (2 : Int32)), .val (.long x0), .second, .val (.long y0), .second, .val (.long x1), .second, .val (.long y1), .second, .val (.long x2), .second, .val (.long y2), .second, .val (.ref ax), .val (.ref ay), .val (.long rf2), .second, .val (.double z15), .second] [(.double (FP.l2d rf2)), (.double z15)])
    refine Goes.of (fun _ kont => XS.dcmpS X15.here hx rfl (Jvm.hb hby at_180) rfl rfl kont) ?_
    show Goes p e below _ T15 (mkF m 181 #[.val (.int p1), .val (.int p2), .val (.int p3), .val (.int p4), .val (.int (2 : Int32)), .val (.long x0), .second, .val (.long y0), .second, .val (.long x1), .second, .val (.long y1), .second, .val (.long x2), .second, .val (.long y2), .second, .val (.ref ax), .val (.ref ay), .val (.long rf2), .second, .val (.double z15), .second] [(.int (cmpValue (FP.dcmp z15 (FP.l2d rf2)) .l))])
    have De := dy_l2d (n := rf2) (by have := own_sqb bx0 by0; have := own_sqb bx1 by1; rw [r2]; omega)
    rw [r2] at De
    refine Goes.of (fun _ kont => XS.ifNo X15.here hx rfl (Jvm.hb hby at_181) rfl (by rw [dy_eq Dz15 De rfl]; decide) kont) ?_
    show Goes p e below _ T15 (mkF m 184 #[.val (.int p1), .val (.int p2), .val (.int p3), .val (.int p4), .val (.int (2 : Int32)), .val (.long x0), .second, .val (.long y0), .second, .val (.long x1), .second, .val (.long y1), .second, .val (.long x2), .second, .val (.long y2), .second, .val (.ref ax), .val (.ref ay), .val (.long rf2), .second, .val (.double z15), .second] [])
    refine Goes.of (fun _ kont => XS.iconst X15.here hx rfl (Jvm.hb hby at_184) kont) ?_
    show Goes p e below _ T15 (mkF m 185 #[.val (.int p1), .val (.int p2), .val (.int p3), .val (.int p4), .val (.int (2 : Int32)), .val (.long x0), .second, .val (.long y0), .second, .val (.long x1), .second, .val (.long y1), .second, .val (.long x2), .second, .val (.long y2), .second, .val (.ref ax), .val (.ref ay), .val (.long rf2), .second, .val (.double z15), .second] [(.int (1 : Int32))])
    refine Goes.of (fun _ kont => XS.goto X15.here hx rfl (pc0 := 185) (pc' := 189) rfl (Jvm.hb hby at_185) (by decide) (by decide) kont) ?_
    show Goes p e below _ T15 (mkF m 189 #[.val (.int p1), .val (.int p2), .val (.int p3), .val (.int p4), .val (.int (2 : Int32)), .val (.long x0), .second, .val (.long y0), .second, .val (.long x1), .second, .val (.long y1), .second, .val (.long x2), .second, .val (.long y2), .second, .val (.ref ax), .val (.ref ay), .val (.long rf2), .second, .val (.double z15), .second] [(.int (1 : Int32))])
    exact retB X15 hx hlk (t := .boolean) hret (by simp) (Jvm.hb hby at_189) (by decide) (by decide) ⟨rfl, Fr.app N14 N15⟩
  · show Goes p e below _ T0 (mkF m 44 #[.val (.int p1), .val (.int p2), .val (.int p3), .val (.int p4), .val (.int (3 : Int32)), .val (.long x0), .second, .val (.long y0), .second, .val (.long x1), .second, .val (.long y1), .second, .val (.long x2), .second, .val (.long y2), .second, .unset, .unset, .unset, .unset, .unset, .unset] [])
    refine Goes.of (fun _ kont => XS.iload X0.here hx rfl (Jvm.hb hby at_44) rfl kont) ?_
    show Goes p e below _ T0 (mkF m 46 #[.val (.int p1), .val (.int p2), .val (.int p3), .val (.int p4), .val (.int (3 : Int32)), .val (.long x0), .second, .val (.long y0), .second, .val (.long x1), .second, .val (.long y1), .second, .val (.long x2), .second, .val (.long y2), .second, .unset, .unset, .unset, .unset, .unset, .unset] [(.int (3 : Int32))])
    refine goNewD X0 hx hZ (hw _ (List.mem_of_getElem? (i := 0) rfl)) e0 (g := mkF m 46 #[.val (.int p1), .val (.int p2), .val (.int p3), .val (.int p4), .val (.int (3 : Int32)), .val (.long x0), .second, .val (.long y0), .second, .val (.long x1), .second, .val (.long y1), .second, .val (.long x2), .second, .val (.long y2), .second, .unset, .unset, .unset, .unset, .unset, .unset] [(.int (3 : Int32))]) rfl (Jvm.hb hby at_46) rfl 3 (by decide) (by decide) (by decide) (by decide) ?_
    intro T16 h16 ax gax X16 e16 E16 V_ax
    have ge_ax : n0 ≤ ax := by rw [gax]; exact Z0
    have Z16 : n0 ≤ h16.size := Nat.le_trans Z0 E16.1
    show Goes p e below _ T16 (mkF m 48 #[.val (.int p1), .val (.int p2), .val (.int p3), .val (.int p4), .val (.int (3 : Int32)), .val (.long x0), .second, .val (.long y0), .second, .val (.long x1), .second, .val (.long y1), .second, .val (.long x2), .second, .val (.long y2), .second, .unset, .unset, .unset, .unset, .unset, .unset] [(.ref ax)])
    refine Goes.of (fun _ kont => XS.astore X16.here hx rfl (Jvm.hb hby at_48) rfl rfl (l' := #[.val (.int p1), .val (.int p2), .val (.int p3), .val (.int p4), .val (.int (3 : Int32)), .val (.long x0), .second, .val (.long y0), .second, .val (.long x1), .second, .val (.long y1), .second, .val (.long x2), .second, .val (.long y2), .second, .val (.ref ax), .unset, .unset, .unset, .unset, .unset]) rfl kont) ?_
    show Goes p e below _ T16 (mkF m 50 #[.val (.int p1), .val (.int p2), .val (.int p3), .val (.int p4), .val (.int (3 : Int32)), .val (.long x0), .second, .val (.long y0), .second, .val (.long x1), .second, .val (.long y1), .second, .val (.long x2), .second, .val (.long y2), .second, .val (.ref ax), .unset, .unset, .unset, .unset, .unset] [])
    refine Goes.of (fun _ kont => XS.iload X16.here hx rfl (Jvm.hb hby at_50) rfl kont) ?_
    show Goes p e below _ T16 (mkF m 52 #[.val (.int p1), .val (.int p2), .val (.int p3), .val (.int p4), .val (.int (3 : Int32)), .val (.long x0), .second, .val (.long y0), .second, .val (.long x1), .second, .val (.long y1), .second, .val (.long x2), .second, .val (.long y2), .second, .val (.ref ax), .unset, .unset, .unset, .unset, .unset] [(.int (3 : Int32))])
    refine goNewD X16 hx hZ (hw _ (List.mem_of_getElem? (i := 0) rfl)) e16 (g := mkF m 52 #[.val (.int p1), .val (.int p2), .val (.int p3), .val (.int p4), .val (.int (3 : Int32)), .val (.long x0), .second, .val (.long y0), .second, .val (.long x1), .second, .val (.long y1), .second, .val (.long x2), .second, .val (.long y2), .second, .val (.ref ax), .unset, .unset, .unset, .unset, .unset] [(.int (3 : Int32))]) rfl (Jvm.hb hby at_52) rfl 3 (by decide) (by decide) (by decide) (by decide) ?_
    intro T17 h17 ay gay X17 e17 E17 V_ay
    have ge_ay : n0 ≤ ay := by rw [gay]; exact Z16
    have Z17 : n0 ≤ h17.size := Nat.le_trans Z16 E17.1
    have ne_ax_ay : ax ≠ ay := by rw [gay]; exact Nat.ne_of_lt V_ax.lt
    have V_ax_17 := V_ax.ext E17
    show Goes p e below _ T17 (mkF m 54 #[.val (.int p1), .val (.int p2), .val (.int p3), .val (.int p4), .val (.int (3 : Int32)), .val (.long x0), .second, .val (.long y0), .second, .val (.long x1), .second, .val (.long y1), .second, .val (.long x2), .second, .val (.long y2), .second, .val (.ref ax), .unset, .unset, .unset, .unset, .unset] [(.ref ay)])
    refine Goes.of (fun _ kont => XS.astore X17.here hx rfl (Jvm.hb hby at_54) rfl rfl (l' := #[.val (.int p1), .val (.int p2), .val (.int p3), .val (.int p4), .val (.int (3 : Int32)), .val (.long x0), .second, .val (.long y0), .second, .val (.long x1), .second, .val (.long y1), .second, .val (.long x2), .second, .val (.long y2), .second, .val (.ref ax), .val (.ref ay), .unset, .unset, .unset, .unset]) rfl kont) ?_
    show Goes p e below _ T17 (mkF m 56 #[.val (.int p1), .val (.int p2), .val (.int p3), .val (.int p4), .val (.int (3 : Int32)), .val (.long x0), .second, .val (.long y0), .second, .val (.long x1), .second, .val (.long y1), .second, .val (.long x2), .second, .val (.long y2), .second, .val (.ref ax), .val (.ref ay), .unset, .unset, .unset, .unset] [])
    refine Goes.of (fun _ kont => XT.lconst X17.here hx rfl (Jvm.hb hby at_56) kont) ?_
    show Goes p e below _ T17 (mkF m 57 #[.val (.int p1), .val (.int p2), .val (.int p3), .val (.int p4), .val (.int (3 : Int32)), .val (.long x0), .second, .val (.long y0), .second, .val (.long x1), .second, .val (.long y1), .second, .val (.long x2), .second, .val (.long y2), .second, .val (.ref ax), .val (.ref ay), .unset, .unset, .unset, .unset] [(.long (0 : Int64))])
    refine Goes.of (fun _ kont => XT.lstore X17.here hx rfl (Jvm.hb hby at_57) rfl (l' := #[.val (.int p1), .val (.int p2), .val (.int p3), .val (.int p4), .val (.int (3 : Int32)), .val (.long x0), .second, .val (.long y0), .second, .val (.long x1), .second, .val (.long y1), .second, .val (.long x2), .second, .val (.long y2), .second, .val (.ref ax), .val (.ref ay), .val (.long (0 : Int64)), .second, .unset, .unset]) rfl kont) ?_
    show Goes p e below _ T17 (mkF m 59 #[.val (.int p1), .val (.int p2), .val (.int p3), .val (.int p4), .val (.int (3 : Int32)), .val (.long x0), .second, .val (.long y0), .second, .val (.long x1), .second, .val (.long y1), .second, .val (.long x2), .second, .val (.long y2), .second, .val (.ref ax), .val (.ref ay), .val (.long (0 : Int64)), .second, .unset, .unset] [])
    refine Goes.of (fun _ kont => XS.iload X17.here hx rfl (Jvm.hb hby at_59) rfl kont) ?_
    show Goes p e below _ T17 (mkF m 61 #[.val (.int p1), .val (.int p2), .val (.int p3), .val (.int p4), .val (.int (3 : Int32)), .val (.long x0), .second, .val (.long y0), .second, .val (.long x1), .second, .val (.long y1), .second, .val (.long x2), .second, .val (.long y2), .second, .val (.ref ax), .val (.ref ay), .val (.long (0 : Int64)), .second, .unset, .unset] [(.int (3 : Int32))])
    have r0 : (0 : Int64).toInt = 0 := by decide
    refine Goes.of (fun _ kont => XS.ifNo X17.here hx rfl (Jvm.hb hby at_61) rfl (by decide) kont) ?_
    show Goes p e below _ T17 (mkF m 64 #[.val (.int p1), .val (.int p2), .val (.int p3), .val (.int p4), .val (.int (3 : Int32)), .val (.long x0), .second, .val (.long y0), .second, .val (.long x1), .second, .val (.long y1), .second, .val (.long x2), .second, .val (.long y2), .second, .val (.ref ax), .val (.ref ay), .val (.long (0 : Int64)), .second, .unset, .unset] [])
    refine Goes.of (fun _ kont => XS.aload X17.here hx rfl (Jvm.hb hby at_64) rfl rfl kont) ?_
    show Goes p e below _ T17 (mkF m 66 #[.val (.int p1), .val (.int p2), .val (.int p3), .val (.int p4), .val (.int (3 : Int32)), .val (.long x0), .second, .val (.long y0), .second, .val (.long x1), .second, .val (.long y1), .second, .val (.long x2), .second, .val (.long y2), .second, .val (.ref ax), .val (.ref ay), .val (.long (0 : Int64)), .second, .unset, .unset] [(.ref ax)])
    refine Goes.of (fun _ kont => XS.iconst X17.here hx rfl (Jvm.hb hby at_66) kont) ?_
    show Goes p e below _ T17 (mkF m 67 #[.val (.int p1), .val (.int p2), .val (.int p3), .val (.int p4), .val (.int (3 : Int32)), .val (.long x0), .second, .val (.long y0), .second, .val (.long x1), .second, .val (.long y1), .second, .val (.long x2), .second, .val (.long y2), .second, .val (.ref ax), .val (.ref ay), .val (.long (0 : Int64)), .second, .unset, .unset] [(.int (0 : Int32)), (.ref ax)])
    refine Goes.of (fun _ kont => XT.lload X17.here hx rfl (Jvm.hb hby at_67) rfl kont) ?_
    show Goes p e below _ T17 (mkF m 69 #[.val (.int p1), .val (.int p2), .val (.int p3), .val (.int p4), .val (.int (3 : Int32)), .val (.long x0), .second, .val (.long y0), .second, .val (.long x1), .second, .val (.long y1), .second, .val (.long x2), .second, .val (.long y2), .second, .val (.ref ax), .val (.ref ay), .val (.long (0 : Int64)), .second, .unset, .unset] [(.long x0), (.int (0 : Int32)), (.ref ax)])
    refine Goes.of (fun _ kont => XS.l2dS X17.here hx rfl (Jvm.hb hby at_69) rfl rfl kont) ?_
    show Goes p e below _ T17 (mkF m 70 #[.val (.int p1), .val (.int p2), .val (.int p3), .val (.int p4), .val (.int (3 : Int32)), .val (.long x0), .second, .val (.long y0), .second, .val (.long x1), .second, .val (.long y1), .second, .val (.long x2), .second, .val (.long y2), .second, .val (.ref ax), .val (.ref ay), .val (.long (0 : Int64)), .second, .unset, .unset] [(.double (FP.l2d x0)), (.int (0 : Int32)), (.ref ax)])
    refine goStD X17 hx hZ e17 V_ax_17 0 (by decide) (by show 0 < 3; decide) (g := (mkF m 70 #[.val (.int p1), .val (.int p2), .val (.int p3), .val (.int p4), .val (.int (3 : Int32)), .val (.long x0), .second, .val (.long y0), .second, .val (.long x1), .second, .val (.long y1), .second, .val (.long x2), .second, .val (.long y2), .second, .val (.ref ax), .val (.ref ay), .val (.long (0 : Int64)), .second, .unset, .unset] [(.double (FP.l2d x0)), (.int (0 : Int32)), (.ref ax)])) rfl rfl (Jvm.hb hby at_70) N0 ge_ax ?_
    intro T18 h18 L18 X18 e18 N18 K18 V_ax_18
    replace V_ax_18 : DA Z h18 ax [(FP.l2d x0), 0, 0] := V_ax_18
    have V_ay_18 := K18 _ _ (Ne.symm ne_ax_ay) V_ay
    have Z18 : n0 ≤ h18.size := Nat.le_trans ge_ax (Nat.le_of_lt V_ax_18.lt)
    show Goes p e below _ T18 (mkF m 71 #[.val (.int p1), .val (.int p2), .val (.int p3), .val (.int p4), .val (.int (3 : Int32)), .val (.long x0), .second, .val (.long y0), .second, .val (.long x1), .second, .val (.long y1), .second, .val (.long x2), .second, .val (.long y2), .second, .val (.ref ax), .val (.ref ay), .val (.long (0 : Int64)), .second, .unset, .unset] [])
    refine Goes.of (fun _ kont => XS.aload X18.here hx rfl (Jvm.hb hby at_71) rfl rfl kont) ?_
    show Goes p e below _ T18 (mkF m 73 #[.val (.int p1), .val (.int p2), .val (.int p3), .val (.int p4), .val (.int (3 : Int32)), .val (.long x0), .second, .val (.long y0), .second, .val (.long x1), .second, .val (.long y1), .second, .val (.long x2), .second, .val (.long y2), .second, .val (.ref ax), .val (.ref ay), .val (.long (0 : Int64)), .second, .unset, .unset] [(.ref ay)])
    refine Goes.of (fun _ kont => XS.iconst X18.here hx rfl (Jvm.hb hby at_73) kont) ?_
    show Goes p e below _ T18 (mkF m 74 #[.val (.int p1), .val (.int p2), .val (.int p3), .val (.int p4), .val (.int (3 : Int32)), .val (.long x0), .second, .val (.long y0), .second, .val (.long x1), .second, .val (.long y1), .second, .val (.long x2), .second, .val (.long y2), .second, .val (.ref ax), .val (.ref ay), .val (.long (0 : Int64)), .second, .unset, .unset] [(.int (0 : Int32)), (.ref ay)])
    refine Goes.of (fun _ kont => XT.lload X18.here hx rfl (Jvm.hb hby at_74) rfl kont) ?_
    show Goes p e below _ T18 (mkF m 76 #[.val (.int p1), .val (.int p2), .val (.int p3), .val (.int p4), .val (.int (3 : Int32)), .val (.long x0), .second, .val (.long y0), .second, .val (.long x1), .second, .val (.long y1), .second, .val (.long x2), .second, .val (.long y2), .second, .val (.ref ax), .val (.ref ay), .val (.long (0 : Int64)), .second, .unset, .unset] [(.long y0), (.int (0 : Int32)), (.ref ay)])
    refine Goes.of (fun _ kont => XS.l2dS X18.here hx rfl (Jvm.hb hby at_76) rfl rfl kont) ?_
    show Goes p e below _ T18 (mkF m 77 #[.val (.int p1), .val (.int p2), .val (.int p3), .val (.int p4), .val (.int (3 : Int32)), .val (.long x0), .second, .val (.long y0), .second, .val (.long x1), .second, .val (.long y1), .second, .val (.long x2), .second, .val (.long y2), .second, .val (.ref ax), .val (.ref ay), .val (.long (0 : Int64)), .second, .unset, .unset] [(.double (FP.l2d y0)), (.int (0 : Int32)), (.ref ay)])
    refine goStD X18 hx hZ e18 V_ay_18 0 (by decide) (by show 0 < 3; decide) (g := (mkF m 77 #[.val (.int p1), .val (.int p2), .val (.int p3), .val (.int p4), .val (.int (3 : Int32)), .val (.long x0), .second, .val (.long y0), .second, .val (.long x1), .second, .val (.long y1), .second, .val (.long x2), .second, .val (.long y2), .second, .val (.ref ax), .val (.ref ay), .val (.long (0 : Int64)), .second, .unset, .unset] [(.double (FP.l2d y0)), (.int (0 : Int32)), (.ref ay)])) rfl rfl (Jvm.hb hby at_77) N18 ge_ay ?_
    intro T19 h19 L19 X19 e19 N19 K19 V_ay_19
    replace V_ay_19 : DA Z h19 ay [(FP.l2d y0), 0, 0] := V_ay_19
    have V_ax_19 := K19 _ _ ne_ax_ay V_ax_18
    have Z19 : n0 ≤ h19.size := Nat.le_trans ge_ay (Nat.le_of_lt V_ay_19.lt)
    show Goes p e below _ T19 (mkF m 78 #[.val (.int p1), .val (.int p2), .val (.int p3), .val (.int p4), .val (.int (3 : Int32)), .val (.long x0), .second, .val (.long y0), .second, .val (.long x1), .second, .val (.long y1), .second, .val (.long x2), .second, .val (.long y2), .second, .val (.ref ax), .val (.ref ay), .val (.long (0 : Int64)), .second, .unset, .unset] [])
    refine Goes.of (fun _ kont => XT.lload X19.here hx rfl (Jvm.hb hby at_78) rfl kont) ?_
    show Goes p e below _ T19 (mkF m 80 #[.val (.int p1), .val (.int p2), .val (.int p3), .val (.int p4), .val (.int (3 : Int32)), .val (.long x0), .second, .val (.long y0), .second, .val (.long x1), .second, .val (.long y1), .second, .val (.long x2), .second, .val (.long y2), .second, .val (.ref ax), .val (.ref ay), .val (.long (0 : Int64)), .second, .unset, .unset] [(.long (0 : Int64))])
    refine Goes.of (fun _ kont => XT.lload X19.here hx rfl (Jvm.hb hby at_80) rfl kont) ?_
    show Goes p e below _ T19 (mkF m 82 #[.val (.int p1), .val (.int p2), .val (.int p3), .val (.int p4), .val (.int (3 : Int32)), .val (.long x0), .second, .val (.long y0), .second, .val (.long x1), .second, .val (.long y1), .second, .val (.long x2), .second, .val (.long y2), .second, .val (.ref ax), .val (.ref ay), .val (.long (0 : Int64)), .second, .unset, .unset] [(.long x0), (.long (0 : Int64))])
    refine Goes.of (fun _ kont => XT.lload X19.here hx rfl (Jvm.hb hby at_82) rfl kont) ?_
    show Goes p e below _ T19 (mkF m 84 #[.val (.int p1), .val (.int p2), .val (.int p3), .val (.int p4), .val (.int (3 : Int32)), .val (.long x0), .second, .val (.long y0), .second, .val (.long x1), .second, .val (.long y1), .second, .val (.long x2), .second, .val (.long y2), .second, .val (.ref ax), .val (.ref ay), .val (.long (0 : Int64)), .second, .unset, .unset] [(.long y0), (.long x0), (.long (0 : Int64))])
    refine Goes.of (fun _ kont => XT.lsub X19.here hx rfl (Jvm.hb hby at_84) rfl kont) ?_
    show Goes p e below _ T19 (mkF m 85 #[.val (.int p1), .val (.int p2), .val (.int p3), .val (.int p4), .val (.int (3 : Int32)), .val (.long x0), .second, .val (.long y0), .second, .val (.long x1), .second, .val (.long y1), .second, .val (.long x2), .second, .val (.long y2), .second, .val (.ref ax), .val (.ref ay), .val (.long (0 : Int64)), .second, .unset, .unset] [(.long (x0 - y0)), (.long (0 : Int64))])
    refine Goes.of (fun _ kont => XT.lload X19.here hx rfl (Jvm.hb hby at_85) rfl kont) ?_
    show Goes p e below _ T19 (mkF m 87 #[.val (.int p1), .val (.int p2), .val (.int p3), .val (.int p4), .val (.int (3 : Int32)), .val (.long x0), .second, .val (.long y0), .second, .val (.long x1), .second, .val (.long y1), .second, .val (.long x2), .second, .val (.long y2), .second, .val (.ref ax), .val (.ref ay), .val (.long (0 : Int64)), .second, .unset, .unset] [(.long x0), (.long (x0 - y0)), (.long (0 : Int64))])
    refine Goes.of (fun _ kont => XT.lload X19.here hx rfl (Jvm.hb hby at_87) rfl kont) ?_
    show Goes p e below _ T19 (mkF m 89 #[.val (.int p1), .val (.int p2), .val (.int p3), .val (.int p4), .val (.int (3 : Int32)), .val (.long x0), .second, .val (.long y0), .second, .val (.long x1), .second, .val (.long y1), .second, .val (.long x2), .second, .val (.long y2), .second, .val (.ref ax), .val (.ref ay), .val (.long (0 : Int64)), .second, .unset, .unset] [(.long y0), (.long x0), (.long (x0 - y0)), (.long (0 : Int64))])
    refine Goes.of (fun _ kont => XT.lsub X19.here hx rfl (Jvm.hb hby at_89) rfl kont) ?_
    show Goes p e below _ T19 (mkF m 90 #[.val (.int p1), .val (.int p2), .val (.int p3), .val (.int p4), .val (.int (3 : Int32)), .val (.long x0), .second, .val (.long y0), .second, .val (.long x1), .second, .val (.long y1), .second, .val (.long x2), .second, .val (.long y2), .second, .val (.ref ax), .val (.ref ay), .val (.long (0 : Int64)), .second, .unset, .unset] [(.long (x0 - y0)), (.long (x0 - y0)), (.long (0 : Int64))])
    refine Goes.of (fun _ kont => XT.lmul X19.here hx rfl (Jvm.hb hby at_90) rfl kont) ?_
    show Goes p e below _ T19 (mkF m 91 #[.val (.int p1), .val (.int p2), .val (.int p3), .val (.int p4), .val (.int (3 : Int32)), .val (.long x0), .second, .val (.long y0), .second, .val (.long x1), .second, .val (.long y1), .second, .val (.long x2), .second, .val (.long y2), .second, .val (.ref ax), .val (.ref ay), .val (.long (0 : Int64)), .second, .unset, .unset] [(.long ((x0 - y0) * (x0 - y0))), (.long (0 : Int64))])
    refine Goes.of (fun _ kont => XT.ladd X19.here hx rfl (Jvm.hb hby at_91) rfl kont) ?_
    show Goes p e below _ T19 (mkF m 92 #[.val (.int p1), .val (.int p2), .val (.int p3), .val (.int p4), .val (.int (3 : Int32)), .val (.long x0), .second, .val (.long y0), .second, .val (.long x1), .second, .val (.long y1), .second, .val (.long x2), .second, .val (.long y2), .second, .val (.ref ax), .val (.ref ay), .val (.long (0 : Int64)), .second, .unset, .unset] [(.long ((0 : Int64) + ((x0 - y0) * (x0 - y0))))])
    generalize hrf1 : ((0 : Int64) + ((x0 - y0) * (x0 - y0))) = rf1
    show Goes p e below _ T19 (mkF m 92 #[.val (.int p1), .val (.int p2), .val (.int p3), .val (.int p4), .val (.int (3 : Int32)), .val (.long x0), .second, .val (.long y0), .second, .val (.long x1), .second, .val (.long y1), .second, .val (.long x2), .second, .val (.long y2), .second, .val (.ref ax), .val (.ref ay), .val (.long (0 : Int64)), .second, .unset, .unset] [(.long rf1)])
    have r1 := own_ref bx0 by0 (by omega) hrf1
    rw [r0] at r1
    refine Goes.of (fun _ kont => XT.lstore X19.here hx rfl (Jvm.hb hby at_92) rfl (l' := #[.val (.int p1), .val (.int p2), .val (.int p3), .val (.int p4), .val (.int (3 : Int32)), .val (.long x0), .second, .val (.long y0), .second, .val (.long x1), .second, .val (.long y1), .second, .val (.long x2), .second, .val (.long y2), .second, .val (.ref ax), .val (.ref ay), .val (.long rf1), .second, .unset, .unset]) rfl kont) ?_
    show Goes p e below _ T19 (mkF m 94 #[.val (.int p1), .val (.int p2), .val (.int p3), .val (.int p4), .val (.int (3 : Int32)), .val (.long x0), .second, .val (.long y0), .second, .val (.long x1), .second, .val (.long y1), .second, .val (.long x2), .second, .val (.long y2), .second, .val (.ref ax), .val (.ref ay), .val (.long rf1), .second, .unset, .unset] [])
    refine Goes.of (fun _ kont => XS.iload X19.here hx rfl (Jvm.hb hby at_94) rfl kont) ?_
    show Goes p e below _ T19 (mkF m 96 #[.val (.int p1), .val (.int p2), .val (.int p3), .val (.int p4), .val (.int (3 : Int32)), .val (.long x0), .second, .val (.long y0), .second, .val (.long x1), .second, .val (.long y1), .second, .val (.long x2), .second, .val (.long y2), .second, .val (.ref ax), .val (.ref ay), .val (.long rf1), .second, .unset, .unset] [(.int (3 : Int32))])
    refine Goes.of (fun _ kont => XS.iconst X19.here hx rfl (Jvm.hb hby at_96) kont) ?_
    show Goes p e below _ T19 (mkF m 97 #[.val (.int p1), .val (.int p2), .val (.int p3), .val (.int p4), .val (.int (3 : Int32)), .val (.long x0), .second, .val (.long y0), .second, .val (.long x1), .second, .val (.long y1), .second, .val (.long x2), .second, .val (.long y2), .second, .val (.ref ax), .val (.ref ay), .val (.long rf1), .second, .unset, .unset] [(.int (1 : Int32)), (.int (3 : Int32))])
    refine Goes.of (fun _ kont => XS.icmpNo X19.here hx rfl (Jvm.hb hby at_97) rfl (by decide) kont) ?_
    show Goes p e below _ T19 (mkF m 100 #[.val (.int p1), .val (.int p2), .val (.int p3), .val (.int p4), .val (.int (3 : Int32)), .val (.long x0), .second, .val (.long y0), .second, .val (.long x1), .second, .val (.long y1), .second, .val (.long x2), .second, .val (.long y2), .second, .val (.ref ax), .val (.ref ay), .val (.long rf1), .second, .unset, .unset] [])
    refine Goes.of (fun _ kont => XS.aload X19.here hx rfl (Jvm.hb hby at_100) rfl rfl kont) ?_
    show Goes p e below _ T19 (mkF m 102 #[.val (.int p1), .val (.int p2), .val (.int p3), .val (.int p4), .val (.int (3 : Int32)), .val (.long x0), .second, .val (.long y0), .second, .val (.long x1), .second, .val (.long y1), .second, .val (.long x2), .second, .val (.long y2), .second, .val (.ref ax), .val (.ref ay), .val (.long rf1), .second, .unset, .unset] [(.ref ax)])
    refine Goes.of (fun _ kont => XS.iconst X19.here hx rfl (Jvm.hb hby at_102) kont) ?_
    show Goes p e below _ T19 (mkF m 103 #[.val (.int p1), .val (.int p2), .val (.int p3), .val (.int p4), .val (.int (3 : Int32)), .val (.long x0), .second, .val (.long y0), .second, .val (.long x1), .second, .val (.long y1), .second, .val (.long x2), .second, .val (.long y2), .second, .val (.ref ax), .val (.ref ay), .val (.long rf1), .second, .unset, .unset] [(.int (1 : Int32)), (.ref ax)])
    refine Goes.of (fun _ kont => XT.lload X19.here hx rfl (Jvm.hb hby at_103) rfl kont) ?_
    show Goes p e below _ T19 (mkF m 105 #[.val (.int p1), .val (.int p2), .val (.int p3), .val (.int p4), .val (.int (3 : Int32)), .val (.long x0), .second, .val (.long y0), .second, .val (.long x1), .second, .val (.long y1), .second, .val (.long x2), .second, .val (.long y2), .second, .val (.ref ax), .val (.ref ay), .val (.long rf1), .second, .unset, .unset] [(.long x1), (.int (1 : Int32)), (.ref ax)])
    refine Goes.of (fun _ kont => XS.l2dS X19.here hx rfl (Jvm.hb hby at_105) rfl rfl kont) ?_
    show Goes p e below _ T19 (mkF m 106 #[.val (.int p1), .val (.int p2), .val (.int p3), .val (.int p4), .val (.int (3 : Int32)), .val (.long x0), .second, .val (.long y0), .second, .val (.long x1), .second, .val (.long y1), .second, .val (.long x2), .second, .val (.long y2), .second, .val (.ref ax), .val (.ref ay), .val (.long rf1), .second, .unset, .unset] [(.double (FP.l2d x1)), (.int (1 : Int32)), (.ref ax)])
    refine goStD X19 hx hZ e19 V_ax_19 1 (by decide) (by show 1 < 3; decide) (g := (mkF m 106 #[.val (.int p1), .val (.int p2), .val (.int p3), .val (.int p4), .val (.int (3 : Int32)), .val (.long x0), .second, .val (.long y0), .second, .val (.long x1), .second, .val (.long y1), .second, .val (.long x2), .second, .val (.long y2), .second, .val (.ref ax), .val (.ref ay), .val (.long rf1), .second, .unset, .unset] [(.double (FP.l2d x1)), (.int (1 : Int32)), (.ref ax)])) rfl rfl (Jvm.hb hby at_106) N19 ge_ax ?_
    intro T20 h20 L20 X20 e20 N20 K20 V_ax_20
    replace V_ax_20 : DA Z h20 ax [(FP.l2d x0), (FP.l2d x1), 0] := V_ax_20
    have V_ay_20 := K20 _ _ (Ne.symm ne_ax_ay) V_ay_19
    have Z20 : n0 ≤ h20.size := Nat.le_trans ge_ax (Nat.le_of_lt V_ax_20.lt)
    show Goes p e below _ T20 (mkF m 107 #[.val (.int p1), .val (.int p2), .val (.int p3), .val (.int p4), .val (.int (3 : Int32)), .val (.long x0), .second, .val (.long y0), .second, .val (.long x1), .second, .val (.long y1), .second, .val (.long x2), .second, .val (.long y2), .second, .val (.ref ax), .val (.ref ay), .val (.long rf1), .second, .unset, .unset] [])
    refine Goes.of (fun _ kont => XS.aload X20.here hx rfl (Jvm.hb hby at_107) rfl rfl kont) ?_
    show Goes p e below _ T20 (mkF m 109 #[.val (.int p1), .val (.int p2), .val (.int p3), .val (.int p4), .val (.int (3 : Int32)), .val (.long x0), .second, .val (.long y0), .second, .val (.long x1), .second, .val (.long y1), .second, .val (.long x2), .second, .val (.long y2), .second, .val (.ref ax), .val (.ref ay), .val (.long rf1), .second, .unset, .unset] [(.ref ay)])
    refine Goes.of (fun _ kont => XS.iconst X20.here hx rfl (Jvm.hb hby at_109) kont) ?_
    show Goes p e below _ T20 (mkF m 110 #[.val (.int p1), .val (.int p2), .val (.int p3), .val (.int p4), .val (.int (3 : Int32)), .val (.long x0), .second, .val (.long y0), .second, .val (.long x1), .second, .val (.long y1), .second, .val (.long x2), .second, .val (.long y2), .second, .val (.ref ax), .val (.ref ay), .val (.long rf1), .second, .unset, .unset] [(.int (1 : Int32)), (.ref ay)])
    refine Goes.of (fun _ kont => XT.lload X20.here hx rfl (Jvm.hb hby at_110) rfl kont) ?_
    show Goes p e below _ T20 (mkF m 112 #[.val (.int p1), .val (.int p2), .val (.int p3), .val (.int p4), .val (.int (3 : Int32)), .val (.long x0), .second, .val (.long y0), .second, .val (.long x1), .second, .val (.long y1), .second, .val (.long x2), .second, .val (.long y2), .second, .val (.ref ax), .val (.ref ay), .val (.long rf1), .second, .unset, .unset] [(.long y1), (.int (1 : Int32)), (.ref ay)])
    refine Goes.of (fun _ kont => XS.l2dS X20.here hx rfl (Jvm.hb hby at_112) rfl rfl kont) ?_
    show Goes p e below _ T20 (mkF m 113 #[.val (.int p1), .val (.int p2), .val (.int p3), .val (.int p4), .val (.int (3 : Int32)), .val (.long x0), .second, .val (.long y0), .second, .val (.long x1), .second, .val (.long y1), .second, .val (.long x2), .second, .val (.long y2), .second, .val (.ref ax), .val (.ref ay), .val (.long rf1), .second, .unset, .unset] [(.double (FP.l2d y1)), (.int (1 : Int32)), (.ref ay)])
    refine goStD X20 hx hZ e20 V_ay_20 1 (by decide) (by show 1 < 3; decide) (g := (mkF m 113 #[.val (.int p1), .val (.int p2), .val (.int p3), .val (.int p4), .val (.int (3 : Int32)), .val (.long x0), .second, .val (.long y0), .second, .val (.long x1), .second, .val (.long y1), .second, .val (.long x2), .second, .val (.long y2), .second, .val (.ref ax), .val (.ref ay), .val (.long rf1), .second, .unset, .unset] [(.double (FP.l2d y1)), (.int (1 : Int32)), (.ref ay)])) rfl rfl (Jvm.hb hby at_113) N20 ge_ay ?_
    intro T21 h21 L21 X21 e21 N21 K21 V_ay_21
    replace V_ay_21 : DA Z h21 ay [(FP.l2d y0), (FP.l2d y1), 0] := V_ay_21
    have V_ax_21 := K21 _ _ ne_ax_ay V_ax_20
    have Z21 : n0 ≤ h21.size := Nat.le_trans ge_ay (Nat.le_of_lt V_ay_21.lt)
    show Goes p e below _ T21 (mkF m 114 #[.val (.int p1), .val (.int p2), .val (.int p3), .val (.int p4), .val (.int (3 : Int32)), .val (.long x0), .second, .val (.long y0), .second, .val (.long x1), .second, .val (.long y1), .second, .val (.long x2), .second, .val (.long y2), .second, .val (.ref ax), .val (.ref ay), .val (.long rf1), .second, .unset, .unset] [])
    refine Goes.of (fun _ kont => XT.lload X21.here hx rfl (Jvm.hb hby at_114) rfl kont) ?_
    show Goes p e below _ T21 (mkF m 116 #[.val (.int p1), .val (.int p2), .val (.int p3), .val (.int p4), .val (.int (3 : Int32)), .val (.long x0), .second, .val (.long y0), .second, .val (.long x1), .second, .val (.long y1), .second, .val (.long x2), .second, .val (.long y2), .second, .val (.ref ax), .val (.ref ay), .val (.long rf1), .second, .unset, .unset] [(.long rf1)])
    refine Goes.of (fun _ kont => XT.lload X21.here hx rfl (Jvm.hb hby at_116) rfl kont) ?_
    show Goes p e below _ T21 (mkF m 118 #[.val (.int p1), .val (.int p2), .val (.int p3), .val (.int p4), .val (.int (3 : Int32)), .val (.long x0), .second, .val (.long y0), .second, .val (.long x1), .second, .val (.long y1), .second, .val (.long x2), .second, .val (.long y2), .second, .val (.ref ax), .val (.ref ay), .val (.long rf1), .second, .unset, .unset] [(.long x1), (.long rf1)])
    refine Goes.of (fun _ kont => XT.lload X21.here hx rfl (Jvm.hb hby at_118) rfl kont) ?_
    show Goes p e below _ T21 (mkF m 120 #[.val (.int p1), .val (.int p2), .val (.int p3), .val (.int p4), .val (.int (3 : Int32)), .val (.long x0), .second, .val (.long y0), .second, .val (.long x1), .second, .val (.long y1), .second, .val (.long x2), .second, .val (.long y2), .second, .val (.ref ax), .val (.ref ay), .val (.long rf1), .second, .unset, .unset] [(.long y1), (.long x1), (.long rf1)])
    refine Goes.of (fun _ kont => XT.lsub X21.here hx rfl (Jvm.hb hby at_120) rfl kont) ?_
    show Goes p e below _ T21 (mkF m 121 #[.val (.int p1), .val (.int p2), .val (.int p3), .val (.int p4), .val (.int (3 : Int32)), .val (.long x0), .second, .val (.long y0), .second, .val (.long x1), .second, .val (.long y1), .second, .val (.long x2), .second, .val (.long y2), .second, .val (.ref ax), .val (.ref ay), .val (.long rf1), .second, .unset, .unset] [(.long (x1 - y1)), (.long rf1)])
    refine Goes.of (fun _ kont => XT.lload X21.here hx rfl (Jvm.hb hby at_121) rfl kont) ?_
    show Goes p e below _ T21 (mkF m 123 #[.val (.int p1), .val (.int p2), .val (.int p3), .val (.int p4), .val (.int (3 : Int32)), .val (.long x0), .second, .val (.long y0), .second, .val (.long x1), .second, .val (.long y1), .second, .val (.long x2), .second, .val (.long y2), .second, .val (.ref ax), .val (.ref ay), .val (.long rf1), .second, .unset, .unset] [(.long x1), (.long (x1 - y1)), (.long rf1)])
    refine Goes.of (fun _ kont => XT.lload X21.here hx rfl (Jvm.hb hby at_123) rfl kont) ?_
    show Goes p e below _ T21 (mkF m 125 #[.val (.int p1), .val (.int p2), .val (.int p3), .val (.int p4), .val (.int (3 : Int32)), .val (.long x0), .second, .val (.long y0), .second, .val (.long x1), .second, .val (.long y1), .second, .val (.long x2), .second, .val (.long y2), .second, .val (.ref ax), .val (.ref ay), .val (.long rf1), .second, .unset, .unset] [(.long y1), (.long x1), (.long (x1 - y1)), (.long rf1)])
    refine Goes.of (fun _ kont => XT.lsub X21.here hx rfl (Jvm.hb hby at_125) rfl kont) ?_
    show Goes p e below _ T21 (mkF m 126 #[.val (.int p1), .val (.int p2), .val (.int p3), .val (.int p4), .val (.int (3 : Int32)), .val (.long x0), .second, .val (.long y0), .second, .val (.long x1), .second, .val (.long y1), .second, .val (.long x2), .second, .val (.long y2), .second, .val (.ref ax), .val (.ref ay), .val (.long rf1), .second, .unset, .unset] [(.long (x1 - y1)), (.long (x1 - y1)), (.long rf1)])
    refine Goes.of (fun _ kont => XT.lmul X21.here hx rfl (Jvm.hb hby at_126) rfl kont) ?_
    show Goes p e below _ T21 (mkF m 127 #[.val (.int p1), .val (.int p2), .val (.int p3), .val (.int p4), .val (.int (3 : Int32)), .val (.long x0), .second, .val (.long y0), .second, .val (.long x1), .second, .val (.long y1), .second, .val (.long x2), .second, .val (.long y2), .second, .val (.ref ax), .val (.ref ay), .val (.long rf1), .second, .unset, .unset] [(.long ((x1 - y1) * (x1 - y1))), (.long rf1)])
    refine Goes.of (fun _ kont => XT.ladd X21.here hx rfl (Jvm.hb hby at_127) rfl kont) ?_
    show Goes p e below _ T21 (mkF m 128 #[.val (.int p1), .val (.int p2), .val (.int p3), .val (.int p4), .val (.int (3 : Int32)), .val (.long x0), .second, .val (.long y0), .second, .val (.long x1), .second, .val (.long y1), .second, .val (.long x2), .second, .val (.long y2), .second, .val (.ref ax), .val (.ref ay), .val (.long rf1), .second, .unset, .unset] [(.long (rf1 + ((x1 - y1) * (x1 - y1))))])
    generalize hrf2 : (rf1 + ((x1 - y1) * (x1 - y1))) = rf2
    show Goes p e below _ T21 (mkF m 128 #[.val (.int p1), .val (.int p2), .val (.int p3), .val (.int p4), .val (.int (3 : Int32)), .val (.long x0), .second, .val (.long y0), .second, .val (.long x1), .second, .val (.long y1), .second, .val (.long x2), .second, .val (.long y2), .second, .val (.ref ax), .val (.ref ay), .val (.long rf1), .second, .unset, .unset] [(.long rf2)])
    have r2 := own_ref bx1 by1 (by have := own_sqb bx0 by0; omega) hrf2
    rw [r1] at r2
    refine Goes.of (fun _ kont => XT.lstore X21.here hx rfl (Jvm.hb hby at_128) rfl (l' := #[.val (.int p1), .val (.int p2), .val (.int p3), .val (.int p4), .val (.int (3 : Int32)), .val (.long x0), .second, .val (.long y0), .second, .val (.long x1), .second, .val (.long y1), .second, .val (.long x2), .second, .val (.long y2), .second, .val (.ref ax), .val (.ref ay), .val (.long rf2), .second, .unset, .unset]) rfl kont) ?_
    show Goes p e below _ T21 (mkF m 130 #[.val (.int p1), .val (.int p2), .val (.int p3), .val (.int p4), .val (.int (3 : Int32)), .val (.long x0), .second, .val (.long y0), .second, .val (.long x1), .second, .val (.long y1), .second, .val (.long x2), .second, .val (.long y2), .second, .val (.ref ax), .val (.ref ay), .val (.long rf2), .second, .unset, .unset] [])
    refine Goes.of (fun _ kont => XS.iload X21.here hx rfl (Jvm.hb hby at_130) rfl kont) ?_
    show Goes p e below _ T21 (mkF m 132 #[.val (.int p1), .val (.int p2), .val (.int p3), .val (.int p4), .val (.int (3 : Int32)), .val (.long x0), .second, .val (.long y0), .second, .val (.long x1), .second, .val (.long y1), .second, .val (.long x2), .second, .val (.long y2), .second, .val (.ref ax), .val (.ref ay), .val (.long rf2), .second, .unset, .unset] [(.int (3 : Int32))])
    refine Goes.of (fun _ kont => XS.iconst X21.here hx rfl (Jvm.hb hby at_132) kont) ?_
    show Goes p e below _ T21 (mkF m 133 #[.val (.int p1), .val (.int p2), .val (.int p3), .val (.int p4), .val (.int (3 : Int32)), .val (.long x0), .second, .val (.long y0), .second, .val (.long x1), .second, .val (.long y1), .second, .val (.long x2), .second, .val (.long y2), .second, .val (.ref ax), .val (.ref ay), .val (.long rf2), .second, .unset, .unset] [(.int (2 : Int32)), (.int (3 : Int32))])
    refine Goes.of (fun _ kont => XS.icmpNo X21.here hx rfl (Jvm.hb hby at_133) rfl (by decide) kont) ?_
    show Goes p e below _ T21 (mkF m 136 #[.val (.int p1), .val (.int p2), .val (.int p3), .val (.int p4), .val (.int (3 : Int32)), .val (.long x0), .second, .val (.long y0), .second, .val (.long x1), .second, .val (.long y1), .second, .val (.long x2), .second, .val (.long y2), .second, .val (.ref ax), .val (.ref ay), .val (.long rf2), .second, .unset, .unset] [])
    refine Goes.of (fun _ kont => XS.aload X21.here hx rfl (Jvm.hb hby at_136) rfl rfl kont) ?_
    show Goes p e below _ T21 (mkF m 138 #[.val (.int p1), .val (.int p2), .val (.int p3), .val (.int p4), .val (.int (3 : Int32)), .val (.long x0), .second, .val (.long y0), .second, .val (.long x1), .second, .val (.long y1), .second, .val (.long x2), .second, .val (.long y2), .second, .val (.ref ax), .val (.ref ay), .val (.long rf2), .second, .unset, .unset] [(.ref ax)])
    refine Goes.of (fun _ kont => XS.iconst X21.here hx rfl (Jvm.hb hby at_138) kont) ?_
    show Goes p e below _ T21 (mkF m 139 #[.val (.int p1), .val (.int p2), .val (.int p3), .val (.int p4), .val (.int (3 : Int32)), .val (.long x0), .second, .val (.long y0), .second, .val (.long x1), .second, .val (.long y1), .second, .val (.long x2), .second, .val (.long y2), .second, .val (.ref ax), .val (.ref ay), .val (.long rf2), .second, .unset, .unset] [(.int (2 : Int32)), (.ref ax)])
    refine Goes.of (fun _ kont => XT.lload X21.here hx rfl (Jvm.hb hby at_139) rfl kont) ?_
    show Goes p e below _ T21 (mkF m 141 #[.val (.int p1), .val (.int p2), .val (.int p3), .val (.int p4), .val (.int (3 : Int32)), .val (.long x0), .second, .val (.long y0), .second, .val (.long x1), .second, .val (.long y1), .second, .val (.long x2), .second, .val (.long y2), .second, .val (.ref ax), .val (.ref ay), .val (.long rf2), .second, .unset, .unset] [(.long x2), (.int (2 : Int32)), (.ref ax)])
    refine Goes.of (fun _ kont => XS.l2dS X21.here hx rfl (Jvm.hb hby at_141) rfl rfl kont) ?_
    show Goes p e below _ T21 (mkF m 142 #[.val (.int p1), .val (.int p2), .val (.int p3), .val (.int p4), .val (.int (3 : Int32)), .val (.long x0), .second, .val (.long y0), .second, .val (.long x1), .second, .val (.long y1), .second, .val (.long x2), .second, .val (.long y2), .second, .val (.ref ax), .val (.ref ay), .val (.long rf2), .second, .unset, .unset] [(.double (FP.l2d x2)), (.int (2 : Int32)), (.ref ax)])
    refine goStD X21 hx hZ e21 V_ax_21 2 (by decide) (by show 2 < 3; decide) (g := (mkF m 142 #[.val (.int p1), .val (.int p2), .val (.int p3), .val (.int p4), .val (.int (3 : Int32)), .val (.long x0), .second, .val (.long y0), .second, .val (.long x1), .second, .val (.long y1), .second, .val (.long x2), .second, .val (.long y2), .second, .val (.ref ax), .val (.ref ay), .val (.long rf2), .second, .unset, .unset] [(.double (FP.l2d x2)), (.int (2 : Int32)), (.ref ax)])) rfl rfl (Jvm.hb hby at_142) N21 ge_ax ?_
    intro T22 h22 L22 X22 e22 N22 K22 V_ax_22
    replace V_ax_22 : DA Z h22 ax [(FP.l2d x0), (FP.l2d x1), (FP.l2d x2)] := V_ax_22
    have V_ay_22 := K22 _ _ (Ne.symm ne_ax_ay) V_ay_21
    have Z22 : n0 ≤ h22.size := Nat.le_trans ge_ax (Nat.le_of_lt V_ax_22.lt)
    show Goes p e below _ T22 (mkF m 143 #[.val (.int p1), .val (.int p2), .val (.int p3), .val (.int p4), .val (.int (3 : Int32)), .val (.long x0), .second, .val (.long y0), .second, .val (.long x1), .second, .val (.long y1), .second, .val (.long x2), .second, .val (.long y2), .second, .val (.ref ax), .val (.ref ay), .val (.long rf2), .second, .unset, .unset] [])
    refine Goes.of (fun _ kont => XS.aload X22.here hx rfl (Jvm.hb hby at_143) rfl rfl kont) ?_
    show Goes p e below _ T22 (mkF m 145 #[.val (.int p1), .val (.int p2), .val (.int p3), .val (.int p4), .val (.int (3 : Int32)), .val (.long x0), .second, .val (.long y0), .second, .val (.long x1), .second, .val (.long y1), .second, .val (.long x2), .second, .val (.long y2), .second, .val (.ref ax), .val (.ref ay), .val (.long rf2), .second, .unset, .unset] [(.ref ay)])
    refine Goes.of (fun _ kont => XS.iconst X22.here hx rfl (Jvm.hb hby at_145) kont) ?_
    show Goes p e below _ T22 (mkF m 146 #[.val (.int p1), .val (.int p2), .val (.int p3), .val (.int p4), .val (.int (3 : Int32)), .val (.long x0), .second, .val (.long y0), .second, .val (.long x1), .second, .val (.long y1), .second, .val (.long x2), .second, .val (.long y2), .second, .val (.ref ax), .val (.ref ay), .val (.long rf2), .second, .unset, .unset] [(.int (2 : Int32)), (.ref ay)])
    refine Goes.of (fun _ kont => XT.lload X22.here hx rfl (Jvm.hb hby at_146) rfl kont) ?_
    show Goes p e below _ T22 (mkF m 148 #[.val (.int p1), .val (.int p2), .val (.int p3), .val (.int p4), .val (.int (3 : Int32)), .val (.long x0), .second, .val (.long y0), .second, .val (.long x1), .second, .val (.long y1), .second, .val (.long x2), .second, .val (.long y2), .second, .val (.ref ax), .val (.ref ay), .val (.long rf2), .second, .unset, .unset] [(.long y2), (.int (2 : Int32)), (.ref ay)])
    refine Goes.of (fun _ kont => XS.l2dS X22.here hx rfl (Jvm.hb hby at_148) rfl rfl kont) ?_
    show Goes p e below _ T22 (mkF m 149 #[.val (.int p1), .val (.int p2), .val (.int p3), .val (.int p4), .val (.int (3 : Int32)), .val (.long x0), .second, .val (.long y0), .second, .val (.long x1), .second, .val (.long y1), .second, .val (.long x2), .second, .val (.long y2), .second, .val (.ref ax), .val (.ref ay), .val (.long rf2), .second, .unset, .unset] [(.double (FP.l2d y2)), (.int (2 : Int32)), (.ref ay)])
    refine goStD X22 hx hZ e22 V_ay_22 2 (by decide) (by show 2 < 3; decide) (g := (mkF m 149 #[.val (.int p1), .val (.int p2), .val (.int p3), .val (.int p4), .val (.int (3 : Int32)), .val (.long x0), .second, .val (.long y0), .second, .val (.long x1), .second, .val (.long y1), .second, .val (.long x2), .second, .val (.long y2), .second, .val (.ref ax), .val (.ref ay), .val (.long rf2), .second, .unset, .unset] [(.double (FP.l2d y2)), (.int (2 : Int32)), (.ref ay)])) rfl rfl (Jvm.hb hby at_149) N22 ge_ay ?_
    intro T23 h23 L23 X23 e23 N23 K23 V_ay_23
    replace V_ay_23 : DA Z h23 ay [(FP.l2d y0), (FP.l2d y1), (FP.l2d y2)] := V_ay_23
    have V_ax_23 := K23 _ _ ne_ax_ay V_ax_22
    have Z23 : n0 ≤ h23.size := Nat.le_trans ge_ay (Nat.le_of_lt V_ay_23.lt)
    show Goes p e below _ T23 (mkF m 150 #[.val (.int p1), .val (.int p2), .val (.int p3), .val (.int p4), .val (.int (3 : Int32)), .val (.long x0), .second, .val (.long y0), .second, .val (.long x1), .second, .val (.long y1), .second, .val (.long x2), .second, .val (.long y2), .second, .val (.ref ax), .val (.ref ay), .val (.long rf2), .second, .unset, .unset] [])
    refine Goes.of (fun _ kont => XT.lload X23.here hx rfl (Jvm.hb hby at_150) rfl kont) ?_
    show Goes p e below _ T23 (mkF m 152 #[.val (.int p1), .val (.int p2), .val (.int p3), .val (.int p4), .val (.int (3 : Int32)), .val (.long x0), .second, .val (.long y0), .second, .val (.long x1), .second, .val (.long y1), .second, .val (.long x2), .second, .val (.long y2), .second, .val (.ref ax), .val (.ref ay), .val (.long rf2), .second, .unset, .unset] [(.long rf2)])
    refine Goes.of (fun _ kont => XT.lload X23.here hx rfl (Jvm.hb hby at_152) rfl kont) ?_
    show Goes p e below _ T23 (mkF m 154 #[.val (.int p1), .val (.int p2), .val (.int p3), .val (.int p4), .val (.int (3 : Int32)), .val (.long x0), .second, .val (.long y0), .second, .val (.long x1), .second, .val (.long y1), .second, .val (.long x2), .second, .val (.long y2), .second, .val (.ref ax), .val (.ref ay), .val (.long rf2), .second, .unset, .unset] [(.long x2), (.long rf2)])
    refine Goes.of (fun _ kont => XT.lload X23.here hx rfl (Jvm.hb hby at_154) rfl kont) ?_
    show Goes p e below _ T23 (mkF m 156 #[.val (.int p1), .val (.int p2), .val (.int p3), .val (.int p4), .val (.int (3 : Int32)), .val (.long x0), .second, .val (.long y0), .second, .val (.long x1), .second, .val (.long y1), .second, .val (.long x2), .second, .val (.long y2), .second, .val (.ref ax), .val (.ref ay), .val (.long rf2), .second, .unset, .unset] [(.long y2), (.long x2), (.long rf2)])
    refine Goes.of (fun _ kont => XT.lsub X23.here hx rfl (Jvm.hb hby at_156) rfl kont) ?_
    show Goes p e below _ T23 (mkF m 157 #[.val (.int p1), .val (.int p2), .val (.int p3), .val (.int p4), .val (.int (3 : Int32)), .val (.long x0), .second, .val (.long y0), .second, .val (.long x1), .second, .val (.long y1), .second, .val (.long x2), .second, .val (.long y2), .second, .val (.ref ax), .val (.ref ay), .val (.long rf2), .second, .unset, .unset] [(.long (x2 - y2)), (.long rf2)])
    refine Goes.of (fun _ kont => XT.lload X23.here hx rfl (Jvm.hb hby at_157) rfl kont) ?_
    show Goes p e below _ T23 (mkF m 159 #[.val (.int p1), .val (.int p2), .val (.int p3), .val (.int p4), .val (.int (3 : Int32)), .val (.long x0), .second, .val (.long y0), .second, .val (.long x1), .second, .val (.long y1), .second, .val (.long x2), .second, .val (.long y2), .second, .val (.ref ax), .val (.ref ay), .val (.long rf2), .second, .unset, .unset] [(.long x2), (.long (x2 - y2)), (.long rf2)])
    refine Goes.of (fun _ kont => XT.lload X23.here hx rfl (Jvm.hb hby at_159) rfl kont) ?_
    show Goes p e below _ T23 (mkF m 161 #[.val (.int p1), .val (.int p2), .val (.int p3), .val (.int p4), .val (.int (3 : Int32)), .val (.long x0), .second, .val (.long y0), .second, .val (.long x1), .second, .val (.long y1), .second, .val (.long x2), .second, .val (.long y2), .second, .val (.ref ax), .val (.ref ay), .val (.long rf2), .second, .unset, .unset] [(.long y2), (.long x2), (.long (x2 - y2)), (.long rf2)])
    refine Goes.of (fun _ kont => XT.lsub X23.here hx rfl (Jvm.hb hby at_161) rfl kont) ?_
    show Goes p e below _ T23 (mkF m 162 #[.val (.int p1), .val (.int p2), .val (.int p3), .val (.int p4), .val (.int (3 : Int32)), .val (.long x0), .second, .val (.long y0), .second, .val (.long x1), .second, .val (.long y1), .second, .val (.long x2), .second, .val (.long y2), .second, .val (.ref ax), .val (.ref ay), .val (.long rf2), .second, .unset, .unset] [(.long (x2 - y2)), (.long (x2 - y2)), (.long rf2)])
    refine Goes.of (fun _ kont => XT.lmul X23.here hx rfl (Jvm.hb hby at_162) rfl kont) ?_
    show Goes p e below _ T23 (mkF m 163 #[.val (.int p1), .val (.int p2), .val (.int p3), .val (.int p4), .val (.int (3 : Int32)), .val (.long x0), .second, .val (.long y0), .second, .val (.long x1), .second, .val (.long y1), .second, .val (.long x2), .second, .val (.long y2), .second, .val (.ref ax), .val (.ref ay), .val (.long rf2), .second, .unset, .unset] [(.long ((x2 - y2) * (x2 - y2))), (.long rf2)])
    refine Goes.of (fun _ kont => XT.ladd X23.here hx rfl (Jvm.hb hby at_163) rfl kont) ?_
    show Goes p e below _ T23 (mkF m 164 #[.val (.int p1), .val (.int p2), .val (.int p3), .val (.int p4), .val (.int (3 : Int32)), .val (.long x0), .second, .val (.long y0), .second, .val (.long x1), .second, .val (.long y1), .second, .val (.long x2), .second, .val (.long y2), .second, .val (.ref ax), .val (.ref ay), .val (.long rf2), .second, .unset, .unset] [(.long (rf2 + ((x2 - y2) * (x2 - y2))))])
    generalize hrf3 : (rf2 + ((x2 - y2) * (x2 - y2))) = rf3
    show Goes p e below _ T23 (mkF m 164 #[.val (.int p1), .val (.int p2), .val (.int p3), .val (.int p4), .val (.int (3 : Int32)), .val (.long x0), .second, .val (.long y0), .second, .val (.long x1), .second, .val (.long y1), .second, .val (.long x2), .second, .val (.long y2), .second, .val (.ref ax), .val (.ref ay), .val (.long rf2), .second, .unset, .unset] [(.long rf3)])
    have r3 := own_ref bx2 by2 (by have := own_sqb bx0 by0; have := own_sqb bx1 by1; omega) hrf3
    rw [r2] at r3
    refine Goes.of (fun _ kont => XT.lstore X23.here hx rfl (Jvm.hb hby at_164) rfl (l' := #[.val (.int p1), .val (.int p2), .val (.int p3), .val (.int p4), .val (.int (3 : Int32)), .val (.long x0), .second, .val (.long y0), .second, .val (.long x1), .second, .val (.long y1), .second, .val (.long x2), .second, .val (.long y2), .second, .val (.ref ax), .val (.ref ay), .val (.long rf3), .second, .unset, .unset]) rfl kont) ?_
    show Goes p e below _ T23 (mkF m 166 #[.val (.int p1), .val (.int p2), .val (.int p3), .val (.int p4), .val (.int (3 : Int32)), .val (.long x0), .second, .val (.long y0), .second, .val (.long x1), .second, .val (.long y1), .second, .val (.long x2), .second, .val (.long y2), .second, .val (.ref ax), .val (.ref ay), .val (.long rf3), .second, .unset, .unset] [])
    refine Goes.of (fun _ kont => XS.aload X23.here hx rfl (Jvm.hb hby at_166) rfl rfl kont) ?_
    show Goes p e below _ T23 (mkF m 168 #[.val (.int p1), .val (.int p2), .val (.int p3), .val (.int p4), .val (.int (3 : Int32)), .val (.long x0), .second, .val (.long y0), .second, .val (.long x1), .second, .val (.long y1), .second, .val (.long x2), .second, .val (.long y2), .second, .val (.ref ax), .val (.ref ay), .val (.long rf3), .second, .unset, .unset] [(.ref ax)])
    refine Goes.of (fun _ kont => XS.aload X23.here hx rfl (Jvm.hb hby at_168) rfl rfl kont) ?_
    show Goes p e below _ T23 (mkF m 170 #[.val (.int p1), .val (.int p2), .val (.int p3), .val (.int p4), .val (.int (3 : Int32)), .val (.long x0), .second, .val (.long y0), .second, .val (.long x1), .second, .val (.long y1), .second, .val (.long x2), .second, .val (.long y2), .second, .val (.ref ax), .val (.ref ay), .val (.long rf3), .second, .unset, .unset] [(.ref ay), (.ref ax)])
    refine callC X23 hx hZ hown (hw _ (List.mem_of_getElem? (i := 1) rfl)) (hw _ (List.mem_of_getElem? (i := 2) rfl)) (hw _ (List.mem_of_getElem? (i := 3) rfl)) (hw _ (List.mem_of_getElem? (i := 4) rfl)) (by decide) (as := [(.ref ax), (.ref ay)]) (rm1_3 l Z a0 hw ax ay (FP.l2d x0) (FP.l2d y0) x0.toInt y0.toInt (FP.l2d x1) (FP.l2d y1) x1.toInt y1.toInt (FP.l2d x2) (FP.l2d y2) x2.toInt y2.toInt h23 n0 Z23 V_ax_23 V_ay_23 Dx0 Dy0 bx0 by0 Dx1 Dy1 bx1 by1 Dx2 Dy2 bx2 by2) 0 (by decide) (by decide) e23 (by decide) (by decide) (g := mkF m 170 #[.val (.int p1), .val (.int p2), .val (.int p3), .val (.int p4), .val (.int (3 : Int32)), .val (.long x0), .second, .val (.long y0), .second, .val (.long x1), .second, .val (.long y1), .second, .val (.long x2), .second, .val (.long y2), .second, .val (.ref ax), .val (.ref ay), .val (.long rf3), .second, .unset, .unset] [(.ref ay), (.ref ax)]) rfl (by rw [hml]; rfl) (rest := []) (lenOf pd_0 rfl) rfl (by show 2 * 0 + _ ≤ _; exact Nat.le_of_eq rfl) (Jvm.hb hby at_170) ?_
    rintro _ T24 L24 X24 ⟨⟨z24, rfl, Dz24⟩, N24, e24⟩
    show Goes p e below _ T24 (mkF m 173 #[.val (.int p1), .val (.int p2), .val (.int p3), .val (.int p4), .val (.int (3 : Int32)), .val (.long x0), .second, .val (.long y0), .second, .val (.long x1), .second, .val (.long y1), .second, .val (.long x2), .second, .val (.long y2), .second, .val (.ref ax), .val (.ref ay), .val (.long rf3), .second, .unset, .unset] [(.double z24)])
    refine Goes.of (fun _ kont => XS.dstore X24.here hx rfl (Jvm.hb hby at_173) rfl (l' := #[.val (.int p1), .val (.int p2), .val (.int p3), .val (.int p4), .val (.int (3 : Int32)), .val (.long x0), .second, .val (.long y0), .second, .val (.long x1), .second, .val (.long y1), .second, .val (.long x2), .second, .val (.long y2), .second, .val (.ref ax), .val (.ref ay), .val (.long rf3), .second, .val (.double z24), .second]) rfl kont) ?_
    show Goes p e below _ T24 (mkF m 175 #[.val (.int p1), .val (.int p2), .val (.int p3), .val (.int p4), .val (.int (3 : Int32)), .val (.long x0), .second, .val (.long y0), .second, .val (.long x1), .second, .val (.long y1), .second, .val (.long x2), .second, .val (.long y2), .second, .val (.ref ax), .val (.ref ay), .val (.long rf3), .second, .val (.double z24), .second] [])
    refine Goes.of (fun _ kont => XS.dload X24.here hx rfl (Jvm.hb hby at_175) rfl kont) ?_
    show Goes p e below _ T24 (mkF m 177 #[.val (.int p1), .val (.int p2), .val (.int p3), .val (.int p4), .val (.int (3 : Int32)), .val (.long x0), .second, .val (.long y0), .second, .val (.long x1), .second, .val (.long y1), .second, .val (.long x2), .second, .val (.long y2), .second, .val (.ref ax), .val (.ref ay), .val (.long rf3), .second, .val (.double z24), .second] [(.double z24)])
    refine Goes.of (fun _ kont => XT.lload X24.here hx rfl (Jvm.hb hby at_177) rfl kont) ?_
    show Goes p e below _ T24 (mkF m 179 #[.val (.int p1), .val (.int p2), .val (.int p3), .val (.int p4), .val (.int (3 : Int32)), .val (.long x0), .second, .val (.long y0), .second, .val (.long x1), .second, .val (.long y1), .second, .val (.long x2), .second, .val (.long y2), .second, .val (.ref ax), .val (.ref ay), .val (.long rf3), .second, .val (.double z24), .second] [(.long rf3), (.double z24)])
    refine Goes.of (fun _ kont => XS.l2dS X24.here hx rfl (Jvm.hb hby at_179) rfl rfl kont) ?_
    show Goes p e below _ T24 (mkF m 180 #[.val (.int p1), .val (.int p2), .val (.int p3), .val (.int p4), .val (.int (3 : Int32)), .val (.long x0), .second, .val (.long y0), .second, .val (.long x1), .second, .val (.long y1), .second, .val (.long x2), .second, .val (.long y2), .second, .val (.ref ax), .val (.ref ay), .val (.long rf3), .second, .val (.double z24), .second] [(.double (FP.l2d rf3)), (.double z24)])
    refine Goes.of (fun _ kont => XS.dcmpS X24.here hx rfl (Jvm.hb hby at_180) rfl rfl kont) ?_
    show Goes p e below _ T24 (mkF m 181 #[.val (.int p1), .val (.int p2), .val (.int p3), .val (.int p4), .val (.int (3 : Int32)), .val (.long x0), .second, .val (.long y0), .second, .val (.long x1), .second, .val (.long y1), .second, .val (.long x2), .second, .val (.long y2), .second, .val (.ref ax), .val (.ref ay), .val (.long rf3), .second, .val (.double z24), .second] [(.int (cmpValue (FP.dcmp z24 (FP.l2d rf3)) .l))])
    have De := dy_l2d (n := rf3) (by have := own_sqb bx0 by0; have := own_sqb bx1 by1; have := own_sqb bx2 by2; rw [r3]; omega)
    rw [r3] at De
    refine Goes.of (fun _ kont => XS.ifNo X24.here hx rfl (Jvm.hb hby at_181) rfl (by rw [dy_eq Dz24 De rfl]; decide) kont) ?_
    show Goes p e below _ T24 (mkF m 184 #[.val (.int p1), .val (.int p2), .val (.int p3), .val (.int p4), .val (.int (3 : Int32)), .val (.long x0), .second, .val (.long y0), .second, .val (.long x1), .second, .val (.long y1), .second, .val (.long x2), .second, .val (.long y2), .second, .val (.ref ax), .val (.ref ay), .val (.long rf3), .second, .val (.double z24), .second] [])
    refine Goes.of (fun _ kont => XS.iconst X24.here hx rfl (Jvm.hb hby at_184) kont) ?_
    show Goes p e below _ T24 (mkF m 185 #[.val (.int p1), .val (.int p2), .val (.int p3), .val (.int p4), .val (.int (3 : Int32)), .val (.long x0), .second, .val (.long y0), .second, .val (.long x1), .second, .val (.long y1), .second, .val (.long x2), .second, .val (.long y2), .second, .val (.ref ax), .val (.ref ay), .val (.long rf3), .second, .val (.double z24), .second] [(.int (1 : Int32))])
    refine Goes.of (fun _ kont => XS.goto X24.here hx rfl (pc0 := 185) (pc' := 189) rfl (Jvm.hb hby at_185) (by decide) (by decide) kont) ?_
    show Goes p e below _ T24 (mkF m 189 #[.val (.int p1), .val (.int p2), .val (.int p3), .val (.int p4), .val (.int (3 : Int32)), .val (.long x0), .second, .val (.long y0), .second, .val (.long x1), .second, .val (.long y1), .second, .val (.long x2), .second, .val (.long y2), .second, .val (.ref ax), .val (.ref ay), .val (.long rf3), .second, .val (.double z24), .second] [(.int (1 : Int32))])
    exact retB X24 hx hlk (t := .boolean) hret (by simp) (Jvm.hb hby at_189) (by decide) (by decide) ⟨rfl, Fr.app N23 N24⟩
set_option maxRecDepth 65536 in
set_option maxHeartbeats 40000000 in
theorem comes_1 {Post : Tables → Env → Array Value → State → Outcome → State → Prop} (hpost : ∀ tb e args s v u, (limb_1_1.after args s (.returned v) u = true ∧ limb_1_2.after args s (.returned v) u = true ∧ True) → FrameEnd s (.returned v) u (Jvm.fieldLocs frame_1_writes args s ++ Jvm.arrayLocs frame_1_arrays args s ++ Jvm.staticLocs frame_1_statics s) 16 128 → Post tb e args s (.returned v) u) :
    ArmFor flags0 classFile x code maxLocals ret World_1 tables_1 room_1 Calls_1 rest_1 Pre_1 Post := by
  intro l hfl _ _ p e ha hc hk s m args below hf hA hF happ hP
  obtain ⟨hcalls, hrest, hpre⟩ := hP
  obtain ⟨-, -, -, hnamed, -, -, -, hat⟩ := (Spec.applies_iff hf).mp happ
  obtain ⟨hg, hn⟩ := and_e (Cond.before_iff.mp (show (Jvm.Cond.and given_1 narrow_1).before args s = true from hpre))
  obtain ⟨g0, r0⟩ := and_e hg
  obtain ⟨g1, r1⟩ := and_e r0
  obtain ⟨g2, r2⟩ := and_e r1
  obtain ⟨g3, r3⟩ := and_e r2
  obtain ⟨w0, w1, w2, w3, rfl⟩ : ∃ w0 w1 w2 w3 : Value, args = #[w0, w1, w2, w3] := by
    have hs : args.size = 4 := by simpa [Cond.value, given_1] using g0
    obtain ⟨L⟩ := args
    match L, hs with
    | [w0, w1, w2, w3], _ => exact ⟨w0, w1, w2, w3, rfl⟩
  have hw := fun d (hd : d ∈ tables_1) => atoms_spec (ws := Jvm.Cond.code x code maxLocals ret :: tables_1) hat d (List.mem_cons_of_mem _ hd)
  obtain ⟨i0, ei0⟩ := is_v g1
  obtain rfl : w0 = (.int i0) := Option.some.inj ei0
  obtain ⟨i1, ei1⟩ := is_v g2
  obtain rfl : w1 = (.int i1) := Option.some.inj ei1
  obtain ⟨i2, ei2⟩ := is_v g3
  obtain rfl : w2 = (.int i2) := Option.some.inj ei2
  obtain ⟨i3, ei3⟩ := is_v r3
  obtain rfl : w3 = (.int i3) := Option.some.inj ei3
  obtain ⟨n, o, h1, h2, h3, _, L, rfl, ⟨rfl, N⟩, hq⟩ := rm0 l s _ hw i0 i1 i2 i3 s.heap s.heap.size (Nat.le_refl _) tables_1 p e ha hc hk s m _ below hf ((Spec.applies_iff_loose hf).mp happ).1 ⟨rfl, State.Warmed39.refl s, rfl⟩ trivial
  refine ⟨n, _, h1, h2, h3, hpost _ _ _ _ _ _ ⟨Cond.after_iff.mpr rfl, Cond.after_iff.mpr (eq_i res_at (Term.int_eval (1)) rfl), trivial⟩ ⟨hq.1, hq.2.1, (hq.2.2.sift fun y hy => Or.inr (N y hy)).mono (by decide) (by decide)⟩⟩
theorem main_1_1 : Claimed_1_1 := comes_1 fun _ _ _ _ _ _ h hF => ⟨h.1, hF⟩
theorem main_1_2 : Claimed_1_2 := comes_1 fun _ _ _ _ _ _ h hF => ⟨h.2.1, hF⟩
end Jvm.Pilot.@@N@@
namespace Jvm.Pilot.@@N@@
open Jvm Jvm.ClassFile Sem Op Lib Jvm.Free Jvm.Stand Jvm.Pilot.@@N@@.Jvm.D
/-! MADE BY PROGRAM (witnessworld.py) out of the Statement's table words and the real class files: 11 classes; the members and pool entries that the words name. The judged class is class 1, her method 1. -/
namespace start1
open Jvm.ClassFile
def u (s : String) : CpInfo := .utf8 (stringToUtf16 s)
/-- a pool by its gaps: so many unusable entries, then the entry; so many at the end -/
def gap : Nat → List CpInfo → List CpInfo
  | 0, r => r
  | n + 1, r => .unusable :: gap n r
def poolList (es : List (Nat × CpInfo)) (last : Nat) : List CpInfo := es.foldr (fun e r => gap e.1 (e.2 :: r)) (gap last [])
def pool (es : List (Nat × CpInfo)) (last : Nat) : Array CpInfo := ⟨poolList es last⟩
def fileOf (pool : Array CpInfo) (this : Nat) (attrs : Array Attribute := #[]) (ms : Array MethodInfo := #[]) (fl : Nat := 33) (sup : Nat := 0) (ifs : Array Nat := #[]) (fds : Array FieldInfo := #[]) : ClassFile where
  minorVersion := 0
  majorVersion := 65
  constantPool := pool
  accessFlags := fl
  thisClass := this
  superClass := sup
  interfaces := ifs
  fields := fds
  methods := ms
  attributes := attrs
def plain (name : String) (sup : Option ClassId) : Class where
  name := name
  kind := .ordinary
  loader := none
  accessFlags := 33
  super := sup
  interfaces := #[]
  cf := none
  fields := #[]
  methods := #[]
  instanceTypes := #[]
  staticTypes := #[]
  resolved := #[]
  callSites := []
  init := .initialized
  statics := none
  mirror := none

def pool0 : Array CpInfo := pool [(5, u "<init>"), (0, u "()V"), (1, .class_ 10), (1, u "java/lang/Object")] 113

def k0m0 : Method := { name := "<init>", desc := "()V", sig := { parameters := [], returnType := none }, accessFlags := 1, code := none }
/-- java/lang/Object -/
def k0 : Class := { plain "java/lang/Object" none with
  accessFlags := 33
  interfaces := #[]
  cf := some (fileOf pool0 8 #[] #[{ accessFlags := 1, nameIndex := 5, descriptorIndex := 6, attributes := #[] }] 33 0 #[] #[])
  fields := #[]
  methods := #[k0m0]
  instanceTypes := #[]
  staticTypes := #[]
  resolved := Array.replicate 124 none
  statics := none }

def pool1 : Array CpInfo := pool [(2, .class_ 4), (1, u "java/lang/Object"), (0, u "<init>"), (0, u "()V"), (0, .methodref 8 9), (0, .class_ 10), (0, .nameAndType 11 12), (0, u "com/example/memechain/memechain/benchmark/Functions"), (0, u "shiftedSphere"), (0, u "([D[D)D"), (0, .class_ 14), (0, u "com/example/memechain/memechain/benchmark/FunctionsShiftedSpherePinLaw"), (2, u "law"), (0, u "(IIII)Z")] 5

def k1m0 : Method := { name := "<init>", desc := "()V", sig := { parameters := [], returnType := none }, accessFlags := 2, code := none }
def k1c1 : Code := { maxStack := 8, maxLocals := 23, code := code, exceptionTable := #[], attributes := #[] }
def k1m1 : Method := { name := "law", desc := "(IIII)Z", sig := { parameters := [.int, .int, .int, .int], returnType := some .boolean }, accessFlags := 9, code := some k1c1 }
/-- com/example/memechain/memechain/benchmark/FunctionsShiftedSpherePinLaw -/
def k1 : Class := { plain "com/example/memechain/memechain/benchmark/FunctionsShiftedSpherePinLaw" (some 0) with
  accessFlags := 49
  interfaces := #[]
  cf := some (fileOf pool1 13 #[] #[{ accessFlags := 2, nameIndex := 5, descriptorIndex := 6, attributes := #[] }, { accessFlags := 9, nameIndex := 17, descriptorIndex := 18, attributes := #[] }] 49 2 #[] #[])
  fields := #[]
  methods := #[k1m0, k1m1]
  instanceTypes := #[]
  staticTypes := #[]
  resolved := Array.replicate 24 none
  statics := none }

def pool2 : Array CpInfo := pool [(4, .class_ 6), (1, u "java/lang/Object"), (0, u "<init>"), (0, u "()V"), (0, .class_ 10), (0, u "com/example/memechain/memechain/benchmark/Functions"), (35, u "CEC2008"), (0, u "Ljava/util/List;"), (10, u "SCALABILITY"), (6, u "ALL"), (40, u "SUITES"), (0, u "Ljava/util/Map;"), (45, u "([D[D)D"), (51, .class_ 207), (1, u "com/example/memechain/memechain/benchmark/Functions$ShiftedError"), (104, u "CEC2008_MAX_DIMENSION"), (0, u "I"), (2, u "PAIRS_MIN_DIMENSION"), (1, u "SMALLEST_SAFE_SQUARES"), (0, u "D"), (0, u "UNLIMITED"), (19, u "shiftedSphere"), (20, .class_ 362), (0, u "com/example/memechain/memechain/benchmark/Functions$UnshiftedError")] 66

def k2m0 : Method := { name := "<init>", desc := "()V", sig := { parameters := [], returnType := none }, accessFlags := 2, code := none }
def k2c1 : Code := { maxStack := 6, maxLocals := 7, code := prog_26_method_12_code, exceptionTable := #[], attributes := #[] }
def k2m1 : Method := { name := "shiftedSphere", desc := "([D[D)D", sig := { parameters := [(.array .double), (.array .double)], returnType := some .double }, accessFlags := 8, code := some k2c1 }
/-- com/example/memechain/memechain/benchmark/Functions -/
def k2 : Class := { plain "com/example/memechain/memechain/benchmark/Functions" (some 0) with
  accessFlags := 49
  interfaces := #[]
  cf := some (fileOf pool2 9 #[.nestMembers #[361, 205]] #[{ accessFlags := 2, nameIndex := 7, descriptorIndex := 8, attributes := #[] }, { accessFlags := 8, nameIndex := 340, descriptorIndex := 153, attributes := #[] }] 49 4 #[] #[{ accessFlags := 26, nameIndex := 312, descriptorIndex := 313, attributes := #[] }, { accessFlags := 26, nameIndex := 316, descriptorIndex := 313, attributes := #[] }, { accessFlags := 26, nameIndex := 318, descriptorIndex := 319, attributes := #[] }, { accessFlags := 26, nameIndex := 320, descriptorIndex := 313, attributes := #[] }, { accessFlags := 26, nameIndex := 46, descriptorIndex := 47, attributes := #[] }, { accessFlags := 26, nameIndex := 58, descriptorIndex := 47, attributes := #[] }, { accessFlags := 26, nameIndex := 65, descriptorIndex := 47, attributes := #[] }, { accessFlags := 26, nameIndex := 106, descriptorIndex := 107, attributes := #[] }])
  fields := #[{ name := "CEC2008_MAX_DIMENSION", type := .int, accessFlags := 26, slot := 0, constantValue := 0 }, { name := "PAIRS_MIN_DIMENSION", type := .int, accessFlags := 26, slot := 1, constantValue := 0 }, { name := "SMALLEST_SAFE_SQUARES", type := .double, accessFlags := 26, slot := 2, constantValue := 0 }, { name := "UNLIMITED", type := .int, accessFlags := 26, slot := 3, constantValue := 0 }, { name := "CEC2008", type := (.object "java/util/List"), accessFlags := 26, slot := 4, constantValue := 0 }, { name := "SCALABILITY", type := (.object "java/util/List"), accessFlags := 26, slot := 5, constantValue := 0 }, { name := "ALL", type := (.object "java/util/List"), accessFlags := 26, slot := 6, constantValue := 0 }, { name := "SUITES", type := (.object "java/util/Map"), accessFlags := 26, slot := 7, constantValue := 0 }]
  methods := #[k2m0, k2m1]
  instanceTypes := #[]
  staticTypes := #[.int, .int, .double, .int, (.object "java/util/List"), (.object "java/util/List"), (.object "java/util/List"), (.object "java/util/Map")]
  resolved := Array.replicate 429 none
  statics := none }

def pool3 : Array CpInfo := pool [(1, u "java/lang/Cloneable"), (0, .class_ 1), (0, u "java/lang/Object"), (0, .class_ 3)] 3

/-- java/lang/Cloneable -/
def k3 : Class := { plain "java/lang/Cloneable" (some 0) with
  accessFlags := 1537
  interfaces := #[]
  cf := some (fileOf pool3 2 #[] #[] 1537 4 #[] #[])
  fields := #[]
  methods := #[]
  instanceTypes := #[]
  staticTypes := #[]
  resolved := Array.replicate 8 none
  statics := none }

def pool4 : Array CpInfo := pool [(1, u "java/io/Serializable"), (0, .class_ 1), (0, u "java/lang/Object"), (0, .class_ 3)] 3

/-- java/io/Serializable -/
def k4 : Class := { plain "java/io/Serializable" (some 0) with
  accessFlags := 1537
  interfaces := #[]
  cf := some (fileOf pool4 2 #[] #[] 1537 4 #[] #[])
  fields := #[]
  methods := #[]
  instanceTypes := #[]
  staticTypes := #[]
  resolved := Array.replicate 8 none
  statics := none }

/-- the primitive byte -/
def k5 : Class := { plain "byte" none with kind := .primitive 'B', accessFlags := 0x411 }
/-- [B -/
def k6 : Class := { plain "[B" (some 0) with kind := .array 5 .byte, interfaces := #[3, 4], accessFlags := 1041 }

/-- the primitive double -/
def k7 : Class := { plain "double" none with kind := .primitive 'D', accessFlags := 0x411 }
/-- [D -/
def k8 : Class := { plain "[D" (some 0) with kind := .array 7 .double, interfaces := #[3, 4], accessFlags := 1041 }

/-- the primitive int -/
def k9 : Class := { plain "int" none with kind := .primitive 'I', accessFlags := 0x411 }
/-- [I -/
def k10 : Class := { plain "[I" (some 0) with kind := .array 9 .int, interfaces := #[3, 4], accessFlags := 1041 }

def heap : Heap := #[]
def classes : Array Class := #[k0, k1, k2, k3, k4, k5, k6, k7, k8, k9, k10]
def interned : List (Array UInt16 × Addr) := []
def slotsUsed : Nat := 0
def theMethod : MethodId := ⟨1, 1⟩
def args0 : Array Value := #[.int 5, .int 3, .int 7, .int 2]
def aboutOver (below : List Frame) : State where
  vm := { classes := classes, interned := interned.toArray }
  heap := heap
  slotsUsed := slotsUsed
  threads := #[{ frames := .invoking theMethod args0 :: below }]
def below0 : List Frame := [.native { method := ⟨0, 0⟩, args := #[] }]
def about1 : State := aboutOver below0
def p0 : Program := .bare "" "" ""
def e0 : Env := launch0.env 0 0 0
theorem w_frames : about1.frames = Frame.invoking theMethod args0 :: below0 := rfl
set_option maxRecDepth 65536 in
theorem w_args : argsFit about1.vm theMethod args0 = true := by decide +kernel
set_option maxRecDepth 65536 in
theorem w_heap : heapFits about1 = true := by decide +kernel
set_option maxRecDepth 65536 in
theorem w_runnable : about1.curStatus? = some .runnable := by decide +kernel
set_option maxRecDepth 65536 in
theorem w_alone : about1.alone = true := by decide +kernel
set_option maxRecDepth 65536 in
theorem w_named : about1.methodNamed? x = some theMethod := by decide +kernel
set_option maxRecDepth 65536 in
theorem w_hears : about1.hears theMethod below0 = true := by decide +kernel
set_option maxRecDepth 65536 in
theorem w_ripe : about1.ripe theMethod args0 below0 = true := by decide +kernel
theorem w_running : about1.status = .running := rfl
set_option maxRecDepth 65536 in
theorem w_room : about1.hasRoom e0.platform room_1 = true :=
  launch0.hasRoom_least _ room_1 (by decide +kernel) (by decide +kernel) (by decide +kernel) (by decide +kernel) (by decide +kernel) (by decide +kernel)
theorem allAtoms_all (ts : List Jvm.Cond) (a : Array Jvm.Value) (st : Jvm.State) : (allAtoms ts).before a st = ts.all (fun c => c.before a st) := by
  induction ts with
  | nil => rfl
  | cons c t ih =>
    show (Jvm.Cond.and c (allAtoms t)).before a st = _
    rw [Jvm.Cond.before_and, ih, List.all_cons]
def words1 : List Jvm.Cond := Jvm.Cond.code x code maxLocals ret :: tables_1
/-- a 'code' word, met by the world's own term for the bytes: nothing is compared byte by byte -/
theorem code_word {y : MethodName} {bytes : ByteArray} {mx : Nat} {rt : Option FieldType} {a : Array Value} {s : State} {m : MethodId} {meth : Method} {c : Code} (h1 : s.methodNamed? y = some m) (h2 : s.vm.method? m = some meth) (h3 : meth.code = some c) (h4 : c.code = bytes)
    (h5 : (c.maxLocals == mx && c.exceptionTable.isEmpty && decide (c.maxStack ≤ mostOperands) && decide (meth.sig.returnType = rt) && !meth.locks && decide (parseMethodDescriptor y.desc = some meth.sig)) = true) : (Jvm.Cond.code y bytes mx rt).before a s = true := by
  simp only [Bool.and_eq_true, beq_iff_eq, Bool.not_eq_true', decide_eq_true_eq] at h5
  obtain ⟨⟨⟨⟨⟨g1, g2⟩, g3⟩, g4⟩, g5⟩, g6⟩ := h5
  simp [Cond.before, Cond.holds, Cond.value, h1, h2, h3, h4, g1, g2, g3, g4, g5, g6]
def isCode : Jvm.Cond → Bool
  | .code _ _ _ _ => true
  | _ => false
theorem all_split {L : List Jvm.Cond} {P : Jvm.Cond → Bool} (h1 : L.all (fun c => isCode c || P c) = true) (h2 : ∀ c ∈ L.filter isCode, P c = true) : L.all P = true := by
  refine List.all_eq_true.mpr fun c hc => ?_
  have h := List.all_eq_true.mp h1 c hc
  rcases Bool.eq_false_or_eq_true (isCode c) with hi | hi
  · exact h2 c (List.mem_filter.mpr ⟨hc, hi⟩)
  · simpa [hi] using h
set_option maxRecDepth 65536 in
theorem w_c0 : (Jvm.Cond.code x code maxLocals ret).before args0 about1 = true := code_word (m := ⟨1, 1⟩) (meth := k1m1) (c := k1c1) (by decide +kernel) rfl rfl rfl (by decide +kernel)
set_option maxRecDepth 65536 in
theorem w_c1 : (Jvm.Cond.code ({ cls := "com/example/memechain/memechain/benchmark/Functions", name := "shiftedSphere", desc := "([D[D)D" } : Jvm.MethodName) prog_26_method_12_code (7 : Nat) (Option.some Jvm.ClassFile.FieldType.double)).before args0 about1 = true := code_word (m := ⟨2, 1⟩) (meth := k2m1) (c := k2c1) (by decide +kernel) rfl rfl rfl (by decide +kernel)
def codes1 : List Jvm.Cond := [Jvm.Cond.code x code maxLocals ret, Jvm.Cond.code ({ cls := "com/example/memechain/memechain/benchmark/Functions", name := "shiftedSphere", desc := "([D[D)D" } : Jvm.MethodName) prog_26_method_12_code (7 : Nat) (Option.some Jvm.ClassFile.FieldType.double)]
set_option maxRecDepth 65536 in
theorem codes_eq : words1.filter isCode = codes1 := rfl
theorem w_codes : ∀ c ∈ words1.filter isCode, c.before args0 about1 = true := by
  rw [codes_eq]
  intro c hc
  simp only [codes1, List.mem_cons, List.not_mem_nil, or_false] at hc
  rcases hc with rfl | rfl
  · exact w_c0
  · exact w_c1
set_option maxRecDepth 65536 in
theorem w_t1 : words1.all (fun c => isCode c || c.before args0 about1) = true := by decide +kernel
theorem w_tables : (allAtoms (Jvm.Cond.code x code maxLocals ret :: tables_1)).before args0 about1 = true := by
  rw [allAtoms_all]
  show words1.all (fun c => c.before args0 about1) = true
  refine all_split ?_ w_codes
  rw [w_t1]
set_option maxRecDepth 65536 in
theorem w_case : (Jvm.Cond.and given_1 narrow_1).before args0 about1 = true := by decide +kernel
theorem w_applies : (headSpec (Jvm.Cond.code x code maxLocals ret :: tables_1) room_1).applies x e0.platform about1 = true :=
  (Spec.applies_iff w_frames).mpr ⟨w_running, w_runnable, w_alone, w_named, w_hears, w_ripe, w_room, w_tables⟩
theorem atStart : AtStart classFile x code maxLocals ret World_1 tables_1 room_1 Calls_1 rest_1 Pre_1 launch0 p0 e0 about1 theMethod args0 below0 :=
  ⟨lists_1, trivial, launch0.admits_env _ _ _, launch0.least_env, fairChoices_fair.cas, fairChoices_fair.clock, w_frames, w_args, w_heap, w_applies, trivial, trivial, w_case⟩
end start1
theorem witness_1 : WitnessClaimed_1 := ⟨start1.p0, start1.e0, start1.about1, start1.theMethod, start1.args0, start1.below0, start1.atStart⟩
end Jvm.Pilot.@@N@@
