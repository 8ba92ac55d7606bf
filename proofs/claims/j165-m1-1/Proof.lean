import JvmDerived
import JvmDerived.Pilot.@@N@@Statement
import JvmDerived.Pilot.@@N@@Code
set_option linter.unusedVariables false
set_option linter.unusedSimpArgs false
namespace Jvm.OwnFp
open Jvm.FP.Core Op
/-! own: exact values. `Dyf f i k d`: the datum d is finite and worth i / 2^k. -/
def Dyf (f : Fmt) (i : Int) (k : Nat) (d : Datum) : Prop := (∃ s c q, d = .fin s c q) ∧ zval f d * 2 ^ k = i * 2 ^ (-f.qmin).toNat
theorem pw_pos (n : Nat) : (0 : Int) < 2 ^ n := Int.pow_pos (by decide)
theorem pw_cast (n : Nat) : ((2 ^ n : Nat) : Int) = 2 ^ n := by simp
theorem signed_abs (i : Int) : signed (decide (i < 0)) i.natAbs = i := by
  unfold signed
  by_cases h : i < 0 <;> simp [h] <;> omega
theorem signed_mulI (s : Bool) (c k : Nat) : signed s (c * 2 ^ k) = signed s c * 2 ^ k := by
  rw [signed_mul, pw_cast]
theorem vex {f : Fmt} (hf : Good f) {i : Int} {k : Nat} (hi : i.natAbs < 2 ^ f.p) (hk : (k : Int) ≤ -f.qmin) (hq : 0 ≤ f.qmax) :
    ∃ s c q, FP.Core.fits f (.fin s c q) ∧ zval f (.fin s c q) * 2 ^ k = i * 2 ^ (-f.qmin).toNat := by
  obtain ⟨c', q', h, hu⟩ := round_exact hf (decide (i < 0)) (c := i.natAbs) (q := -(k : Int)) hi (by omega) (by omega)
  refine ⟨_, c', q', h ▸ round_fits hf _, ?_⟩
  show signed (decide (i < 0)) (inUnits c' q' f.qmin) * 2 ^ k = _
  rw [hu]
  unfold inUnits
  rw [signed_mulI, signed_abs, Int.mul_assoc, ← Int.pow_add, show (-(k : Int) - f.qmin).toNat + k = (-f.qmin).toNat by omega]
theorem dyf_of_zval {f : Fmt} (hf : Good f) {s : Bool} {A B : Nat} {e : Int} {s' : Bool} {c' : Nat} {q' : Int} (hV : FP.Core.fits f (.fin s' c' q'))
    (hz : zval f (roundRatio f s A B e) = zval f (.fin s' c' q')) : ∃ s₀ c₀ q₀, roundRatio f s A B e = .fin s₀ c₀ q₀ := by
  rcases roundRatio_cases f s A B e with ⟨c, q, h⟩ | h
  · exact ⟨s, c, q, h⟩
  · exfalso
    rw [h] at hz
    have h1 := zmag_lt_top hf hV
    have h2 := congrArg Int.natAbs hz
    unfold zval at h2
    rw [natAbs_signed, natAbs_signed] at h2
    have h3 : zmag f (.inf s) = f.tails * 2 ^ (f.exps - 2) := rfl
    have h4 : zmag f (.fin s' c' q') = inUnits c' q' f.qmin := rfl
    omega
/-- an exact result that the format holds is not rounded -/
theorem rnd {f : Fmt} (hf : Good f) (hq : 0 ≤ f.qmax) {s : Bool} {c : Nat} {q e0 : Int} (h0 : e0 ≤ f.qmin) (h0e : e0 ≤ q) {i : Int} {k : Nat} (hi : i.natAbs < 2 ^ f.p) (hk : (k : Int) ≤ -f.qmin)
    (h : signed s (inUnits c q e0) * 2 ^ k = i * 2 ^ (-f.qmin).toNat * 2 ^ (f.qmin - e0).toNat) : Dyf f i k (round f (.fin s c q)) := by
  obtain ⟨s', c', q', hV, hv⟩ := vex hf hi hk hq
  have hn : Datum.fin s' c' q' ≠ .nan := nofun
  have he : zval f (.fin s' c' q') * ((2 ^ (f.qmin - e0).toNat : Nat) : Int) = signed s (inUnits c q e0) := by
    refine Int.eq_of_mul_eq_mul_right (Int.ne_of_gt (pw_pos k)) ?_
    rw [h, ← hv, pw_cast]; ac_rfl
  have hz : zval f (round f (.fin s c q)) = zval f (.fin s' c' q') :=
    Int.le_antisymm (zval_round_le hf hV hn h0 h0e (Int.le_of_eq he.symm)) (zval_round_ge hf hV hn h0 h0e (Int.le_of_eq he))
  exact ⟨dyf_of_zval hf hV hz, by rw [hz]; exact hv⟩
theorem Dyf.fit {f : Fmt} {i : Int} {k : Nat} {d : Datum} (h : Dyf f i k d) : ∃ s c q, d = .fin s c q := h.1
theorem Dyf.up {f : Fmt} {i : Int} {k : Nat} {d : Datum} (h : Dyf f i k d) (l : Nat) : Dyf f (i * 2 ^ l) (k + l) d :=
  ⟨h.1, by rw [Int.pow_add, ← Int.mul_assoc, h.2]; ac_rfl⟩
theorem Dyf.to {f : Fmt} {i j : Int} {k l : Nat} {d : Datum} (h : Dyf f i k d) (e : i * 2 ^ l = j * 2 ^ k) : Dyf f j l d := by
  refine ⟨h.1, Int.eq_of_mul_eq_mul_right (Int.ne_of_gt (pw_pos k)) ?_⟩
  calc zval f d * 2 ^ l * 2 ^ k = (zval f d * 2 ^ k) * 2 ^ l := by ac_rfl
    _ = (i * 2 ^ l) * 2 ^ (-f.qmin).toNat := by rw [h.2]; ac_rfl
    _ = j * 2 ^ (-f.qmin).toNat * 2 ^ k := by rw [e]; ac_rfl
theorem Dyf.sum {f : Fmt} (hf : Good f) (hq : 0 ≤ f.qmax) {i j : Int} {k : Nat} {x y : Datum} (fx : FP.Core.fits f x) (fy : FP.Core.fits f y) (hx : Dyf f i k x) (hy : Dyf f j k y) (hi : (i + j).natAbs < 2 ^ f.p) (hk : (k : Int) ≤ -f.qmin) :
    Dyf f (i + j) k (round f (exactSum x y)) := by
  obtain ⟨⟨s, c, q, rfl⟩, hx⟩ := hx
  obtain ⟨⟨t, d, r, rfl⟩, hy⟩ := hy
  obtain ⟨sg, n, e, he, hle, hu⟩ := sum_units fx fy
  rw [he]
  refine rnd hf hq (Int.le_refl _) hle hi hk ?_
  rw [hu, Int.add_mul, hx, hy, Int.add_mul, Int.sub_self]
  simp
theorem Dyf.neg {f : Fmt} {i : Int} {k : Nat} {x : Datum} (hx : Dyf f i k x) : Dyf f (-i) k (negate x) := by
  obtain ⟨⟨s, c, q, rfl⟩, hx⟩ := hx
  refine ⟨⟨_, _, _, rfl⟩, ?_⟩
  rw [zval_negate, Int.neg_mul, hx, Int.neg_mul]
theorem Dyf.prod {f : Fmt} (hf : Good f) (hq : 0 ≤ f.qmax) {i j : Int} {k l : Nat} {x y : Datum} (fx : FP.Core.fits f x) (fy : FP.Core.fits f y) (hx : Dyf f i k x) (hy : Dyf f j l y) (hi : (i * j).natAbs < 2 ^ f.p) (hk : ((k + l : Nat) : Int) ≤ -f.qmin) :
    Dyf f (i * j) (k + l) (round f (exactProduct x y)) := by
  obtain ⟨⟨s, c, q, rfl⟩, hx⟩ := hx
  obtain ⟨⟨t, d, r, rfl⟩, hy⟩ := hy
  obtain ⟨he, hle, hu⟩ := product_units fx fy
  rw [he]
  have hn := qmin_neg hf
  refine rnd hf hq (e0 := 2 * f.qmin) (by omega) hle hi hk ?_
  rw [hu, signed_xor, show (f.qmin - 2 * f.qmin).toNat = (-f.qmin).toNat by omega, Int.pow_add]
  calc zval f (.fin s c q) * zval f (.fin t d r) * (2 ^ k * 2 ^ l) = (zval f (.fin s c q) * 2 ^ k) * (zval f (.fin t d r) * 2 ^ l) := by ac_rfl
    _ = _ := by rw [hx, hy]; ac_rfl
theorem natAbs_pow (n : Nat) : ((2 : Int) ^ n).natAbs = 2 ^ n := by rw [Int.natAbs_pow]; rfl
theorem natAbs_zval (f : Fmt) (d : Datum) : (zval f d).natAbs = zmag f d := natAbs_signed _ _
/-- an exact quotient that the format holds is not rounded -/
theorem Dyf.quot {f : Fmt} (hf : Good f) (hq : 0 ≤ f.qmax) {i j n : Int} {k l m : Nat} {x y : Datum} (fx : FP.Core.fits f x) (fy : FP.Core.fits f y) (hx : Dyf f i k x) (hy : Dyf f j l y) (hj : j ≠ 0) (hi : n.natAbs < 2 ^ f.p) (hm : (m : Int) ≤ -f.qmin)
    (e : i * 2 ^ l * 2 ^ m = n * j * 2 ^ k) : Dyf f n m (quotient f x y) := by
  obtain ⟨⟨s, c, q, rfl⟩, hx⟩ := hx
  obtain ⟨⟨t, d, r, rfl⟩, hy⟩ := hy
  obtain ⟨s', c', q', hV, hv⟩ := vex hf hi hm hq
  have hn : Datum.fin s' c' q' ≠ .nan := nofun
  have hqm := qmin_neg hf
  have fx1 := fx.2.1
  have fy1 := fy.2.1
  -- the signed equation
  have hz : zval f (.fin s c q) * 2 ^ (-f.qmin).toNat = zval f (.fin s' c' q') * zval f (.fin t d r) := by
    refine Int.eq_of_mul_eq_mul_right (Int.ne_of_gt (Int.mul_pos (Int.mul_pos (pw_pos k) (pw_pos l)) (pw_pos m))) ?_
    calc zval f (.fin s c q) * 2 ^ (-f.qmin).toNat * (2 ^ k * 2 ^ l * 2 ^ m) = (zval f (.fin s c q) * 2 ^ k) * (2 ^ l * 2 ^ m) * 2 ^ (-f.qmin).toNat := by ac_rfl
      _ = (i * 2 ^ l * 2 ^ m) * 2 ^ (-f.qmin).toNat * 2 ^ (-f.qmin).toNat := by rw [hx]; ac_rfl
      _ = (n * 2 ^ (-f.qmin).toNat) * (j * 2 ^ (-f.qmin).toNat) * 2 ^ k := by rw [e]; ac_rfl
      _ = (zval f (.fin s' c' q') * 2 ^ m) * (zval f (.fin t d r) * 2 ^ l) * 2 ^ k := by rw [hv, hy]
      _ = _ := by ac_rfl
  have hzb : zval f (.fin t d r) ≠ 0 := by
    intro h0
    rw [h0, Int.zero_mul] at hy
    rcases Int.mul_eq_zero.mp hy.symm with h | h
    · exact hj h
    · exact absurd h (Int.ne_of_gt (pw_pos _))
  have hd : d ≠ 0 := by
    rintro rfl
    apply hzb
    show signed t (inUnits 0 r f.qmin) = 0
    unfold inUnits; rw [Nat.zero_mul, signed_zero]
  have hmag : zmag f (.fin s c q) * 2 ^ (-f.qmin).toNat = zmag f (.fin s' c' q') * zmag f (.fin t d r) := by
    have h2 := congrArg Int.natAbs hz
    rw [Int.natAbs_mul, Int.natAbs_mul, natAbs_pow, natAbs_zval, natAbs_zval, natAbs_zval] at h2
    exact h2
  have hun : inUnits c (q - r) (2 * f.qmin - r) = zmag f (.fin s' c' q') * 2 ^ (f.qmin - (2 * f.qmin - r)).toNat * d := by
    have a1 : inUnits c (q - r) (2 * f.qmin - r) = zmag f (.fin s c q) * 2 ^ (-f.qmin).toNat := by
      show c * 2 ^ _ = c * 2 ^ _ * 2 ^ _
      rw [Nat.mul_assoc, ← Nat.pow_add, show (q - r - (2 * f.qmin - r)).toNat = (q - f.qmin).toNat + (-f.qmin).toNat by omega]
    rw [a1, hmag, show (f.qmin - (2 * f.qmin - r)).toNat = (r - f.qmin).toNat by omega]
    show _ * (d * 2 ^ _) = _
    ac_rfl
  have hqt : quotient f (.fin s c q) (.fin t d r) = roundRatio f (s != t) c d (q - r) := by
    show (if d = 0 then _ else _) = _
    rw [if_neg hd]
  have hm2 : zmag f (roundRatio f (s != t) c d (q - r)) = zmag f (.fin s' c' q') :=
    Nat.le_antisymm (zmag_roundRatio_le hf (e0 := 2 * f.qmin - r) (Nat.pos_of_ne_zero hd) hV hn (by omega) (by omega) (Nat.le_of_eq hun))
      (zmag_roundRatio_ge hf (e0 := 2 * f.qmin - r) (Nat.pos_of_ne_zero hd) hV (by omega) (by omega) (Nat.le_of_eq hun.symm))
  have hsg : signed (s != t) (zmag f (.fin s' c' q')) = zval f (.fin s' c' q') := by
    have p0 : zmag f (.fin s c q) = inUnits c q f.qmin := rfl
    have hS : zval f (.fin s c q) * 2 ^ (-f.qmin).toNat * zval f (.fin t d r) = zval f (.fin s' c' q') * (zval f (.fin t d r) * zval f (.fin t d r)) := by rw [hz]; ac_rfl
    by_cases h0 : zmag f (.fin s' c' q') = 0
    · unfold zval; rw [h0, signed_zero, signed_zero]
    · have hbb : 0 < zval f (.fin t d r) * zval f (.fin t d r) := by
        rcases Int.lt_or_gt_of_ne hzb with h | h
        · exact Int.mul_pos_of_neg_of_neg h h
        · exact Int.mul_pos h h
      have hst : zval f (.fin s c q) * zval f (.fin t d r) = signed (s != t) (zmag f (.fin s c q) * zmag f (.fin t d r)) := by
        rw [signed_xor]; rfl
      have e1 : zval f (.fin s' c' q') * (zval f (.fin t d r) * zval f (.fin t d r)) = signed (s != t) (zmag f (.fin s c q) * zmag f (.fin t d r)) * 2 ^ (-f.qmin).toNat := by
        rw [← hS, ← hst]; ac_rfl
      have e2 : signed (s != t) (zmag f (.fin s c q) * zmag f (.fin t d r)) * 2 ^ (-f.qmin).toNat = signed (s != t) (zmag f (.fin s' c' q')) * (zval f (.fin t d r) * zval f (.fin t d r)) := by
        rw [← signed_mulI, show zmag f (.fin s c q) * zmag f (.fin t d r) * 2 ^ (-f.qmin).toNat = zmag f (.fin s' c' q') * (zmag f (.fin t d r) * zmag f (.fin t d r)) by rw [Nat.mul_right_comm, hmag]; ac_rfl, signed_mul]
        congr 1
        unfold zval
        rw [Int.natCast_mul]
        cases (sgn (.fin t d r)) <;> simp [signed, Int.neg_mul_neg]
      exact Int.eq_of_mul_eq_mul_right (Int.ne_of_gt hbb) (e2.symm.trans e1.symm)
  have hzz : zval f (roundRatio f (s != t) c d (q - r)) = zval f (.fin s' c' q') := by
    rw [← hsg]
    show signed (sgn (roundRatio f (s != t) c d (q - r))) (zmag f (roundRatio f (s != t) c d (q - r))) = _
    rw [sgn_roundRatio, hm2]
  rw [hqt]
  exact ⟨dyf_of_zval hf hV hzz, by rw [hzz]; exact hv⟩
theorem Dyf.ofInt {f : Fmt} (hf : Good f) (hq : 0 ≤ f.qmax) {i : Int} (hi : i.natAbs < 2 ^ f.p) : Dyf f i 0 (round f (FP.Core.ofInt i)) := by
  have hn := qmin_neg hf
  refine rnd hf hq (Int.le_refl _) (by omega) hi (by omega) ?_
  unfold inUnits
  rw [signed_mulI, signed_abs, Int.sub_self]
  simp
theorem Dyf.order {f : Fmt} (hf : Good f) {i j : Int} {k : Nat} {x y : Datum} (fx : FP.Core.fits f x) (fy : FP.Core.fits f y) (hx : Dyf f i k x) (hy : Dyf f j k y) : order x y = some (compare i j) := by
  obtain ⟨⟨s, c, q, rfl⟩, hx⟩ := hx
  obtain ⟨⟨t, d, r, rfl⟩, hy⟩ := hy
  rw [order_zval hf fx fy nofun nofun, ← compare_mul_pos _ _ _ (pw_pos k), hx, hy, compare_mul_pos _ _ _ (pw_pos _)]
/-! doubles -/
def Dy (i : Int) (k : Nat) (a : UInt64) : Prop := Dyf b64 i k (val64 a)
theorem qm64 : (0 : Int) ≤ b64.qmax := by decide
theorem Dy.fin {i : Int} {k : Nat} {a : UInt64} (h : Dy i k a) : DFin a := h.1
theorem Dy.nn {i : Int} {k : Nat} {a : UInt64} (h : Dy i k a) : Jvm.Free.Fl.NoNaN64 a := (Jvm.Free.Fl.fin64_core.mpr h.1).noNaN
theorem Dy.to {i j : Int} {k l : Nat} {a : UInt64} (h : Dy i k a) (e : i * 2 ^ l = j * 2 ^ k) : Dy j l a := Dyf.to h e
theorem Dy.up {i : Int} {k : Nat} {a : UInt64} (h : Dy i k a) (l : Nat) : Dy (i * 2 ^ l) (k + l) a := Dyf.up h l
theorem Dy.add {i j : Int} {k : Nat} {a b : UInt64} (ha : Dy i k a) (hb : Dy j k b) (hi : (i + j).natAbs < 9007199254740992) (hk : k ≤ 1074) : Dy (i + j) k (FP.dadd a b) := by
  show Dyf b64 _ _ (val64 (dadd a b))
  rw [val64_dadd]
  exact Dyf.sum good_b64 qm64 (val64_fits a) (val64_fits b) ha hb hi (by rw [qmin_b64]; omega)
theorem Dy.sub {i j : Int} {k : Nat} {a b : UInt64} (ha : Dy i k a) (hb : Dy j k b) (hi : (i - j).natAbs < 9007199254740992) (hk : k ≤ 1074) : Dy (i - j) k (FP.dsub a b) := by
  show Dyf b64 _ _ (val64 (dsub a b))
  rw [val64_dsub]
  exact Dyf.sum good_b64 qm64 (val64_fits a) (negate_fits (val64_fits b)) ha hb.neg hi (by rw [qmin_b64]; omega)
theorem Dy.mul {i j : Int} {k l : Nat} {a b : UInt64} (ha : Dy i k a) (hb : Dy j l b) (hi : (i * j).natAbs < 9007199254740992) (hk : k + l ≤ 1074) : Dy (i * j) (k + l) (FP.dmul a b) := by
  show Dyf b64 _ _ (val64 (dmul a b))
  rw [val64_dmul]
  exact Dyf.prod good_b64 qm64 (val64_fits a) (val64_fits b) ha hb hi (by rw [qmin_b64]; omega)
theorem Dy.div {i j n : Int} {k l m : Nat} {a b : UInt64} (ha : Dy i k a) (hb : Dy j l b) (hj : j ≠ 0) (hi : n.natAbs < 9007199254740992) (hk : m ≤ 1074) (e : i * 2 ^ l * 2 ^ m = n * j * 2 ^ k) : Dy n m (FP.ddiv a b) := by
  show Dyf b64 _ _ (val64 (ddiv a b))
  rw [val64_ddiv]
  exact Dyf.quot good_b64 qm64 (val64_fits a) (val64_fits b) ha hb hj hi (by rw [qmin_b64]; omega) e
theorem Dy.neg {i : Int} {k : Nat} {a : UInt64} (ha : Dy i k a) : Dy (-i) k (FP.dneg a) := by
  show Dyf b64 _ _ (val64 (FP.dneg a))
  rw [Jvm.FP.val64_dneg]
  exact Dyf.neg ha
theorem Dy.i2d (x : Int32) : Dy x.toInt 0 (FP.i2d x) := by
  show Dyf b64 _ _ (val64 (FP.Core.i2d x))
  rw [val64_i2d]
  exact Dyf.ofInt good_b64 qm64 (by have := int32_abs x; show _ < 2 ^ 53; omega)
theorem Dy.l2d {x : Int64} (h : x.toInt.natAbs < 9007199254740992) : Dy x.toInt 0 (FP.l2d x) := by
  show Dyf b64 _ _ (val64 (FP.Core.l2d x))
  rw [val64_l2d]
  exact Dyf.ofInt good_b64 qm64 h
theorem Dy.cmp {i j : Int} {k : Nat} {a b : UInt64} (ha : Dy i k a) (hb : Dy j k b) : FP.dcmp a b = some (compare i j) :=
  Dyf.order good_b64 (val64_fits a) (val64_fits b) ha hb
theorem Dy.cmp_eq {i j : Int} {k : Nat} {a b : UInt64} (ha : Dy i k a) (hb : Dy j k b) (e : i = j) (o : ClassFile.CmpOp) : cmpValue (FP.dcmp a b) o = 0 := by
  rw [ha.cmp hb, e, compare_self_int]; rfl
theorem Dy.cmp_lt {i j : Int} {k : Nat} {a b : UInt64} (ha : Dy i k a) (hb : Dy j k b) (e : i < j) (o : ClassFile.CmpOp) : cmpValue (FP.dcmp a b) o = -1 := by
  rw [ha.cmp hb, show compare i j = .lt by rw [compare_ite, if_pos e]]; rfl
theorem Dy.cmp_gt {i j : Int} {k : Nat} {a b : UInt64} (ha : Dy i k a) (hb : Dy j k b) (e : j < i) (o : ClassFile.CmpOp) : cmpValue (FP.dcmp a b) o = 1 := by
  rw [ha.cmp hb, show compare i j = .gt by rw [compare_ite, if_neg (by omega), if_neg (by omega)]]; rfl
theorem dy_of {i : Int} {k : Nat} {a : UInt64} {s : Bool} {c : Nat} {q : Int} (h : val64 a = .fin s c q) (e : zval b64 (.fin s c q) * 2 ^ k = i * 2 ^ 1074) : Dy i k a :=
  ⟨⟨s, c, q, h⟩, by rw [h, e]; rfl⟩
theorem dy0 (k : Nat) : Dy 0 k (0 : UInt64) := dy_of (s := false) (c := 0) (q := -1074) (by decide +kernel) (by
  rw [show zval b64 (.fin false 0 (-1074)) = 0 from rfl, Int.zero_mul, Int.zero_mul])
theorem dy1 (k : Nat) : Dy (2 ^ k) k (4607182418800017408 : UInt64) := dy_of (s := false) (c := 2 ^ 52) (q := -52) (by decide +kernel) (by
  rw [show zval b64 (.fin false (2 ^ 52) (-52)) = 2 ^ 1074 by decide +kernel, Int.mul_comm])
theorem Dy.ge {i j : Int} {k : Nat} {a b : UInt64} (ha : Dy i k a) (hb : Dy j k b) (e : j ≤ i) (o : ClassFile.CmpOp) : ¬ (cmpValue (FP.dcmp a b) o < (0 : Int32)) := by
  rcases Int.lt_or_eq_of_le e with h | h
  · rw [ha.cmp_gt hb h]; decide
  · rw [ha.cmp_eq hb h.symm]; decide
theorem Dy.le {i j : Int} {k : Nat} {a b : UInt64} (ha : Dy i k a) (hb : Dy j k b) (e : i ≤ j) (o : ClassFile.CmpOp) : ¬ ((0 : Int32) < cmpValue (FP.dcmp a b) o) := by
  rcases Int.lt_or_eq_of_le e with h | h
  · rw [ha.cmp_lt hb h]; decide
  · rw [ha.cmp_eq hb h]; decide
theorem Dy.lt_inf {i : Int} {k : Nat} {a : UInt64} (ha : Dy i k a) (o : ClassFile.CmpOp) : cmpValue (FP.dcmp a (9218868437227405312 : UInt64)) o < (0 : Int32) := by
  rw [Jvm.RoadKit.dcmp_pinf (Jvm.Free.Fl.fin64_core.mpr ha.1)]; decide
theorem isfin {a : UInt64} (h : DFin a) : ¬ ((0 : Int32) < cmpValue (FP.dcmp (a &&& 0x7fffffffffffffff) (9218868437227405311 : UInt64)) .g) := by
  have hn : dIsNaN a = false := (notNaN_iff a).mpr (by obtain ⟨s, c, q, e⟩ := h; rw [e]; exact nofun)
  rcases (le_max hn).mpr h with e | e <;> rw [show FP.dcmp (a &&& 0x7fffffffffffffff) (9218868437227405311 : UInt64) = _ from e] <;> decide
theorem since0 (s : State) : s.Since s.vm 0 := ⟨State.Warmed39.refl s, fun j p h1 h2 => by
  rw [Array.getElem?_eq_none h1] at h2; cases h2⟩
theorem i2d_nz {v : Int32} (h : v ≠ 0) : ¬ DZero (FP.i2d v) := fun q => i2d_ne_zero h ((zero_bits2 _).mp q)
theorem nn_of {x : UInt64} (h : dIsNaN x = false) : Jvm.Free.Fl.NoNaN64 x := Jvm.Free.Fl.noNaN64_no.mpr h
theorem no_of {x : UInt64} (h : Jvm.Free.Fl.NoNaN64 x) : dIsNaN x = false := Jvm.Free.Fl.noNaN64_no.mp h
theorem no_fin {x : UInt64} (h : DFin x) : dIsNaN x = false := (notNaN_iff x).mpr (by obtain ⟨s, c, q, e⟩ := h; rw [e]; exact nofun)
theorem nn_div {a : UInt64} {v : Int32} (ha : dIsNaN a = false) (h : v ≠ 0) : Jvm.Free.Fl.NoNaN64 (FP.ddiv a (FP.i2d v)) := nn_of (ddiv_out ha (i2d_fin v) (i2d_nz h))
theorem fin_div (a : Int32) {v : Int32} (h : v ≠ 0) : DFin (FP.ddiv (FP.i2d a) (FP.i2d v)) := by
  have h1 := i2d_mag a
  have h2 := i2d_big (v := v) (fun q => h (Int32.toInt_inj.mp q))
  exact fin_of_lt (ddiv_mag h1 h2.1 h2.2 (by decide) (by decide)) (by decide)
end Jvm.OwnFp
namespace Jvm.OwnFp
open Jvm.FP.Core Op
/-! own: rounding to float of a dyadic number -/
def Fy (i : Int) (k : Nat) (a : UInt32) : Prop := Dyf b32 i k (val32 a)
theorem qm32 : (0 : Int) ≤ b32.qmax := by decide
theorem Fy.fin {i : Int} {k : Nat} {a : UInt32} (h : Fy i k a) : FFin a := h.1
theorem Fy.nn {i : Int} {k : Nat} {a : UInt32} (h : Fy i k a) : Jvm.Free.Fl.NoNaN32 a := (Jvm.Free.Fl.fin32_core.mpr h.1).noNaN
theorem Fy.cmp {i j : Int} {k : Nat} {a b : UInt32} (ha : Fy i k a) (hb : Fy j k b) : FP.fcmp a b = some (compare i j) :=
  Dyf.order good_b32 (val32_fits a) (val32_fits b) ha hb
theorem Fy.to {i j : Int} {k l : Nat} {a : UInt32} (h : Fy i k a) (e : i * 2 ^ l = j * 2 ^ k) : Fy j l a := Dyf.to h e
theorem Fy.cmp_eq {i j : Int} {k : Nat} {a b : UInt32} (ha : Fy i k a) (hb : Fy j k b) (e : i = j) (o : ClassFile.CmpOp) : cmpValue (FP.fcmp a b) o = 0 := by
  rw [ha.cmp hb, e, compare_self_int]; rfl
theorem Fy.cmp_lt {i j : Int} {k : Nat} {a b : UInt32} (ha : Fy i k a) (hb : Fy j k b) (e : i < j) (o : ClassFile.CmpOp) : cmpValue (FP.fcmp a b) o = -1 := by
  rw [ha.cmp hb, show compare i j = .lt by rw [compare_ite, if_pos e]]; rfl
theorem Fy.cmp_gt {i j : Int} {k : Nat} {a b : UInt32} (ha : Fy i k a) (hb : Fy j k b) (e : j < i) (o : ClassFile.CmpOp) : cmpValue (FP.fcmp a b) o = 1 := by
  rw [ha.cmp hb, show compare i j = .gt by rw [compare_ite, if_neg (by omega), if_neg (by omega)]]; rfl
/-- a magnitude of 24 + sh digits, in units of 2^t -/
theorem rr32 {s : Bool} {M sh : Nat} {t : Int} (h1 : 2 ^ (23 + sh) ≤ M) (h2 : M < 2 ^ (24 + sh)) (ht : -149 ≤ (sh : Int) + t) :
    roundRatio b32 s M 1 t = settle b32 s (nearest M (2 ^ sh)) ((sh : Int) + t) := by
  have hM : 0 < M := Nat.lt_of_lt_of_le (Nat.two_pow_pos _) h1
  have hq : quantum b32 M 1 t = (sh : Int) + t := by
    refine quantum_eq hM (by decide) ht ?_ (Or.inr ?_)
    · show M * 2 ^ (-((sh : Int) + t - t + (24 : Nat))).toNat < 1 * 2 ^ ((sh : Int) + t - t + (24 : Nat)).toNat
      rw [show (-((sh : Int) + t - t + (24 : Nat))).toNat = 0 by omega, show ((sh : Int) + t - t + (24 : Nat)).toNat = 24 + sh by omega]
      omega
    · show ¬ (M * 2 ^ (-((sh : Int) + t - t + (((24 : Nat) : Int) - 1))).toNat < 1 * 2 ^ ((sh : Int) + t - t + (((24 : Nat) : Int) - 1)).toNat)
      rw [show (-((sh : Int) + t - t + (((24 : Nat) : Int) - 1))).toNat = 0 by omega, show ((sh : Int) + t - t + (((24 : Nat) : Int) - 1)).toNat = 23 + sh by omega]
      omega
  unfold roundRatio
  rw [if_neg (by omega), hq]
  unfold roundAt unitsNum unitsDen
  rw [show (t - ((sh : Int) + t)).toNat = 0 by omega, show ((sh : Int) + t - t).toNat = sh by omega, Nat.pow_zero, Nat.mul_one, Nat.one_mul]
theorem nearest_range {M sh : Nat} (h1 : 2 ^ (23 + sh) ≤ M) (h2 : M < 2 ^ (24 + sh)) : 2 ^ 23 ≤ nearest M (2 ^ sh) ∧ nearest M (2 ^ sh) ≤ 2 ^ 24 :=
  ⟨nearest_ge (Nat.two_pow_pos _) (by rw [← Nat.pow_add]; exact h1), nearest_le (Nat.two_pow_pos _) (by rw [← Nat.pow_add]; exact Nat.le_of_lt h2)⟩
theorem settle32 {s : Bool} {c : Nat} {q : Int} (h2 : c ≤ 2 ^ 24) (hq1 : -149 ≤ q) (hq2 : q ≤ 103 ∨ (c < 2 ^ 24 ∧ q ≤ 104)) :
    ∃ c' q', settle b32 s c q = .fin s c' q' ∧ inUnits c' q' b32.qmin = c * 2 ^ (q + 149).toNat := by
  have hm : b32.qmax = 104 := by decide
  have hn : b32.qmin = -149 := by decide
  have ht : b32.tails = 2 ^ 23 := by decide
  unfold settle bound
  rw [hm]
  show ∃ c' q', (if c < 2 ^ 24 then _ else _) = _ ∧ _
  by_cases h : c < 2 ^ 24
  · rw [if_pos h, if_pos (by omega)]
    exact ⟨c, q, rfl, by unfold inUnits; rw [hn, show q - -149 = q + 149 by omega]⟩
  · rw [if_neg h, if_pos (by omega)]
    refine ⟨_, _, rfl, ?_⟩
    unfold inUnits
    rw [hn, ht, show (q + 1 - -149).toNat = (q + 149).toNat + 1 by omega, Nat.pow_succ, show c = 2 ^ 24 by omega]
    omega
theorem settle32_inf {s : Bool} {c : Nat} {q : Int} (hq : 104 < q ∨ (¬ c < 2 ^ 24 ∧ 103 < q)) : settle b32 s c q = .inf s := by
  have hm : b32.qmax = 104 := by decide
  unfold settle bound
  rw [hm]
  show (if c < 2 ^ 24 then _ else _) = _
  by_cases h : c < 2 ^ 24
  · rw [if_pos h, if_neg (by omega)]
  · rw [if_neg h, if_neg (by omega)]
/-- the parts of a double that is worth i / 2^k -/
theorem dy_parts {i : Int} {k : Nat} {a : UInt64} (h : Dy i k a) : ∃ s c q, val64 a = .fin s c q ∧ c * 1 * 2 ^ (q - (-(k : Int))).toNat = i.natAbs * 1 * 2 ^ (-(k : Int) - q).toNat ∧ (i ≠ 0 → s = decide (i < 0)) := by
  obtain ⟨⟨s, c, q, e⟩, hz⟩ := h
  refine ⟨s, c, q, e, ?_, ?_⟩
  · have hf := val64_fits a
    rw [e] at hf hz
    have hq := hf.2.1
    rw [qmin_b64] at hq
    have h2 := congrArg Int.natAbs hz
    rw [Int.natAbs_mul, Int.natAbs_mul, natAbs_pow, natAbs_pow, natAbs_zval, qmin_b64] at h2
    have h3 : zmag b64 (.fin s c q) = c * 2 ^ (q + 1074).toNat := by
      show c * 2 ^ (q - b64.qmin).toNat = _
      rw [qmin_b64, show q - -1074 = q + 1074 by omega]
    rw [h3, Nat.mul_assoc, ← Nat.pow_add] at h2
    rw [Nat.mul_one, Nat.mul_one]
    rcases Int.le_total 0 (q + k) with hp | hp
    · rw [show (-(k : Int) - q).toNat = 0 by omega, Nat.pow_zero, Nat.mul_one]
      refine Nat.eq_of_mul_eq_mul_right (Nat.two_pow_pos 1074) ?_
      rw [Nat.mul_assoc, ← Nat.pow_add, show (q - -(k : Int)).toNat + 1074 = (q + 1074).toNat + k by omega]
      exact h2
    · rw [show (q - -(k : Int)).toNat = 0 by omega, Nat.pow_zero, Nat.mul_one]
      refine Nat.eq_of_mul_eq_mul_right (Nat.two_pow_pos ((q + 1074).toNat + k)) ?_
      rw [h2, Nat.mul_assoc, ← Nat.pow_add, show (-(k : Int) - q).toNat + ((q + 1074).toNat + k) = 1074 by omega]
      rfl
  · intro hi
    rw [e] at hz
    have hs : zval b64 (.fin s c q) = signed s (inUnits c q b64.qmin) := rfl
    rw [hs] at hz
    have p1 := pw_pos k
    have p2 := pw_pos (-b64.qmin).toNat
    have hc : (0 : Int) ≤ (inUnits c q b64.qmin : Int) := Int.natCast_nonneg _
    cases s with
    | true =>
      have : signed true (inUnits c q b64.qmin) = -((inUnits c q b64.qmin : Nat) : Int) := rfl
      rw [this] at hz
      have : i * 2 ^ (-b64.qmin).toNat ≤ 0 := by rw [← hz]; exact Int.mul_nonpos_of_nonpos_of_nonneg (by omega) (Int.le_of_lt p1)
      have : ¬ 0 < i := fun hp => absurd (Int.mul_pos hp p2) (by omega)
      simp; omega
    | false =>
      have : signed false (inUnits c q b64.qmin) = ((inUnits c q b64.qmin : Nat) : Int) := rfl
      rw [this] at hz
      have : 0 ≤ i * 2 ^ (-b64.qmin).toNat := by rw [← hz]; exact Int.mul_nonneg hc (Int.le_of_lt p1)
      have : ¬ i < 0 := fun hp => absurd (Int.mul_neg_of_neg_of_pos hp p2) (by omega)
      simp; omega
theorem val32_d2f' {a : UInt64} (h : DFin a) : val32 (FP.d2f a) = round b32 (val64 a) := by
  have hn : FP.dIsNaN a = false := (notNaN_iff a).mpr (by obtain ⟨s, c, q, e⟩ := h; rw [e]; exact nofun)
  rw [FP.d2f_core hn, val32_d2f]
/-- small: no rounding -/
theorem d2f_small' {i : Int} {k : Nat} {a : UInt64} (h : Dy i k a) (hi : i.natAbs < 2 ^ 24) (hk : k ≤ 149) : Fy i k (FP.d2f a) := by
  show Dyf b32 i k (val32 (FP.d2f a))
  rw [val32_d2f' h.1]
  obtain ⟨⟨s, c, q, e⟩, hz⟩ := h
  have hf := val64_fits a
  rw [e] at hz hf ⊢
  have hq : b64.qmin ≤ q := hf.2.1
  have n1 : b32.qmin = -149 := by decide
  refine rnd good_b32 qm32 (e0 := b64.qmin) (by decide) hq hi (by rw [n1]; omega) ?_
  have : signed s (inUnits c q b64.qmin) * 2 ^ k = i * 2 ^ (-b64.qmin).toNat := hz
  rw [this, Int.mul_assoc, ← Int.pow_add]
  rfl
/-- the float of a double that is worth i / 2^k, |i| of 24 + sh digits -/
theorem d2f_round {i : Int} {k sh : Nat} {a : UInt64} (h : Dy i k a) (h1 : 2 ^ (23 + sh) ≤ i.natAbs) (h2 : i.natAbs < 2 ^ (24 + sh)) (hk : k ≤ 100) (hs : sh ≤ 100) :
    Fy (signed (decide (i < 0)) (nearest i.natAbs (2 ^ sh) * 2 ^ sh)) k (FP.d2f a) := by
  show Dyf b32 _ k (val32 (FP.d2f a))
  rw [val32_d2f' h.1]
  obtain ⟨s, c, q, e, hv, hsg⟩ := dy_parts h
  have hi : i ≠ 0 := by rintro rfl; have := Nat.two_pow_pos (23 + sh); rw [Int.natAbs_zero] at h1; omega
  have hs' := hsg hi
  subst hs'
  rw [e]
  show Dyf b32 _ k (roundRatio b32 _ c 1 q)
  rw [roundRatio_congr (by decide) (by decide) hv, rr32 h1 h2 (by omega)]
  obtain ⟨c', q', e', hu⟩ := settle32 (s := decide (i < 0)) (c := nearest i.natAbs (2 ^ sh)) (q := (sh : Int) + -(k : Int)) (nearest_range h1 h2).2 (by omega) (Or.inl (by omega))
  rw [e']
  refine ⟨⟨_, _, _, rfl⟩, ?_⟩
  show signed _ (inUnits c' q' b32.qmin) * 2 ^ k = _
  rw [hu, signed_mulI, signed_mulI, Int.mul_assoc, ← Int.pow_add, Int.mul_assoc, ← Int.pow_add, show ((sh : Int) + -(k : Int) + 149).toNat + k = sh + (-b32.qmin).toNat by rw [show b32.qmin = -149 by decide]; omega]
  rfl
end Jvm.OwnFp
namespace Jvm.OwnFp
open Jvm.FP.Core Op
/-! own: values i * 2^t, t any exponent of the format -/
def Exf (f : Fmt) (i t : Int) (d : Datum) : Prop := (∃ s c q, d = .fin s c q) ∧ zval f d = i * 2 ^ (t - f.qmin).toNat
theorem vexE {f : Fmt} (hf : Good f) {i t : Int} (hi : i.natAbs < 2 ^ f.p) (h1 : f.qmin ≤ t) (h2 : t ≤ f.qmax) :
    ∃ s c q, FP.Core.fits f (.fin s c q) ∧ zval f (.fin s c q) = i * 2 ^ (t - f.qmin).toNat := by
  obtain ⟨c', q', h, hu⟩ := round_exact hf (decide (i < 0)) (c := i.natAbs) (q := t) hi h1 h2
  refine ⟨_, c', q', h ▸ round_fits hf _, ?_⟩
  show signed (decide (i < 0)) (inUnits c' q' f.qmin) = _
  rw [hu]
  unfold inUnits
  rw [signed_mulI, signed_abs]
theorem rndE {f : Fmt} (hf : Good f) {s : Bool} {c : Nat} {q e0 : Int} (h0 : e0 ≤ f.qmin) (h0e : e0 ≤ q) {i t : Int} (hi : i.natAbs < 2 ^ f.p) (h1 : f.qmin ≤ t) (h2 : t ≤ f.qmax)
    (h : signed s (inUnits c q e0) = i * 2 ^ (t - e0).toNat) : Exf f i t (round f (.fin s c q)) := by
  obtain ⟨s', c', q', hV, hv⟩ := vexE hf hi h1 h2
  have hn : Datum.fin s' c' q' ≠ .nan := nofun
  have he : zval f (.fin s' c' q') * ((2 ^ (f.qmin - e0).toNat : Nat) : Int) = signed s (inUnits c q e0) := by
    rw [h, hv, pw_cast, Int.mul_assoc, ← Int.pow_add, show (t - f.qmin).toNat + (f.qmin - e0).toNat = (t - e0).toNat by omega]
  have hz : zval f (round f (.fin s c q)) = zval f (.fin s' c' q') :=
    Int.le_antisymm (zval_round_le hf hV hn h0 h0e (Int.le_of_eq he.symm)) (zval_round_ge hf hV hn h0 h0e (Int.le_of_eq he))
  exact ⟨dyf_of_zval hf hV hz, by rw [hz]; exact hv⟩
theorem Exf.prod {f : Fmt} (hf : Good f) {i j t u : Int} {x y : Datum} (fx : FP.Core.fits f x) (fy : FP.Core.fits f y) (hx : Exf f i t x) (hy : Exf f j u y) (ht : f.qmin ≤ t) (hu : f.qmin ≤ u) (hi : (i * j).natAbs < 2 ^ f.p) (h1 : f.qmin ≤ t + u) (h2 : t + u ≤ f.qmax) :
    Exf f (i * j) (t + u) (round f (exactProduct x y)) := by
  obtain ⟨⟨s, c, q, rfl⟩, hx⟩ := hx
  obtain ⟨⟨s', d, r, rfl⟩, hy⟩ := hy
  obtain ⟨he, hle, hun⟩ := product_units fx fy
  rw [he]
  have hn := qmin_neg hf
  refine rndE hf (e0 := 2 * f.qmin) (by omega) hle hi h1 h2 ?_
  rw [hun, signed_xor]
  have e1 : signed s (zmag f (.fin s c q)) = i * 2 ^ (t - f.qmin).toNat := hx
  have e2 : signed s' (zmag f (.fin s' d r)) = j * 2 ^ (u - f.qmin).toNat := hy
  rw [e1, e2, show (t + u - 2 * f.qmin).toNat = (t - f.qmin).toNat + (u - f.qmin).toNat by omega, Int.pow_add]
  ac_rfl
def Ex (i t : Int) (a : UInt64) : Prop := Exf b64 i t (val64 a)
def Fx (i t : Int) (a : UInt32) : Prop := Exf b32 i t (val32 a)
theorem Ex.fin {i t : Int} {a : UInt64} (h : Ex i t a) : DFin a := h.1
theorem Ex.nn {i t : Int} {a : UInt64} (h : Ex i t a) : Jvm.Free.Fl.NoNaN64 a := (Jvm.Free.Fl.fin64_core.mpr h.1).noNaN
theorem Fx.nn {i t : Int} {a : UInt32} (h : Fx i t a) : Jvm.Free.Fl.NoNaN32 a := (Jvm.Free.Fl.fin32_core.mpr h.1).noNaN
theorem Ex.mul {i j t u : Int} {a b : UInt64} (ha : Ex i t a) (hb : Ex j u b) (ht : -1074 ≤ t) (hu : -1074 ≤ u) (hi : (i * j).natAbs < 9007199254740992) (h1 : -1074 ≤ t + u) (h2 : t + u ≤ 971) : Ex (i * j) (t + u) (FP.dmul a b) := by
  show Exf b64 _ _ (val64 (dmul a b))
  rw [val64_dmul]
  exact Exf.prod good_b64 (val64_fits a) (val64_fits b) ha hb (by rw [qmin_b64]; exact ht) (by rw [qmin_b64]; exact hu) hi (by rw [qmin_b64]; exact h1) (by rw [show b64.qmax = 971 by decide]; exact h2)
theorem Dy.ex {i : Int} {a : UInt64} (h : Dy i 0 a) : Ex i 0 a := ⟨h.1, by have := h.2; rw [Int.pow_zero, Int.mul_one] at this; rw [this, show (0 - b64.qmin).toNat = (-b64.qmin).toNat by omega]⟩
theorem Ex.cmp_eq {i t : Int} {a b : UInt64} (ha : Ex i t a) (hb : Ex i t b) (o : ClassFile.CmpOp) : cmpValue (FP.dcmp a b) o = 0 := by
  have na : val64 a ≠ .nan := by obtain ⟨⟨s, c, q, e⟩, -⟩ := ha; rw [e]; exact nofun
  have nb : val64 b ≠ .nan := by obtain ⟨⟨s, c, q, e⟩, -⟩ := hb; rw [e]; exact nofun
  rw [show FP.dcmp a b = _ from dcmp_zval na nb, ha.2, hb.2, compare_self_int]; rfl
theorem ex_of {i t : Int} {a : UInt64} {s : Bool} {c : Nat} {q : Int} (h : val64 a = .fin s c q) (e : zval b64 (.fin s c q) = i * 2 ^ (t - b64.qmin).toNat) : Ex i t a :=
  ⟨⟨s, c, q, h⟩, by rw [h]; exact e⟩
/-- the parts of a double that is worth i * 2^t -/
theorem ex_parts {i t : Int} {a : UInt64} (h : Ex i t a) (ht : -1074 ≤ t) : ∃ s c q, val64 a = .fin s c q ∧ -1074 ≤ q ∧ c * 1 * 2 ^ (q - t).toNat = i.natAbs * 1 * 2 ^ (t - q).toNat ∧ (i ≠ 0 → s = decide (i < 0)) ∧ signed s (inUnits c q b64.qmin) = i * 2 ^ (t - b64.qmin).toNat := by
  obtain ⟨⟨s, c, q, e⟩, hz⟩ := h
  have hf := val64_fits a
  rw [e] at hf hz
  have hq := hf.2.1
  rw [qmin_b64] at hq
  have hz' : signed s (inUnits c q b64.qmin) = i * 2 ^ (t - b64.qmin).toNat := hz
  refine ⟨s, c, q, e, hq, ?_, ?_, hz'⟩
  · have h2 := congrArg Int.natAbs hz'
    rw [natAbs_signed, Int.natAbs_mul, natAbs_pow, qmin_b64] at h2
    have h3 : inUnits c q (-1074) = c * 2 ^ (q + 1074).toNat := by unfold inUnits; rw [show q - -1074 = q + 1074 by omega]
    rw [h3, show t - -1074 = t + 1074 by omega] at h2
    rw [Nat.mul_one, Nat.mul_one]
    rcases Int.le_total t q with hp | hp
    · rw [show (t - q).toNat = 0 by omega, Nat.pow_zero, Nat.mul_one]
      refine Nat.eq_of_mul_eq_mul_right (Nat.two_pow_pos (t + 1074).toNat) ?_
      rw [Nat.mul_assoc, ← Nat.pow_add, show (q - t).toNat + (t + 1074).toNat = (q + 1074).toNat by omega]
      exact h2
    · rw [show (q - t).toNat = 0 by omega, Nat.pow_zero, Nat.mul_one]
      refine Nat.eq_of_mul_eq_mul_right (Nat.two_pow_pos (q + 1074).toNat) ?_
      rw [h2, Nat.mul_assoc, ← Nat.pow_add, show (t - q).toNat + (q + 1074).toNat = (t + 1074).toNat by omega]
  · intro hi
    have p2 := pw_pos (t - b64.qmin).toNat
    have hc : (0 : Int) ≤ (inUnits c q b64.qmin : Int) := Int.natCast_nonneg _
    cases s with
    | true =>
      have : signed true (inUnits c q b64.qmin) = -((inUnits c q b64.qmin : Nat) : Int) := rfl
      rw [this] at hz'
      have : ¬ 0 < i := fun hp => absurd (Int.mul_pos hp p2) (by omega)
      simp; omega
    | false =>
      have : signed false (inUnits c q b64.qmin) = ((inUnits c q b64.qmin : Nat) : Int) := rfl
      rw [this] at hz'
      have : ¬ i < 0 := fun hp => absurd (Int.mul_neg_of_neg_of_pos hp p2) (by omega)
      simp; omega
theorem d2f_small_ex {i t : Int} {a : UInt64} (h : Ex i t a) (hi : i.natAbs < 2 ^ 24) (h1 : -149 ≤ t) (h2 : t ≤ 104) : Fx i t (FP.d2f a) := by
  show Exf b32 i t (val32 (FP.d2f a))
  rw [val32_d2f' h.1]
  obtain ⟨s, c, q, e, hq, -, -, hz⟩ := ex_parts h (by omega)
  rw [e]
  exact rndE good_b32 (e0 := b64.qmin) (by decide) (by rw [qmin_b64]; exact hq) hi (by rw [show b32.qmin = -149 by decide]; exact h1) (by rw [show b32.qmax = 104 by decide]; exact h2) hz
theorem d2f_settle {i t : Int} {sh : Nat} {a : UInt64} (h : Ex i t a) (h1 : 2 ^ (23 + sh) ≤ i.natAbs) (h2 : i.natAbs < 2 ^ (24 + sh)) (ht : -149 ≤ t) :
    val32 (FP.d2f a) = settle b32 (decide (i < 0)) (nearest i.natAbs (2 ^ sh)) ((sh : Int) + t) := by
  rw [val32_d2f' h.1]
  obtain ⟨s, c, q, e, hq, hv, hsg, -⟩ := ex_parts h (by omega)
  have hi : i ≠ 0 := by rintro rfl; have := Nat.two_pow_pos (23 + sh); rw [Int.natAbs_zero] at h1; omega
  have hs' := hsg hi
  subst hs'
  rw [e]
  show roundRatio b32 _ c 1 q = _
  rw [roundRatio_congr (by decide) (by decide) hv, rr32 h1 h2 (by omega)]
theorem d2f_big_ex {i t : Int} {sh : Nat} {a : UInt64} (h : Ex i t a) (h1 : 2 ^ (23 + sh) ≤ i.natAbs) (h2 : i.natAbs < 2 ^ (24 + sh)) (ht : -149 ≤ t)
    (hq : (sh : Int) + t ≤ 103 ∨ (nearest i.natAbs (2 ^ sh) < 2 ^ 24 ∧ (sh : Int) + t ≤ 104)) : Fx (signed (decide (i < 0)) (nearest i.natAbs (2 ^ sh) * 2 ^ sh)) t (FP.d2f a) := by
  show Exf b32 _ t (val32 (FP.d2f a))
  rw [d2f_settle h h1 h2 ht]
  obtain ⟨c', q', e', hu⟩ := settle32 (s := decide (i < 0)) (c := nearest i.natAbs (2 ^ sh)) (q := (sh : Int) + t) (nearest_range h1 h2).2 (by omega) hq
  rw [e']
  refine ⟨⟨_, _, _, rfl⟩, ?_⟩
  show signed _ (inUnits c' q' b32.qmin) = _
  rw [hu, signed_mulI, signed_mulI, Int.mul_assoc, ← Int.pow_add, show b32.qmin = -149 by decide, show ((sh : Int) + t + 149).toNat = sh + (t - -149).toNat by omega]
  rfl
theorem f2d_ex {i t : Int} {a : UInt32} (h : Fx i t a) (hi : i.natAbs < 9007199254740992) (ht : -149 ≤ t) (ht2 : t ≤ 971) : Ex i t (FP.f2d a) := by
  show Exf b64 i t (val64 (FP.f2d a))
  have hn : FP.fIsNaN a = false := (notNaN_iff32 a).mpr (by obtain ⟨s, c, q, e⟩ := h.1; rw [e]; exact nofun)
  rw [FP.f2d_core hn, val64_f2d]
  obtain ⟨⟨s, c, q, e⟩, hz⟩ := h
  have hf := val32_fits a
  rw [e] at hz hf ⊢
  have hq := hf.2.1
  rw [show b32.qmin = -149 by decide] at hq
  have hz' : signed s (inUnits c q (-149)) = i * 2 ^ (t + 149).toNat := by
    have : signed s (inUnits c q b32.qmin) = i * 2 ^ (t - b32.qmin).toNat := hz
    rw [show b32.qmin = -149 by decide, show t - -149 = t + 149 by omega] at this
    exact this
  refine rndE good_b64 (e0 := -1074) (by decide) (by omega) hi (by rw [qmin_b64]; omega) (by rw [show b64.qmax = 971 by decide]; exact ht2) ?_
  unfold inUnits at hz' ⊢
  rw [signed_mulI] at hz' ⊢
  rw [show (q - -1074).toNat = (q - -149).toNat + 925 by omega, Int.pow_add, ← Int.mul_assoc, hz', Int.mul_assoc, ← Int.pow_add, show (t + 149).toNat + 925 = (t - -1074).toNat by omega]
theorem d2f_inf {i t : Int} {sh : Nat} {a : UInt64} (h : Ex i t a) (h1 : 2 ^ (23 + sh) ≤ i.natAbs) (h2 : i.natAbs < 2 ^ (24 + sh)) (ht : -149 ≤ t)
    (hq : 104 < (sh : Int) + t ∨ (¬ nearest i.natAbs (2 ^ sh) < 2 ^ 24 ∧ 103 < (sh : Int) + t)) : val32 (FP.d2f a) = .inf (decide (i < 0)) := by
  rw [d2f_settle h h1 h2 ht, settle32_inf hq]
theorem inf32 {a : UInt32} {s : Bool} (h : val32 a = .inf s) : Jvm.Free.Fl.NoNaN32 a ∧ val64 (FP.f2d a) = .inf s := by
  have hn : FP.fIsNaN a = false := (notNaN_iff32 a).mpr (by rw [h]; exact nofun)
  exact ⟨Jvm.Free.Fl.noNaN32_no.mpr hn, by rw [FP.f2d_core hn, val64_f2d, h]; rfl⟩
theorem inf64_nn {a : UInt64} {s : Bool} (h : val64 a = .inf s) : Jvm.Free.Fl.NoNaN64 a := Jvm.Free.Fl.noNaN64_no.mpr ((notNaN_iff a).mpr (by rw [h]; exact nofun))
theorem inf64_eq {a b : UInt64} {s : Bool} (ha : val64 a = .inf s) (hb : val64 b = .inf s) (o : ClassFile.CmpOp) : cmpValue (FP.dcmp a b) o = 0 := by
  have : FP.dcmp a b = order (val64 a) (val64 b) := rfl
  rw [this, ha, hb]; cases s <;> rfl
end Jvm.OwnFp
namespace Jvm.OwnFp
open Jvm.FP.Core Op
/-! own: bounds of a rounded quotient of positive numbers -/
theorem sgn_pos {f : Fmt} {s : Bool} {c : Nat} {q : Int} (h : 0 < zval f (.fin s c q)) : s = false := by
  cases s with
  | false => rfl
  | true =>
    have : zval f (.fin true c q) = -((inUnits c q f.qmin : Nat) : Int) := rfl
    rw [this] at h
    have := Int.natCast_nonneg (inUnits c q f.qmin)
    omega
theorem Dyf.zpos {f : Fmt} {i : Int} {k : Nat} {d : Datum} (h : Dyf f i k d) (hi : 0 < i) : 0 < zval f d := by
  have e := h.2
  have p1 : 0 < i * 2 ^ (-f.qmin).toNat := Int.mul_pos hi (pw_pos _)
  rw [← e] at p1
  rcases Int.lt_or_le 0 (zval f d) with h | h
  · exact h
  · have := Int.mul_le_mul_of_nonneg_right h (Int.le_of_lt (pw_pos k))
    rw [Int.zero_mul] at this
    omega
theorem zval_mag {f : Fmt} {d : Datum} (h : 0 ≤ zval f d) : zval f d = (zmag f d : Int) := by
  have := natAbs_zval f d
  omega
theorem quot_sides {f : Fmt} (hf : Good f) (hq : 0 ≤ f.qmax) {i j n : Int} {k l m : Nat} {x y : Datum} (fx : FP.Core.fits f x) (fy : FP.Core.fits f y) (hx : Dyf f i k x) (hy : Dyf f j l y) (hi : 0 < i) (hj : 0 < j) (hn0 : 0 ≤ n) (hn : n.natAbs < 2 ^ f.p) (hm : (m : Int) ≤ -f.qmin) :
    (i * 2 ^ l * 2 ^ m ≤ n * j * 2 ^ k → zval f (quotient f x y) * 2 ^ m ≤ n * 2 ^ (-f.qmin).toNat) ∧ (n * j * 2 ^ k ≤ i * 2 ^ l * 2 ^ m → n * 2 ^ (-f.qmin).toNat ≤ zval f (quotient f x y) * 2 ^ m) := by
  have px := hx.zpos hi
  have py := hy.zpos hj
  obtain ⟨⟨s, c, q, rfl⟩, hx⟩ := hx
  obtain ⟨⟨t, d, r, rfl⟩, hy⟩ := hy
  obtain ⟨s', c', q', hV, hv⟩ := vex hf hn hm hq
  have hnn : Datum.fin s' c' q' ≠ .nan := nofun
  have hqm := qmin_neg hf
  have fx1 := fx.2.1
  have fy1 := fy.2.1
  have pv : 0 ≤ zval f (.fin s' c' q') := by
    have : 0 ≤ n * 2 ^ (-f.qmin).toNat := Int.mul_nonneg hn0 (Int.le_of_lt (pw_pos _))
    rw [← hv] at this
    rcases Int.lt_or_le (zval f (.fin s' c' q')) 0 with h | h
    · have := Int.mul_neg_of_neg_of_pos h (pw_pos m)
      omega
    · exact h
  have hs := sgn_pos px
  have ht := sgn_pos py
  subst hs ht
  have X := zval_mag (Int.le_of_lt px)
  have Y := zval_mag (Int.le_of_lt py)
  have W := zval_mag pv
  have hd : d ≠ 0 := by
    rintro rfl
    have : zval f (.fin false 0 r) = 0 := by show signed false (inUnits 0 r f.qmin) = 0; unfold inUnits; rw [Nat.zero_mul]; rfl
    omega
  have hqt : quotient f (.fin false c q) (.fin false d r) = roundRatio f (false != false) c d (q - r) := by
    show (if d = 0 then _ else _) = _
    rw [if_neg hd]
  have a1 : inUnits c (q - r) (2 * f.qmin - r) = zmag f (.fin false c q) * 2 ^ (-f.qmin).toNat := by
    show c * 2 ^ _ = c * 2 ^ _ * 2 ^ _
    rw [Nat.mul_assoc, ← Nat.pow_add, show (q - r - (2 * f.qmin - r)).toNat = (q - f.qmin).toNat + (-f.qmin).toNat by omega]
  have a2 : zmag f (.fin s' c' q') * 2 ^ (f.qmin - (2 * f.qmin - r)).toNat * d = zmag f (.fin s' c' q') * zmag f (.fin false d r) := by
    rw [show (f.qmin - (2 * f.qmin - r)).toNat = (r - f.qmin).toNat by omega]
    show _ = _ * (d * 2 ^ _)
    ac_rfl
  have PP : (0 : Int) < 2 ^ k * 2 ^ l * 2 ^ m := Int.mul_pos (Int.mul_pos (pw_pos k) (pw_pos l)) (pw_pos m)
  have L1 : zval f (.fin false c q) * 2 ^ (-f.qmin).toNat * (2 ^ k * 2 ^ l * 2 ^ m) = (i * 2 ^ l * 2 ^ m) * (2 ^ (-f.qmin).toNat * 2 ^ (-f.qmin).toNat) := by
    calc zval f (.fin false c q) * 2 ^ (-f.qmin).toNat * (2 ^ k * 2 ^ l * 2 ^ m) = (zval f (.fin false c q) * 2 ^ k) * (2 ^ l * 2 ^ m) * 2 ^ (-f.qmin).toNat := by ac_rfl
      _ = _ := by rw [hx]; ac_rfl
  have R1 : zval f (.fin s' c' q') * zval f (.fin false d r) * (2 ^ k * 2 ^ l * 2 ^ m) = (n * j * 2 ^ k) * (2 ^ (-f.qmin).toNat * 2 ^ (-f.qmin).toNat) := by
    calc zval f (.fin s' c' q') * zval f (.fin false d r) * (2 ^ k * 2 ^ l * 2 ^ m) = (zval f (.fin s' c' q') * 2 ^ m) * (zval f (.fin false d r) * 2 ^ l) * 2 ^ k := by ac_rfl
      _ = _ := by rw [hv, hy]; ac_rfl
  have QQ : (0 : Int) ≤ 2 ^ (-f.qmin).toNat * 2 ^ (-f.qmin).toNat := Int.le_of_lt (Int.mul_pos (pw_pos _) (pw_pos _))
  have zR : zval f (roundRatio f (false != false) c d (q - r)) = (zmag f (roundRatio f (false != false) c d (q - r)) : Int) := by
    show signed (sgn (roundRatio f (false != false) c d (q - r))) (zmag f (roundRatio f (false != false) c d (q - r))) = _
    rw [sgn_roundRatio]; rfl
  rw [hqt, zR, ← hv, W]
  constructor
  · intro e
    have h1 := Int.mul_le_mul_of_nonneg_right e QQ
    rw [← L1, ← R1] at h1
    have h2 := Int.le_of_mul_le_mul_right h1 PP
    rw [X, Y, W, ← pw_cast, ← Int.natCast_mul, ← Int.natCast_mul] at h2
    have h3 := Int.ofNat_le.mp h2
    have := zmag_roundRatio_le hf (s := false != false) (A := c) (B := d) (e := q - r) (e0 := 2 * f.qmin - r) (Nat.pos_of_ne_zero hd) hV hnn (by omega) (by omega) (by rw [a1, a2]; exact h3)
    exact Int.mul_le_mul_of_nonneg_right (Int.ofNat_le.mpr this) (Int.le_of_lt (pw_pos m))
  · intro e
    have h1 := Int.mul_le_mul_of_nonneg_right e QQ
    rw [← L1, ← R1] at h1
    have h2 := Int.le_of_mul_le_mul_right h1 PP
    rw [X, Y, W, ← pw_cast, ← Int.natCast_mul, ← Int.natCast_mul] at h2
    have h3 := Int.ofNat_le.mp h2
    have := zmag_roundRatio_ge hf (s := false != false) (A := c) (B := d) (e := q - r) (e0 := 2 * f.qmin - r) (Nat.pos_of_ne_zero hd) hV (by omega) (by omega) (by rw [a1, a2]; exact h3)
    exact Int.mul_le_mul_of_nonneg_right (Int.ofNat_le.mpr this) (Int.le_of_lt (pw_pos m))
def DLe (a : UInt64) (n : Int) (m : Nat) : Prop := DFin a ∧ zval b64 (val64 a) * 2 ^ m ≤ n * 2 ^ (-b64.qmin).toNat
def DGe (a : UInt64) (n : Int) (m : Nat) : Prop := DFin a ∧ n * 2 ^ (-b64.qmin).toNat ≤ zval b64 (val64 a) * 2 ^ m
theorem ddiv_dle {i j n : Int} {k l m : Nat} {a b : UInt64} (ha : Dy i k a) (hb : Dy j l b) (hi : 0 < i) (hj : 0 < j) (hn0 : 0 ≤ n) (hn : n.natAbs < 9007199254740992) (hm : m ≤ 1074) (hF : DFin (FP.ddiv a b)) (e : i * 2 ^ l * 2 ^ m ≤ n * j * 2 ^ k) : DLe (FP.ddiv a b) n m := by
  refine ⟨hF, ?_⟩
  rw [show val64 (FP.ddiv a b) = _ from val64_ddiv a b]
  exact (quot_sides good_b64 qm64 (val64_fits a) (val64_fits b) ha hb hi hj hn0 hn (by rw [qmin_b64]; omega)).1 e
theorem ddiv_dge {i j n : Int} {k l m : Nat} {a b : UInt64} (ha : Dy i k a) (hb : Dy j l b) (hi : 0 < i) (hj : 0 < j) (hn0 : 0 ≤ n) (hn : n.natAbs < 9007199254740992) (hm : m ≤ 1074) (hF : DFin (FP.ddiv a b)) (e : n * j * 2 ^ k ≤ i * 2 ^ l * 2 ^ m) : DGe (FP.ddiv a b) n m := by
  refine ⟨hF, ?_⟩
  rw [show val64 (FP.ddiv a b) = _ from val64_ddiv a b]
  exact (quot_sides good_b64 qm64 (val64_fits a) (val64_fits b) ha hb hi hj hn0 hn (by rw [qmin_b64]; omega)).2 e
theorem fin_nn {a : UInt64} (h : DFin a) : val64 a ≠ .nan := by obtain ⟨s, c, q, e⟩ := h; rw [e]; exact nofun
theorem DLe.cmp_lt {a b : UInt64} {n n' : Int} {m : Nat} (ha : DLe a n m) (hb : Dy n' m b) (h : n < n') (o : ClassFile.CmpOp) : cmpValue (FP.dcmp a b) o = -1 := by
  have e := hb.2
  have h1 := Int.mul_lt_mul_of_pos_right h (pw_pos (-b64.qmin).toNat)
  have h2 : zval b64 (val64 a) * 2 ^ m < zval b64 (val64 b) * 2 ^ m := by rw [e]; exact Int.lt_of_le_of_lt ha.2 h1
  have h3 := Int.lt_of_mul_lt_mul_right h2 (Int.le_of_lt (pw_pos m))
  rw [show FP.dcmp a b = _ from dcmp_zval (fin_nn ha.1) (fin_nn hb.1), show compare (zval b64 (val64 a)) (zval b64 (val64 b)) = .lt by rw [compare_ite, if_pos h3]]
  rfl
theorem DGe.cmp_gt {a b : UInt64} {n n' : Int} {m : Nat} (ha : DGe a n m) (hb : Dy n' m b) (h : n' < n) (o : ClassFile.CmpOp) : cmpValue (FP.dcmp a b) o = 1 := by
  have e := hb.2
  have h1 := Int.mul_lt_mul_of_pos_right h (pw_pos (-b64.qmin).toNat)
  have h2 : zval b64 (val64 b) * 2 ^ m < zval b64 (val64 a) * 2 ^ m := by rw [e]; exact Int.lt_of_lt_of_le h1 ha.2
  have h3 := Int.lt_of_mul_lt_mul_right h2 (Int.le_of_lt (pw_pos m))
  rw [show FP.dcmp a b = _ from dcmp_zval (fin_nn ha.1) (fin_nn hb.1), show compare (zval b64 (val64 a)) (zval b64 (val64 b)) = .gt by rw [compare_ite, if_neg (by omega), if_neg (by omega)]]
  rfl
end Jvm.OwnFp
namespace Jvm.OwnFp
open Jvm.FP.Core Op
/-! own: positive doubles by their magnitude in units of 2^-1074, and relative errors -/
def Zp (a : UInt64) (z : Nat) : Prop := ∃ c q, val64 a = .fin false c q ∧ inUnits c q b64.qmin = z
theorem Zp.fin {a : UInt64} {z : Nat} (h : Zp a z) : DFin a := by obtain ⟨c, q, e, -⟩ := h; exact ⟨false, c, q, e⟩
theorem Zp.nn {a : UInt64} {z : Nat} (h : Zp a z) : Jvm.Free.Fl.NoNaN64 a := (Jvm.Free.Fl.fin64_core.mpr h.fin).noNaN
theorem Zp.zval {a : UInt64} {z : Nat} (h : Zp a z) : zval b64 (val64 a) = (z : Int) := by obtain ⟨c, q, e, h⟩ := h; rw [e, ← h]; rfl
theorem zp_dy {i : Int} {k : Nat} {a : UInt64} (h : Dy i k a) (hi : 0 < i) : ∃ z, Zp a z ∧ z * 2 ^ k = i.toNat * 2 ^ 1074 := by
  have p := Dyf.zpos h hi
  obtain ⟨⟨s, c, q, e⟩, hz⟩ := h
  rw [e] at p hz
  have hs := sgn_pos p
  subst hs
  refine ⟨_, ⟨c, q, e, rfl⟩, ?_⟩
  have h1 : zval b64 (.fin false c q) = ((inUnits c q b64.qmin : Nat) : Int) := rfl
  rw [h1, qmin_b64] at hz
  have h2 : ((inUnits c q b64.qmin * 2 ^ k : Nat) : Int) = ((i.toNat * 2 ^ 1074 : Nat) : Int) := by
    rw [Int.natCast_mul, Int.natCast_mul, pw_cast, pw_cast, Int.toNat_of_nonneg (Int.le_of_lt hi), qmin_b64]
    exact hz
  exact Int.ofNat_inj.mp h2
theorem zp_ex {i t : Int} {a : UInt64} (h : Ex i t a) (hi : 0 < i) : Zp a (i.toNat * 2 ^ (t + 1074).toNat) := by
  obtain ⟨⟨s, c, q, e⟩, hz⟩ := h
  rw [e] at hz
  have p : 0 < zval b64 (.fin s c q) := by rw [hz]; exact Int.mul_pos hi (pw_pos _)
  have hs := sgn_pos p
  subst hs
  refine ⟨c, q, e, ?_⟩
  have h1 : zval b64 (.fin false c q) = ((inUnits c q b64.qmin : Nat) : Int) := rfl
  rw [h1] at hz
  have h2 : ((inUnits c q b64.qmin : Nat) : Int) = ((i.toNat * 2 ^ (t + 1074).toNat : Nat) : Int) := by
    rw [hz, Int.natCast_mul, pw_cast, Int.toNat_of_nonneg (Int.le_of_lt hi), qmin_b64, show t - -1074 = t + 1074 by omega]
  exact Int.ofNat_inj.mp h2
theorem Ex.shift {i t : Int} {j : Nat} {a : UInt64} (h : Ex (i * 2 ^ j) t a) (ht : -1074 ≤ t) : Ex i (t + j) a := by
  refine ⟨h.1, ?_⟩
  rw [h.2, Int.mul_assoc, ← Int.pow_add, qmin_b64, show j + (t - -1074).toNat = (t + j - -1074).toNat by omega]
/-- two quotients of one value round to one number -/
theorem ddiv_congr {a b a' b' : UInt64} {x y x' y' : Nat} (ha : Zp a x) (hb : Zp b y) (ha' : Zp a' x') (hb' : Zp b' y') (hy : 0 < y) (hy' : 0 < y') (h : x * y' = x' * y) : val64 (FP.ddiv a b) = val64 (FP.ddiv a' b') := by
  have qt : ∀ {a b : UInt64} {c d : Nat} {q r : Int}, val64 a = .fin false c q → val64 b = .fin false d r → d ≠ 0 → val64 (FP.ddiv a b) = roundRatio b64 (false != false) c d (q - r) := by
    intro a b c d q r e1 e2 hd
    rw [show val64 (FP.ddiv a b) = _ from val64_ddiv a b, e1, e2]
    show (if d = 0 then _ else _) = _
    rw [if_neg hd]
  have f1 := val64_fits a; have f2 := val64_fits b; have f3 := val64_fits a'; have f4 := val64_fits b'
  obtain ⟨c, q, e1, rfl⟩ := ha
  obtain ⟨d, r, e2, rfl⟩ := hb
  obtain ⟨c', q', e3, rfl⟩ := ha'
  obtain ⟨d', r', e4, rfl⟩ := hb'
  rw [e1] at f1; rw [e2] at f2; rw [e3] at f3; rw [e4] at f4
  have g1 := f1.2.1; have g2 := f2.2.1; have g3 := f3.2.1; have g4 := f4.2.1
  unfold inUnits at hy hy' h
  rw [qmin_b64] at *
  have hd : d ≠ 0 := by rintro rfl; rw [Nat.zero_mul] at hy; omega
  have hd' : d' ≠ 0 := by rintro rfl; rw [Nat.zero_mul] at hy'; omega
  rw [qt e1 e2 hd, qt e3 e4 hd']
  refine roundRatio_congr (Nat.pos_of_ne_zero hd) (Nat.pos_of_ne_zero hd') ?_
  have h2 : c * d' * 2 ^ ((q - -1074).toNat + (r' - -1074).toNat) = c' * d * 2 ^ ((q' - -1074).toNat + (r - -1074).toNat) := by
    rw [Nat.pow_add, Nat.pow_add]
    calc c * d' * (2 ^ (q - -1074).toNat * 2 ^ (r' - -1074).toNat) = c * 2 ^ (q - -1074).toNat * (d' * 2 ^ (r' - -1074).toNat) := by ac_rfl
      _ = c' * 2 ^ (q' - -1074).toNat * (d * 2 ^ (r - -1074).toNat) := h
      _ = _ := by ac_rfl
  rcases Int.le_total (q' - r') (q - r) with hp | hp
  · rw [show (q' - r' - (q - r)).toNat = 0 by omega, Nat.pow_zero, Nat.mul_one]
    refine Nat.eq_of_mul_eq_mul_right (Nat.two_pow_pos ((q' - -1074).toNat + (r - -1074).toNat)) ?_
    rw [← h2, Nat.mul_assoc, ← Nat.pow_add, show (q - r - (q' - r')).toNat + ((q' - -1074).toNat + (r - -1074).toNat) = (q - -1074).toNat + (r' - -1074).toNat by omega]
  · rw [show (q - r - (q' - r')).toNat = 0 by omega, Nat.pow_zero, Nat.mul_one]
    refine Nat.eq_of_mul_eq_mul_right (Nat.two_pow_pos ((q - -1074).toNat + (r' - -1074).toNat)) ?_
    rw [h2, Nat.mul_assoc (c' * d) (2 ^ (q' - r' - (q - r)).toNat), ← Nat.pow_add, show (q' - r' - (q - r)).toNat + ((q - -1074).toNat + (r' - -1074).toNat) = (q' - -1074).toNat + (r - -1074).toNat by omega]
theorem bracket {U D : Nat} (hD : 0 < D) (h : 2 ^ 52 * D ≤ U) : ∃ j c : Nat, 2 ^ 52 ≤ c ∧ c < 2 ^ 53 ∧ c * 2 ^ j * D ≤ U ∧ U ≤ (c + 1) * 2 ^ j * D := by
  have hR : 2 ^ 52 ≤ U / D := (Nat.le_div_iff_mul_le hD).mpr h
  obtain ⟨R, eR⟩ : ∃ R, R = U / D := ⟨_, rfl⟩
  rw [← eR] at hR
  have hpos : 0 < 2 ^ 52 := Nat.two_pow_pos 52
  have h52 : 52 ≤ R.log2 := (Nat.le_log2 (by omega)).mpr hR
  obtain ⟨j, hj⟩ : ∃ j, R.log2 = 52 + j := ⟨R.log2 - 52, by omega⟩
  obtain ⟨l1, l2⟩ := (Nat.log2_eq_iff (n := R) (k := 52 + j) (by omega)).mp hj
  have pj := Nat.two_pow_pos j
  have hc1 : R / 2 ^ j * 2 ^ j ≤ R := Nat.div_mul_le_self R (2 ^ j)
  have hc2 : R < (R / 2 ^ j + 1) * 2 ^ j := by
    have := Nat.lt_succ_of_le (Nat.le_refl (R / 2 ^ j))
    exact (Nat.div_lt_iff_lt_mul pj).mp this
  have hU1 : R * D ≤ U := by rw [eR]; exact Nat.div_mul_le_self U D
  have hU2 : U < (R + 1) * D := by
    rw [eR]; exact (Nat.div_lt_iff_lt_mul hD).mp (Nat.lt_succ_of_le (Nat.le_refl _))
  refine ⟨j, R / 2 ^ j, (Nat.le_div_iff_mul_le pj).mpr (by rw [← Nat.pow_add]; exact l1), (Nat.div_lt_iff_lt_mul pj).mpr (by rw [← Nat.pow_add, show 53 + j = 52 + j + 1 by omega]; exact l2), ?_, ?_⟩
  · exact Nat.le_trans (Nat.mul_le_mul_right D hc1) hU1
  · exact Nat.le_trans (Nat.le_of_lt hU2) (Nat.mul_le_mul_right D hc2)
theorem rep64 {c j : Nat} (hc : c ≤ 2 ^ 53) (hj : j ≤ 2000) : ∃ s c' q', FP.Core.fits b64 (.fin s c' q') ∧ zmag b64 (.fin s c' q') = c * 2 ^ j := by
  have fin : ∀ {i t : Nat}, i < 2 ^ 53 → t ≤ 2001 → ∃ s c' q', FP.Core.fits b64 (.fin s c' q') ∧ zmag b64 (.fin s c' q') = i * 2 ^ t := by
    intro i t hi ht
    obtain ⟨s, c', q', h1, h2⟩ := vexE good_b64 (i := (i : Int)) (t := (t : Int) - 1074) (by rw [Int.natAbs_natCast]; exact hi) (by rw [qmin_b64]; omega) (by rw [show b64.qmax = 971 by decide]; omega)
    refine ⟨s, c', q', h1, ?_⟩
    have h3 := congrArg Int.natAbs h2
    rw [natAbs_zval, Int.natAbs_mul, natAbs_pow, Int.natAbs_natCast, qmin_b64, show ((t : Int) - 1074 - -1074).toNat = t by omega] at h3
    exact h3
  by_cases q : c < 2 ^ 53
  · exact fin q (by omega)
  · have e : c = 2 ^ 52 * 2 := by omega
    obtain ⟨s, c', q', h1, h2⟩ := fin (i := 2 ^ 52) (t := j + 1) (by decide) (by omega)
    have e3 : 2 ^ 52 * 2 ^ (j + 1) = 2 ^ 52 * 2 * 2 ^ j := by
      rw [show j + 1 = 1 + j by omega, Nat.pow_add, Nat.pow_one, Nat.mul_assoc]
    exact ⟨s, c', q', h1, by rw [h2, e, e3]⟩
theorem pow_lt_inv {a b : Nat} (h : (2 : Nat) ^ a < 2 ^ b) : a < b := by
  rcases Nat.lt_or_ge a b with q | q
  · exact q
  · exact absurd (Nat.pow_le_pow_right (n := 2) (by decide) q) (by omega)
/-- a positive rounding: finite, and within 2^-52 of what was rounded -/
theorem rr_rel {A B : Nat} {e e0 : Int} {U D : Nat} (hB : 0 < B) (h0 : e0 ≤ -1074) (h0e : e0 ≤ e) (hU : inUnits A e e0 = U) (hD : B * 2 ^ (-1074 - e0).toNat = D) (lo : 2 ^ 52 * D ≤ U) (hi : U < 2 ^ 2000 * D) :
    ∃ c q, roundRatio b64 (false != false) A B e = .fin false c q ∧ inUnits c q b64.qmin * D * 2 ^ 52 ≤ U * (2 ^ 52 + 1) ∧ U * (2 ^ 52 - 1) ≤ inUnits c q b64.qmin * D * 2 ^ 52 := by
  have pD : 0 < D := by rw [← hD]; exact Nat.mul_pos hB (Nat.two_pow_pos _)
  obtain ⟨j, c, c1, c2, u1, u2⟩ := bracket pD lo
  have hj : j ≤ 2000 := by
    have h1 : 2 ^ 52 * 2 ^ j * D ≤ U := Nat.le_trans (Nat.mul_le_mul_right D (Nat.mul_le_mul_right _ c1)) u1
    have h2 := Nat.lt_of_mul_lt_mul_right (Nat.lt_of_le_of_lt h1 hi)
    rw [← Nat.pow_add] at h2
    have := pow_lt_inv h2
    omega
  have hs : ∀ V : Nat, V * 2 ^ (b64.qmin - e0).toNat * B = V * D := by
    intro V
    rw [← hD, qmin_b64]
    ac_rfl
  obtain ⟨sl, cl, ql, fl, zl⟩ := rep64 (c := c) (j := j) (by omega) hj
  obtain ⟨sh, ch, qh, fh, zh⟩ := rep64 (c := c + 1) (j := j) (by omega) hj
  have up := zmag_roundRatio_le good_b64 (s := false != false) (A := A) (B := B) (e := e) (e0 := e0) hB fh nofun (by rw [qmin_b64]; exact h0) h0e (by rw [hs, zh, hU]; exact u2)
  have dn := zmag_roundRatio_ge good_b64 (s := false != false) (A := A) (B := B) (e := e) (e0 := e0) hB fl (by rw [qmin_b64]; exact h0) h0e (by rw [hs, zl, hU]; exact u1)
  rw [zh] at up; rw [zl] at dn
  rcases roundRatio_cases b64 (false != false) A B e with ⟨c', q', h⟩ | h
  · rw [h] at up dn
    have up' : inUnits c' q' b64.qmin ≤ (c + 1) * 2 ^ j := up
    have dn' : c * 2 ^ j ≤ inUnits c' q' b64.qmin := dn
    refine ⟨c', q', h, ?_, ?_⟩
    · generalize inUnits c' q' b64.qmin = z at *
      have k1 : z * D ≤ (c + 1) * 2 ^ j * D := Nat.mul_le_mul_right D up'
      have k2 : 2 ^ 52 * (2 ^ j * D) ≤ c * (2 ^ j * D) := Nat.mul_le_mul_right _ c1
      rw [Nat.add_mul, Nat.add_mul, Nat.one_mul] at k1
      rw [Nat.mul_assoc] at u1 k1
      generalize 2 ^ j * D = W at *
      generalize c * W = cW at *
      generalize z * D = zD at *
      have e1 : U * (2 ^ 52 + 1) = U * 2 ^ 52 + U := by rw [Nat.mul_add, Nat.mul_one]
      rw [e1]
      omega
    · generalize inUnits c' q' b64.qmin = z at *
      have k1 : c * 2 ^ j * D ≤ z * D := Nat.mul_le_mul_right D dn'
      have k2 : 2 ^ 52 * (2 ^ j * D) ≤ c * (2 ^ j * D) := Nat.mul_le_mul_right _ c1
      rw [Nat.add_mul, Nat.add_mul, Nat.one_mul] at u2
      rw [Nat.mul_assoc] at u1 u2 k1
      generalize 2 ^ j * D = W at *
      generalize c * W = cW at *
      generalize z * D = zD at *
      have e1 : U * (2 ^ 52 - 1) = U * 2 ^ 52 - U := by rw [Nat.mul_sub, Nat.mul_one]
      rw [e1]
      omega
  · exfalso
    rw [h] at up
    have t := zmag_lt_top good_b64 fh
    have t2 : zmag b64 (.fin sh ch qh) = inUnits ch qh b64.qmin := rfl
    have t3 : zmag b64 (.inf (false != false)) = b64.tails * 2 ^ (b64.exps - 2) := rfl
    rw [t3] at up
    rw [← zh] at up
    have := Nat.lt_of_le_of_lt up t
    omega
theorem mul_rel {a b : UInt64} {x y : Nat} (ha : Zp a x) (hb : Zp b y) (lo : 2 ^ 52 * 2 ^ 1074 ≤ x * y) (hi : x * y < 2 ^ 2000 * 2 ^ 1074) :
    ∃ z, Zp (FP.dmul a b) z ∧ z * 2 ^ 1074 * 2 ^ 52 ≤ x * y * (2 ^ 52 + 1) ∧ x * y * (2 ^ 52 - 1) ≤ z * 2 ^ 1074 * 2 ^ 52 := by
  have f1 := val64_fits a; have f2 := val64_fits b
  obtain ⟨c, q, e1, rfl⟩ := ha
  obtain ⟨d, r, e2, rfl⟩ := hb
  rw [e1] at f1; rw [e2] at f2
  obtain ⟨h1, h2, h3⟩ := product_units f1 f2
  rw [qmin_b64] at h2
  obtain ⟨c', q', g1, g2, g3⟩ := rr_rel (A := c * d) (B := 1) (e := q + r) (e0 := 2 * b64.qmin) (D := 2 ^ 1074) (by decide) (by rw [qmin_b64]; decide) (by rw [qmin_b64]; exact h2) h3 (by rw [qmin_b64, Nat.one_mul, show ((-1074 : Int) - 2 * -1074).toNat = 1074 by decide]) lo hi
  refine ⟨_, ⟨c', q', ?_, rfl⟩, g2, g3⟩
  rw [show val64 (FP.dmul a b) = _ from val64_dmul a b, e1, e2, h1]
  exact g1
theorem div_rel {a b : UInt64} {x y : Nat} (ha : Zp a x) (hb : Zp b y) (hy : 0 < y) (lo : 2 ^ 52 * y ≤ x * 2 ^ 1074) (hi : x * 2 ^ 1074 < 2 ^ 2000 * y) :
    ∃ z, Zp (FP.ddiv a b) z ∧ z * y * 2 ^ 52 ≤ x * 2 ^ 1074 * (2 ^ 52 + 1) ∧ x * 2 ^ 1074 * (2 ^ 52 - 1) ≤ z * y * 2 ^ 52 := by
  have f1 := val64_fits a; have f2 := val64_fits b
  obtain ⟨c, q, e1, rfl⟩ := ha
  obtain ⟨d, r, e2, rfl⟩ := hb
  rw [e1] at f1; rw [e2] at f2
  have g1 := f1.2.1; have g2 := f2.2.1
  rw [qmin_b64] at g1 g2
  have hd : d ≠ 0 := by rintro rfl; unfold inUnits at hy; rw [Nat.zero_mul] at hy; omega
  have a1 : inUnits c (q - r) (2 * b64.qmin - r) = inUnits c q b64.qmin * 2 ^ 1074 := by
    rw [qmin_b64]
    show c * 2 ^ _ = c * 2 ^ _ * 2 ^ 1074
    rw [Nat.mul_assoc, ← Nat.pow_add, show (q - r - (2 * -1074 - r)).toNat = (q - -1074).toNat + 1074 by omega]
  have a2 : d * 2 ^ (-1074 - (2 * b64.qmin - r)).toNat = inUnits d r b64.qmin := by
    rw [qmin_b64]
    show d * 2 ^ _ = d * 2 ^ _
    rw [show (-1074 - (2 * -1074 - r)).toNat = (r - -1074).toNat by omega]
  obtain ⟨c', q', k1, k2, k3⟩ := rr_rel (A := c) (B := d) (e := q - r) (e0 := 2 * b64.qmin - r) (Nat.pos_of_ne_zero hd) (by rw [qmin_b64]; omega) (by rw [qmin_b64]; omega) a1 a2 lo hi
  refine ⟨_, ⟨c', q', ?_, rfl⟩, k2, k3⟩
  rw [show val64 (FP.ddiv a b) = _ from val64_ddiv a b, e1, e2]
  show (if d = 0 then _ else _) = _
  rw [if_neg hd]
  exact k1
def pp : Nat := 2 ^ 1074
def tt : Nat := 2 ^ 50
def ss : Nat := 2 ^ 52
def qq : Nat := 2 ^ 2000
theorem pp_pos : 0 < pp := Nat.two_pow_pos 1074
theorem tt_pos : 0 < tt := Nat.two_pow_pos 50
theorem ss_pos : 0 < ss := Nat.two_pow_pos 52
/-- a is N/D up to k parts of 2^50; its size lies between 2^-β and 2^α -/
def Ap (a : UInt64) (N D k α β : Nat) : Prop := ∃ z, Zp a z ∧ z * D * tt ≤ N * pp * (tt + k) ∧ N * pp * (tt - k) ≤ z * D * tt ∧ z ≤ pp * 2 ^ α ∧ pp ≤ z * 2 ^ β
theorem two_half {x z : Nat} (h : x * (ss - 1) ≤ z * ss) : x ≤ z * 2 := by
  have h : x * (2 ^ 52 - 1) ≤ z * 2 ^ 52 := h
  have e : x * (2 ^ 52 - 1) = x * 2 ^ 52 - x := by rw [Nat.mul_sub, Nat.mul_one]
  have : x ≤ x * 2 ^ 52 := Nat.le_mul_of_pos_right _ (Nat.two_pow_pos _)
  omega
theorem two_up {x z : Nat} (h : z * ss ≤ x * (ss + 1)) : z ≤ x * 2 := by
  have h : z * 2 ^ 52 ≤ x * (2 ^ 52 + 1) := h
  have e : x * (2 ^ 52 + 1) = x * 2 ^ 52 + x := by rw [Nat.mul_add, Nat.mul_one]
  omega
theorem ar_up {p N u v : Nat} (h : N ≤ u * v) : N * p ≤ p * u * v := by
  calc N * p ≤ u * v * p := Nat.mul_le_mul_right _ h
    _ = _ := by ac_rfl
theorem ar_bb {p x y u v : Nat} (x4 : p ≤ x * u) (y4 : p ≤ y * v) : p * p ≤ x * y * (u * v) := by
  calc p * p ≤ x * u * (y * v) := Nat.mul_le_mul x4 y4
    _ = _ := by ac_rfl
theorem ar_aa {p x y u v : Nat} (x3 : x ≤ p * u) (y3 : y ≤ p * v) : x * y ≤ p * (p * (u * v)) := by
  calc x * y ≤ p * u * (p * v) := Nat.mul_le_mul x3 y3
    _ = _ := by ac_rfl
theorem ar_lo {p s x y w : Nat} (hw : 0 < w) (bb : p * p ≤ x * y * w) (h : s * w ≤ p) : s * p ≤ x * y := by
  refine Nat.le_of_mul_le_mul_right (c := w) ?_ hw
  calc s * p * w = s * w * p := by ac_rfl
    _ ≤ p * p := Nat.mul_le_mul_right _ h
    _ ≤ _ := bb
theorem ar_m1 {p s t x y z D D' N N' a b c d : Nat} (hp : 0 < p) (hs : 0 < s) (ht : 0 < t) (z1 : z * p * s ≤ x * y * c) (x1 : x * D * t ≤ N * p * a) (y1 : y * D' * t ≤ N' * p * b) (n1 : a * b * c ≤ d * (s * t)) : z * (D * D') * t ≤ N * N' * p * d := by
  refine Nat.le_of_mul_le_mul_right (c := p * s * t) ?_ (Nat.mul_pos (Nat.mul_pos hp hs) ht)
  calc z * (D * D') * t * (p * s * t) = z * p * s * (D * D' * t * t) := by ac_rfl
    _ ≤ x * y * c * (D * D' * t * t) := Nat.mul_le_mul_right _ z1
    _ = x * D * t * (y * D' * t) * c := by ac_rfl
    _ ≤ N * p * a * (N' * p * b) * c := Nat.mul_le_mul_right _ (Nat.mul_le_mul x1 y1)
    _ = N * N' * p * p * (a * b * c) := by ac_rfl
    _ ≤ N * N' * p * p * (d * (s * t)) := Nat.mul_le_mul_left _ n1
    _ = _ := by ac_rfl
theorem ar_m2 {p s t x y z D D' N N' a b c d : Nat} (hp : 0 < p) (hs : 0 < s) (ht : 0 < t) (z2 : x * y * c ≤ z * p * s) (x2 : N * p * a ≤ x * D * t) (y2 : N' * p * b ≤ y * D' * t) (n2 : d * (s * t) ≤ a * b * c) : N * N' * p * d ≤ z * (D * D') * t := by
  refine Nat.le_of_mul_le_mul_right (c := p * s * t) ?_ (Nat.mul_pos (Nat.mul_pos hp hs) ht)
  calc N * N' * p * d * (p * s * t) = N * N' * p * p * (d * (s * t)) := by ac_rfl
    _ ≤ N * N' * p * p * (a * b * c) := Nat.mul_le_mul_left _ n2
    _ = N * p * a * (N' * p * b) * c := by ac_rfl
    _ ≤ x * D * t * (y * D' * t) * c := Nat.mul_le_mul_right _ (Nat.mul_le_mul x2 y2)
    _ = x * y * c * (D * D' * t * t) := by ac_rfl
    _ ≤ z * p * s * (D * D' * t * t) := Nat.mul_le_mul_right _ z2
    _ = _ := by ac_rfl
theorem ar_m3 {p x y z u v : Nat} (hp : 0 < p) (h : z * p ≤ x * y * 2) (aa : x * y ≤ p * (p * (u * v))) : z ≤ p * (u * v * 2) := by
  refine Nat.le_of_mul_le_mul_right (c := p) ?_ hp
  calc z * p ≤ x * y * 2 := h
    _ ≤ p * (p * (u * v)) * 2 := Nat.mul_le_mul_right _ aa
    _ = _ := by ac_rfl
theorem ar_m4 {p x y z u v : Nat} (hp : 0 < p) (h : x * y ≤ z * p * 2) (bb : p * p ≤ x * y * (u * v)) : p ≤ z * (u * v * 2) := by
  refine Nat.le_of_mul_le_mul_right (c := p) ?_ hp
  calc p * p ≤ x * y * (u * v) := bb
    _ ≤ z * p * 2 * (u * v) := Nat.mul_le_mul_right _ h
    _ = _ := by ac_rfl
theorem ar_d0 {p s x y u v : Nat} (hv : 0 < v) (y3 : y ≤ p * u) (x4 : p ≤ x * v) (h : s * u * v ≤ p) : s * y ≤ x * p := by
  refine Nat.le_of_mul_le_mul_right (c := v) ?_ hv
  calc s * y * v ≤ s * (p * u) * v := Nat.mul_le_mul_right _ (Nat.mul_le_mul_left _ y3)
    _ = s * u * v * p := by ac_rfl
    _ ≤ p * p := Nat.mul_le_mul_right _ h
    _ ≤ x * v * p := Nat.mul_le_mul_right _ x4
    _ = _ := by ac_rfl
theorem ar_d00 {p q x y u v : Nat} (hy : 0 < y) (x3 : x ≤ p * u) (y4 : p ≤ y * v) (h : p * u * v < q) : x * p < q * y := by
  have h1 : x * p ≤ p * u * v * y := by
    calc x * p ≤ p * u * (y * v) := Nat.mul_le_mul x3 y4
      _ = _ := by ac_rfl
  exact Nat.lt_of_le_of_lt h1 (Nat.mul_lt_mul_of_pos_right h hy)
theorem ar_d1 {p s t x y z D D' N N' a b c d : Nat} (hp : 0 < p) (hs : 0 < s) (hb : 0 < b) (z1 : z * y * s ≤ x * p * c) (x1 : x * D * t ≤ N * p * a) (y2 : N' * p * b ≤ y * D' * t) (n1 : a * c * t ≤ d * (b * s)) : z * (D * N') * t ≤ N * D' * p * d := by
  refine Nat.le_of_mul_le_mul_right (c := p * b * s) ?_ (Nat.mul_pos (Nat.mul_pos hp hb) hs)
  calc z * (D * N') * t * (p * b * s) = N' * p * b * (z * D * s * t) := by ac_rfl
    _ ≤ y * D' * t * (z * D * s * t) := Nat.mul_le_mul_right _ y2
    _ = z * y * s * (D' * t * (D * t)) := by ac_rfl
    _ ≤ x * p * c * (D' * t * (D * t)) := Nat.mul_le_mul_right _ z1
    _ = x * D * t * (p * c * (D' * t)) := by ac_rfl
    _ ≤ N * p * a * (p * c * (D' * t)) := Nat.mul_le_mul_right _ x1
    _ = N * D' * p * p * (a * c * t) := by ac_rfl
    _ ≤ N * D' * p * p * (d * (b * s)) := Nat.mul_le_mul_left _ n1
    _ = _ := by ac_rfl
theorem ar_d2 {p s t x y z D D' N N' a b c d : Nat} (hp : 0 < p) (hs : 0 < s) (hb : 0 < b) (z2 : x * p * c ≤ z * y * s) (x2 : N * p * a ≤ x * D * t) (y1 : y * D' * t ≤ N' * p * b) (n2 : d * (b * s) ≤ a * c * t) : N * D' * p * d ≤ z * (D * N') * t := by
  refine Nat.le_of_mul_le_mul_right (c := p * b * s) ?_ (Nat.mul_pos (Nat.mul_pos hp hb) hs)
  calc N * D' * p * d * (p * b * s) = N * D' * p * p * (d * (b * s)) := by ac_rfl
    _ ≤ N * D' * p * p * (a * c * t) := Nat.mul_le_mul_left _ n2
    _ = N * p * a * (p * c * (D' * t)) := by ac_rfl
    _ ≤ x * D * t * (p * c * (D' * t)) := Nat.mul_le_mul_right _ x2
    _ = x * p * c * (D' * t * (D * t)) := by ac_rfl
    _ ≤ z * y * s * (D' * t * (D * t)) := Nat.mul_le_mul_right _ z2
    _ = y * D' * t * (z * D * s * t) := by ac_rfl
    _ ≤ N' * p * b * (z * D * s * t) := Nat.mul_le_mul_right _ y1
    _ = _ := by ac_rfl
theorem ar_d3 {p x y z u v : Nat} (hp : 0 < p) (h : z * y ≤ x * p * 2) (x3 : x ≤ p * u) (y4 : p ≤ y * v) : z ≤ p * (u * v * 2) := by
  refine Nat.le_of_mul_le_mul_right (c := p) ?_ hp
  calc z * p ≤ z * (y * v) := Nat.mul_le_mul_left _ y4
    _ = z * y * v := by ac_rfl
    _ ≤ x * p * 2 * v := Nat.mul_le_mul_right _ h
    _ ≤ p * u * p * 2 * v := Nat.mul_le_mul_right _ (Nat.mul_le_mul_right _ (Nat.mul_le_mul_right _ x3))
    _ = _ := by ac_rfl
theorem ar_d4 {p x y z u v : Nat} (hp : 0 < p) (h : x * p ≤ z * y * 2) (y3 : y ≤ p * u) (x4 : p ≤ x * v) : p ≤ z * (v * u * 2) := by
  refine Nat.le_of_mul_le_mul_right (c := p) ?_ hp
  calc p * p ≤ x * v * p := Nat.mul_le_mul_right _ x4
    _ = x * p * v := by ac_rfl
    _ ≤ z * y * 2 * v := Nat.mul_le_mul_right _ h
    _ ≤ z * (p * u) * 2 * v := Nat.mul_le_mul_right _ (Nat.mul_le_mul_right _ (Nat.mul_le_mul_left _ y3))
    _ = _ := by ac_rfl
theorem ar_s1 {p t z D D' N N' a : Nat} (hD : 0 < D) (e : N * D' = N' * D) (h : z * D * t ≤ N * p * a) : z * D' * t ≤ N' * p * a := by
  refine Nat.le_of_mul_le_mul_right (c := D) ?_ hD
  calc z * D' * t * D = z * D * t * D' := by ac_rfl
    _ ≤ N * p * a * D' := Nat.mul_le_mul_right _ h
    _ = N * D' * (p * a) := by ac_rfl
    _ = _ := by rw [e]; ac_rfl
theorem ar_s2 {p t z D D' N N' a : Nat} (hD : 0 < D) (e : N * D' = N' * D) (h : N * p * a ≤ z * D * t) : N' * p * a ≤ z * D' * t := by
  refine Nat.le_of_mul_le_mul_right (c := D) ?_ hD
  calc N' * p * a * D = N' * D * (p * a) := by ac_rfl
    _ = N * p * a * D' := by rw [← e]; ac_rfl
    _ ≤ z * D * t * D' := Nat.mul_le_mul_right _ h
    _ = _ := by ac_rfl
theorem pow_s1 (α β : Nat) : 2 ^ (α + β + 1) = 2 ^ α * 2 ^ β * 2 := by rw [Nat.pow_succ, Nat.pow_add]
theorem ap_dy {i : Int} {k : Nat} {a : UInt64} (h : Dy i k a) (hi : 0 < i) {N α : Nat} (hN : i.toNat = N) (hα : N ≤ 2 ^ α * 2 ^ k) : Ap a N (2 ^ k) 0 α k := by
  obtain ⟨z, hz, e⟩ := zp_dy h hi
  rw [hN] at e
  have e : z * 2 ^ k = N * pp := e
  have n1 : 1 ≤ N := by omega
  refine ⟨z, hz, by rw [e]; exact Nat.le_refl _, by rw [e]; exact Nat.le_refl _, ?_, ?_⟩
  · refine Nat.le_of_mul_le_mul_right (c := 2 ^ k) ?_ (Nat.two_pow_pos k)
    rw [e]
    exact ar_up hα
  · rw [e]; exact Nat.le_mul_of_pos_left _ n1
theorem Ap.mul {a b : UInt64} {N D k α β N' D' k' α' β' K : Nat} (ha : Ap a N D k α β) (hb : Ap b N' D' k' α' β') (r1 : β + β' ≤ 1000) (r2 : α + α' ≤ 900)
    (n1 : (tt + k) * (tt + k') * (ss + 1) ≤ (tt + K) * (ss * tt)) (n2 : (tt - K) * (ss * tt) ≤ (tt - k) * (tt - k') * (ss - 1)) :
    Ap (FP.dmul a b) (N * N') (D * D') K (α + α' + 1) (β + β' + 1) := by
  obtain ⟨x, hx, x1, x2, x3, x4⟩ := ha
  obtain ⟨y, hy, y1, y2, y3, y4⟩ := hb
  have bb := ar_bb x4 y4
  have aa := ar_aa x3 y3
  have h52 : ss * (2 ^ β * 2 ^ β') ≤ pp := by
    unfold pp ss
    rw [← Nat.pow_add, ← Nat.pow_add]; exact Nat.pow_le_pow_right (by decide) (by omega)
  have h20 : pp * (2 ^ α * 2 ^ α') < qq := by
    unfold pp qq
    rw [← Nat.pow_add, ← Nat.pow_add]; exact Nat.pow_lt_pow_right (by decide) (by omega)
  have lo : ss * pp ≤ x * y := ar_lo (Nat.mul_pos (Nat.two_pow_pos β) (Nat.two_pow_pos β')) bb h52
  have hi : x * y < qq * pp := by
    refine Nat.lt_of_le_of_lt aa ?_
    rw [Nat.mul_comm qq]
    exact Nat.mul_lt_mul_of_pos_left h20 pp_pos
  have lo' : 2 ^ 52 * 2 ^ 1074 ≤ x * y := by unfold ss pp at lo; exact lo
  have hi' : x * y < 2 ^ 2000 * 2 ^ 1074 := by unfold qq pp at hi; exact hi
  obtain ⟨z, hz, z1, z2⟩ := mul_rel hx hy lo' hi'
  have z1 : z * pp * ss ≤ x * y * (ss + 1) := z1
  have z2 : x * y * (ss - 1) ≤ z * pp * ss := z2
  refine ⟨z, hz, ar_m1 pp_pos ss_pos tt_pos z1 x1 y1 n1, ar_m2 pp_pos ss_pos tt_pos z2 x2 y2 n2, ?_, ?_⟩
  · rw [pow_s1]; exact ar_m3 pp_pos (two_up z1) aa
  · rw [pow_s1]; exact ar_m4 pp_pos (two_half z2) bb
theorem Ap.div {a b : UInt64} {N D k α β N' D' k' α' β' K : Nat} (ha : Ap a N D k α β) (hb : Ap b N' D' k' α' β') (r1 : β + α' ≤ 1000) (r2 : α + β' ≤ 900) (hk : 0 < tt - k')
    (n1 : (tt + k) * (ss + 1) * tt ≤ (tt + K) * ((tt - k') * ss)) (n2 : (tt - K) * ((tt + k') * ss) ≤ (tt - k) * (ss - 1) * tt) :
    Ap (FP.ddiv a b) (N * D') (D * N') K (α + β' + 1) (β + α' + 1) := by
  obtain ⟨x, hx, x1, x2, x3, x4⟩ := ha
  obtain ⟨y, hy, y1, y2, y3, y4⟩ := hb
  have y0 : 0 < y := by
    rcases Nat.eq_zero_or_pos y with q | q
    · rw [q, Nat.zero_mul] at y4; exact absurd pp_pos (Nat.not_lt_of_le y4)
    · exact q
  have h52 : ss * 2 ^ α' * 2 ^ β ≤ pp := by
    unfold pp ss
    rw [← Nat.pow_add, ← Nat.pow_add]; exact Nat.pow_le_pow_right (by decide) (by omega)
  have h20 : pp * 2 ^ α * 2 ^ β' < qq := by
    unfold pp qq
    rw [← Nat.pow_add, ← Nat.pow_add]; exact Nat.pow_lt_pow_right (by decide) (by omega)
  have lo : ss * y ≤ x * pp := ar_d0 (Nat.two_pow_pos β) y3 x4 h52
  have hi : x * pp < qq * y := ar_d00 y0 x3 y4 h20
  obtain ⟨z, hz, z1, z2⟩ := div_rel hx hy y0 lo hi
  have z1 : z * y * ss ≤ x * pp * (ss + 1) := z1
  have z2 : x * pp * (ss - 1) ≤ z * y * ss := z2
  have T'' : 0 < tt + k' := Nat.add_pos_left tt_pos _
  refine ⟨z, hz, ar_d1 pp_pos ss_pos hk z1 x1 y2 n1, ar_d2 pp_pos ss_pos T'' z2 x2 y1 n2, ?_, ?_⟩
  · rw [pow_s1]; exact ar_d3 pp_pos (two_up z1) x3 y4
  · rw [pow_s1]; exact ar_d4 pp_pos (two_half z2) y3 x4
theorem Ap.same {a : UInt64} {N D N' D' k α β : Nat} (h : Ap a N D k α β) (hD : 0 < D) (e : N * D' = N' * D) : Ap a N' D' k α β := by
  obtain ⟨z, hz, h1, h2, h3, h4⟩ := h
  exact ⟨z, hz, ar_s1 hD e h1, ar_s2 hD e h2, h3, h4⟩
/-- a difference that is at most w, rounded, is at most w -/
theorem sub_le {a b w : UInt64} {x y z : Nat} (ha : Zp a x) (hb : Zp b y) (hw : Zp w z) (h : x ≤ y + z) (o : ClassFile.CmpOp) : ¬ ((0 : Int32) < cmpValue (FP.dcmp (FP.dsub a b) w) o) := by
  have f1 := val64_fits a; have f2 := val64_fits (dneg b); have f3 := val64_fits w
  have zw := hw.zval
  have nw := fin_nn hw.fin
  have nd : val64 (FP.dsub a b) ≠ .nan := (notNaN_iff _).mp (dsub_out (no_fin ha.fin) hb.fin)
  have hz : zval b64 (val64 (FP.dsub a b)) ≤ (z : Int) := by
    rw [show FP.dsub a b = dadd a (dneg b) from dsub_eq a b, val64_dadd]
    obtain ⟨c, q, e1, rfl⟩ := ha
    obtain ⟨d, r, e2, rfl⟩ := hb
    have e3 : val64 (dneg b) = .fin true d r := by rw [val64_dneg, e2]; rfl
    rw [e1] at f1 ⊢
    rw [e3] at f2 ⊢
    obtain ⟨sg, n, e, s1, s2, s3⟩ := sum_units f1 f2
    rw [s1, ← zw]
    refine zval_round_le good_b64 f3 nw (Int.le_refl _) s2 ?_
    rw [s3, zw, Int.sub_self]
    have k1 : zval b64 (.fin false c q) = ((inUnits c q b64.qmin : Nat) : Int) := rfl
    have k2 : zval b64 (.fin true d r) = -((inUnits d r b64.qmin : Nat) : Int) := rfl
    rw [k1, k2, show ((2 ^ (0 : Int).toNat : Nat) : Int) = 1 by rfl, Int.mul_one]
    omega
  rw [← zw] at hz
  rw [show FP.dcmp (FP.dsub a b) w = _ from dcmp_zval nd nw, compare_ite]
  split
  · cases o <;> decide
  · split
    · cases o <;> decide
    · omega
end Jvm.OwnFp
namespace Jvm.Pilot.@@N@@
open Jvm Jvm.ClassFile Sem Op Lib Jvm.Free Jvm.Stand Jvm.LawKit Jvm.RoadKit Bundle Jvm.Pilot.@@N@@.Jvm.D
abbrev vI (x : Int32) : Value := .int x
abbrev vJ (x : Int64) : Value := .long x
abbrev vD (x : UInt64) : Value := .double x
abbrev vF (x : UInt32) : Value := .float x
abbrev vR (x : Addr) : Value := .ref x
abbrev si (x : Int32) : Slot := .val (.int x)
abbrev sj (x : Int64) : Slot := .val (.long x)
abbrev sd (x : UInt64) : Slot := .val (.double x)
abbrev sf (x : UInt32) : Slot := .val (.float x)
abbrev sr (x : Addr) : Slot := .val (.ref x)
abbrev rm (a b c d : Nat) : Room := { frames := a, cells := b, slots := c, locals := d }
abbrev Met (l : Launch) (y : MethodName) (bn : ByteArray) (ml : Nat) (rt : Option FieldType) (ws : List Jvm.Cond) (R : Room) (A : Array Value) (Z : State) (h0 : Heap) (Q : Option Value → Heap → List Loc → Prop) : Prop := MetFree l y (head1 (Jvm.Cond.code y bn ml rt :: ws) R) (fun a U => a = A ∧ Z.Warmed39 U.vm ∧ U.heap = h0) (fun _ _ _ _ _ => True) (fun _ U o U' => ∃ v L, o = .returned v ∧ Q v U'.heap L ∧ FrameEnd U o U' L R.cells R.slots)
abbrev un : Slot := .unset
abbrev se : Slot := .second
abbrev Sp (p : Program) (e : Env) (b : List Frame) (T : State) (g : JFrame) (t : State) : Prop := Steps p.tables e b (T.setTop g) t
abbrev Rt (p : Program) (e : Env) (b : List Frame) (T : State) (g : JFrame) (s : State) (m : MethodId) (A : Array Value) (n : Nat) : Prop := ∀ t, Steps p.tables e b (T.setTop g) t → Steps p.tables e b (s.setTop (entryFrame m A n)) t
theorem gFs {p : Program} {l : Launch} {e : Env} {R : Room} {s : State} {m : MethodId} {args : Array Value} {below : List Frame} {meth : Method} {c : Code} {T : State} {locs : List Loc} {cells slots : Nat} {Z : State} {a0 : Array Value} {h : Heap} (X : Stand p l e R s m args below meth c T locs cells slots) (hx : p.tables.exec = Jvm.exec) (hZ : Z.Warmed39 s.vm) {own O n d : String} {index : Nat} (hown : s.vm.findClass own = some m.cls) (w : (Cond.fieldLink own index O n d).before a0 Z = true) (eT : T.heap = h) {a : Addr} {v : Value} (F : Fld Z h a O n d v) {pc : Nat} {Ls : Array Slot} {rest : List Value} {s1 : State} {A : Array Value} {N : Nat} (k : Rt p e below T (mkF m pc Ls (.ref a :: rest)) s1 m A N) (hd : decode c.code pc = .ok (.getfield index, 3)) : ∃ T', Stand p l e R s m args below meth c T' locs cells slots ∧ T'.heap = h ∧ Rt p e below T' (mkF m (pc + 3) Ls (v :: rest)) s1 m A N := by
  obtain ⟨T', X', e', st⟩ := getF X hx hZ hown (host := "") (Or.inl w) Via.refl eT F (g := mkF m pc Ls (.ref a :: rest)) rfl rfl hd
  exact ⟨T', X', e', fun t q => k t (st t q)⟩
section
variable {p : Program} {l : Launch} {e : Env} {R : Room} {s : State} {m : MethodId} {args : Array Value} {below : List Frame} {meth : Method} {c : Code} {T : State} {locs : List Loc} {cells slots : Nat} {s1 : State} {A : Array Value} {N pc : Nat} {Ls : Array Slot} {st : List Value}
theorem lt_b {a b : Nat} (h : Nat.blt a b = true) : a < b := Nat.le_of_ble_eq_true h
theorem f_ilN {n : Fin 4} {v : Int32} (X : Stand p l e R s m args below meth c T locs cells slots) (hx : p.tables.exec = Jvm.exec) (k : Rt p e below T (mkF m pc Ls st) s1 m A N) (hd : decode c.code pc = .ok (.iload_n n, 1)) (hl : Ls[n.val]? = some (.val (.int v))) : Rt p e below T (mkF m (pc + 1) Ls (.int v :: st)) s1 m A N := fun t q => k t (XS.iloadN X.here hx rfl hd hl q)
theorem f_alN {n : Fin 4} {a : Addr} (X : Stand p l e R s m args below meth c T locs cells slots) (hx : p.tables.exec = Jvm.exec) (k : Rt p e below T (mkF m pc Ls st) s1 m A N) (hd : decode c.code pc = .ok (.aload_n n, 1)) (hl : Ls[n.val]? = some (.val (.ref a))) : Rt p e below T (mkF m (pc + 1) Ls (.ref a :: st)) s1 m A N := fun t q => k t (XS.aloadN X.here hx rfl hd hl rfl q)
theorem f_dlN {n : Fin 4} {v : UInt64} (X : Stand p l e R s m args below meth c T locs cells slots) (hx : p.tables.exec = Jvm.exec) (k : Rt p e below T (mkF m pc Ls st) s1 m A N) (hd : decode c.code pc = .ok (.dload_n n, 1)) (hl : Ls[n.val]? = some (.val (.double v))) : Rt p e below T (mkF m (pc + 1) Ls (.double v :: st)) s1 m A N := fun t q => k t (XS.dloadN X.here hx rfl hd hl q)
theorem f_isN {n : Fin 4} {v : Int32} {l' : Array Slot} (X : Stand p l e R s m args below meth c T locs cells slots) (hx : p.tables.exec = Jvm.exec) (k : Rt p e below T (mkF m pc Ls (.int v :: st)) s1 m A N) (hd : decode c.code pc = .ok (.istore_n n, 1)) (hl : storeLocals Ls n.val (.int v) = some l') : Rt p e below T (mkF m (pc + 1) l' st) s1 m A N := fun t q => k t (XS.istoreN X.here hx rfl hd rfl hl q)
theorem f_dsN {n : Fin 4} {v : UInt64} {l' : Array Slot} (X : Stand p l e R s m args below meth c T locs cells slots) (hx : p.tables.exec = Jvm.exec) (k : Rt p e below T (mkF m pc Ls (.double v :: st)) s1 m A N) (hd : decode c.code pc = .ok (.dstore_n n, 1)) (hl : storeLocals Ls n.val (.double v) = some l') : Rt p e below T (mkF m (pc + 1) l' st) s1 m A N := fun t q => k t (XS.dstoreN X.here hx rfl hd rfl hl q)
theorem f_asN {n : Fin 4} {a : Addr} {l' : Array Slot} (X : Stand p l e R s m args below meth c T locs cells slots) (hx : p.tables.exec = Jvm.exec) (k : Rt p e below T (mkF m pc Ls (.ref a :: st)) s1 m A N) (hd : decode c.code pc = .ok (.astore_n n, 1)) (hl : storeLocals Ls n.val (.ref a) = some l') : Rt p e below T (mkF m (pc + 1) l' st) s1 m A N := fun t q => k t (XS.astoreN X.here hx rfl hd rfl rfl hl q)
theorem f_il {n : Nat} {v : Int32} (X : Stand p l e R s m args below meth c T locs cells slots) (hx : p.tables.exec = Jvm.exec) (k : Rt p e below T (mkF m pc Ls st) s1 m A N) (hd : decode c.code pc = .ok (.iload n, 2)) (hl : Ls[n]? = some (.val (.int v))) : Rt p e below T (mkF m (pc + 2) Ls (.int v :: st)) s1 m A N := fun t q => k t (XS.iload X.here hx rfl hd hl q)
theorem f_al {n : Nat} {a : Addr} (X : Stand p l e R s m args below meth c T locs cells slots) (hx : p.tables.exec = Jvm.exec) (k : Rt p e below T (mkF m pc Ls st) s1 m A N) (hd : decode c.code pc = .ok (.aload n, 2)) (hl : Ls[n]? = some (.val (.ref a))) : Rt p e below T (mkF m (pc + 2) Ls (.ref a :: st)) s1 m A N := fun t q => k t (XS.aload X.here hx rfl hd hl rfl q)
theorem f_dl {n : Nat} {v : UInt64} (X : Stand p l e R s m args below meth c T locs cells slots) (hx : p.tables.exec = Jvm.exec) (k : Rt p e below T (mkF m pc Ls st) s1 m A N) (hd : decode c.code pc = .ok (.dload n, 2)) (hl : Ls[n]? = some (.val (.double v))) : Rt p e below T (mkF m (pc + 2) Ls (.double v :: st)) s1 m A N := fun t q => k t (XS.dload X.here hx rfl hd hl q)
theorem f_is {n : Nat} {v : Int32} {l' : Array Slot} (X : Stand p l e R s m args below meth c T locs cells slots) (hx : p.tables.exec = Jvm.exec) (k : Rt p e below T (mkF m pc Ls (.int v :: st)) s1 m A N) (hd : decode c.code pc = .ok (.istore n, 2)) (hl : storeLocals Ls n (.int v) = some l') : Rt p e below T (mkF m (pc + 2) l' st) s1 m A N := fun t q => k t (XS.istore X.here hx rfl hd rfl hl q)
theorem f_ds {n : Nat} {v : UInt64} {l' : Array Slot} (X : Stand p l e R s m args below meth c T locs cells slots) (hx : p.tables.exec = Jvm.exec) (k : Rt p e below T (mkF m pc Ls (.double v :: st)) s1 m A N) (hd : decode c.code pc = .ok (.dstore n, 2)) (hl : storeLocals Ls n (.double v) = some l') : Rt p e below T (mkF m (pc + 2) l' st) s1 m A N := fun t q => k t (XS.dstore X.here hx rfl hd rfl hl q)
theorem f_as {n : Nat} {a : Addr} {l' : Array Slot} (X : Stand p l e R s m args below meth c T locs cells slots) (hx : p.tables.exec = Jvm.exec) (k : Rt p e below T (mkF m pc Ls (.ref a :: st)) s1 m A N) (hd : decode c.code pc = .ok (.astore n, 2)) (hl : storeLocals Ls n (.ref a) = some l') : Rt p e below T (mkF m (pc + 2) l' st) s1 m A N := fun t q => k t (XS.astore X.here hx rfl hd rfl rfl hl q)
theorem f_ic {i : Int} {v : Int32} (X : Stand p l e R s m args below meth c T locs cells slots) (hx : p.tables.exec = Jvm.exec) (k : Rt p e below T (mkF m pc Ls st) s1 m A N) (hd : decode c.code pc = .ok (.iconst i, 1)) (hv : Int32.ofInt i = v) : Rt p e below T (mkF m (pc + 1) Ls (.int v :: st)) s1 m A N := by subst hv; exact fun t q => k t (XS.iconst X.here hx rfl hd q)
theorem f_bp {i : Int} {v : Int32} (X : Stand p l e R s m args below meth c T locs cells slots) (hx : p.tables.exec = Jvm.exec) (k : Rt p e below T (mkF m pc Ls st) s1 m A N) (hd : decode c.code pc = .ok (.bipush i, 2)) (hv : (Int8.ofInt i).toInt32 = v) : Rt p e below T (mkF m (pc + 2) Ls (.int v :: st)) s1 m A N := by subst hv; exact fun t q => k t (XS.bipush X.here hx rfl hd q)
theorem f_sp {i : Int} {v : Int32} (X : Stand p l e R s m args below meth c T locs cells slots) (hx : p.tables.exec = Jvm.exec) (k : Rt p e below T (mkF m pc Ls st) s1 m A N) (hd : decode c.code pc = .ok (.sipush i, 3)) (hv : (Int16.ofInt i).toInt32 = v) : Rt p e below T (mkF m (pc + 3) Ls (.int v :: st)) s1 m A N := by subst hv; exact fun t q => k t (XS.sipush X.here hx rfl hd q)
theorem f_d0 (X : Stand p l e R s m args below meth c T locs cells slots) (hx : p.tables.exec = Jvm.exec) (k : Rt p e below T (mkF m pc Ls st) s1 m A N) (hd : decode c.code pc = .ok (.dconst 0, 1)) : Rt p e below T (mkF m (pc + 1) Ls (.double (0 : UInt64) :: st)) s1 m A N := fun t q => k t (XS.dconst0 X.here hx rfl hd (v := (0 : UInt64)) rfl q)
theorem f_d1 (X : Stand p l e R s m args below meth c T locs cells slots) (hx : p.tables.exec = Jvm.exec) (k : Rt p e below T (mkF m pc Ls st) s1 m A N) (hd : decode c.code pc = .ok (.dconst 1, 1)) : Rt p e below T (mkF m (pc + 1) Ls (.double (4607182418800017408 : UInt64) :: st)) s1 m A N := fun t q => k t (XS.dconst1 X.here hx rfl hd (v := (4607182418800017408 : UInt64)) rfl q)
theorem f_iadd {u v r : Int32} (X : Stand p l e R s m args below meth c T locs cells slots) (hx : p.tables.exec = Jvm.exec) (k : Rt p e below T (mkF m pc Ls (.int v :: .int u :: st)) s1 m A N) (hd : decode c.code pc = .ok (.iadd, 1)) (hr : u + v = r) : Rt p e below T (mkF m (pc + 1) Ls (.int r :: st)) s1 m A N := by subst hr; exact fun t q => k t (XS.iadd X.here hx rfl hd rfl q)
theorem f_isub {u v r : Int32} (X : Stand p l e R s m args below meth c T locs cells slots) (hx : p.tables.exec = Jvm.exec) (k : Rt p e below T (mkF m pc Ls (.int v :: .int u :: st)) s1 m A N) (hd : decode c.code pc = .ok (.isub, 1)) (hr : u - v = r) : Rt p e below T (mkF m (pc + 1) Ls (.int r :: st)) s1 m A N := by subst hr; exact fun t q => k t (XS.isub X.here hx rfl hd rfl q)
theorem f_imul {u v r : Int32} (X : Stand p l e R s m args below meth c T locs cells slots) (hx : p.tables.exec = Jvm.exec) (k : Rt p e below T (mkF m pc Ls (.int v :: .int u :: st)) s1 m A N) (hd : decode c.code pc = .ok (.imul, 1)) (hr : u * v = r) : Rt p e below T (mkF m (pc + 1) Ls (.int r :: st)) s1 m A N := by subst hr; exact fun t q => k t (XS.imul X.here hx rfl hd rfl q)
theorem f_iand {u v r : Int32} (X : Stand p l e R s m args below meth c T locs cells slots) (hx : p.tables.exec = Jvm.exec) (k : Rt p e below T (mkF m pc Ls (.int v :: .int u :: st)) s1 m A N) (hd : decode c.code pc = .ok (.iand, 1)) (hr : u &&& v = r) : Rt p e below T (mkF m (pc + 1) Ls (.int r :: st)) s1 m A N := by subst hr; exact fun t q => k t (XS.iand X.here hx rfl hd rfl q)
theorem f_ior {u v r : Int32} (X : Stand p l e R s m args below meth c T locs cells slots) (hx : p.tables.exec = Jvm.exec) (k : Rt p e below T (mkF m pc Ls (.int v :: .int u :: st)) s1 m A N) (hd : decode c.code pc = .ok (.ior, 1)) (hr : u ||| v = r) : Rt p e below T (mkF m (pc + 1) Ls (.int r :: st)) s1 m A N := by subst hr; exact fun t q => k t (XS.ior X.here hx rfl hd rfl q)
theorem f_iushr {u v r : Int32} (X : Stand p l e R s m args below meth c T locs cells slots) (hx : p.tables.exec = Jvm.exec) (k : Rt p e below T (mkF m pc Ls (.int v :: .int u :: st)) s1 m A N) (hd : decode c.code pc = .ok (.iushr, 1)) (hr : ((u.toUInt32 >>> (v &&& 31).toUInt32).toInt32) = r) : Rt p e below T (mkF m (pc + 1) Ls (.int r :: st)) s1 m A N := by subst hr; exact fun t q => k t (XS.iushr X.here hx rfl hd rfl q)
theorem f_nlN {n : Fin 4} (X : Stand p l e R s m args below meth c T locs cells slots) (hx : p.tables.exec = Jvm.exec) (k : Rt p e below T (mkF m pc Ls st) s1 m A N) (hd : decode c.code pc = .ok (.aload_n n, 1)) (hl : Ls[n.val]? = some (.val .null)) : Rt p e below T (mkF m (pc + 1) Ls (.null :: st)) s1 m A N := fun t q => k t (XS.aloadN X.here hx rfl hd hl rfl q)
theorem f_nsN {n : Fin 4} {l' : Array Slot} (X : Stand p l e R s m args below meth c T locs cells slots) (hx : p.tables.exec = Jvm.exec) (k : Rt p e below T (mkF m pc Ls (.null :: st)) s1 m A N) (hd : decode c.code pc = .ok (.astore_n n, 1)) (hl : storeLocals Ls n.val .null = some l') : Rt p e below T (mkF m (pc + 1) l' st) s1 m A N := fun t q => k t (XS.astoreN X.here hx rfl hd rfl rfl hl q)
theorem f_nl {n : Nat} (X : Stand p l e R s m args below meth c T locs cells slots) (hx : p.tables.exec = Jvm.exec) (k : Rt p e below T (mkF m pc Ls st) s1 m A N) (hd : decode c.code pc = .ok (.aload n, 2)) (hl : Ls[n]? = some (.val .null)) : Rt p e below T (mkF m (pc + 2) Ls (.null :: st)) s1 m A N := fun t q => k t (XS.aload X.here hx rfl hd hl rfl q)
theorem f_ns {n : Nat} {l' : Array Slot} (X : Stand p l e R s m args below meth c T locs cells slots) (hx : p.tables.exec = Jvm.exec) (k : Rt p e below T (mkF m pc Ls (.null :: st)) s1 m A N) (hd : decode c.code pc = .ok (.astore n, 2)) (hl : storeLocals Ls n .null = some l') : Rt p e below T (mkF m (pc + 2) l' st) s1 m A N := fun t q => k t (XS.astore X.here hx rfl hd rfl rfl hl q)
theorem f_an (X : Stand p l e R s m args below meth c T locs cells slots) (hx : p.tables.exec = Jvm.exec) (k : Rt p e below T (mkF m pc Ls st) s1 m A N) (hd : decode c.code pc = .ok (.aconst_null, 1)) : Rt p e below T (mkF m (pc + 1) Ls (.null :: st)) s1 m A N := fun t q => k t (XS.aconstNull X.here hx rfl hd q)
theorem f_pop {u : Value} (X : Stand p l e R s m args below meth c T locs cells slots) (hx : p.tables.exec = Jvm.exec) (k : Rt p e below T (mkF m pc Ls (u :: st)) s1 m A N) (hd : decode c.code pc = .ok (.pop, 1)) (hc : u.category = 1) : Rt p e below T (mkF m (pc + 1) Ls st) s1 m A N := fun t q => k t (XS.pop X.here hx rfl hd rfl hc q)
theorem f_inc {n : Nat} {i : Int} {v : Int32} {l' : Array Slot} (X : Stand p l e R s m args below meth c T locs cells slots) (hx : p.tables.exec = Jvm.exec) (k : Rt p e below T (mkF m pc Ls st) s1 m A N) (hd : decode c.code pc = .ok (.iinc n i, 3)) (hl : Ls[n]? = some (.val (.int v))) (hl' : storeLocals Ls n (.int (v + Int32.ofInt i)) = some l') : Rt p e below T (mkF m (pc + 3) l' st) s1 m A N := fun t q => k t (XS.iinc X.here hx rfl hd hl hl' q)
theorem f_dup {u : Value} (X : Stand p l e R s m args below meth c T locs cells slots) (hx : p.tables.exec = Jvm.exec) (k : Rt p e below T (mkF m pc Ls (u :: st)) s1 m A N) (hd : decode c.code pc = .ok (.dup, 1)) (hc : u.category = 1) : Rt p e below T (mkF m (pc + 1) Ls (u :: u :: st)) s1 m A N := fun t q => k t (XS.dup X.here hx rfl hd rfl hc q)
theorem f_dupX1 {u v : Value} (X : Stand p l e R s m args below meth c T locs cells slots) (hx : p.tables.exec = Jvm.exec) (k : Rt p e below T (mkF m pc Ls (u :: v :: st)) s1 m A N) (hd : decode c.code pc = .ok (.dup_x1, 1)) (hc : u.category = 1) (hc' : v.category = 1) : Rt p e below T (mkF m (pc + 1) Ls (u :: v :: u :: st)) s1 m A N := fun t q => k t (XS.dupX1 X.here hx rfl hd rfl hc hc' q)
theorem f_dup2 {u v : Value} (X : Stand p l e R s m args below meth c T locs cells slots) (hx : p.tables.exec = Jvm.exec) (k : Rt p e below T (mkF m pc Ls (u :: v :: st)) s1 m A N) (hd : decode c.code pc = .ok (.dup2, 1)) (hc : u.category = 1) (hc' : v.category = 1) : Rt p e below T (mkF m (pc + 1) Ls (u :: v :: u :: v :: st)) s1 m A N := fun t q => k t (XT.dup2 X.here hx rfl hd rfl hc hc' q)
theorem f_go {i : Int} {pc' : Nat} (X : Stand p l e R s m args below meth c T locs cells slots) (hx : p.tables.exec = Jvm.exec) (k : Rt p e below T (mkF m pc Ls st) s1 m A N) (hd : decode c.code pc = .ok (.goto i, 3)) (hp : 0 ≤ (pc : Int) + i ∧ ((pc : Int) + i).toNat = pc') : Rt p e below T (mkF m pc' Ls st) s1 m A N := fun t q => k t (XS.goto X.here hx rfl (pc0 := pc) rfl hd hp.1 hp.2 q)
theorem f_ifY {i : Int} {pc' : Nat} {cd : ClassFile.Cond} {u : Int32} (X : Stand p l e R s m args below meth c T locs cells slots) (hx : p.tables.exec = Jvm.exec) (k : Rt p e below T (mkF m pc Ls (.int u :: st)) s1 m A N) (hd : decode c.code pc = .ok (.ifCond cd i, 3)) (hc : ifCond.holds cd u = true) (hp : 0 ≤ (pc : Int) + i ∧ ((pc : Int) + i).toNat = pc') : Rt p e below T (mkF m pc' Ls st) s1 m A N := fun t q => k t (XS.ifYes X.here hx rfl (pc0 := pc) rfl hd rfl hc hp.1 hp.2 q)
theorem f_ifN {i : Int} {cd : ClassFile.Cond} {u : Int32} (X : Stand p l e R s m args below meth c T locs cells slots) (hx : p.tables.exec = Jvm.exec) (k : Rt p e below T (mkF m pc Ls (.int u :: st)) s1 m A N) (hd : decode c.code pc = .ok (.ifCond cd i, 3)) (hc : ifCond.holds cd u = false) : Rt p e below T (mkF m (pc + 3) Ls st) s1 m A N := fun t q => k t (XS.ifNo X.here hx rfl hd rfl hc q)
theorem f_icY {i : Int} {pc' : Nat} {cd : ClassFile.Cond} {u v : Int32} (X : Stand p l e R s m args below meth c T locs cells slots) (hx : p.tables.exec = Jvm.exec) (k : Rt p e below T (mkF m pc Ls (.int v :: .int u :: st)) s1 m A N) (hd : decode c.code pc = .ok (.if_icmp cd i, 3)) (hc : if_icmp.holds cd u v = true) (hp : 0 ≤ (pc : Int) + i ∧ ((pc : Int) + i).toNat = pc') : Rt p e below T (mkF m pc' Ls st) s1 m A N := fun t q => k t (XS.icmpYes X.here hx rfl (pc0 := pc) rfl hd rfl hc hp.1 hp.2 q)
theorem f_icN {i : Int} {cd : ClassFile.Cond} {u v : Int32} (X : Stand p l e R s m args below meth c T locs cells slots) (hx : p.tables.exec = Jvm.exec) (k : Rt p e below T (mkF m pc Ls (.int v :: .int u :: st)) s1 m A N) (hd : decode c.code pc = .ok (.if_icmp cd i, 3)) (hc : if_icmp.holds cd u v = false) : Rt p e below T (mkF m (pc + 3) Ls st) s1 m A N := fun t q => k t (XS.icmpNo X.here hx rfl hd rfl hc q)
theorem f_inY {i : Int} {pc' : Nat} (X : Stand p l e R s m args below meth c T locs cells slots) (hx : p.tables.exec = Jvm.exec) (k : Rt p e below T (mkF m pc Ls (.null :: st)) s1 m A N) (hd : decode c.code pc = .ok (.ifnull i, 3)) (hp : 0 ≤ (pc : Int) + i ∧ ((pc : Int) + i).toNat = pc') : Rt p e below T (mkF m pc' Ls st) s1 m A N := fun t q => k t (XS.ifnullYes X.here hx rfl (pc0 := pc) rfl hd rfl hp.1 hp.2 q)
theorem f_inN {i : Int} {a : Addr} (X : Stand p l e R s m args below meth c T locs cells slots) (hx : p.tables.exec = Jvm.exec) (k : Rt p e below T (mkF m pc Ls (.ref a :: st)) s1 m A N) (hd : decode c.code pc = .ok (.ifnull i, 3)) : Rt p e below T (mkF m (pc + 3) Ls st) s1 m A N := fun t q => k t (XS.ifnullNo X.here hx rfl hd rfl q)
theorem f_nnY {i : Int} {pc' : Nat} {a : Addr} (X : Stand p l e R s m args below meth c T locs cells slots) (hx : p.tables.exec = Jvm.exec) (k : Rt p e below T (mkF m pc Ls (.ref a :: st)) s1 m A N) (hd : decode c.code pc = .ok (.ifnonnull i, 3)) (hp : 0 ≤ (pc : Int) + i ∧ ((pc : Int) + i).toNat = pc') : Rt p e below T (mkF m pc' Ls st) s1 m A N := fun t q => k t (XS.ifnonnullYes X.here hx rfl (pc0 := pc) rfl hd rfl hp.1 hp.2 q)
theorem f_nnN {i : Int} (X : Stand p l e R s m args below meth c T locs cells slots) (hx : p.tables.exec = Jvm.exec) (k : Rt p e below T (mkF m pc Ls (.null :: st)) s1 m A N) (hd : decode c.code pc = .ok (.ifnonnull i, 3)) : Rt p e below T (mkF m (pc + 3) Ls st) s1 m A N := fun t q => k t (XS.ifnonnullNo X.here hx rfl hd rfl q)
theorem f_lsw {u : Int32} {df x y : Int} {ps : Array (Int × Int)} {ln pc' : Nat} (X : Stand p l e R s m args below meth c T locs cells slots) (hx : p.tables.exec = Jvm.exec) (k : Rt p e below T (mkF m pc Ls (.int u :: st)) s1 m A N) (hd : decode c.code pc = .ok (.lookupswitch df ps, ln)) (hs : (ps.toList.zip (ps.toList.drop 1)).all (fun (a, next) => a.1 < next.1) = true) (hf : ps.find? (·.1 == u.toInt) = some (x, y)) (hp : 0 ≤ (pc : Int) + y ∧ ((pc : Int) + y).toNat = pc') : Rt p e below T (mkF m pc' Ls st) s1 m A N := by obtain ⟨hp1, rfl⟩ := hp; exact fun t q => k t (X.lookupswitchHit hx (g := mkF m pc Ls (.int u :: st)) rfl rfl hd hs hf hp1 t q)
theorem f_dc {i : CmpOp} {u v : UInt64} (X : Stand p l e R s m args below meth c T locs cells slots) (hx : p.tables.exec = Jvm.exec) (k : Rt p e below T (mkF m pc Ls (.double v :: .double u :: st)) s1 m A N) (hd : decode c.code pc = .ok (.dcmp i, 1)) : Rt p e below T (mkF m (pc + 1) Ls (.int (cmpValue (FP.dcmp u v) i) :: st)) s1 m A N := fun t q => k t (XS.dcmpS X.here hx rfl hd rfl rfl q)
theorem f_dadd {u v : UInt64} (X : Stand p l e R s m args below meth c T locs cells slots) (hx : p.tables.exec = Jvm.exec) (k : Rt p e below T (mkF m pc Ls (.double v :: .double u :: st)) s1 m A N) (hd : decode c.code pc = .ok (.dadd, 1)) (hn : Jvm.Free.Fl.NoNaN64 (FP.dadd u v)) : Rt p e below T (mkF m (pc + 1) Ls (.double (FP.dadd u v) :: st)) s1 m A N := fun t q => k t (XS.daddS X.here hx rfl hd rfl hn rfl q)
theorem f_dsub {u v : UInt64} (X : Stand p l e R s m args below meth c T locs cells slots) (hx : p.tables.exec = Jvm.exec) (k : Rt p e below T (mkF m pc Ls (.double v :: .double u :: st)) s1 m A N) (hd : decode c.code pc = .ok (.dsub, 1)) (hn : Jvm.Free.Fl.NoNaN64 (FP.dsub u v)) : Rt p e below T (mkF m (pc + 1) Ls (.double (FP.dsub u v) :: st)) s1 m A N := fun t q => k t (XS.dsubS X.here hx rfl hd rfl hn rfl q)
theorem f_dmul {u v : UInt64} (X : Stand p l e R s m args below meth c T locs cells slots) (hx : p.tables.exec = Jvm.exec) (k : Rt p e below T (mkF m pc Ls (.double v :: .double u :: st)) s1 m A N) (hd : decode c.code pc = .ok (.dmul, 1)) (hn : Jvm.Free.Fl.NoNaN64 (FP.dmul u v)) : Rt p e below T (mkF m (pc + 1) Ls (.double (FP.dmul u v) :: st)) s1 m A N := fun t q => k t (XS.dmulS X.here hx rfl hd rfl hn rfl q)
theorem f_ddiv {u v : UInt64} (X : Stand p l e R s m args below meth c T locs cells slots) (hx : p.tables.exec = Jvm.exec) (k : Rt p e below T (mkF m pc Ls (.double v :: .double u :: st)) s1 m A N) (hd : decode c.code pc = .ok (.ddiv, 1)) (hn : Jvm.Free.Fl.NoNaN64 (FP.ddiv u v)) : Rt p e below T (mkF m (pc + 1) Ls (.double (FP.ddiv u v) :: st)) s1 m A N := fun t q => k t (XS.ddivS X.here hx rfl hd rfl hn rfl q)
theorem f_i2d {u : Int32} (X : Stand p l e R s m args below meth c T locs cells slots) (hx : p.tables.exec = Jvm.exec) (k : Rt p e below T (mkF m pc Ls (.int u :: st)) s1 m A N) (hd : decode c.code pc = .ok (.i2d, 1)) : Rt p e below T (mkF m (pc + 1) Ls (.double (FP.i2d u) :: st)) s1 m A N := fun t q => k t (XS.i2dS X.here hx rfl hd rfl rfl q)
theorem f_len {Z : State} {h : Heap} {a : Addr} {kk : ClassId} {ty : FieldType} {n : Int32} {vs : List Value} {dv : Value} (X : Stand p l e R s m args below meth c T locs cells slots) (hx : p.tables.exec = Jvm.exec) (hZ : Z.Warmed39 s.vm) (eT : T.heap = h) (V : Arv Z h a kk ty n vs dv) (k : Rt p e below T (mkF m pc Ls (.ref a :: st)) s1 m A N) (hd : decode c.code pc = .ok (.arraylength, 1)) : Rt p e below T (mkF m (pc + 1) Ls (.int n :: st)) s1 m A N := by
  obtain ⟨cc, Ar, -, As, An, -, -⟩ := V
  exact fun t w => k t (X.arraylength hx (by rw [eT]; exact Ar.1) (State.isArrayOf_alike hZ.alike Ar.2.1) (g := mkF m pc Ls (.ref a :: st)) rfl rfl hd _ (by rw [len_of As An]; exact w))
theorem f_dal {Z : State} {h : Heap} {a : Addr} {kk : ClassId} {n j : Int32} {vs : List Value} {dv : Value} {v : UInt64} (X : Stand p l e R s m args below meth c T locs cells slots) (hx : p.tables.exec = Jvm.exec) (hZ : Z.Warmed39 s.vm) (eT : T.heap = h) (V : Arv Z h a kk .double n vs dv) (k : Rt p e below T (mkF m pc Ls (.int j :: .ref a :: st)) s1 m A N) (hd : decode c.code pc = .ok (.daload, 1)) (q : ¬ j < 0 ∧ j < n) (u : vs.getD j.toNatClampNeg dv = .double v) : Rt p e below T (mkF m (pc + 1) Ls (.double v :: st)) s1 m A N := by
  obtain ⟨cc, Ar, -, As, -, Ah, -⟩ := V
  exact fun t w => k t (X.daload hx (by rw [eT]; exact Ar.1) (State.isArrayOf_alike hZ.alike Ar.2.1) Ar.2.2 (inb_of As q) (Has.at Ah (inb_of As q) u) (g := mkF m pc Ls (.int j :: .ref a :: st)) rfl rfl hd _ w)
theorem f_ial {Z : State} {h : Heap} {a : Addr} {kk : ClassId} {n j : Int32} {vs : List Value} {dv : Value} {v : Int32} (X : Stand p l e R s m args below meth c T locs cells slots) (hx : p.tables.exec = Jvm.exec) (hZ : Z.Warmed39 s.vm) (eT : T.heap = h) (V : Arv Z h a kk .int n vs dv) (k : Rt p e below T (mkF m pc Ls (.int j :: .ref a :: st)) s1 m A N) (hd : decode c.code pc = .ok (.iaload, 1)) (q : ¬ j < 0 ∧ j < n) (u : vs.getD j.toNatClampNeg dv = .int v) : Rt p e below T (mkF m (pc + 1) Ls (.int v :: st)) s1 m A N := by
  obtain ⟨cc, Ar, -, As, -, Ah, -⟩ := V
  exact fun t w => k t (X.iaload hx (by rw [eT]; exact Ar.1) (State.isArrayOf_alike hZ.alike Ar.2.1) Ar.2.2 (inb_of As q) (Has.at Ah (inb_of As q) u) (g := mkF m pc Ls (.int j :: .ref a :: st)) rfl rfl hd _ w)
theorem f_bal {Z : State} {h : Heap} {a : Addr} {kk : ClassId} {n j : Int32} {vs : List Value} {dv : Value} {v : Int32} (X : Stand p l e R s m args below meth c T locs cells slots) (hx : p.tables.exec = Jvm.exec) (hZ : Z.Warmed39 s.vm) (eT : T.heap = h) (V : Arv Z h a kk .boolean n vs dv) (k : Rt p e below T (mkF m pc Ls (.int j :: .ref a :: st)) s1 m A N) (hd : decode c.code pc = .ok (.baload, 1)) (q : ¬ j < 0 ∧ j < n) (u : vs.getD j.toNatClampNeg dv = .int v) : Rt p e below T (mkF m (pc + 1) Ls (.int v :: st)) s1 m A N := by
  obtain ⟨cc, Ar, -, As, -, Ah, -⟩ := V
  exact fun t w => k t (X.baloadBooleans hx (by rw [eT]; exact Ar.1) (State.isArrayOf_alike hZ.alike Ar.2.1) Ar.2.2 (inb_of As q) (Has.at Ah (inb_of As q) u) (g := mkF m pc Ls (.int j :: .ref a :: st)) rfl rfl hd _ w)
theorem f_aal {Z : State} {h : Heap} {a : Addr} {kk : ClassId} {ty : FieldType} {n j : Int32} {vs : List Value} {dv v : Value} (X : Stand p l e R s m args below meth c T locs cells slots) (hx : p.tables.exec = Jvm.exec) (hZ : Z.Warmed39 s.vm) (eT : T.heap = h) (V : Arv Z h a kk ty n vs dv) (k : Rt p e below T (mkF m pc Ls (.int j :: .ref a :: st)) s1 m A N) (hd : decode c.code pc = .ok (.aaload, 1)) (ht : ty.isReference = true) (q : ¬ j < 0 ∧ j < n) (u : vs.getD j.toNatClampNeg dv = v) : Rt p e below T (mkF m (pc + 1) Ls (v :: st)) s1 m A N := by
  obtain ⟨cc, Ar, -, As, -, Ah, -⟩ := V
  exact fun t w => k t (X.aaload hx (by rw [eT]; exact Ar.1) (State.isArrayOf_alike hZ.alike Ar.2.1) ht Ar.2.2 (inb_of As q) (Has.at Ah (inb_of As q) u) (g := mkF m pc Ls (.int j :: .ref a :: st)) rfl rfl hd _ w)
theorem f_ast {Z : State} {h : Heap} {a : Addr} {kk : ClassId} {ty : FieldType} {n j : Int32} {vs : List Value} {dv v : Value} {n0 : Nat} (X : Stand p l e R s m args below meth c T locs cells slots) (hx : p.tables.exec = Jvm.exec) (hZ : Z.Warmed39 s.vm) (eT : T.heap = h) (V : Arv Z h a kk ty n vs dv) (NF : Fr n0 locs) (ga : n0 ≤ a) (zs : n0 ≤ h.size) (k : Rt p e below T (mkF m pc Ls (v :: .int j :: .ref a :: st)) s1 m A N) (hd : decode c.code pc = .ok (.aastore, 1)) (ht : ty.isReference = true) (hf : fits ty v = true) (F : ∀ cc, Arr Z h a cc ty → cc.cls = kk → Sto Z h a v) (q : ¬ j < 0 ∧ j < n) (i : Nat) (hj : j.toNatClampNeg = i) (hi : i < vs.length) : ∃ T' h' L', Stand p l e R s m args below meth c T' L' cells slots ∧ T'.heap = h' ∧ Wr h h' a j.toNatClampNeg v ∧ Arv Z h' a kk ty n (vs.set i v) dv ∧ Fr n0 L' ∧ n0 ≤ h'.size ∧ Rt p e below T' (mkF m (pc + 1) Ls st) s1 m A N := by
  obtain ⟨cc, Ar, Aq, As, An, Ah, Ag⟩ := id V
  obtain ⟨T', h', X', e', W, sx⟩ := stR X hx hZ eT Ar (j := j) (inb_of As q) ht (F cc Ar Aq) (g := mkF m pc Ls (v :: .int j :: .ref a :: st)) rfl rfl hd
  exact ⟨T', h', _, X', e', W, Arv.set Ar Aq As An Ah Ag hf W i hj hi, Fr.snoc X' NF ga, Nat.le_trans zs (Nat.le_of_eq W.size.symm), fun t w => k t (sx t w)⟩
theorem f_cln {Z : State} {a0 : Array Value} {h : Heap} {a : Addr} {kk : ClassId} {ty : FieldType} {n : Int32} {vs : List Value} {dv : Value} {own ad : String} {index : Nat} (X : Stand p l e R s m args below meth c T locs cells slots) (hx : p.tables.exec = Jvm.exec) (hZ : Z.Warmed39 s.vm) (hown : s.vm.findClass own = some m.cls)
  (w1 : (Cond.methodLink own index ⟨ad, "clone", "()Ljava/lang/Object;"⟩).before a0 Z = true) (w2 : (Cond.sameMethod ad "java/lang/Object" "clone" "()Ljava/lang/Object;").before a0 Z = true) (w3 : (Cond.native ⟨"java/lang/Object", "clone", "()Ljava/lang/Object;"⟩).before a0 Z = true)
  (w4 : (Cond.instanceMethod ⟨"java/lang/Object", "clone", "()Ljava/lang/Object;"⟩).before a0 Z = true) (w5 : (Cond.selects ad ⟨ad, "clone", "()Ljava/lang/Object;"⟩ ⟨"java/lang/Object", "clone", "()Ljava/lang/Object;"⟩).before a0 Z = true) (w6 : (Cond.castable ad "java/lang/Cloneable").before a0 Z = true)
  (eT : T.heap = h) (F : Arv Z h a kk ty n vs dv) (E : Exa Z h a ad) {g : JFrame} (hg : g.method = m) (hsize : g.locals.size = c.maxLocals) {rest : List Value} (hst : g.stack = .ref a :: rest) (hd : decode c.code g.pc = .ok (.invokevirtual index, 3))
  (hf : 1 ≤ R.frames) {W cap : Nat} (hW : 2 * g.monitorRoom + (rest.map fun v => v.category).sum ≤ W) (hl : W + 14 ≤ R.locals) (hcap : n.toNatClampNeg ≤ cap) (hc : cells + 1 ≤ R.cells) (hsl : slots + cap ≤ R.slots) :
  ∃ T' h', Stand p l e R s m args below meth c T' locs (cells + 1) (slots + cap) ∧ T'.heap = h' ∧ Ext h h' ∧ Arv Z h' h.size kk ty n vs dv ∧ Exa Z h' h.size ad ∧
  ∀ target, Steps p.tables e below (T'.setTop { g with pc := g.pc + 3, stack := .ref h.size :: rest }) target → Steps p.tables e below (T.setTop g) target := by
  obtain ⟨cl, A, q1, S, q3, H, G⟩ := F
  have FC : FitC Z cl := fitC_of A fun i hi v hv => by rw [H i hi] at hv; cases hv; exact G i hi
  obtain ⟨T', h', X', e', ex, A', E', sx⟩ := cloneA X hx hZ hown w1 w2 w3 w4 w5 w6 eT A E FC hg hsize hst hd hf hW hl (by rw [S]; exact hcap) hc hsl
  exact ⟨T', h', X', e', ex, ⟨cloneOf cl, A', q1, S, q3, H, G⟩, E', sx⟩
theorem f_dst {Z : State} {h : Heap} {a : Addr} {kk : ClassId} {n j : Int32} {vs : List Value} {dv : Value} {v : UInt64} {n0 : Nat} (X : Stand p l e R s m args below meth c T locs cells slots) (hx : p.tables.exec = Jvm.exec) (hZ : Z.Warmed39 s.vm) (eT : T.heap = h) (V : Arv Z h a kk .double n vs dv) (NF : Fr n0 locs) (ga : n0 ≤ a) (zs : n0 ≤ h.size) (k : Rt p e below T (mkF m pc Ls (.double v :: .int j :: .ref a :: st)) s1 m A N) (hd : decode c.code pc = .ok (.dastore, 1)) (q : ¬ j < 0 ∧ j < n) (i : Nat) (hj : j.toNatClampNeg = i) (hi : i < vs.length) : ∃ T' h' L', Stand p l e R s m args below meth c T' L' cells slots ∧ T'.heap = h' ∧ Wr h h' a j.toNatClampNeg (.double v) ∧ Arv Z h' a kk .double n (vs.set i (.double v)) dv ∧ Fr n0 L' ∧ n0 ≤ h'.size ∧ Rt p e below T' (mkF m (pc + 1) Ls st) s1 m A N := by
  obtain ⟨cc, Ar, Aq, As, An, Ah, Ag⟩ := id V
  obtain ⟨T', h', X', e', W, sx⟩ := stD X hx hZ eT Ar (j := j) (inb_of As q) (g := mkF m pc Ls (.double v :: .int j :: .ref a :: st)) rfl rfl hd
  exact ⟨T', h', _, X', e', W, Arv.set Ar Aq As An Ah Ag rfl W i hj hi, Fr.snoc X' NF ga, Nat.le_trans zs (Nat.le_of_eq W.size.symm), fun t w => k t (sx t w)⟩
theorem f_ist {Z : State} {h : Heap} {a : Addr} {kk : ClassId} {n j : Int32} {vs : List Value} {dv : Value} {v : Int32} {n0 : Nat} (X : Stand p l e R s m args below meth c T locs cells slots) (hx : p.tables.exec = Jvm.exec) (hZ : Z.Warmed39 s.vm) (eT : T.heap = h) (V : Arv Z h a kk .int n vs dv) (NF : Fr n0 locs) (ga : n0 ≤ a) (zs : n0 ≤ h.size) (k : Rt p e below T (mkF m pc Ls (.int v :: .int j :: .ref a :: st)) s1 m A N) (hd : decode c.code pc = .ok (.iastore, 1)) (q : ¬ j < 0 ∧ j < n) (i : Nat) (hj : j.toNatClampNeg = i) (hi : i < vs.length) : ∃ T' h' L', Stand p l e R s m args below meth c T' L' cells slots ∧ T'.heap = h' ∧ Wr h h' a j.toNatClampNeg (.int v) ∧ Arv Z h' a kk .int n (vs.set i (.int v)) dv ∧ Fr n0 L' ∧ n0 ≤ h'.size ∧ Rt p e below T' (mkF m (pc + 1) Ls st) s1 m A N := by
  obtain ⟨cc, Ar, Aq, As, An, Ah, Ag⟩ := id V
  obtain ⟨T', h', X', e', W, sx⟩ := stI X hx hZ eT Ar (j := j) (inb_of As q) (g := mkF m pc Ls (.int v :: .int j :: .ref a :: st)) rfl rfl hd
  exact ⟨T', h', _, X', e', W, Arv.set Ar Aq As An Ah Ag rfl W i hj hi, Fr.snoc X' NF ga, Nat.le_trans zs (Nat.le_of_eq W.size.symm), fun t w => k t (sx t w)⟩
theorem f_bst {Z : State} {h : Heap} {a : Addr} {kk : ClassId} {n j : Int32} {vs : List Value} {dv : Value} {v : Int32} {n0 : Nat} (X : Stand p l e R s m args below meth c T locs cells slots) (hx : p.tables.exec = Jvm.exec) (hZ : Z.Warmed39 s.vm) (eT : T.heap = h) (V : Arv Z h a kk .boolean n vs dv) (NF : Fr n0 locs) (ga : n0 ≤ a) (zs : n0 ≤ h.size) (k : Rt p e below T (mkF m pc Ls (.int v :: .int j :: .ref a :: st)) s1 m A N) (hd : decode c.code pc = .ok (.bastore, 1)) (q : ¬ j < 0 ∧ j < n) (i : Nat) (hj : j.toNatClampNeg = i) (hi : i < vs.length) {v' : Int32} (hv : nar .boolean v = v') : ∃ T' h' L', Stand p l e R s m args below meth c T' L' cells slots ∧ T'.heap = h' ∧ Wr h h' a j.toNatClampNeg (.int v') ∧ Arv Z h' a kk .boolean n (vs.set i (.int v')) dv ∧ Fr n0 L' ∧ n0 ≤ h'.size ∧ Rt p e below T' (mkF m (pc + 1) Ls st) s1 m A N := by
  subst hv
  obtain ⟨cc, Ar, Aq, As, An, Ah, Ag⟩ := id V
  obtain ⟨T', h', X', e', W, sx⟩ := stZ X hx hZ eT Ar (j := j) (inb_of As q) (g := mkF m pc Ls (.int v :: .int j :: .ref a :: st)) rfl rfl hd
  exact ⟨T', h', _, X', e', W, Arv.set Ar Aq As An Ah Ag (fits_nar_bool _) W i hj hi, Fr.snoc X' NF ga, Nat.le_trans zs (Nat.le_of_eq W.size.symm), fun t w => k t (sx t w)⟩
end
open Jvm.OwnFp Jvm.FP.Core
def own_cut (d r w : UInt64) : UInt64 := if (0 : Int32) < cmpValue (FP.dcmp w r) .l then FP.ddiv (FP.dmul d r) w else d
def own_finp (f : Int32) (A B R S : Prop) : Prop := (f = 0 ∨ f = 1) ∧ (f = 0 ↔ (A ∨ B) ∧ ¬ (A ∧ R) ∧ ¬ (B ∧ S))
theorem own_f1 {A R : Prop} {w w1 w2 w3 h h1 h2 h3 : Int32} (a : A) (r : R) (e1 : w = w1) (e2 : h = h1) : (A → R → w = w1 ∧ h = h1) ∧ (A → ¬ R → w = w2 ∧ h = h2) ∧ (¬ A → w = w3 ∧ h = h3) := ⟨fun _ _ => ⟨e1, e2⟩, fun _ q => absurd r q, fun q => absurd a q⟩
theorem own_f2 {A R : Prop} {w w1 w2 w3 h h1 h2 h3 : Int32} (a : A) (r : ¬ R) (e1 : w = w2) (e2 : h = h2) : (A → R → w = w1 ∧ h = h1) ∧ (A → ¬ R → w = w2 ∧ h = h2) ∧ (¬ A → w = w3 ∧ h = h3) := ⟨fun _ q => absurd q r, fun _ _ => ⟨e1, e2⟩, fun q => absurd a q⟩
theorem own_f3 {A R : Prop} {w w1 w2 w3 h h1 h2 h3 : Int32} (a : ¬ A) (e1 : w = w3) (e2 : h = h3) : (A → R → w = w1 ∧ h = h1) ∧ (A → ¬ R → w = w2 ∧ h = h2) ∧ (¬ A → w = w3 ∧ h = h3) := ⟨fun q => absurd q a, fun q => absurd q a, fun _ => ⟨e1, e2⟩⟩
theorem own_nlt {x : UInt64} (h : Jvm.Free.Fl.NoNaN64 x) : ¬ (cmpValue (FP.dcmp x x) .g < (0 : Int32)) := by rw [dcmpV_self h .g]; decide
theorem own_narZ {j : Int32} (h : j = 0 ∨ j = 1) : narrow .boolean (.int j) = .int j := by rcases h with rfl | rfl <;> rfl
theorem own_fin {A B R S : Prop} {wt0 hd0 wt1 hd1 j : Int32} (e0 : (A → R → wt0 = (1 : Int32) ∧ hd0 = (0 : Int32) ||| (1 : Int32)) ∧ (A → ¬ R → wt0 = (1 : Int32) ∧ hd0 = (0 : Int32) ||| (0 : Int32)) ∧ (¬ A → wt0 = (0 : Int32) ∧ hd0 = (0 : Int32)))
    (e1 : (B → S → wt1 = (1 : Int32) ∧ hd1 = hd0 ||| (1 : Int32)) ∧ (B → ¬ S → wt1 = (1 : Int32) ∧ hd1 = hd0 ||| (0 : Int32)) ∧ (¬ B → wt1 = wt0 ∧ hd1 = hd0)) (hj : j = (if wt1 = (0 : Int32) then (1 : Int32) else (if hd1 = (0 : Int32) then (0 : Int32) else (1 : Int32)))) : own_finp j A B R S := by
  unfold own_finp
  rcases Classical.em A with a | a <;> rcases Classical.em R with r | r <;> rcases Classical.em B with b | b <;> rcases Classical.em S with s | s
  · obtain ⟨p1, p2⟩ := e0.1 a r; obtain ⟨p3, p4⟩ := e1.1 b s; subst p1 p2 p3 p4; have q : j = 1 := hj.trans (by decide); subst q; simp [a, r, b, s]
  · obtain ⟨p1, p2⟩ := e0.1 a r; obtain ⟨p3, p4⟩ := e1.2.1 b s; subst p1 p2 p3 p4; have q : j = 1 := hj.trans (by decide); subst q; simp [a, r, b, s]
  · obtain ⟨p1, p2⟩ := e0.1 a r; obtain ⟨p3, p4⟩ := e1.2.2 b; subst p1 p2 p3 p4; have q : j = 1 := hj.trans (by decide); subst q; simp [a, r, b, s]
  · obtain ⟨p1, p2⟩ := e0.1 a r; obtain ⟨p3, p4⟩ := e1.2.2 b; subst p1 p2 p3 p4; have q : j = 1 := hj.trans (by decide); subst q; simp [a, r, b, s]
  · obtain ⟨p1, p2⟩ := e0.2.1 a r; obtain ⟨p3, p4⟩ := e1.1 b s; subst p1 p2 p3 p4; have q : j = 1 := hj.trans (by decide); subst q; simp [a, r, b, s]
  · obtain ⟨p1, p2⟩ := e0.2.1 a r; obtain ⟨p3, p4⟩ := e1.2.1 b s; subst p1 p2 p3 p4; have q : j = 0 := hj.trans (by decide); subst q; simp [a, r, b, s]
  · obtain ⟨p1, p2⟩ := e0.2.1 a r; obtain ⟨p3, p4⟩ := e1.2.2 b; subst p1 p2 p3 p4; have q : j = 0 := hj.trans (by decide); subst q; simp [a, r, b, s]
  · obtain ⟨p1, p2⟩ := e0.2.1 a r; obtain ⟨p3, p4⟩ := e1.2.2 b; subst p1 p2 p3 p4; have q : j = 0 := hj.trans (by decide); subst q; simp [a, r, b, s]
  · obtain ⟨p1, p2⟩ := e0.2.2 a; obtain ⟨p3, p4⟩ := e1.1 b s; subst p1 p2 p3 p4; have q : j = 1 := hj.trans (by decide); subst q; simp [a, r, b, s]
  · obtain ⟨p1, p2⟩ := e0.2.2 a; obtain ⟨p3, p4⟩ := e1.2.1 b s; subst p1 p2 p3 p4; have q : j = 0 := hj.trans (by decide); subst q; simp [a, r, b, s]
  · obtain ⟨p1, p2⟩ := e0.2.2 a; obtain ⟨p3, p4⟩ := e1.2.2 b; subst p1 p2 p3 p4; have q : j = 1 := hj.trans (by decide); subst q; simp [a, r, b, s]
  · obtain ⟨p1, p2⟩ := e0.2.2 a; obtain ⟨p3, p4⟩ := e1.2.2 b; subst p1 p2 p3 p4; have q : j = 1 := hj.trans (by decide); subst q; simp [a, r, b, s]
  · obtain ⟨p1, p2⟩ := e0.2.2 a; obtain ⟨p3, p4⟩ := e1.1 b s; subst p1 p2 p3 p4; have q : j = 1 := hj.trans (by decide); subst q; simp [a, r, b, s]
  · obtain ⟨p1, p2⟩ := e0.2.2 a; obtain ⟨p3, p4⟩ := e1.2.1 b s; subst p1 p2 p3 p4; have q : j = 0 := hj.trans (by decide); subst q; simp [a, r, b, s]
  · obtain ⟨p1, p2⟩ := e0.2.2 a; obtain ⟨p3, p4⟩ := e1.2.2 b; subst p1 p2 p3 p4; have q : j = 1 := hj.trans (by decide); subst q; simp [a, r, b, s]
  · obtain ⟨p1, p2⟩ := e0.2.2 a; obtain ⟨p3, p4⟩ := e1.2.2 b; subst p1 p2 p3 p4; have q : j = 1 := hj.trans (by decide); subst q; simp [a, r, b, s]

def Dq (N : Int) (a : UInt64) : Prop := ∃ n : Int, 0 ≤ n ∧ n ≤ N ∧ Dy n 0 a
def SupQ (s : UInt64) : Prop := s = (9218868437227405312 : UInt64) ∨ Dq 255 s
abbrev GvOk (k : Int) (s g : UInt64) : Prop := Jvm.Free.Fl.NoNaN64 g ∧ (s = (9218868437227405312 : UInt64) → Dq k g)
abbrev own_dem (a b : UInt64) : Prop := Dq 255 a ∧ Dq 255 b ∧ (a = (0 : UInt64) ∨ b = (0 : UInt64))
abbrev own_mq (a b x y : UInt64) : Prop := DFin a ∧ DFin b ∧ DFin x ∧ DFin y
abbrev MvOk (s0 s1 fr0 fr1 : UInt64) (k : Int) (f : Int32) (mA mB yA yB g0 g1 : UInt64) (z0 z1 : Int32) : Prop := DFin mA ∧ DFin mB ∧ (f = (0 : Int32) → ((0 : Int32) < cmpValue (FP.dcmp yA (0 : UInt64)) .l → cmpValue (FP.dcmp fr0 (4607182418800017408 : UInt64)) .g < (0 : Int32)) ∧ ((0 : Int32) < cmpValue (FP.dcmp yB (0 : UInt64)) .l → cmpValue (FP.dcmp fr1 (4607182418800017408 : UInt64)) .g < (0 : Int32))) ∧ GvOk k s0 g0 ∧ GvOk k s1 g1 ∧ (cmpValue (FP.dcmp fr0 (4607182418800017408 : UInt64)) .g < (0 : Int32) → z0 = (0 : Int32)) ∧ (cmpValue (FP.dcmp fr1 (4607182418800017408 : UInt64)) .g < (0 : Int32) → z1 = (0 : Int32))
theorem own_mq0 : own_mq 0 0 0 0 := ⟨(dy0 0).fin, (dy0 0).fin, (dy0 0).fin, (dy0 0).fin⟩
theorem own_nar1 {j : Int32} (h : j = 0 ∨ j = 1) : nar .boolean j = j := by rcases h with rfl | rfl <;> rfl
theorem Dq.mono {M N : Int} {a : UInt64} (h : Dq M a) (e : M ≤ N) : Dq N a := by obtain ⟨n, h0, h1, d⟩ := h; exact ⟨n, h0, by omega, d⟩
theorem Dq.fin {N : Int} {a : UInt64} (h : Dq N a) : DFin a := by obtain ⟨n, -, -, d⟩ := h; exact d.fin
theorem Dq.nn {N : Int} {a : UInt64} (h : Dq N a) : Jvm.Free.Fl.NoNaN64 a := by obtain ⟨n, -, -, d⟩ := h; exact d.nn
theorem dq0 {N : Int} (h : 0 ≤ N) : Dq N (0 : UInt64) := ⟨0, Int.le_refl 0, h, dy0 0⟩
theorem Dq.add {M N P : Int} {a b : UInt64} (ha : Dq M a) (hb : Dq N b) (h : M + N ≤ P ∧ P ≤ 100000) : Dq P (FP.dadd a b) := by
  obtain ⟨i, i0, iM, di⟩ := ha; obtain ⟨j, j0, jN, dj⟩ := hb
  exact ⟨i + j, by omega, by omega, di.add dj (by omega) (by decide)⟩
theorem own_dq (x : Int32) : Dq 255 (FP.i2d (x &&& (255 : Int32))) := by
  have m := c_and x 255 (by decide); rw [show (255 : Int32).toInt = 255 by decide] at m
  exact ⟨_, m.1, m.2, Dy.i2d _⟩
theorem own_lit (n : Int32) (k : Nat) (h : 0 ≤ n.toInt ∧ n.toInt ≤ k) : n = Int32.ofInt (n.toInt.toNat : Int) ∧ n.toInt.toNat ≤ k := ⟨by rw [show ((n.toInt.toNat : Nat) : Int) = n.toInt by omega, Int32.ofInt_toInt], by omega⟩
theorem own_m2 (x n : Int32) (h : n = (x &&& (1 : Int32))) : n = (0 : Int32) ∨ n = (1 : Int32) := by
  have m := c_and x 1 (by decide); rw [← h, show (1 : Int32).toInt = 1 by decide] at m
  obtain ⟨e, k⟩ := own_lit n 1 m
  generalize n.toInt.toNat = j at e k
  match j, k with
  | 0, _ => exact Or.inl e
  | 1, _ => exact Or.inr e
theorem inf_nn : Jvm.Free.Fl.NoNaN64 (9218868437227405312 : UInt64) := nn_of (by decide +kernel)
theorem SupQ.nn {s : UInt64} (h : SupQ s) : Jvm.Free.Fl.NoNaN64 s := by
  rcases h with rfl | h
  · exact inf_nn
  · exact h.nn
theorem own_ninf {N : Int} {a : UInt64} (h : Dq N a) : ¬ ((0 : Int32) < cmpValue (FP.dcmp a (9218868437227405312 : UInt64)) .l) := by
  obtain ⟨n, -, -, d⟩ := h
  have u := Dy.lt_inf d .l
  intro q
  rw [Int32.lt_iff_toInt_lt] at u q; omega
theorem own_gtD {M N : Int} {a b : UInt64} (ha : Dq M a) (hb : Dq N b) (h : (0 : Int32) < cmpValue (FP.dcmp a b) .l) : ∃ i j : Int, 0 ≤ i ∧ i < j ∧ j ≤ M ∧ i ≤ N ∧ Dy j 0 a ∧ Dy i 0 b := by
  obtain ⟨j, j0, jM, dj⟩ := ha; obtain ⟨i, i0, iN, di⟩ := hb
  rcases Int.lt_or_le i j with q | q
  · exact ⟨i, j, i0, q, jM, iN, dj, di⟩
  · exact absurd h (Dy.le dj di q .l)
theorem own_qfin {i j : Int} {a b : UInt64} (ha : Dy i 0 a) (hb : Dy j 0 b) (hi : 0 ≤ i) (hj : 0 < j) (bi : i ≤ 131072) (bj : j ≤ 1024) : DFin (FP.ddiv a b) := by
  by_cases z : i = 0
  · subst z; exact (Dy.div (n := 0) (m := 0) ha hb (by omega) (by decide) (by decide) (by simp)).fin
  · have A := ap_dy ha (by omega) (N := i.toNat) (α := 17) rfl (by rw [show (2 : Nat) ^ 17 * 2 ^ 0 = 131072 by decide]; omega)
    have B := ap_dy hb hj (N := j.toNat) (α := 10) rfl (by rw [show (2 : Nat) ^ 10 * 2 ^ 0 = 1024 by decide]; omega)
    obtain ⟨z, hz, -⟩ := Ap.div (K := 1) A B (by omega) (by omega) (by decide) (by decide) (by decide)
    exact hz.fin
theorem own_qlt {i j : Int} {a b : UInt64} (ha : Dy i 0 a) (hb : Dy j 0 b) (hi : 0 ≤ i) (hij : i < j) (bj : j ≤ 1000) : cmpValue (FP.dcmp (FP.ddiv a b) (4607182418800017408 : UInt64)) .g < (0 : Int32) := by
  by_cases z : i = 0
  · subst z
    have d : Dy 0 0 (FP.ddiv a b) := Dy.div (n := 0) (m := 0) ha hb (by omega) (by decide) (by decide) (by simp)
    rw [Dy.cmp_lt d (dy1 0) (by decide) .g]; decide
  · have F := own_qfin ha hb hi (by omega) (by omega) (by omega)
    have L : DLe (FP.ddiv a b) 1023 10 := ddiv_dle ha hb (by omega) (by omega) (by decide) (by decide) (by decide) F (by
      rw [show (2 : Int) ^ 10 = 1024 by decide, Int.pow_zero, Int.mul_one, Int.mul_one]; omega)
    rw [L.cmp_lt (dy1 10) (by decide) .g]; decide
theorem own_key {y s w : UInt64} (hy : Dq 255 y) (hs : SupQ s) (hw : Dq 510 w) (h : (0 : Int32) < cmpValue (FP.dcmp w s) .l) : DFin (FP.dmul y s) ∧ DFin (FP.ddiv (FP.dmul y s) w) := by
  rcases hs with rfl | hs
  · exact absurd h (own_ninf hw)
  · obtain ⟨i, j, i0, ij, jM, iN, dj, di⟩ := own_gtD hw hs h
    obtain ⟨n, n0, nM, dn⟩ := hy
    have b0 : 0 ≤ n * i := Int.mul_nonneg n0 i0
    have b1 : n * i ≤ 255 * 255 := Int.mul_le_mul nM iN i0 (by decide)
    have m : Dy (n * i) 0 (FP.dmul y s) := Dy.mul dn di (by omega) (by decide)
    exact ⟨m.fin, own_qfin m dj b0 (by omega) (by omega) (by omega)⟩
theorem own_cutok {y s w : UInt64} (hy : Dq 255 y) (hs : SupQ s) (hw : Dq 510 w) : ((0 : Int32) < cmpValue (FP.dcmp w s) .l → Jvm.Free.Fl.NoNaN64 (FP.dmul y s) ∧ Jvm.Free.Fl.NoNaN64 (FP.ddiv (FP.dmul y s) w)) ∧ DFin (own_cut y s w) ∧ (¬ ((0 : Int32) < cmpValue (FP.dcmp w s) .l) → own_cut y s w = y) ∧ (s = (9218868437227405312 : UInt64) → own_cut y s w = y) := by
  refine ⟨fun h => ⟨nn_of (no_fin (own_key hy hs hw h).1), nn_of (no_fin (own_key hy hs hw h).2)⟩, ?_, fun h => ?_, fun h => ?_⟩
  · by_cases h : (0 : Int32) < cmpValue (FP.dcmp w s) .l
    · unfold own_cut; rw [if_pos h]; exact (own_key hy hs hw h).2
    · unfold own_cut; rw [if_neg h]; exact hy.fin
  · unfold own_cut; rw [if_neg h]
  · subst h; unfold own_cut; rw [if_neg (own_ninf hw)]
theorem own_divnn {s w : UInt64} (hs : SupQ s) (hw : Dq 510 w) (h : (0 : Int32) < cmpValue (FP.dcmp w s) .l) : Jvm.Free.Fl.NoNaN64 (FP.ddiv s w) := by
  rcases hs with rfl | hs
  · exact absurd h (own_ninf hw)
  · obtain ⟨i, j, i0, ij, jM, iN, dj, di⟩ := own_gtD hw hs h
    exact nn_of (no_fin (own_qfin di dj i0 (by omega) (by omega) (by omega)))
theorem own_frac {s w fr : UInt64} (hs : SupQ s) (hw : Dq 510 w) (h : (0 : Int32) < cmpValue (FP.dcmp w s) .l ∧ fr = FP.ddiv s w ∨ ¬ ((0 : Int32) < cmpValue (FP.dcmp w s) .l) ∧ fr = (4607182418800017408 : UInt64)) : Jvm.Free.Fl.NoNaN64 fr ∧ ((0 : Int32) < cmpValue (FP.dcmp w s) .l ↔ cmpValue (FP.dcmp fr (4607182418800017408 : UInt64)) .g < (0 : Int32)) := by
  rcases h with ⟨g, rfl⟩ | ⟨g, rfl⟩
  · refine ⟨own_divnn hs hw g, fun _ => ?_, fun _ => g⟩
    rcases hs with rfl | hs
    · exact absurd g (own_ninf hw)
    · obtain ⟨i, j, i0, ij, jM, iN, dj, di⟩ := own_gtD hw hs g
      exact own_qlt di dj i0 ij (by omega)
  · refine ⟨(dy1 0).nn, fun q => absurd q g, fun q => ?_⟩
    rw [dcmpV_self (dy1 0).nn .g] at q; exact absurd q (by decide)
theorem own_add0 {x : UInt64} (h : DFin x) : DFin (FP.dadd (0 : UInt64) x) := by
  by_cases z : x = dzeroNeg
  · have e : FP.dadd (0 : UInt64) x = 0 := by rw [z]; exact dadd_zeroNeg (a := 0) (by decide +kernel)
    rw [e]; exact (dy0 0).fin
  · have e : FP.dadd (0 : UInt64) x = x := (dadd_comm 0 x).trans (dadd_zero (fin_nn h) z)
    rw [e]; exact h
theorem own_sub0 {a : UInt64} (h : val64 a ≠ .nan) : FP.dsub a (0 : UInt64) = a := by
  have e : val64 (dsub a 0) = val64 (dadd a dzeroNeg) := by
    rw [val64_dsub, val64_dadd, val64_dzeroNeg, show val64 (0 : UInt64) = .fin false 0 b64.qmin by decide +kernel]; rfl
  exact (val64_inj h (by rw [e, dadd_zeroNeg h])).symm
theorem own_law1 {s m : UInt64} (hs : SupQ s) (h : Jvm.Free.Fl.NoNaN64 (FP.dsub s m)) : cmpValue (FP.dcmp (FP.dsub s m) (FP.dsub (FP.dsub s (0 : UInt64)) m)) .l = (0 : Int32) := by
  rw [own_sub0 ((notNaN_iff s).mp (no_of hs.nn))]; exact dcmpV_self h .l
theorem own_nns {s m : UInt64} (hs : SupQ s) (h : DFin m) : Jvm.Free.Fl.NoNaN64 (FP.dsub s m) := nn_of (dsub_out (no_of hs.nn) h)
theorem own_gt0 : ¬ ((0 : Int32) < cmpValue (FP.dcmp (0 : UInt64) (0 : UInt64)) .l) := by rw [dcmpV_self (dy0 0).nn .l]; decide
theorem own_act {a b : UInt64} {f : Int32} {R S : Prop} (hd : own_dem a b) (h : own_finp f ((0 : Int32) < cmpValue (FP.dcmp a (0 : UInt64)) .l) ((0 : Int32) < cmpValue (FP.dcmp b (0 : UInt64)) .l) R S) (q : f = (0 : Int32)) : ((0 : Int32) < cmpValue (FP.dcmp a (0 : UInt64)) .l) ∧ ¬ ((0 : Int32) < cmpValue (FP.dcmp b (0 : UInt64)) .l) ∨ ((0 : Int32) < cmpValue (FP.dcmp b (0 : UInt64)) .l) ∧ ¬ ((0 : Int32) < cmpValue (FP.dcmp a (0 : UInt64)) .l) := by
  have k := (h.2.mp q).1
  rcases hd.2.2 with rfl | rfl
  · exact Or.inr ⟨k.resolve_left own_gt0, own_gt0⟩
  · exact Or.inl ⟨k.resolve_right own_gt0, own_gt0⟩
theorem own_subself {N : Int} {y : UInt64} (h : Dq N y) : ¬ ((0 : Int32) < cmpValue (FP.dcmp (FP.dsub y y) (0 : UInt64)) .l) := by
  obtain ⟨s, e, q, v⟩ := h.fin
  rw [show FP.dsub y y = (0 : UInt64) from dsub_self v]; exact own_gt0
theorem gv0 (s : UInt64) : GvOk 0 s (0 : UInt64) := ⟨(dy0 0).nn, fun _ => dq0 (Int.le_refl 0)⟩
theorem gv_mono {k k' : Int} {s g : UInt64} (h : GvOk k s g) (e : k ≤ k') : GvOk k' s g := ⟨h.1, fun q => (h.2 q).mono e⟩
theorem gv_add {k k' : Int} {s g y w : UInt64} (h : GvOk k s g) (hy : Dq 255 y) (hs : SupQ s) (hw : Dq 510 w) (hk : k + 255 ≤ k' ∧ k' ≤ 100000) : GvOk k' s (FP.dadd g (own_cut y s w)) :=
  have co := own_cutok hy hs hw
  ⟨nn_of (dadd_out (no_of h.1) co.2.1), fun q => by rw [co.2.2.2 q]; exact Dq.add (h.2 q) hy hk⟩
theorem GvOk.sub {k : Int} {s g : UInt64} (hs : SupQ s) (h : GvOk k s g) : Jvm.Free.Fl.NoNaN64 (FP.dsub s g) := by
  rcases hs with rfl | hs
  · exact nn_of (dsub_out (no_of inf_nn) (h.2 rfl).fin)
  · exact nn_of (dsub_out' hs.fin (no_of h.1))
theorem mv_s {s0 s1 fr0 fr1 yA yB g0 g1 : UInt64} {k k' : Int} {f z0 z1 : Int32} (qf : ¬ (f = (0 : Int32))) (gi0 : GvOk k s0 g0) (gi1 : GvOk k s1 g1) (zi0 : cmpValue (FP.dcmp fr0 (4607182418800017408 : UInt64)) .g < (0 : Int32) → z0 = (0 : Int32)) (zi1 : cmpValue (FP.dcmp fr1 (4607182418800017408 : UInt64)) .g < (0 : Int32) → z1 = (0 : Int32)) (hk : k ≤ k') : MvOk s0 s1 fr0 fr1 k' f 0 0 yA yB g0 g1 z0 z1 :=
  ⟨(dy0 0).fin, (dy0 0).fin, fun e => absurd e qf, gv_mono gi0 hk, gv_mono gi1 hk, zi0, zi1⟩
theorem own_lft {a s w fr : UInt64} (ha : Dq 255 a) (hs : SupQ s) (hw : Dq 510 w) (j : (0 : Int32) < cmpValue (FP.dcmp w s) .l ↔ cmpValue (FP.dcmp fr (4607182418800017408 : UInt64)) .g < (0 : Int32)) (q : (0 : Int32) < cmpValue (FP.dcmp (FP.dsub a (own_cut a s w)) (0 : UInt64)) .l) : cmpValue (FP.dcmp fr (4607182418800017408 : UInt64)) .g < (0 : Int32) := by
  apply Classical.byContradiction
  intro n
  have e := (own_cutok ha hs hw).2.2.1 (fun g => n (j.mp g))
  rw [e] at q; exact own_subself ha q
theorem own_zq {fr : UInt64} {z0 zq : Int32} (zi : cmpValue (FP.dcmp fr (4607182418800017408 : UInt64)) .g < (0 : Int32) → z0 = (0 : Int32)) (hz : (cmpValue (FP.dcmp fr (4607182418800017408 : UInt64)) .g < (0 : Int32)) ∧ zq = nar .boolean (z0 ||| (0 : Int32)) ∨ ¬ (cmpValue (FP.dcmp fr (4607182418800017408 : UInt64)) .g < (0 : Int32)) ∧ zq = nar .boolean (z0 ||| (1 : Int32))) (q : cmpValue (FP.dcmp fr (4607182418800017408 : UInt64)) .g < (0 : Int32)) : zq = (0 : Int32) := by
  rcases hz with ⟨-, e⟩ | ⟨n, -⟩
  · rw [e, zi q]; rfl
  · exact absurd q n
theorem mv_0 {a b s0 s1 w0 w1 fr0 fr1 g0 g1 : UInt64} {k k' : Int} {f z0 z1 zq : Int32} (hd : own_dem a b) (hs0 : SupQ s0) (hs1 : SupQ s1) (h0 : Dq 510 w0) (h1 : Dq 510 w1) (j0 : Jvm.Free.Fl.NoNaN64 fr0 ∧ ((0 : Int32) < cmpValue (FP.dcmp w0 s0) .l ↔ cmpValue (FP.dcmp fr0 (4607182418800017408 : UInt64)) .g < (0 : Int32))) (j1 : Jvm.Free.Fl.NoNaN64 fr1 ∧ ((0 : Int32) < cmpValue (FP.dcmp w1 s1) .l ↔ cmpValue (FP.dcmp fr1 (4607182418800017408 : UInt64)) .g < (0 : Int32))) (gi0 : GvOk k s0 g0) (gi1 : GvOk k s1 g1) (zi0 : cmpValue (FP.dcmp fr0 (4607182418800017408 : UInt64)) .g < (0 : Int32) → z0 = (0 : Int32)) (zi1 : cmpValue (FP.dcmp fr1 (4607182418800017408 : UInt64)) .g < (0 : Int32) → z1 = (0 : Int32)) (qb : ¬ ((0 : Int32) < cmpValue (FP.dcmp b (0 : UInt64)) .l)) (hz : (cmpValue (FP.dcmp fr0 (4607182418800017408 : UInt64)) .g < (0 : Int32)) ∧ zq = nar .boolean (z0 ||| (0 : Int32)) ∨ ¬ (cmpValue (FP.dcmp fr0 (4607182418800017408 : UInt64)) .g < (0 : Int32)) ∧ zq = nar .boolean (z0 ||| (1 : Int32))) (hk : k + 255 ≤ k' ∧ k' ≤ 100000) (hk2 : k ≤ k') : MvOk s0 s1 fr0 fr1 k' f (FP.dadd (0 : UInt64) (own_cut a s0 w0)) 0 (FP.dsub a (own_cut a s0 w0)) b (FP.dadd g0 (own_cut a s0 w0)) g1 zq z1 :=
  have co := own_cutok hd.1 hs0 h0
  ⟨own_add0 co.2.1, (dy0 0).fin, fun _ => ⟨fun q => own_lft hd.1 hs0 h0 j0.2 q, fun q => absurd q qb⟩, gv_add gi0 hd.1 hs0 h0 hk, gv_mono gi1 hk2, fun q => own_zq zi0 hz q, zi1⟩
theorem mv_1 {a b s0 s1 w0 w1 fr0 fr1 g0 g1 : UInt64} {k k' : Int} {f z0 z1 zq : Int32} (hd : own_dem a b) (hs0 : SupQ s0) (hs1 : SupQ s1) (h0 : Dq 510 w0) (h1 : Dq 510 w1) (j0 : Jvm.Free.Fl.NoNaN64 fr0 ∧ ((0 : Int32) < cmpValue (FP.dcmp w0 s0) .l ↔ cmpValue (FP.dcmp fr0 (4607182418800017408 : UInt64)) .g < (0 : Int32))) (j1 : Jvm.Free.Fl.NoNaN64 fr1 ∧ ((0 : Int32) < cmpValue (FP.dcmp w1 s1) .l ↔ cmpValue (FP.dcmp fr1 (4607182418800017408 : UInt64)) .g < (0 : Int32))) (gi0 : GvOk k s0 g0) (gi1 : GvOk k s1 g1) (zi0 : cmpValue (FP.dcmp fr0 (4607182418800017408 : UInt64)) .g < (0 : Int32) → z0 = (0 : Int32)) (zi1 : cmpValue (FP.dcmp fr1 (4607182418800017408 : UInt64)) .g < (0 : Int32) → z1 = (0 : Int32)) (qb : ¬ ((0 : Int32) < cmpValue (FP.dcmp a (0 : UInt64)) .l)) (hz : (cmpValue (FP.dcmp fr1 (4607182418800017408 : UInt64)) .g < (0 : Int32)) ∧ zq = nar .boolean (z1 ||| (0 : Int32)) ∨ ¬ (cmpValue (FP.dcmp fr1 (4607182418800017408 : UInt64)) .g < (0 : Int32)) ∧ zq = nar .boolean (z1 ||| (1 : Int32))) (hk : k + 255 ≤ k' ∧ k' ≤ 100000) (hk2 : k ≤ k') : MvOk s0 s1 fr0 fr1 k' f 0 (FP.dadd (0 : UInt64) (own_cut b s1 w1)) a (FP.dsub b (own_cut b s1 w1)) g0 (FP.dadd g1 (own_cut b s1 w1)) z0 zq :=
  have co := own_cutok hd.2.1 hs1 h1
  ⟨(dy0 0).fin, own_add0 co.2.1, fun _ => ⟨fun q => absurd q qb, fun q => own_lft hd.2.1 hs1 h1 j1.2 q⟩, gv_mono gi0 hk2, gv_add gi1 hd.2.1 hs1 h1 hk, zi0, fun q => own_zq zi1 hz q⟩
theorem own_fin2 {f : Int32} {A B R S : Prop} (h : own_finp f A B R S) (a : A → R) (b : B → S) : ¬ (f = (0 : Int32)) := fun q => by
  obtain ⟨k, n1, n2⟩ := h.2.mp q
  rcases k with k | k
  · exact n1 ⟨k, a k⟩
  · exact n2 ⟨k, b k⟩
theorem own_rm {L A : Prop} {rm : UInt64} (hr : L → rm = (0 : UInt64)) (h : A → L) : A → cmpValue (FP.dcmp rm (0 : UInt64)) .l = (0 : Int32) := fun a => by
  rw [hr (h a)]; exact dcmpV_self (dy0 0).nn .l
def Dis (ob : Addr) (B : Nat → Addr) : Prop := (∀ i, i < 13 → ob < B i) ∧ ∀ i j, i < j → j < 13 → B i < B j
def NB (Z : State) (h : Heap) (ob : Addr) (B : Nat → Addr) (K : Nat → ClassId) (l0 l1 l2 l3 l4 l5 l6 l7 l8 l9 l10 l11 l12 : List Value) (wc : Int32) : Prop :=
  Exa Z h ob "com/example/istra/istra/engine/NodeModel" ∧
  Fld Z h ob "com/example/istra/istra/engine/NodeModel" "demand" "[D" (.ref (B 0)) ∧
  Fld Z h ob "com/example/istra/istra/engine/NodeModel" "moved" "[D" (.ref (B 1)) ∧
  Fld Z h ob "com/example/istra/istra/engine/NodeModel" "left" "[D" (.ref (B 2)) ∧
  Fld Z h ob "com/example/istra/istra/engine/NodeModel" "supply" "[D" (.ref (B 3)) ∧
  Fld Z h ob "com/example/istra/istra/engine/NodeModel" "room" "[D" (.ref (B 4)) ∧
  Fld Z h ob "com/example/istra/istra/engine/NodeModel" "wanted" "[D" (.ref (B 5)) ∧
  Fld Z h ob "com/example/istra/istra/engine/NodeModel" "fraction" "[D" (.ref (B 6)) ∧
  Fld Z h ob "com/example/istra/istra/engine/NodeModel" "given" "[D" (.ref (B 7)) ∧
  Fld Z h ob "com/example/istra/istra/engine/NodeModel" "spare" "[Z" (.ref (B 8)) ∧
  Fld Z h ob "com/example/istra/istra/engine/NodeModel" "finished" "[Z" (.ref (B 9)) ∧
  Fld Z h ob "com/example/istra/istra/engine/NodeModel" "closed" "[Z" (.ref (B 10)) ∧
  Fld Z h ob "com/example/istra/istra/engine/NodeModel" "wanting" "[I" (.ref (B 11)) ∧
  Fld Z h ob "com/example/istra/istra/engine/NodeModel" "listed" "[Z" (.ref (B 12)) ∧
  Fld Z h ob "com/example/istra/istra/engine/NodeModel" "wantingCount" "I" (.int wc) ∧
  Fld Z h ob "com/example/istra/istra/engine/NodeModel" "approaches" "I" (.int (2 : Int32)) ∧
  Fld Z h ob "com/example/istra/istra/engine/NodeModel" "columns" "I" (.int (2 : Int32)) ∧
  Fld Z h ob "com/example/istra/istra/engine/NodeModel" "anyClosed" "Z" (.int (0 : Int32)) ∧
  Arv Z h (B 0) (K 0) .double (4 : Int32) l0 (.double (0 : UInt64)) ∧
  Arv Z h (B 1) (K 1) .double (4 : Int32) l1 (.double (0 : UInt64)) ∧
  Arv Z h (B 2) (K 2) .double (4 : Int32) l2 (.double (0 : UInt64)) ∧
  Arv Z h (B 3) (K 3) .double (2 : Int32) l3 (.double (0 : UInt64)) ∧
  Arv Z h (B 4) (K 4) .double (2 : Int32) l4 (.double (0 : UInt64)) ∧
  Arv Z h (B 5) (K 5) .double (2 : Int32) l5 (.double (0 : UInt64)) ∧
  Arv Z h (B 6) (K 6) .double (2 : Int32) l6 (.double (0 : UInt64)) ∧
  Arv Z h (B 7) (K 7) .double (2 : Int32) l7 (.double (0 : UInt64)) ∧
  Arv Z h (B 8) (K 8) .boolean (2 : Int32) l8 (.int (0 : Int32)) ∧
  Arv Z h (B 9) (K 9) .boolean (2 : Int32) l9 (.int (0 : Int32)) ∧
  Arv Z h (B 10) (K 10) .boolean (4 : Int32) l10 (.int (0 : Int32)) ∧
  Arv Z h (B 11) (K 11) .int (2 : Int32) l11 (.int (0 : Int32)) ∧
  Arv Z h (B 12) (K 12) .boolean (2 : Int32) l12 (.int (0 : Int32))
section
variable {Z : State} {h h' : Heap} {ob : Addr} {B : Nat → Addr} {K : Nat → ClassId} {l0 l1 l2 l3 l4 l5 l6 l7 l8 l9 l10 l11 l12 : List Value} {wc : Int32}
theorem nq0 (N : NB Z h ob B K l0 l1 l2 l3 l4 l5 l6 l7 l8 l9 l10 l11 l12 wc) : Exa Z h ob "com/example/istra/istra/engine/NodeModel" := N.1
theorem nq1 (N : NB Z h ob B K l0 l1 l2 l3 l4 l5 l6 l7 l8 l9 l10 l11 l12 wc) : Fld Z h ob "com/example/istra/istra/engine/NodeModel" "demand" "[D" (.ref (B 0)) := N.2.1
theorem nq2 (N : NB Z h ob B K l0 l1 l2 l3 l4 l5 l6 l7 l8 l9 l10 l11 l12 wc) : Fld Z h ob "com/example/istra/istra/engine/NodeModel" "moved" "[D" (.ref (B 1)) := N.2.2.1
theorem nq3 (N : NB Z h ob B K l0 l1 l2 l3 l4 l5 l6 l7 l8 l9 l10 l11 l12 wc) : Fld Z h ob "com/example/istra/istra/engine/NodeModel" "left" "[D" (.ref (B 2)) := N.2.2.2.1
theorem nq4 (N : NB Z h ob B K l0 l1 l2 l3 l4 l5 l6 l7 l8 l9 l10 l11 l12 wc) : Fld Z h ob "com/example/istra/istra/engine/NodeModel" "supply" "[D" (.ref (B 3)) := N.2.2.2.2.1
theorem nq5 (N : NB Z h ob B K l0 l1 l2 l3 l4 l5 l6 l7 l8 l9 l10 l11 l12 wc) : Fld Z h ob "com/example/istra/istra/engine/NodeModel" "room" "[D" (.ref (B 4)) := N.2.2.2.2.2.1
theorem nq6 (N : NB Z h ob B K l0 l1 l2 l3 l4 l5 l6 l7 l8 l9 l10 l11 l12 wc) : Fld Z h ob "com/example/istra/istra/engine/NodeModel" "wanted" "[D" (.ref (B 5)) := N.2.2.2.2.2.2.1
theorem nq7 (N : NB Z h ob B K l0 l1 l2 l3 l4 l5 l6 l7 l8 l9 l10 l11 l12 wc) : Fld Z h ob "com/example/istra/istra/engine/NodeModel" "fraction" "[D" (.ref (B 6)) := N.2.2.2.2.2.2.2.1
theorem nq8 (N : NB Z h ob B K l0 l1 l2 l3 l4 l5 l6 l7 l8 l9 l10 l11 l12 wc) : Fld Z h ob "com/example/istra/istra/engine/NodeModel" "given" "[D" (.ref (B 7)) := N.2.2.2.2.2.2.2.2.1
theorem nq9 (N : NB Z h ob B K l0 l1 l2 l3 l4 l5 l6 l7 l8 l9 l10 l11 l12 wc) : Fld Z h ob "com/example/istra/istra/engine/NodeModel" "spare" "[Z" (.ref (B 8)) := N.2.2.2.2.2.2.2.2.2.1
theorem nq10 (N : NB Z h ob B K l0 l1 l2 l3 l4 l5 l6 l7 l8 l9 l10 l11 l12 wc) : Fld Z h ob "com/example/istra/istra/engine/NodeModel" "finished" "[Z" (.ref (B 9)) := N.2.2.2.2.2.2.2.2.2.2.1
theorem nq11 (N : NB Z h ob B K l0 l1 l2 l3 l4 l5 l6 l7 l8 l9 l10 l11 l12 wc) : Fld Z h ob "com/example/istra/istra/engine/NodeModel" "closed" "[Z" (.ref (B 10)) := N.2.2.2.2.2.2.2.2.2.2.2.1
theorem nq12 (N : NB Z h ob B K l0 l1 l2 l3 l4 l5 l6 l7 l8 l9 l10 l11 l12 wc) : Fld Z h ob "com/example/istra/istra/engine/NodeModel" "wanting" "[I" (.ref (B 11)) := N.2.2.2.2.2.2.2.2.2.2.2.2.1
theorem nq13 (N : NB Z h ob B K l0 l1 l2 l3 l4 l5 l6 l7 l8 l9 l10 l11 l12 wc) : Fld Z h ob "com/example/istra/istra/engine/NodeModel" "listed" "[Z" (.ref (B 12)) := N.2.2.2.2.2.2.2.2.2.2.2.2.2.1
theorem nq14 (N : NB Z h ob B K l0 l1 l2 l3 l4 l5 l6 l7 l8 l9 l10 l11 l12 wc) : Fld Z h ob "com/example/istra/istra/engine/NodeModel" "wantingCount" "I" (.int wc) := N.2.2.2.2.2.2.2.2.2.2.2.2.2.2.1
theorem nq15 (N : NB Z h ob B K l0 l1 l2 l3 l4 l5 l6 l7 l8 l9 l10 l11 l12 wc) : Fld Z h ob "com/example/istra/istra/engine/NodeModel" "approaches" "I" (.int (2 : Int32)) := N.2.2.2.2.2.2.2.2.2.2.2.2.2.2.2.1
theorem nq16 (N : NB Z h ob B K l0 l1 l2 l3 l4 l5 l6 l7 l8 l9 l10 l11 l12 wc) : Fld Z h ob "com/example/istra/istra/engine/NodeModel" "columns" "I" (.int (2 : Int32)) := N.2.2.2.2.2.2.2.2.2.2.2.2.2.2.2.2.1
theorem nq17 (N : NB Z h ob B K l0 l1 l2 l3 l4 l5 l6 l7 l8 l9 l10 l11 l12 wc) : Fld Z h ob "com/example/istra/istra/engine/NodeModel" "anyClosed" "Z" (.int (0 : Int32)) := N.2.2.2.2.2.2.2.2.2.2.2.2.2.2.2.2.2.1
theorem nq18 (N : NB Z h ob B K l0 l1 l2 l3 l4 l5 l6 l7 l8 l9 l10 l11 l12 wc) : Arv Z h (B 0) (K 0) .double (4 : Int32) l0 (.double (0 : UInt64)) := N.2.2.2.2.2.2.2.2.2.2.2.2.2.2.2.2.2.2.1
theorem nq19 (N : NB Z h ob B K l0 l1 l2 l3 l4 l5 l6 l7 l8 l9 l10 l11 l12 wc) : Arv Z h (B 1) (K 1) .double (4 : Int32) l1 (.double (0 : UInt64)) := N.2.2.2.2.2.2.2.2.2.2.2.2.2.2.2.2.2.2.2.1
theorem nq20 (N : NB Z h ob B K l0 l1 l2 l3 l4 l5 l6 l7 l8 l9 l10 l11 l12 wc) : Arv Z h (B 2) (K 2) .double (4 : Int32) l2 (.double (0 : UInt64)) := N.2.2.2.2.2.2.2.2.2.2.2.2.2.2.2.2.2.2.2.2.1
theorem nq21 (N : NB Z h ob B K l0 l1 l2 l3 l4 l5 l6 l7 l8 l9 l10 l11 l12 wc) : Arv Z h (B 3) (K 3) .double (2 : Int32) l3 (.double (0 : UInt64)) := N.2.2.2.2.2.2.2.2.2.2.2.2.2.2.2.2.2.2.2.2.2.1
theorem nq22 (N : NB Z h ob B K l0 l1 l2 l3 l4 l5 l6 l7 l8 l9 l10 l11 l12 wc) : Arv Z h (B 4) (K 4) .double (2 : Int32) l4 (.double (0 : UInt64)) := N.2.2.2.2.2.2.2.2.2.2.2.2.2.2.2.2.2.2.2.2.2.2.1
theorem nq23 (N : NB Z h ob B K l0 l1 l2 l3 l4 l5 l6 l7 l8 l9 l10 l11 l12 wc) : Arv Z h (B 5) (K 5) .double (2 : Int32) l5 (.double (0 : UInt64)) := N.2.2.2.2.2.2.2.2.2.2.2.2.2.2.2.2.2.2.2.2.2.2.2.1
theorem nq24 (N : NB Z h ob B K l0 l1 l2 l3 l4 l5 l6 l7 l8 l9 l10 l11 l12 wc) : Arv Z h (B 6) (K 6) .double (2 : Int32) l6 (.double (0 : UInt64)) := N.2.2.2.2.2.2.2.2.2.2.2.2.2.2.2.2.2.2.2.2.2.2.2.2.1
theorem nq25 (N : NB Z h ob B K l0 l1 l2 l3 l4 l5 l6 l7 l8 l9 l10 l11 l12 wc) : Arv Z h (B 7) (K 7) .double (2 : Int32) l7 (.double (0 : UInt64)) := N.2.2.2.2.2.2.2.2.2.2.2.2.2.2.2.2.2.2.2.2.2.2.2.2.2.1
theorem nq26 (N : NB Z h ob B K l0 l1 l2 l3 l4 l5 l6 l7 l8 l9 l10 l11 l12 wc) : Arv Z h (B 8) (K 8) .boolean (2 : Int32) l8 (.int (0 : Int32)) := N.2.2.2.2.2.2.2.2.2.2.2.2.2.2.2.2.2.2.2.2.2.2.2.2.2.2.1
theorem nq27 (N : NB Z h ob B K l0 l1 l2 l3 l4 l5 l6 l7 l8 l9 l10 l11 l12 wc) : Arv Z h (B 9) (K 9) .boolean (2 : Int32) l9 (.int (0 : Int32)) := N.2.2.2.2.2.2.2.2.2.2.2.2.2.2.2.2.2.2.2.2.2.2.2.2.2.2.2.1
theorem nq28 (N : NB Z h ob B K l0 l1 l2 l3 l4 l5 l6 l7 l8 l9 l10 l11 l12 wc) : Arv Z h (B 10) (K 10) .boolean (4 : Int32) l10 (.int (0 : Int32)) := N.2.2.2.2.2.2.2.2.2.2.2.2.2.2.2.2.2.2.2.2.2.2.2.2.2.2.2.2.1
theorem nq29 (N : NB Z h ob B K l0 l1 l2 l3 l4 l5 l6 l7 l8 l9 l10 l11 l12 wc) : Arv Z h (B 11) (K 11) .int (2 : Int32) l11 (.int (0 : Int32)) := N.2.2.2.2.2.2.2.2.2.2.2.2.2.2.2.2.2.2.2.2.2.2.2.2.2.2.2.2.2.1
theorem nq30 (N : NB Z h ob B K l0 l1 l2 l3 l4 l5 l6 l7 l8 l9 l10 l11 l12 wc) : Arv Z h (B 12) (K 12) .boolean (2 : Int32) l12 (.int (0 : Int32)) := N.2.2.2.2.2.2.2.2.2.2.2.2.2.2.2.2.2.2.2.2.2.2.2.2.2.2.2.2.2.2
theorem nb_w0 (D : Dis ob B) (N : NB Z h ob B K l0 l1 l2 l3 l4 l5 l6 l7 l8 l9 l10 l11 l12 wc) {sl : Nat} {v : Value} (W : Wr h h' (B 0) sl v) {l' : List Value} (V : Arv Z h' (B 0) (K 0) .double (4 : Int32) l' (.double (0 : UInt64))) : NB Z h' ob B K l' l1 l2 l3 l4 l5 l6 l7 l8 l9 l10 l11 l12 wc :=
  have q := (Nat.ne_of_lt (D.1 0 (by decide))); ⟨(nq0 N).wr W, (nq1 N).other W (Or.inl q), (nq2 N).other W (Or.inl q), (nq3 N).other W (Or.inl q), (nq4 N).other W (Or.inl q), (nq5 N).other W (Or.inl q), (nq6 N).other W (Or.inl q), (nq7 N).other W (Or.inl q), (nq8 N).other W (Or.inl q), (nq9 N).other W (Or.inl q), (nq10 N).other W (Or.inl q), (nq11 N).other W (Or.inl q), (nq12 N).other W (Or.inl q), (nq13 N).other W (Or.inl q), (nq14 N).other W (Or.inl q), (nq15 N).other W (Or.inl q), (nq16 N).other W (Or.inl q), (nq17 N).other W (Or.inl q), V, (nq19 N).other W (Nat.ne_of_gt (D.2 0 1 (by decide) (by decide))), (nq20 N).other W (Nat.ne_of_gt (D.2 0 2 (by decide) (by decide))), (nq21 N).other W (Nat.ne_of_gt (D.2 0 3 (by decide) (by decide))), (nq22 N).other W (Nat.ne_of_gt (D.2 0 4 (by decide) (by decide))), (nq23 N).other W (Nat.ne_of_gt (D.2 0 5 (by decide) (by decide))), (nq24 N).other W (Nat.ne_of_gt (D.2 0 6 (by decide) (by decide))), (nq25 N).other W (Nat.ne_of_gt (D.2 0 7 (by decide) (by decide))), (nq26 N).other W (Nat.ne_of_gt (D.2 0 8 (by decide) (by decide))), (nq27 N).other W (Nat.ne_of_gt (D.2 0 9 (by decide) (by decide))), (nq28 N).other W (Nat.ne_of_gt (D.2 0 10 (by decide) (by decide))), (nq29 N).other W (Nat.ne_of_gt (D.2 0 11 (by decide) (by decide))), (nq30 N).other W (Nat.ne_of_gt (D.2 0 12 (by decide) (by decide)))⟩
theorem nb_k0 (D : Dis ob B) (N : NB Z h ob B K l0 l1 l2 l3 l4 l5 l6 l7 l8 l9 l10 l11 l12 wc) (W : Keep h h' [B 0]) {l' : List Value} (V : Arv Z h' (B 0) (K 0) .double (4 : Int32) l' (.double (0 : UInt64))) : NB Z h' ob B K l' l1 l2 l3 l4 l5 l6 l7 l8 l9 l10 l11 l12 wc :=
  have q : ob ∉ [B 0] := ninS (Nat.ne_of_lt (D.1 0 (by decide))) nin0; ⟨(nq0 N).keep W, (nq1 N).keep W q, (nq2 N).keep W q, (nq3 N).keep W q, (nq4 N).keep W q, (nq5 N).keep W q, (nq6 N).keep W q, (nq7 N).keep W q, (nq8 N).keep W q, (nq9 N).keep W q, (nq10 N).keep W q, (nq11 N).keep W q, (nq12 N).keep W q, (nq13 N).keep W q, (nq14 N).keep W q, (nq15 N).keep W q, (nq16 N).keep W q, (nq17 N).keep W q, V, (nq19 N).keep W (ninS (Nat.ne_of_gt (D.2 0 1 (by decide) (by decide))) nin0), (nq20 N).keep W (ninS (Nat.ne_of_gt (D.2 0 2 (by decide) (by decide))) nin0), (nq21 N).keep W (ninS (Nat.ne_of_gt (D.2 0 3 (by decide) (by decide))) nin0), (nq22 N).keep W (ninS (Nat.ne_of_gt (D.2 0 4 (by decide) (by decide))) nin0), (nq23 N).keep W (ninS (Nat.ne_of_gt (D.2 0 5 (by decide) (by decide))) nin0), (nq24 N).keep W (ninS (Nat.ne_of_gt (D.2 0 6 (by decide) (by decide))) nin0), (nq25 N).keep W (ninS (Nat.ne_of_gt (D.2 0 7 (by decide) (by decide))) nin0), (nq26 N).keep W (ninS (Nat.ne_of_gt (D.2 0 8 (by decide) (by decide))) nin0), (nq27 N).keep W (ninS (Nat.ne_of_gt (D.2 0 9 (by decide) (by decide))) nin0), (nq28 N).keep W (ninS (Nat.ne_of_gt (D.2 0 10 (by decide) (by decide))) nin0), (nq29 N).keep W (ninS (Nat.ne_of_gt (D.2 0 11 (by decide) (by decide))) nin0), (nq30 N).keep W (ninS (Nat.ne_of_gt (D.2 0 12 (by decide) (by decide))) nin0)⟩
theorem nb_w1 (D : Dis ob B) (N : NB Z h ob B K l0 l1 l2 l3 l4 l5 l6 l7 l8 l9 l10 l11 l12 wc) {sl : Nat} {v : Value} (W : Wr h h' (B 1) sl v) {l' : List Value} (V : Arv Z h' (B 1) (K 1) .double (4 : Int32) l' (.double (0 : UInt64))) : NB Z h' ob B K l0 l' l2 l3 l4 l5 l6 l7 l8 l9 l10 l11 l12 wc :=
  have q := (Nat.ne_of_lt (D.1 1 (by decide))); ⟨(nq0 N).wr W, (nq1 N).other W (Or.inl q), (nq2 N).other W (Or.inl q), (nq3 N).other W (Or.inl q), (nq4 N).other W (Or.inl q), (nq5 N).other W (Or.inl q), (nq6 N).other W (Or.inl q), (nq7 N).other W (Or.inl q), (nq8 N).other W (Or.inl q), (nq9 N).other W (Or.inl q), (nq10 N).other W (Or.inl q), (nq11 N).other W (Or.inl q), (nq12 N).other W (Or.inl q), (nq13 N).other W (Or.inl q), (nq14 N).other W (Or.inl q), (nq15 N).other W (Or.inl q), (nq16 N).other W (Or.inl q), (nq17 N).other W (Or.inl q), (nq18 N).other W (Nat.ne_of_lt (D.2 0 1 (by decide) (by decide))), V, (nq20 N).other W (Nat.ne_of_gt (D.2 1 2 (by decide) (by decide))), (nq21 N).other W (Nat.ne_of_gt (D.2 1 3 (by decide) (by decide))), (nq22 N).other W (Nat.ne_of_gt (D.2 1 4 (by decide) (by decide))), (nq23 N).other W (Nat.ne_of_gt (D.2 1 5 (by decide) (by decide))), (nq24 N).other W (Nat.ne_of_gt (D.2 1 6 (by decide) (by decide))), (nq25 N).other W (Nat.ne_of_gt (D.2 1 7 (by decide) (by decide))), (nq26 N).other W (Nat.ne_of_gt (D.2 1 8 (by decide) (by decide))), (nq27 N).other W (Nat.ne_of_gt (D.2 1 9 (by decide) (by decide))), (nq28 N).other W (Nat.ne_of_gt (D.2 1 10 (by decide) (by decide))), (nq29 N).other W (Nat.ne_of_gt (D.2 1 11 (by decide) (by decide))), (nq30 N).other W (Nat.ne_of_gt (D.2 1 12 (by decide) (by decide)))⟩
theorem nb_k1 (D : Dis ob B) (N : NB Z h ob B K l0 l1 l2 l3 l4 l5 l6 l7 l8 l9 l10 l11 l12 wc) (W : Keep h h' [B 1]) {l' : List Value} (V : Arv Z h' (B 1) (K 1) .double (4 : Int32) l' (.double (0 : UInt64))) : NB Z h' ob B K l0 l' l2 l3 l4 l5 l6 l7 l8 l9 l10 l11 l12 wc :=
  have q : ob ∉ [B 1] := ninS (Nat.ne_of_lt (D.1 1 (by decide))) nin0; ⟨(nq0 N).keep W, (nq1 N).keep W q, (nq2 N).keep W q, (nq3 N).keep W q, (nq4 N).keep W q, (nq5 N).keep W q, (nq6 N).keep W q, (nq7 N).keep W q, (nq8 N).keep W q, (nq9 N).keep W q, (nq10 N).keep W q, (nq11 N).keep W q, (nq12 N).keep W q, (nq13 N).keep W q, (nq14 N).keep W q, (nq15 N).keep W q, (nq16 N).keep W q, (nq17 N).keep W q, (nq18 N).keep W (ninS (Nat.ne_of_lt (D.2 0 1 (by decide) (by decide))) nin0), V, (nq20 N).keep W (ninS (Nat.ne_of_gt (D.2 1 2 (by decide) (by decide))) nin0), (nq21 N).keep W (ninS (Nat.ne_of_gt (D.2 1 3 (by decide) (by decide))) nin0), (nq22 N).keep W (ninS (Nat.ne_of_gt (D.2 1 4 (by decide) (by decide))) nin0), (nq23 N).keep W (ninS (Nat.ne_of_gt (D.2 1 5 (by decide) (by decide))) nin0), (nq24 N).keep W (ninS (Nat.ne_of_gt (D.2 1 6 (by decide) (by decide))) nin0), (nq25 N).keep W (ninS (Nat.ne_of_gt (D.2 1 7 (by decide) (by decide))) nin0), (nq26 N).keep W (ninS (Nat.ne_of_gt (D.2 1 8 (by decide) (by decide))) nin0), (nq27 N).keep W (ninS (Nat.ne_of_gt (D.2 1 9 (by decide) (by decide))) nin0), (nq28 N).keep W (ninS (Nat.ne_of_gt (D.2 1 10 (by decide) (by decide))) nin0), (nq29 N).keep W (ninS (Nat.ne_of_gt (D.2 1 11 (by decide) (by decide))) nin0), (nq30 N).keep W (ninS (Nat.ne_of_gt (D.2 1 12 (by decide) (by decide))) nin0)⟩
theorem nb_w2 (D : Dis ob B) (N : NB Z h ob B K l0 l1 l2 l3 l4 l5 l6 l7 l8 l9 l10 l11 l12 wc) {sl : Nat} {v : Value} (W : Wr h h' (B 2) sl v) {l' : List Value} (V : Arv Z h' (B 2) (K 2) .double (4 : Int32) l' (.double (0 : UInt64))) : NB Z h' ob B K l0 l1 l' l3 l4 l5 l6 l7 l8 l9 l10 l11 l12 wc :=
  have q := (Nat.ne_of_lt (D.1 2 (by decide))); ⟨(nq0 N).wr W, (nq1 N).other W (Or.inl q), (nq2 N).other W (Or.inl q), (nq3 N).other W (Or.inl q), (nq4 N).other W (Or.inl q), (nq5 N).other W (Or.inl q), (nq6 N).other W (Or.inl q), (nq7 N).other W (Or.inl q), (nq8 N).other W (Or.inl q), (nq9 N).other W (Or.inl q), (nq10 N).other W (Or.inl q), (nq11 N).other W (Or.inl q), (nq12 N).other W (Or.inl q), (nq13 N).other W (Or.inl q), (nq14 N).other W (Or.inl q), (nq15 N).other W (Or.inl q), (nq16 N).other W (Or.inl q), (nq17 N).other W (Or.inl q), (nq18 N).other W (Nat.ne_of_lt (D.2 0 2 (by decide) (by decide))), (nq19 N).other W (Nat.ne_of_lt (D.2 1 2 (by decide) (by decide))), V, (nq21 N).other W (Nat.ne_of_gt (D.2 2 3 (by decide) (by decide))), (nq22 N).other W (Nat.ne_of_gt (D.2 2 4 (by decide) (by decide))), (nq23 N).other W (Nat.ne_of_gt (D.2 2 5 (by decide) (by decide))), (nq24 N).other W (Nat.ne_of_gt (D.2 2 6 (by decide) (by decide))), (nq25 N).other W (Nat.ne_of_gt (D.2 2 7 (by decide) (by decide))), (nq26 N).other W (Nat.ne_of_gt (D.2 2 8 (by decide) (by decide))), (nq27 N).other W (Nat.ne_of_gt (D.2 2 9 (by decide) (by decide))), (nq28 N).other W (Nat.ne_of_gt (D.2 2 10 (by decide) (by decide))), (nq29 N).other W (Nat.ne_of_gt (D.2 2 11 (by decide) (by decide))), (nq30 N).other W (Nat.ne_of_gt (D.2 2 12 (by decide) (by decide)))⟩
theorem nb_k2 (D : Dis ob B) (N : NB Z h ob B K l0 l1 l2 l3 l4 l5 l6 l7 l8 l9 l10 l11 l12 wc) (W : Keep h h' [B 2]) {l' : List Value} (V : Arv Z h' (B 2) (K 2) .double (4 : Int32) l' (.double (0 : UInt64))) : NB Z h' ob B K l0 l1 l' l3 l4 l5 l6 l7 l8 l9 l10 l11 l12 wc :=
  have q : ob ∉ [B 2] := ninS (Nat.ne_of_lt (D.1 2 (by decide))) nin0; ⟨(nq0 N).keep W, (nq1 N).keep W q, (nq2 N).keep W q, (nq3 N).keep W q, (nq4 N).keep W q, (nq5 N).keep W q, (nq6 N).keep W q, (nq7 N).keep W q, (nq8 N).keep W q, (nq9 N).keep W q, (nq10 N).keep W q, (nq11 N).keep W q, (nq12 N).keep W q, (nq13 N).keep W q, (nq14 N).keep W q, (nq15 N).keep W q, (nq16 N).keep W q, (nq17 N).keep W q, (nq18 N).keep W (ninS (Nat.ne_of_lt (D.2 0 2 (by decide) (by decide))) nin0), (nq19 N).keep W (ninS (Nat.ne_of_lt (D.2 1 2 (by decide) (by decide))) nin0), V, (nq21 N).keep W (ninS (Nat.ne_of_gt (D.2 2 3 (by decide) (by decide))) nin0), (nq22 N).keep W (ninS (Nat.ne_of_gt (D.2 2 4 (by decide) (by decide))) nin0), (nq23 N).keep W (ninS (Nat.ne_of_gt (D.2 2 5 (by decide) (by decide))) nin0), (nq24 N).keep W (ninS (Nat.ne_of_gt (D.2 2 6 (by decide) (by decide))) nin0), (nq25 N).keep W (ninS (Nat.ne_of_gt (D.2 2 7 (by decide) (by decide))) nin0), (nq26 N).keep W (ninS (Nat.ne_of_gt (D.2 2 8 (by decide) (by decide))) nin0), (nq27 N).keep W (ninS (Nat.ne_of_gt (D.2 2 9 (by decide) (by decide))) nin0), (nq28 N).keep W (ninS (Nat.ne_of_gt (D.2 2 10 (by decide) (by decide))) nin0), (nq29 N).keep W (ninS (Nat.ne_of_gt (D.2 2 11 (by decide) (by decide))) nin0), (nq30 N).keep W (ninS (Nat.ne_of_gt (D.2 2 12 (by decide) (by decide))) nin0)⟩
theorem nb_w3 (D : Dis ob B) (N : NB Z h ob B K l0 l1 l2 l3 l4 l5 l6 l7 l8 l9 l10 l11 l12 wc) {sl : Nat} {v : Value} (W : Wr h h' (B 3) sl v) {l' : List Value} (V : Arv Z h' (B 3) (K 3) .double (2 : Int32) l' (.double (0 : UInt64))) : NB Z h' ob B K l0 l1 l2 l' l4 l5 l6 l7 l8 l9 l10 l11 l12 wc :=
  have q := (Nat.ne_of_lt (D.1 3 (by decide))); ⟨(nq0 N).wr W, (nq1 N).other W (Or.inl q), (nq2 N).other W (Or.inl q), (nq3 N).other W (Or.inl q), (nq4 N).other W (Or.inl q), (nq5 N).other W (Or.inl q), (nq6 N).other W (Or.inl q), (nq7 N).other W (Or.inl q), (nq8 N).other W (Or.inl q), (nq9 N).other W (Or.inl q), (nq10 N).other W (Or.inl q), (nq11 N).other W (Or.inl q), (nq12 N).other W (Or.inl q), (nq13 N).other W (Or.inl q), (nq14 N).other W (Or.inl q), (nq15 N).other W (Or.inl q), (nq16 N).other W (Or.inl q), (nq17 N).other W (Or.inl q), (nq18 N).other W (Nat.ne_of_lt (D.2 0 3 (by decide) (by decide))), (nq19 N).other W (Nat.ne_of_lt (D.2 1 3 (by decide) (by decide))), (nq20 N).other W (Nat.ne_of_lt (D.2 2 3 (by decide) (by decide))), V, (nq22 N).other W (Nat.ne_of_gt (D.2 3 4 (by decide) (by decide))), (nq23 N).other W (Nat.ne_of_gt (D.2 3 5 (by decide) (by decide))), (nq24 N).other W (Nat.ne_of_gt (D.2 3 6 (by decide) (by decide))), (nq25 N).other W (Nat.ne_of_gt (D.2 3 7 (by decide) (by decide))), (nq26 N).other W (Nat.ne_of_gt (D.2 3 8 (by decide) (by decide))), (nq27 N).other W (Nat.ne_of_gt (D.2 3 9 (by decide) (by decide))), (nq28 N).other W (Nat.ne_of_gt (D.2 3 10 (by decide) (by decide))), (nq29 N).other W (Nat.ne_of_gt (D.2 3 11 (by decide) (by decide))), (nq30 N).other W (Nat.ne_of_gt (D.2 3 12 (by decide) (by decide)))⟩
theorem nb_k3 (D : Dis ob B) (N : NB Z h ob B K l0 l1 l2 l3 l4 l5 l6 l7 l8 l9 l10 l11 l12 wc) (W : Keep h h' [B 3]) {l' : List Value} (V : Arv Z h' (B 3) (K 3) .double (2 : Int32) l' (.double (0 : UInt64))) : NB Z h' ob B K l0 l1 l2 l' l4 l5 l6 l7 l8 l9 l10 l11 l12 wc :=
  have q : ob ∉ [B 3] := ninS (Nat.ne_of_lt (D.1 3 (by decide))) nin0; ⟨(nq0 N).keep W, (nq1 N).keep W q, (nq2 N).keep W q, (nq3 N).keep W q, (nq4 N).keep W q, (nq5 N).keep W q, (nq6 N).keep W q, (nq7 N).keep W q, (nq8 N).keep W q, (nq9 N).keep W q, (nq10 N).keep W q, (nq11 N).keep W q, (nq12 N).keep W q, (nq13 N).keep W q, (nq14 N).keep W q, (nq15 N).keep W q, (nq16 N).keep W q, (nq17 N).keep W q, (nq18 N).keep W (ninS (Nat.ne_of_lt (D.2 0 3 (by decide) (by decide))) nin0), (nq19 N).keep W (ninS (Nat.ne_of_lt (D.2 1 3 (by decide) (by decide))) nin0), (nq20 N).keep W (ninS (Nat.ne_of_lt (D.2 2 3 (by decide) (by decide))) nin0), V, (nq22 N).keep W (ninS (Nat.ne_of_gt (D.2 3 4 (by decide) (by decide))) nin0), (nq23 N).keep W (ninS (Nat.ne_of_gt (D.2 3 5 (by decide) (by decide))) nin0), (nq24 N).keep W (ninS (Nat.ne_of_gt (D.2 3 6 (by decide) (by decide))) nin0), (nq25 N).keep W (ninS (Nat.ne_of_gt (D.2 3 7 (by decide) (by decide))) nin0), (nq26 N).keep W (ninS (Nat.ne_of_gt (D.2 3 8 (by decide) (by decide))) nin0), (nq27 N).keep W (ninS (Nat.ne_of_gt (D.2 3 9 (by decide) (by decide))) nin0), (nq28 N).keep W (ninS (Nat.ne_of_gt (D.2 3 10 (by decide) (by decide))) nin0), (nq29 N).keep W (ninS (Nat.ne_of_gt (D.2 3 11 (by decide) (by decide))) nin0), (nq30 N).keep W (ninS (Nat.ne_of_gt (D.2 3 12 (by decide) (by decide))) nin0)⟩
theorem nb_w4 (D : Dis ob B) (N : NB Z h ob B K l0 l1 l2 l3 l4 l5 l6 l7 l8 l9 l10 l11 l12 wc) {sl : Nat} {v : Value} (W : Wr h h' (B 4) sl v) {l' : List Value} (V : Arv Z h' (B 4) (K 4) .double (2 : Int32) l' (.double (0 : UInt64))) : NB Z h' ob B K l0 l1 l2 l3 l' l5 l6 l7 l8 l9 l10 l11 l12 wc :=
  have q := (Nat.ne_of_lt (D.1 4 (by decide))); ⟨(nq0 N).wr W, (nq1 N).other W (Or.inl q), (nq2 N).other W (Or.inl q), (nq3 N).other W (Or.inl q), (nq4 N).other W (Or.inl q), (nq5 N).other W (Or.inl q), (nq6 N).other W (Or.inl q), (nq7 N).other W (Or.inl q), (nq8 N).other W (Or.inl q), (nq9 N).other W (Or.inl q), (nq10 N).other W (Or.inl q), (nq11 N).other W (Or.inl q), (nq12 N).other W (Or.inl q), (nq13 N).other W (Or.inl q), (nq14 N).other W (Or.inl q), (nq15 N).other W (Or.inl q), (nq16 N).other W (Or.inl q), (nq17 N).other W (Or.inl q), (nq18 N).other W (Nat.ne_of_lt (D.2 0 4 (by decide) (by decide))), (nq19 N).other W (Nat.ne_of_lt (D.2 1 4 (by decide) (by decide))), (nq20 N).other W (Nat.ne_of_lt (D.2 2 4 (by decide) (by decide))), (nq21 N).other W (Nat.ne_of_lt (D.2 3 4 (by decide) (by decide))), V, (nq23 N).other W (Nat.ne_of_gt (D.2 4 5 (by decide) (by decide))), (nq24 N).other W (Nat.ne_of_gt (D.2 4 6 (by decide) (by decide))), (nq25 N).other W (Nat.ne_of_gt (D.2 4 7 (by decide) (by decide))), (nq26 N).other W (Nat.ne_of_gt (D.2 4 8 (by decide) (by decide))), (nq27 N).other W (Nat.ne_of_gt (D.2 4 9 (by decide) (by decide))), (nq28 N).other W (Nat.ne_of_gt (D.2 4 10 (by decide) (by decide))), (nq29 N).other W (Nat.ne_of_gt (D.2 4 11 (by decide) (by decide))), (nq30 N).other W (Nat.ne_of_gt (D.2 4 12 (by decide) (by decide)))⟩
theorem nb_k4 (D : Dis ob B) (N : NB Z h ob B K l0 l1 l2 l3 l4 l5 l6 l7 l8 l9 l10 l11 l12 wc) (W : Keep h h' [B 4]) {l' : List Value} (V : Arv Z h' (B 4) (K 4) .double (2 : Int32) l' (.double (0 : UInt64))) : NB Z h' ob B K l0 l1 l2 l3 l' l5 l6 l7 l8 l9 l10 l11 l12 wc :=
  have q : ob ∉ [B 4] := ninS (Nat.ne_of_lt (D.1 4 (by decide))) nin0; ⟨(nq0 N).keep W, (nq1 N).keep W q, (nq2 N).keep W q, (nq3 N).keep W q, (nq4 N).keep W q, (nq5 N).keep W q, (nq6 N).keep W q, (nq7 N).keep W q, (nq8 N).keep W q, (nq9 N).keep W q, (nq10 N).keep W q, (nq11 N).keep W q, (nq12 N).keep W q, (nq13 N).keep W q, (nq14 N).keep W q, (nq15 N).keep W q, (nq16 N).keep W q, (nq17 N).keep W q, (nq18 N).keep W (ninS (Nat.ne_of_lt (D.2 0 4 (by decide) (by decide))) nin0), (nq19 N).keep W (ninS (Nat.ne_of_lt (D.2 1 4 (by decide) (by decide))) nin0), (nq20 N).keep W (ninS (Nat.ne_of_lt (D.2 2 4 (by decide) (by decide))) nin0), (nq21 N).keep W (ninS (Nat.ne_of_lt (D.2 3 4 (by decide) (by decide))) nin0), V, (nq23 N).keep W (ninS (Nat.ne_of_gt (D.2 4 5 (by decide) (by decide))) nin0), (nq24 N).keep W (ninS (Nat.ne_of_gt (D.2 4 6 (by decide) (by decide))) nin0), (nq25 N).keep W (ninS (Nat.ne_of_gt (D.2 4 7 (by decide) (by decide))) nin0), (nq26 N).keep W (ninS (Nat.ne_of_gt (D.2 4 8 (by decide) (by decide))) nin0), (nq27 N).keep W (ninS (Nat.ne_of_gt (D.2 4 9 (by decide) (by decide))) nin0), (nq28 N).keep W (ninS (Nat.ne_of_gt (D.2 4 10 (by decide) (by decide))) nin0), (nq29 N).keep W (ninS (Nat.ne_of_gt (D.2 4 11 (by decide) (by decide))) nin0), (nq30 N).keep W (ninS (Nat.ne_of_gt (D.2 4 12 (by decide) (by decide))) nin0)⟩
theorem nb_w5 (D : Dis ob B) (N : NB Z h ob B K l0 l1 l2 l3 l4 l5 l6 l7 l8 l9 l10 l11 l12 wc) {sl : Nat} {v : Value} (W : Wr h h' (B 5) sl v) {l' : List Value} (V : Arv Z h' (B 5) (K 5) .double (2 : Int32) l' (.double (0 : UInt64))) : NB Z h' ob B K l0 l1 l2 l3 l4 l' l6 l7 l8 l9 l10 l11 l12 wc :=
  have q := (Nat.ne_of_lt (D.1 5 (by decide))); ⟨(nq0 N).wr W, (nq1 N).other W (Or.inl q), (nq2 N).other W (Or.inl q), (nq3 N).other W (Or.inl q), (nq4 N).other W (Or.inl q), (nq5 N).other W (Or.inl q), (nq6 N).other W (Or.inl q), (nq7 N).other W (Or.inl q), (nq8 N).other W (Or.inl q), (nq9 N).other W (Or.inl q), (nq10 N).other W (Or.inl q), (nq11 N).other W (Or.inl q), (nq12 N).other W (Or.inl q), (nq13 N).other W (Or.inl q), (nq14 N).other W (Or.inl q), (nq15 N).other W (Or.inl q), (nq16 N).other W (Or.inl q), (nq17 N).other W (Or.inl q), (nq18 N).other W (Nat.ne_of_lt (D.2 0 5 (by decide) (by decide))), (nq19 N).other W (Nat.ne_of_lt (D.2 1 5 (by decide) (by decide))), (nq20 N).other W (Nat.ne_of_lt (D.2 2 5 (by decide) (by decide))), (nq21 N).other W (Nat.ne_of_lt (D.2 3 5 (by decide) (by decide))), (nq22 N).other W (Nat.ne_of_lt (D.2 4 5 (by decide) (by decide))), V, (nq24 N).other W (Nat.ne_of_gt (D.2 5 6 (by decide) (by decide))), (nq25 N).other W (Nat.ne_of_gt (D.2 5 7 (by decide) (by decide))), (nq26 N).other W (Nat.ne_of_gt (D.2 5 8 (by decide) (by decide))), (nq27 N).other W (Nat.ne_of_gt (D.2 5 9 (by decide) (by decide))), (nq28 N).other W (Nat.ne_of_gt (D.2 5 10 (by decide) (by decide))), (nq29 N).other W (Nat.ne_of_gt (D.2 5 11 (by decide) (by decide))), (nq30 N).other W (Nat.ne_of_gt (D.2 5 12 (by decide) (by decide)))⟩
theorem nb_k5 (D : Dis ob B) (N : NB Z h ob B K l0 l1 l2 l3 l4 l5 l6 l7 l8 l9 l10 l11 l12 wc) (W : Keep h h' [B 5]) {l' : List Value} (V : Arv Z h' (B 5) (K 5) .double (2 : Int32) l' (.double (0 : UInt64))) : NB Z h' ob B K l0 l1 l2 l3 l4 l' l6 l7 l8 l9 l10 l11 l12 wc :=
  have q : ob ∉ [B 5] := ninS (Nat.ne_of_lt (D.1 5 (by decide))) nin0; ⟨(nq0 N).keep W, (nq1 N).keep W q, (nq2 N).keep W q, (nq3 N).keep W q, (nq4 N).keep W q, (nq5 N).keep W q, (nq6 N).keep W q, (nq7 N).keep W q, (nq8 N).keep W q, (nq9 N).keep W q, (nq10 N).keep W q, (nq11 N).keep W q, (nq12 N).keep W q, (nq13 N).keep W q, (nq14 N).keep W q, (nq15 N).keep W q, (nq16 N).keep W q, (nq17 N).keep W q, (nq18 N).keep W (ninS (Nat.ne_of_lt (D.2 0 5 (by decide) (by decide))) nin0), (nq19 N).keep W (ninS (Nat.ne_of_lt (D.2 1 5 (by decide) (by decide))) nin0), (nq20 N).keep W (ninS (Nat.ne_of_lt (D.2 2 5 (by decide) (by decide))) nin0), (nq21 N).keep W (ninS (Nat.ne_of_lt (D.2 3 5 (by decide) (by decide))) nin0), (nq22 N).keep W (ninS (Nat.ne_of_lt (D.2 4 5 (by decide) (by decide))) nin0), V, (nq24 N).keep W (ninS (Nat.ne_of_gt (D.2 5 6 (by decide) (by decide))) nin0), (nq25 N).keep W (ninS (Nat.ne_of_gt (D.2 5 7 (by decide) (by decide))) nin0), (nq26 N).keep W (ninS (Nat.ne_of_gt (D.2 5 8 (by decide) (by decide))) nin0), (nq27 N).keep W (ninS (Nat.ne_of_gt (D.2 5 9 (by decide) (by decide))) nin0), (nq28 N).keep W (ninS (Nat.ne_of_gt (D.2 5 10 (by decide) (by decide))) nin0), (nq29 N).keep W (ninS (Nat.ne_of_gt (D.2 5 11 (by decide) (by decide))) nin0), (nq30 N).keep W (ninS (Nat.ne_of_gt (D.2 5 12 (by decide) (by decide))) nin0)⟩
theorem nb_w6 (D : Dis ob B) (N : NB Z h ob B K l0 l1 l2 l3 l4 l5 l6 l7 l8 l9 l10 l11 l12 wc) {sl : Nat} {v : Value} (W : Wr h h' (B 6) sl v) {l' : List Value} (V : Arv Z h' (B 6) (K 6) .double (2 : Int32) l' (.double (0 : UInt64))) : NB Z h' ob B K l0 l1 l2 l3 l4 l5 l' l7 l8 l9 l10 l11 l12 wc :=
  have q := (Nat.ne_of_lt (D.1 6 (by decide))); ⟨(nq0 N).wr W, (nq1 N).other W (Or.inl q), (nq2 N).other W (Or.inl q), (nq3 N).other W (Or.inl q), (nq4 N).other W (Or.inl q), (nq5 N).other W (Or.inl q), (nq6 N).other W (Or.inl q), (nq7 N).other W (Or.inl q), (nq8 N).other W (Or.inl q), (nq9 N).other W (Or.inl q), (nq10 N).other W (Or.inl q), (nq11 N).other W (Or.inl q), (nq12 N).other W (Or.inl q), (nq13 N).other W (Or.inl q), (nq14 N).other W (Or.inl q), (nq15 N).other W (Or.inl q), (nq16 N).other W (Or.inl q), (nq17 N).other W (Or.inl q), (nq18 N).other W (Nat.ne_of_lt (D.2 0 6 (by decide) (by decide))), (nq19 N).other W (Nat.ne_of_lt (D.2 1 6 (by decide) (by decide))), (nq20 N).other W (Nat.ne_of_lt (D.2 2 6 (by decide) (by decide))), (nq21 N).other W (Nat.ne_of_lt (D.2 3 6 (by decide) (by decide))), (nq22 N).other W (Nat.ne_of_lt (D.2 4 6 (by decide) (by decide))), (nq23 N).other W (Nat.ne_of_lt (D.2 5 6 (by decide) (by decide))), V, (nq25 N).other W (Nat.ne_of_gt (D.2 6 7 (by decide) (by decide))), (nq26 N).other W (Nat.ne_of_gt (D.2 6 8 (by decide) (by decide))), (nq27 N).other W (Nat.ne_of_gt (D.2 6 9 (by decide) (by decide))), (nq28 N).other W (Nat.ne_of_gt (D.2 6 10 (by decide) (by decide))), (nq29 N).other W (Nat.ne_of_gt (D.2 6 11 (by decide) (by decide))), (nq30 N).other W (Nat.ne_of_gt (D.2 6 12 (by decide) (by decide)))⟩
theorem nb_k6 (D : Dis ob B) (N : NB Z h ob B K l0 l1 l2 l3 l4 l5 l6 l7 l8 l9 l10 l11 l12 wc) (W : Keep h h' [B 6]) {l' : List Value} (V : Arv Z h' (B 6) (K 6) .double (2 : Int32) l' (.double (0 : UInt64))) : NB Z h' ob B K l0 l1 l2 l3 l4 l5 l' l7 l8 l9 l10 l11 l12 wc :=
  have q : ob ∉ [B 6] := ninS (Nat.ne_of_lt (D.1 6 (by decide))) nin0; ⟨(nq0 N).keep W, (nq1 N).keep W q, (nq2 N).keep W q, (nq3 N).keep W q, (nq4 N).keep W q, (nq5 N).keep W q, (nq6 N).keep W q, (nq7 N).keep W q, (nq8 N).keep W q, (nq9 N).keep W q, (nq10 N).keep W q, (nq11 N).keep W q, (nq12 N).keep W q, (nq13 N).keep W q, (nq14 N).keep W q, (nq15 N).keep W q, (nq16 N).keep W q, (nq17 N).keep W q, (nq18 N).keep W (ninS (Nat.ne_of_lt (D.2 0 6 (by decide) (by decide))) nin0), (nq19 N).keep W (ninS (Nat.ne_of_lt (D.2 1 6 (by decide) (by decide))) nin0), (nq20 N).keep W (ninS (Nat.ne_of_lt (D.2 2 6 (by decide) (by decide))) nin0), (nq21 N).keep W (ninS (Nat.ne_of_lt (D.2 3 6 (by decide) (by decide))) nin0), (nq22 N).keep W (ninS (Nat.ne_of_lt (D.2 4 6 (by decide) (by decide))) nin0), (nq23 N).keep W (ninS (Nat.ne_of_lt (D.2 5 6 (by decide) (by decide))) nin0), V, (nq25 N).keep W (ninS (Nat.ne_of_gt (D.2 6 7 (by decide) (by decide))) nin0), (nq26 N).keep W (ninS (Nat.ne_of_gt (D.2 6 8 (by decide) (by decide))) nin0), (nq27 N).keep W (ninS (Nat.ne_of_gt (D.2 6 9 (by decide) (by decide))) nin0), (nq28 N).keep W (ninS (Nat.ne_of_gt (D.2 6 10 (by decide) (by decide))) nin0), (nq29 N).keep W (ninS (Nat.ne_of_gt (D.2 6 11 (by decide) (by decide))) nin0), (nq30 N).keep W (ninS (Nat.ne_of_gt (D.2 6 12 (by decide) (by decide))) nin0)⟩
theorem nb_w7 (D : Dis ob B) (N : NB Z h ob B K l0 l1 l2 l3 l4 l5 l6 l7 l8 l9 l10 l11 l12 wc) {sl : Nat} {v : Value} (W : Wr h h' (B 7) sl v) {l' : List Value} (V : Arv Z h' (B 7) (K 7) .double (2 : Int32) l' (.double (0 : UInt64))) : NB Z h' ob B K l0 l1 l2 l3 l4 l5 l6 l' l8 l9 l10 l11 l12 wc :=
  have q := (Nat.ne_of_lt (D.1 7 (by decide))); ⟨(nq0 N).wr W, (nq1 N).other W (Or.inl q), (nq2 N).other W (Or.inl q), (nq3 N).other W (Or.inl q), (nq4 N).other W (Or.inl q), (nq5 N).other W (Or.inl q), (nq6 N).other W (Or.inl q), (nq7 N).other W (Or.inl q), (nq8 N).other W (Or.inl q), (nq9 N).other W (Or.inl q), (nq10 N).other W (Or.inl q), (nq11 N).other W (Or.inl q), (nq12 N).other W (Or.inl q), (nq13 N).other W (Or.inl q), (nq14 N).other W (Or.inl q), (nq15 N).other W (Or.inl q), (nq16 N).other W (Or.inl q), (nq17 N).other W (Or.inl q), (nq18 N).other W (Nat.ne_of_lt (D.2 0 7 (by decide) (by decide))), (nq19 N).other W (Nat.ne_of_lt (D.2 1 7 (by decide) (by decide))), (nq20 N).other W (Nat.ne_of_lt (D.2 2 7 (by decide) (by decide))), (nq21 N).other W (Nat.ne_of_lt (D.2 3 7 (by decide) (by decide))), (nq22 N).other W (Nat.ne_of_lt (D.2 4 7 (by decide) (by decide))), (nq23 N).other W (Nat.ne_of_lt (D.2 5 7 (by decide) (by decide))), (nq24 N).other W (Nat.ne_of_lt (D.2 6 7 (by decide) (by decide))), V, (nq26 N).other W (Nat.ne_of_gt (D.2 7 8 (by decide) (by decide))), (nq27 N).other W (Nat.ne_of_gt (D.2 7 9 (by decide) (by decide))), (nq28 N).other W (Nat.ne_of_gt (D.2 7 10 (by decide) (by decide))), (nq29 N).other W (Nat.ne_of_gt (D.2 7 11 (by decide) (by decide))), (nq30 N).other W (Nat.ne_of_gt (D.2 7 12 (by decide) (by decide)))⟩
theorem nb_k7 (D : Dis ob B) (N : NB Z h ob B K l0 l1 l2 l3 l4 l5 l6 l7 l8 l9 l10 l11 l12 wc) (W : Keep h h' [B 7]) {l' : List Value} (V : Arv Z h' (B 7) (K 7) .double (2 : Int32) l' (.double (0 : UInt64))) : NB Z h' ob B K l0 l1 l2 l3 l4 l5 l6 l' l8 l9 l10 l11 l12 wc :=
  have q : ob ∉ [B 7] := ninS (Nat.ne_of_lt (D.1 7 (by decide))) nin0; ⟨(nq0 N).keep W, (nq1 N).keep W q, (nq2 N).keep W q, (nq3 N).keep W q, (nq4 N).keep W q, (nq5 N).keep W q, (nq6 N).keep W q, (nq7 N).keep W q, (nq8 N).keep W q, (nq9 N).keep W q, (nq10 N).keep W q, (nq11 N).keep W q, (nq12 N).keep W q, (nq13 N).keep W q, (nq14 N).keep W q, (nq15 N).keep W q, (nq16 N).keep W q, (nq17 N).keep W q, (nq18 N).keep W (ninS (Nat.ne_of_lt (D.2 0 7 (by decide) (by decide))) nin0), (nq19 N).keep W (ninS (Nat.ne_of_lt (D.2 1 7 (by decide) (by decide))) nin0), (nq20 N).keep W (ninS (Nat.ne_of_lt (D.2 2 7 (by decide) (by decide))) nin0), (nq21 N).keep W (ninS (Nat.ne_of_lt (D.2 3 7 (by decide) (by decide))) nin0), (nq22 N).keep W (ninS (Nat.ne_of_lt (D.2 4 7 (by decide) (by decide))) nin0), (nq23 N).keep W (ninS (Nat.ne_of_lt (D.2 5 7 (by decide) (by decide))) nin0), (nq24 N).keep W (ninS (Nat.ne_of_lt (D.2 6 7 (by decide) (by decide))) nin0), V, (nq26 N).keep W (ninS (Nat.ne_of_gt (D.2 7 8 (by decide) (by decide))) nin0), (nq27 N).keep W (ninS (Nat.ne_of_gt (D.2 7 9 (by decide) (by decide))) nin0), (nq28 N).keep W (ninS (Nat.ne_of_gt (D.2 7 10 (by decide) (by decide))) nin0), (nq29 N).keep W (ninS (Nat.ne_of_gt (D.2 7 11 (by decide) (by decide))) nin0), (nq30 N).keep W (ninS (Nat.ne_of_gt (D.2 7 12 (by decide) (by decide))) nin0)⟩
theorem nb_w8 (D : Dis ob B) (N : NB Z h ob B K l0 l1 l2 l3 l4 l5 l6 l7 l8 l9 l10 l11 l12 wc) {sl : Nat} {v : Value} (W : Wr h h' (B 8) sl v) {l' : List Value} (V : Arv Z h' (B 8) (K 8) .boolean (2 : Int32) l' (.int (0 : Int32))) : NB Z h' ob B K l0 l1 l2 l3 l4 l5 l6 l7 l' l9 l10 l11 l12 wc :=
  have q := (Nat.ne_of_lt (D.1 8 (by decide))); ⟨(nq0 N).wr W, (nq1 N).other W (Or.inl q), (nq2 N).other W (Or.inl q), (nq3 N).other W (Or.inl q), (nq4 N).other W (Or.inl q), (nq5 N).other W (Or.inl q), (nq6 N).other W (Or.inl q), (nq7 N).other W (Or.inl q), (nq8 N).other W (Or.inl q), (nq9 N).other W (Or.inl q), (nq10 N).other W (Or.inl q), (nq11 N).other W (Or.inl q), (nq12 N).other W (Or.inl q), (nq13 N).other W (Or.inl q), (nq14 N).other W (Or.inl q), (nq15 N).other W (Or.inl q), (nq16 N).other W (Or.inl q), (nq17 N).other W (Or.inl q), (nq18 N).other W (Nat.ne_of_lt (D.2 0 8 (by decide) (by decide))), (nq19 N).other W (Nat.ne_of_lt (D.2 1 8 (by decide) (by decide))), (nq20 N).other W (Nat.ne_of_lt (D.2 2 8 (by decide) (by decide))), (nq21 N).other W (Nat.ne_of_lt (D.2 3 8 (by decide) (by decide))), (nq22 N).other W (Nat.ne_of_lt (D.2 4 8 (by decide) (by decide))), (nq23 N).other W (Nat.ne_of_lt (D.2 5 8 (by decide) (by decide))), (nq24 N).other W (Nat.ne_of_lt (D.2 6 8 (by decide) (by decide))), (nq25 N).other W (Nat.ne_of_lt (D.2 7 8 (by decide) (by decide))), V, (nq27 N).other W (Nat.ne_of_gt (D.2 8 9 (by decide) (by decide))), (nq28 N).other W (Nat.ne_of_gt (D.2 8 10 (by decide) (by decide))), (nq29 N).other W (Nat.ne_of_gt (D.2 8 11 (by decide) (by decide))), (nq30 N).other W (Nat.ne_of_gt (D.2 8 12 (by decide) (by decide)))⟩
theorem nb_k8 (D : Dis ob B) (N : NB Z h ob B K l0 l1 l2 l3 l4 l5 l6 l7 l8 l9 l10 l11 l12 wc) (W : Keep h h' [B 8]) {l' : List Value} (V : Arv Z h' (B 8) (K 8) .boolean (2 : Int32) l' (.int (0 : Int32))) : NB Z h' ob B K l0 l1 l2 l3 l4 l5 l6 l7 l' l9 l10 l11 l12 wc :=
  have q : ob ∉ [B 8] := ninS (Nat.ne_of_lt (D.1 8 (by decide))) nin0; ⟨(nq0 N).keep W, (nq1 N).keep W q, (nq2 N).keep W q, (nq3 N).keep W q, (nq4 N).keep W q, (nq5 N).keep W q, (nq6 N).keep W q, (nq7 N).keep W q, (nq8 N).keep W q, (nq9 N).keep W q, (nq10 N).keep W q, (nq11 N).keep W q, (nq12 N).keep W q, (nq13 N).keep W q, (nq14 N).keep W q, (nq15 N).keep W q, (nq16 N).keep W q, (nq17 N).keep W q, (nq18 N).keep W (ninS (Nat.ne_of_lt (D.2 0 8 (by decide) (by decide))) nin0), (nq19 N).keep W (ninS (Nat.ne_of_lt (D.2 1 8 (by decide) (by decide))) nin0), (nq20 N).keep W (ninS (Nat.ne_of_lt (D.2 2 8 (by decide) (by decide))) nin0), (nq21 N).keep W (ninS (Nat.ne_of_lt (D.2 3 8 (by decide) (by decide))) nin0), (nq22 N).keep W (ninS (Nat.ne_of_lt (D.2 4 8 (by decide) (by decide))) nin0), (nq23 N).keep W (ninS (Nat.ne_of_lt (D.2 5 8 (by decide) (by decide))) nin0), (nq24 N).keep W (ninS (Nat.ne_of_lt (D.2 6 8 (by decide) (by decide))) nin0), (nq25 N).keep W (ninS (Nat.ne_of_lt (D.2 7 8 (by decide) (by decide))) nin0), V, (nq27 N).keep W (ninS (Nat.ne_of_gt (D.2 8 9 (by decide) (by decide))) nin0), (nq28 N).keep W (ninS (Nat.ne_of_gt (D.2 8 10 (by decide) (by decide))) nin0), (nq29 N).keep W (ninS (Nat.ne_of_gt (D.2 8 11 (by decide) (by decide))) nin0), (nq30 N).keep W (ninS (Nat.ne_of_gt (D.2 8 12 (by decide) (by decide))) nin0)⟩
theorem nb_w9 (D : Dis ob B) (N : NB Z h ob B K l0 l1 l2 l3 l4 l5 l6 l7 l8 l9 l10 l11 l12 wc) {sl : Nat} {v : Value} (W : Wr h h' (B 9) sl v) {l' : List Value} (V : Arv Z h' (B 9) (K 9) .boolean (2 : Int32) l' (.int (0 : Int32))) : NB Z h' ob B K l0 l1 l2 l3 l4 l5 l6 l7 l8 l' l10 l11 l12 wc :=
  have q := (Nat.ne_of_lt (D.1 9 (by decide))); ⟨(nq0 N).wr W, (nq1 N).other W (Or.inl q), (nq2 N).other W (Or.inl q), (nq3 N).other W (Or.inl q), (nq4 N).other W (Or.inl q), (nq5 N).other W (Or.inl q), (nq6 N).other W (Or.inl q), (nq7 N).other W (Or.inl q), (nq8 N).other W (Or.inl q), (nq9 N).other W (Or.inl q), (nq10 N).other W (Or.inl q), (nq11 N).other W (Or.inl q), (nq12 N).other W (Or.inl q), (nq13 N).other W (Or.inl q), (nq14 N).other W (Or.inl q), (nq15 N).other W (Or.inl q), (nq16 N).other W (Or.inl q), (nq17 N).other W (Or.inl q), (nq18 N).other W (Nat.ne_of_lt (D.2 0 9 (by decide) (by decide))), (nq19 N).other W (Nat.ne_of_lt (D.2 1 9 (by decide) (by decide))), (nq20 N).other W (Nat.ne_of_lt (D.2 2 9 (by decide) (by decide))), (nq21 N).other W (Nat.ne_of_lt (D.2 3 9 (by decide) (by decide))), (nq22 N).other W (Nat.ne_of_lt (D.2 4 9 (by decide) (by decide))), (nq23 N).other W (Nat.ne_of_lt (D.2 5 9 (by decide) (by decide))), (nq24 N).other W (Nat.ne_of_lt (D.2 6 9 (by decide) (by decide))), (nq25 N).other W (Nat.ne_of_lt (D.2 7 9 (by decide) (by decide))), (nq26 N).other W (Nat.ne_of_lt (D.2 8 9 (by decide) (by decide))), V, (nq28 N).other W (Nat.ne_of_gt (D.2 9 10 (by decide) (by decide))), (nq29 N).other W (Nat.ne_of_gt (D.2 9 11 (by decide) (by decide))), (nq30 N).other W (Nat.ne_of_gt (D.2 9 12 (by decide) (by decide)))⟩
theorem nb_k9 (D : Dis ob B) (N : NB Z h ob B K l0 l1 l2 l3 l4 l5 l6 l7 l8 l9 l10 l11 l12 wc) (W : Keep h h' [B 9]) {l' : List Value} (V : Arv Z h' (B 9) (K 9) .boolean (2 : Int32) l' (.int (0 : Int32))) : NB Z h' ob B K l0 l1 l2 l3 l4 l5 l6 l7 l8 l' l10 l11 l12 wc :=
  have q : ob ∉ [B 9] := ninS (Nat.ne_of_lt (D.1 9 (by decide))) nin0; ⟨(nq0 N).keep W, (nq1 N).keep W q, (nq2 N).keep W q, (nq3 N).keep W q, (nq4 N).keep W q, (nq5 N).keep W q, (nq6 N).keep W q, (nq7 N).keep W q, (nq8 N).keep W q, (nq9 N).keep W q, (nq10 N).keep W q, (nq11 N).keep W q, (nq12 N).keep W q, (nq13 N).keep W q, (nq14 N).keep W q, (nq15 N).keep W q, (nq16 N).keep W q, (nq17 N).keep W q, (nq18 N).keep W (ninS (Nat.ne_of_lt (D.2 0 9 (by decide) (by decide))) nin0), (nq19 N).keep W (ninS (Nat.ne_of_lt (D.2 1 9 (by decide) (by decide))) nin0), (nq20 N).keep W (ninS (Nat.ne_of_lt (D.2 2 9 (by decide) (by decide))) nin0), (nq21 N).keep W (ninS (Nat.ne_of_lt (D.2 3 9 (by decide) (by decide))) nin0), (nq22 N).keep W (ninS (Nat.ne_of_lt (D.2 4 9 (by decide) (by decide))) nin0), (nq23 N).keep W (ninS (Nat.ne_of_lt (D.2 5 9 (by decide) (by decide))) nin0), (nq24 N).keep W (ninS (Nat.ne_of_lt (D.2 6 9 (by decide) (by decide))) nin0), (nq25 N).keep W (ninS (Nat.ne_of_lt (D.2 7 9 (by decide) (by decide))) nin0), (nq26 N).keep W (ninS (Nat.ne_of_lt (D.2 8 9 (by decide) (by decide))) nin0), V, (nq28 N).keep W (ninS (Nat.ne_of_gt (D.2 9 10 (by decide) (by decide))) nin0), (nq29 N).keep W (ninS (Nat.ne_of_gt (D.2 9 11 (by decide) (by decide))) nin0), (nq30 N).keep W (ninS (Nat.ne_of_gt (D.2 9 12 (by decide) (by decide))) nin0)⟩
theorem nb_w10 (D : Dis ob B) (N : NB Z h ob B K l0 l1 l2 l3 l4 l5 l6 l7 l8 l9 l10 l11 l12 wc) {sl : Nat} {v : Value} (W : Wr h h' (B 10) sl v) {l' : List Value} (V : Arv Z h' (B 10) (K 10) .boolean (4 : Int32) l' (.int (0 : Int32))) : NB Z h' ob B K l0 l1 l2 l3 l4 l5 l6 l7 l8 l9 l' l11 l12 wc :=
  have q := (Nat.ne_of_lt (D.1 10 (by decide))); ⟨(nq0 N).wr W, (nq1 N).other W (Or.inl q), (nq2 N).other W (Or.inl q), (nq3 N).other W (Or.inl q), (nq4 N).other W (Or.inl q), (nq5 N).other W (Or.inl q), (nq6 N).other W (Or.inl q), (nq7 N).other W (Or.inl q), (nq8 N).other W (Or.inl q), (nq9 N).other W (Or.inl q), (nq10 N).other W (Or.inl q), (nq11 N).other W (Or.inl q), (nq12 N).other W (Or.inl q), (nq13 N).other W (Or.inl q), (nq14 N).other W (Or.inl q), (nq15 N).other W (Or.inl q), (nq16 N).other W (Or.inl q), (nq17 N).other W (Or.inl q), (nq18 N).other W (Nat.ne_of_lt (D.2 0 10 (by decide) (by decide))), (nq19 N).other W (Nat.ne_of_lt (D.2 1 10 (by decide) (by decide))), (nq20 N).other W (Nat.ne_of_lt (D.2 2 10 (by decide) (by decide))), (nq21 N).other W (Nat.ne_of_lt (D.2 3 10 (by decide) (by decide))), (nq22 N).other W (Nat.ne_of_lt (D.2 4 10 (by decide) (by decide))), (nq23 N).other W (Nat.ne_of_lt (D.2 5 10 (by decide) (by decide))), (nq24 N).other W (Nat.ne_of_lt (D.2 6 10 (by decide) (by decide))), (nq25 N).other W (Nat.ne_of_lt (D.2 7 10 (by decide) (by decide))), (nq26 N).other W (Nat.ne_of_lt (D.2 8 10 (by decide) (by decide))), (nq27 N).other W (Nat.ne_of_lt (D.2 9 10 (by decide) (by decide))), V, (nq29 N).other W (Nat.ne_of_gt (D.2 10 11 (by decide) (by decide))), (nq30 N).other W (Nat.ne_of_gt (D.2 10 12 (by decide) (by decide)))⟩
theorem nb_k10 (D : Dis ob B) (N : NB Z h ob B K l0 l1 l2 l3 l4 l5 l6 l7 l8 l9 l10 l11 l12 wc) (W : Keep h h' [B 10]) {l' : List Value} (V : Arv Z h' (B 10) (K 10) .boolean (4 : Int32) l' (.int (0 : Int32))) : NB Z h' ob B K l0 l1 l2 l3 l4 l5 l6 l7 l8 l9 l' l11 l12 wc :=
  have q : ob ∉ [B 10] := ninS (Nat.ne_of_lt (D.1 10 (by decide))) nin0; ⟨(nq0 N).keep W, (nq1 N).keep W q, (nq2 N).keep W q, (nq3 N).keep W q, (nq4 N).keep W q, (nq5 N).keep W q, (nq6 N).keep W q, (nq7 N).keep W q, (nq8 N).keep W q, (nq9 N).keep W q, (nq10 N).keep W q, (nq11 N).keep W q, (nq12 N).keep W q, (nq13 N).keep W q, (nq14 N).keep W q, (nq15 N).keep W q, (nq16 N).keep W q, (nq17 N).keep W q, (nq18 N).keep W (ninS (Nat.ne_of_lt (D.2 0 10 (by decide) (by decide))) nin0), (nq19 N).keep W (ninS (Nat.ne_of_lt (D.2 1 10 (by decide) (by decide))) nin0), (nq20 N).keep W (ninS (Nat.ne_of_lt (D.2 2 10 (by decide) (by decide))) nin0), (nq21 N).keep W (ninS (Nat.ne_of_lt (D.2 3 10 (by decide) (by decide))) nin0), (nq22 N).keep W (ninS (Nat.ne_of_lt (D.2 4 10 (by decide) (by decide))) nin0), (nq23 N).keep W (ninS (Nat.ne_of_lt (D.2 5 10 (by decide) (by decide))) nin0), (nq24 N).keep W (ninS (Nat.ne_of_lt (D.2 6 10 (by decide) (by decide))) nin0), (nq25 N).keep W (ninS (Nat.ne_of_lt (D.2 7 10 (by decide) (by decide))) nin0), (nq26 N).keep W (ninS (Nat.ne_of_lt (D.2 8 10 (by decide) (by decide))) nin0), (nq27 N).keep W (ninS (Nat.ne_of_lt (D.2 9 10 (by decide) (by decide))) nin0), V, (nq29 N).keep W (ninS (Nat.ne_of_gt (D.2 10 11 (by decide) (by decide))) nin0), (nq30 N).keep W (ninS (Nat.ne_of_gt (D.2 10 12 (by decide) (by decide))) nin0)⟩
theorem nb_w11 (D : Dis ob B) (N : NB Z h ob B K l0 l1 l2 l3 l4 l5 l6 l7 l8 l9 l10 l11 l12 wc) {sl : Nat} {v : Value} (W : Wr h h' (B 11) sl v) {l' : List Value} (V : Arv Z h' (B 11) (K 11) .int (2 : Int32) l' (.int (0 : Int32))) : NB Z h' ob B K l0 l1 l2 l3 l4 l5 l6 l7 l8 l9 l10 l' l12 wc :=
  have q := (Nat.ne_of_lt (D.1 11 (by decide))); ⟨(nq0 N).wr W, (nq1 N).other W (Or.inl q), (nq2 N).other W (Or.inl q), (nq3 N).other W (Or.inl q), (nq4 N).other W (Or.inl q), (nq5 N).other W (Or.inl q), (nq6 N).other W (Or.inl q), (nq7 N).other W (Or.inl q), (nq8 N).other W (Or.inl q), (nq9 N).other W (Or.inl q), (nq10 N).other W (Or.inl q), (nq11 N).other W (Or.inl q), (nq12 N).other W (Or.inl q), (nq13 N).other W (Or.inl q), (nq14 N).other W (Or.inl q), (nq15 N).other W (Or.inl q), (nq16 N).other W (Or.inl q), (nq17 N).other W (Or.inl q), (nq18 N).other W (Nat.ne_of_lt (D.2 0 11 (by decide) (by decide))), (nq19 N).other W (Nat.ne_of_lt (D.2 1 11 (by decide) (by decide))), (nq20 N).other W (Nat.ne_of_lt (D.2 2 11 (by decide) (by decide))), (nq21 N).other W (Nat.ne_of_lt (D.2 3 11 (by decide) (by decide))), (nq22 N).other W (Nat.ne_of_lt (D.2 4 11 (by decide) (by decide))), (nq23 N).other W (Nat.ne_of_lt (D.2 5 11 (by decide) (by decide))), (nq24 N).other W (Nat.ne_of_lt (D.2 6 11 (by decide) (by decide))), (nq25 N).other W (Nat.ne_of_lt (D.2 7 11 (by decide) (by decide))), (nq26 N).other W (Nat.ne_of_lt (D.2 8 11 (by decide) (by decide))), (nq27 N).other W (Nat.ne_of_lt (D.2 9 11 (by decide) (by decide))), (nq28 N).other W (Nat.ne_of_lt (D.2 10 11 (by decide) (by decide))), V, (nq30 N).other W (Nat.ne_of_gt (D.2 11 12 (by decide) (by decide)))⟩
theorem nb_k11 (D : Dis ob B) (N : NB Z h ob B K l0 l1 l2 l3 l4 l5 l6 l7 l8 l9 l10 l11 l12 wc) (W : Keep h h' [B 11]) {l' : List Value} (V : Arv Z h' (B 11) (K 11) .int (2 : Int32) l' (.int (0 : Int32))) : NB Z h' ob B K l0 l1 l2 l3 l4 l5 l6 l7 l8 l9 l10 l' l12 wc :=
  have q : ob ∉ [B 11] := ninS (Nat.ne_of_lt (D.1 11 (by decide))) nin0; ⟨(nq0 N).keep W, (nq1 N).keep W q, (nq2 N).keep W q, (nq3 N).keep W q, (nq4 N).keep W q, (nq5 N).keep W q, (nq6 N).keep W q, (nq7 N).keep W q, (nq8 N).keep W q, (nq9 N).keep W q, (nq10 N).keep W q, (nq11 N).keep W q, (nq12 N).keep W q, (nq13 N).keep W q, (nq14 N).keep W q, (nq15 N).keep W q, (nq16 N).keep W q, (nq17 N).keep W q, (nq18 N).keep W (ninS (Nat.ne_of_lt (D.2 0 11 (by decide) (by decide))) nin0), (nq19 N).keep W (ninS (Nat.ne_of_lt (D.2 1 11 (by decide) (by decide))) nin0), (nq20 N).keep W (ninS (Nat.ne_of_lt (D.2 2 11 (by decide) (by decide))) nin0), (nq21 N).keep W (ninS (Nat.ne_of_lt (D.2 3 11 (by decide) (by decide))) nin0), (nq22 N).keep W (ninS (Nat.ne_of_lt (D.2 4 11 (by decide) (by decide))) nin0), (nq23 N).keep W (ninS (Nat.ne_of_lt (D.2 5 11 (by decide) (by decide))) nin0), (nq24 N).keep W (ninS (Nat.ne_of_lt (D.2 6 11 (by decide) (by decide))) nin0), (nq25 N).keep W (ninS (Nat.ne_of_lt (D.2 7 11 (by decide) (by decide))) nin0), (nq26 N).keep W (ninS (Nat.ne_of_lt (D.2 8 11 (by decide) (by decide))) nin0), (nq27 N).keep W (ninS (Nat.ne_of_lt (D.2 9 11 (by decide) (by decide))) nin0), (nq28 N).keep W (ninS (Nat.ne_of_lt (D.2 10 11 (by decide) (by decide))) nin0), V, (nq30 N).keep W (ninS (Nat.ne_of_gt (D.2 11 12 (by decide) (by decide))) nin0)⟩
theorem nb_w12 (D : Dis ob B) (N : NB Z h ob B K l0 l1 l2 l3 l4 l5 l6 l7 l8 l9 l10 l11 l12 wc) {sl : Nat} {v : Value} (W : Wr h h' (B 12) sl v) {l' : List Value} (V : Arv Z h' (B 12) (K 12) .boolean (2 : Int32) l' (.int (0 : Int32))) : NB Z h' ob B K l0 l1 l2 l3 l4 l5 l6 l7 l8 l9 l10 l11 l' wc :=
  have q := (Nat.ne_of_lt (D.1 12 (by decide))); ⟨(nq0 N).wr W, (nq1 N).other W (Or.inl q), (nq2 N).other W (Or.inl q), (nq3 N).other W (Or.inl q), (nq4 N).other W (Or.inl q), (nq5 N).other W (Or.inl q), (nq6 N).other W (Or.inl q), (nq7 N).other W (Or.inl q), (nq8 N).other W (Or.inl q), (nq9 N).other W (Or.inl q), (nq10 N).other W (Or.inl q), (nq11 N).other W (Or.inl q), (nq12 N).other W (Or.inl q), (nq13 N).other W (Or.inl q), (nq14 N).other W (Or.inl q), (nq15 N).other W (Or.inl q), (nq16 N).other W (Or.inl q), (nq17 N).other W (Or.inl q), (nq18 N).other W (Nat.ne_of_lt (D.2 0 12 (by decide) (by decide))), (nq19 N).other W (Nat.ne_of_lt (D.2 1 12 (by decide) (by decide))), (nq20 N).other W (Nat.ne_of_lt (D.2 2 12 (by decide) (by decide))), (nq21 N).other W (Nat.ne_of_lt (D.2 3 12 (by decide) (by decide))), (nq22 N).other W (Nat.ne_of_lt (D.2 4 12 (by decide) (by decide))), (nq23 N).other W (Nat.ne_of_lt (D.2 5 12 (by decide) (by decide))), (nq24 N).other W (Nat.ne_of_lt (D.2 6 12 (by decide) (by decide))), (nq25 N).other W (Nat.ne_of_lt (D.2 7 12 (by decide) (by decide))), (nq26 N).other W (Nat.ne_of_lt (D.2 8 12 (by decide) (by decide))), (nq27 N).other W (Nat.ne_of_lt (D.2 9 12 (by decide) (by decide))), (nq28 N).other W (Nat.ne_of_lt (D.2 10 12 (by decide) (by decide))), (nq29 N).other W (Nat.ne_of_lt (D.2 11 12 (by decide) (by decide))), V⟩
theorem nb_k12 (D : Dis ob B) (N : NB Z h ob B K l0 l1 l2 l3 l4 l5 l6 l7 l8 l9 l10 l11 l12 wc) (W : Keep h h' [B 12]) {l' : List Value} (V : Arv Z h' (B 12) (K 12) .boolean (2 : Int32) l' (.int (0 : Int32))) : NB Z h' ob B K l0 l1 l2 l3 l4 l5 l6 l7 l8 l9 l10 l11 l' wc :=
  have q : ob ∉ [B 12] := ninS (Nat.ne_of_lt (D.1 12 (by decide))) nin0; ⟨(nq0 N).keep W, (nq1 N).keep W q, (nq2 N).keep W q, (nq3 N).keep W q, (nq4 N).keep W q, (nq5 N).keep W q, (nq6 N).keep W q, (nq7 N).keep W q, (nq8 N).keep W q, (nq9 N).keep W q, (nq10 N).keep W q, (nq11 N).keep W q, (nq12 N).keep W q, (nq13 N).keep W q, (nq14 N).keep W q, (nq15 N).keep W q, (nq16 N).keep W q, (nq17 N).keep W q, (nq18 N).keep W (ninS (Nat.ne_of_lt (D.2 0 12 (by decide) (by decide))) nin0), (nq19 N).keep W (ninS (Nat.ne_of_lt (D.2 1 12 (by decide) (by decide))) nin0), (nq20 N).keep W (ninS (Nat.ne_of_lt (D.2 2 12 (by decide) (by decide))) nin0), (nq21 N).keep W (ninS (Nat.ne_of_lt (D.2 3 12 (by decide) (by decide))) nin0), (nq22 N).keep W (ninS (Nat.ne_of_lt (D.2 4 12 (by decide) (by decide))) nin0), (nq23 N).keep W (ninS (Nat.ne_of_lt (D.2 5 12 (by decide) (by decide))) nin0), (nq24 N).keep W (ninS (Nat.ne_of_lt (D.2 6 12 (by decide) (by decide))) nin0), (nq25 N).keep W (ninS (Nat.ne_of_lt (D.2 7 12 (by decide) (by decide))) nin0), (nq26 N).keep W (ninS (Nat.ne_of_lt (D.2 8 12 (by decide) (by decide))) nin0), (nq27 N).keep W (ninS (Nat.ne_of_lt (D.2 9 12 (by decide) (by decide))) nin0), (nq28 N).keep W (ninS (Nat.ne_of_lt (D.2 10 12 (by decide) (by decide))) nin0), (nq29 N).keep W (ninS (Nat.ne_of_lt (D.2 11 12 (by decide) (by decide))) nin0), V⟩
end
def fN (i : Nat) : String := ["demand", "moved", "left", "supply", "room", "wanted", "fraction", "given", "spare", "finished", "closed", "wanting", "listed", "wantingCount", "approaches", "columns", "anyClosed"].getD i ""
def fD (i : Nat) : String := ["[D", "[D", "[D", "[D", "[D", "[D", "[D", "[D", "[Z", "[Z", "[Z", "[I", "[Z", "I", "I", "I", "Z"].getD i ""
def fT (i : Nat) : FieldType := [(.array .double), (.array .double), (.array .double), (.array .double), (.array .double), (.array .double), (.array .double), (.array .double), (.array .boolean), (.array .boolean), (.array .boolean), (.array .int), (.array .boolean), .int, .int, .int, .boolean].getD i .int
theorem fN_inj : ∀ i j : Fin 17, i ≠ j → fN i.val ≠ fN j.val := by decide +kernel
theorem fT_ok : ∀ i : Fin 17, parseFieldDescriptor (fD i.val) = some (fT i.val) := by decide +kernel
theorem fb_laid {Z : State} {a0 : Array Value} (hw : ∀ d ∈ tables_1, d.before a0 Z = true) (i : Nat) (hi : i < 17) : Laid Z a0 "com/example/istra/istra/engine/NodeModel" "com/example/istra/istra/engine/NodeModel" (fN i) (fD i) := by
  match i, hi with
  | 0, _ => exact Or.inr (hw _ (List.mem_of_getElem? (i := 11) rfl))
  | 1, _ => exact Or.inr (hw _ (List.mem_of_getElem? (i := 13) rfl))
  | 2, _ => exact Or.inr (hw _ (List.mem_of_getElem? (i := 15) rfl))
  | 3, _ => exact Or.inr (hw _ (List.mem_of_getElem? (i := 17) rfl))
  | 4, _ => exact Or.inr (hw _ (List.mem_of_getElem? (i := 19) rfl))
  | 5, _ => exact Or.inr (hw _ (List.mem_of_getElem? (i := 21) rfl))
  | 6, _ => exact Or.inr (hw _ (List.mem_of_getElem? (i := 23) rfl))
  | 7, _ => exact Or.inr (hw _ (List.mem_of_getElem? (i := 25) rfl))
  | 8, _ => exact Or.inr (hw _ (List.mem_of_getElem? (i := 28) rfl))
  | 9, _ => exact Or.inr (hw _ (List.mem_of_getElem? (i := 30) rfl))
  | 10, _ => exact Or.inr (hw _ (List.mem_of_getElem? (i := 32) rfl))
  | 11, _ => exact Or.inr (hw _ (List.mem_of_getElem? (i := 35) rfl))
  | 12, _ => exact Or.inr (hw _ (List.mem_of_getElem? (i := 37) rfl))
  | 13, _ => exact Or.inl (hw _ (List.mem_of_getElem? (i := 44) rfl))
  | 14, _ => exact Or.inl (hw _ (List.mem_of_getElem? (i := 46) rfl))
  | 15, _ => exact Or.inl (hw _ (List.mem_of_getElem? (i := 48) rfl))
  | 16, _ => exact Or.inl (hw _ (List.mem_of_getElem? (i := 51) rfl))
  | n + 17, h => exact absurd h (by omega)
theorem fb_sn {Z : State} {a0 : Array Value} (hw : ∀ d ∈ tables_1, d.before a0 Z = true) {i j : Nat} (hi : i < 17) (hj : j < 17) (n : i ≠ j) : Jvm.RoadKit.slotOf Z "com/example/istra/istra/engine/NodeModel" (fN i) (fD i) ≠ Jvm.RoadKit.slotOf Z "com/example/istra/istra/engine/NodeModel" (fN j) (fD j) :=
  slot_ne (fb_laid hw i hi) (fb_laid hw j hj) (fN_inj ⟨i, hi⟩ ⟨j, hj⟩ (fun e => n (Fin.mk.inj e))) (fT_ok ⟨i, hi⟩) (fT_ok ⟨j, hj⟩)
def FB (Z : State) (h : Heap) (ob : Addr) (vs : List Value) : Prop := Exa Z h ob "com/example/istra/istra/engine/NodeModel" ∧ ∀ i, i < 17 → Fld Z h ob "com/example/istra/istra/engine/NodeModel" (fN i) (fD i) (vs.getD i .null)
theorem fbg {Z : State} {h : Heap} {ob : Addr} {vs : List Value} (N : FB Z h ob vs) (i : Nat) {f d : String} {v : Value} (hi : i < 17) (e1 : fN i = f) (e2 : fD i = d) (e3 : vs.getD i .null = v) : Fld Z h ob "com/example/istra/istra/engine/NodeModel" f d v := by
  subst e1 e2 e3; exact N.2 i hi
theorem fb_ext {Z : State} {h h' : Heap} {ob : Addr} {vs : List Value} (N : FB Z h ob vs) (W : Ext h h') : FB Z h' ob vs := ⟨N.1.ext W, fun i hi => (N.2 i hi).ext W⟩
theorem fb_o {Z : State} {h h' : Heap} {ob : Addr} {vs : List Value} (N : FB Z h ob vs) {a : Addr} {sl : Nat} {v : Value} (W : Wr h h' a sl v) (e : ob ≠ a) : FB Z h' ob vs := ⟨N.1.wr W, fun i hi => (N.2 i hi).other W (Or.inl e)⟩
theorem fb_set {Z : State} {a0 : Array Value} {h h' : Heap} {ob : Addr} {vs vs' : List Value} (hw : ∀ d ∈ tables_1, d.before a0 Z = true) (N : FB Z h ob vs) (i : Nat) (hi : i < 17) {v : Value} (W : Wr h h' ob (Jvm.RoadKit.slotOf Z "com/example/istra/istra/engine/NodeModel" (fN i) (fD i)) v) (hl : vs.length = 17) (e : vs' = vs.set i v) : FB Z h' ob vs' := by
  subst e
  refine ⟨N.1.wr W, fun j hj => ?_⟩
  by_cases y : j = i
  · subst y
    have z : (vs.set j v).getD j .null = v := by rw [List.getD_eq_getElem?_getD, List.getElem?_set_self (by omega)]; rfl
    rw [z]; exact (N.2 j hj).same W
  · have z : (vs.set i v).getD j .null = vs.getD j .null := by rw [List.getD_eq_getElem?_getD, List.getD_eq_getElem?_getD, List.getElem?_set_ne (fun e => y e.symm)]
    rw [z]; exact (N.2 j hj).other W (Or.inr (fb_sn hw hj hi y))
theorem fb_mk {Z : State} {h : Heap} {ob : Addr} {f0 f1 f2 f3 f4 f5 f6 f7 f8 f9 f10 f11 f12 f13 f14 f15 f16 : Value} (A : Exa Z h ob "com/example/istra/istra/engine/NodeModel") (g0 : Fld Z h ob "com/example/istra/istra/engine/NodeModel" "demand" "[D" f0) (g1 : Fld Z h ob "com/example/istra/istra/engine/NodeModel" "moved" "[D" f1) (g2 : Fld Z h ob "com/example/istra/istra/engine/NodeModel" "left" "[D" f2) (g3 : Fld Z h ob "com/example/istra/istra/engine/NodeModel" "supply" "[D" f3) (g4 : Fld Z h ob "com/example/istra/istra/engine/NodeModel" "room" "[D" f4) (g5 : Fld Z h ob "com/example/istra/istra/engine/NodeModel" "wanted" "[D" f5) (g6 : Fld Z h ob "com/example/istra/istra/engine/NodeModel" "fraction" "[D" f6) (g7 : Fld Z h ob "com/example/istra/istra/engine/NodeModel" "given" "[D" f7) (g8 : Fld Z h ob "com/example/istra/istra/engine/NodeModel" "spare" "[Z" f8) (g9 : Fld Z h ob "com/example/istra/istra/engine/NodeModel" "finished" "[Z" f9) (g10 : Fld Z h ob "com/example/istra/istra/engine/NodeModel" "closed" "[Z" f10) (g11 : Fld Z h ob "com/example/istra/istra/engine/NodeModel" "wanting" "[I" f11) (g12 : Fld Z h ob "com/example/istra/istra/engine/NodeModel" "listed" "[Z" f12) (g13 : Fld Z h ob "com/example/istra/istra/engine/NodeModel" "wantingCount" "I" f13) (g14 : Fld Z h ob "com/example/istra/istra/engine/NodeModel" "approaches" "I" f14) (g15 : Fld Z h ob "com/example/istra/istra/engine/NodeModel" "columns" "I" f15) (g16 : Fld Z h ob "com/example/istra/istra/engine/NodeModel" "anyClosed" "Z" f16) : FB Z h ob [f0, f1, f2, f3, f4, f5, f6, f7, f8, f9, f10, f11, f12, f13, f14, f15, f16] := ⟨A, fun i hi => by
  match i, hi with
  | 0, _ => exact g0
  | 1, _ => exact g1
  | 2, _ => exact g2
  | 3, _ => exact g3
  | 4, _ => exact g4
  | 5, _ => exact g5
  | 6, _ => exact g6
  | 7, _ => exact g7
  | 8, _ => exact g8
  | 9, _ => exact g9
  | 10, _ => exact g10
  | 11, _ => exact g11
  | 12, _ => exact g12
  | 13, _ => exact g13
  | 14, _ => exact g14
  | 15, _ => exact g15
  | 16, _ => exact g16
  | n + 17, h => exact absurd h (by omega)⟩
theorem nb_fb {Z : State} {h : Heap} {ob : Addr} {B : Nat → Addr} {K : Nat → ClassId} {l0 l1 l2 l3 l4 l5 l6 l7 l8 l9 l10 l11 l12 : List Value} {wc : Int32} (F : FB Z h ob [.ref (B 0), .ref (B 1), .ref (B 2), .ref (B 3), .ref (B 4), .ref (B 5), .ref (B 6), .ref (B 7), .ref (B 8), .ref (B 9), .ref (B 10), .ref (B 11), .ref (B 12), .int wc, .int (2 : Int32), .int (2 : Int32), .int (0 : Int32)]) (V0 : Arv Z h (B 0) (K 0) .double (4 : Int32) l0 (.double (0 : UInt64))) (V1 : Arv Z h (B 1) (K 1) .double (4 : Int32) l1 (.double (0 : UInt64))) (V2 : Arv Z h (B 2) (K 2) .double (4 : Int32) l2 (.double (0 : UInt64))) (V3 : Arv Z h (B 3) (K 3) .double (2 : Int32) l3 (.double (0 : UInt64))) (V4 : Arv Z h (B 4) (K 4) .double (2 : Int32) l4 (.double (0 : UInt64))) (V5 : Arv Z h (B 5) (K 5) .double (2 : Int32) l5 (.double (0 : UInt64))) (V6 : Arv Z h (B 6) (K 6) .double (2 : Int32) l6 (.double (0 : UInt64))) (V7 : Arv Z h (B 7) (K 7) .double (2 : Int32) l7 (.double (0 : UInt64))) (V8 : Arv Z h (B 8) (K 8) .boolean (2 : Int32) l8 (.int (0 : Int32))) (V9 : Arv Z h (B 9) (K 9) .boolean (2 : Int32) l9 (.int (0 : Int32))) (V10 : Arv Z h (B 10) (K 10) .boolean (4 : Int32) l10 (.int (0 : Int32))) (V11 : Arv Z h (B 11) (K 11) .int (2 : Int32) l11 (.int (0 : Int32))) (V12 : Arv Z h (B 12) (K 12) .boolean (2 : Int32) l12 (.int (0 : Int32))) : NB Z h ob B K l0 l1 l2 l3 l4 l5 l6 l7 l8 l9 l10 l11 l12 wc :=
  ⟨F.1, fbg F 0 (by decide) rfl rfl rfl, fbg F 1 (by decide) rfl rfl rfl, fbg F 2 (by decide) rfl rfl rfl, fbg F 3 (by decide) rfl rfl rfl, fbg F 4 (by decide) rfl rfl rfl, fbg F 5 (by decide) rfl rfl rfl, fbg F 6 (by decide) rfl rfl rfl, fbg F 7 (by decide) rfl rfl rfl, fbg F 8 (by decide) rfl rfl rfl, fbg F 9 (by decide) rfl rfl rfl, fbg F 10 (by decide) rfl rfl rfl, fbg F 11 (by decide) rfl rfl rfl, fbg F 12 (by decide) rfl rfl rfl, fbg F 13 (by decide) rfl rfl rfl, fbg F 14 (by decide) rfl rfl rfl, fbg F 15 (by decide) rfl rfl rfl, fbg F 16 (by decide) rfl rfl rfl, V0, V1, V2, V3, V4, V5, V6, V7, V8, V9, V10, V11, V12⟩
theorem fb_nb {Z : State} {h : Heap} {ob : Addr} {B : Nat → Addr} {K : Nat → ClassId} {l0 l1 l2 l3 l4 l5 l6 l7 l8 l9 l10 l11 l12 : List Value} {wc : Int32} (N : NB Z h ob B K l0 l1 l2 l3 l4 l5 l6 l7 l8 l9 l10 l11 l12 wc) : FB Z h ob [.ref (B 0), .ref (B 1), .ref (B 2), .ref (B 3), .ref (B 4), .ref (B 5), .ref (B 6), .ref (B 7), .ref (B 8), .ref (B 9), .ref (B 10), .ref (B 11), .ref (B 12), .int wc, .int (2 : Int32), .int (2 : Int32), .int (0 : Int32)] := fb_mk (nq0 N) (nq1 N) (nq2 N) (nq3 N) (nq4 N) (nq5 N) (nq6 N) (nq7 N) (nq8 N) (nq9 N) (nq10 N) (nq11 N) (nq12 N) (nq13 N) (nq14 N) (nq15 N) (nq16 N) (nq17 N)
theorem nb_wc {Z : State} {h h' : Heap} {ob : Addr} {B : Nat → Addr} {K : Nat → ClassId} {l0 l1 l2 l3 l4 l5 l6 l7 l8 l9 l10 l11 l12 : List Value} {wc : Int32} {a0 : Array Value} {wc' : Int32} (hw : ∀ d ∈ tables_1, d.before a0 Z = true) (D : Dis ob B) (N : NB Z h ob B K l0 l1 l2 l3 l4 l5 l6 l7 l8 l9 l10 l11 l12 wc) (W : Wr h h' ob (Jvm.RoadKit.slotOf Z "com/example/istra/istra/engine/NodeModel" "wantingCount" "I") (.int wc')) : NB Z h' ob B K l0 l1 l2 l3 l4 l5 l6 l7 l8 l9 l10 l11 l12 wc' :=
  nb_fb (fb_set hw (fb_nb N) 13 (by decide) W rfl rfl) ((nq18 N).other W (Nat.ne_of_gt (D.1 0 (by decide)))) ((nq19 N).other W (Nat.ne_of_gt (D.1 1 (by decide)))) ((nq20 N).other W (Nat.ne_of_gt (D.1 2 (by decide)))) ((nq21 N).other W (Nat.ne_of_gt (D.1 3 (by decide)))) ((nq22 N).other W (Nat.ne_of_gt (D.1 4 (by decide)))) ((nq23 N).other W (Nat.ne_of_gt (D.1 5 (by decide)))) ((nq24 N).other W (Nat.ne_of_gt (D.1 6 (by decide)))) ((nq25 N).other W (Nat.ne_of_gt (D.1 7 (by decide)))) ((nq26 N).other W (Nat.ne_of_gt (D.1 8 (by decide)))) ((nq27 N).other W (Nat.ne_of_gt (D.1 9 (by decide)))) ((nq28 N).other W (Nat.ne_of_gt (D.1 10 (by decide)))) ((nq29 N).other W (Nat.ne_of_gt (D.1 11 (by decide)))) ((nq30 N).other W (Nat.ne_of_gt (D.1 12 (by decide))))
theorem dis_mk {ob : Addr} {B : Nat → Addr} (h0 : ob < B 0) (s0 : B 0 < B 1) (s1 : B 1 < B 2) (s2 : B 2 < B 3) (s3 : B 3 < B 4) (s4 : B 4 < B 5) (s5 : B 5 < B 6) (s6 : B 6 < B 7) (s7 : B 7 < B 8) (s8 : B 8 < B 9) (s9 : B 9 < B 10) (s10 : B 10 < B 11) (s11 : B 11 < B 12) : Dis ob B := by
  have s : ∀ i, i < 12 → B i < B (i + 1) := by
    intro i hi
    match i, hi with
    | 0, _ => exact s0
    | 1, _ => exact s1
    | 2, _ => exact s2
    | 3, _ => exact s3
    | 4, _ => exact s4
    | 5, _ => exact s5
    | 6, _ => exact s6
    | 7, _ => exact s7
    | 8, _ => exact s8
    | 9, _ => exact s9
    | 10, _ => exact s10
    | 11, _ => exact s11
    | n + 12, h => exact absurd h (by omega)
  have u : ∀ d i, i + d + 1 < 13 → B i < B (i + d + 1) := by
    intro d
    induction d with
    | zero => intro i hi; exact s i (by omega)
    | succ d ih => intro i hi; exact Nat.lt_trans (ih i (by omega)) (s (i + d + 1) (by omega))
  refine ⟨fun i hi => ?_, fun i j hij hj => ?_⟩
  · by_cases z : i = 0
    · subst z; exact h0
    · have := u (i - 1) 0 (by omega)
      rw [show 0 + (i - 1) + 1 = i by omega] at this
      exact Nat.lt_trans h0 this
  · have := u (j - i - 1) i (by omega)
    rw [show i + (j - i - 1) + 1 = j by omega] at this
    exact this
theorem ef_11_DDD (m : MethodId) (x0 : UInt64) (x1 : UInt64) (x2 : UInt64) : entryFrame m #[(.double x0), (.double x1), (.double x2)] 6 = mkF m 0 #[.val (.double x0), .second, .val (.double x1), .second, .val (.double x2), .second] [] := by first | (simp [entryFrame, mkF, argsToLocals, Value.category]; done) | rfl
theorem d11_0 : decode prog_40_method_13_code 0 = .ok (.dload 4, 2) := by decide +kernel
theorem d11_2 : decode prog_40_method_13_code 2 = .ok (.dload_n 2, 1) := by decide +kernel
theorem d11_3 : decode prog_40_method_13_code 3 = .ok (.dcmp .l, 1) := by decide +kernel
theorem d11_4 : decode prog_40_method_13_code 4 = .ok (.ifCond .le 12, 3) := by decide +kernel
theorem d11_7 : decode prog_40_method_13_code 7 = .ok (.dload_n 0, 1) := by decide +kernel
theorem d11_8 : decode prog_40_method_13_code 8 = .ok (.dload_n 2, 1) := by decide +kernel
theorem d11_9 : decode prog_40_method_13_code 9 = .ok (.dmul, 1) := by decide +kernel
theorem d11_10 : decode prog_40_method_13_code 10 = .ok (.dload 4, 2) := by decide +kernel
theorem d11_12 : decode prog_40_method_13_code 12 = .ok (.ddiv, 1) := by decide +kernel
theorem d11_13 : decode prog_40_method_13_code 13 = .ok (.goto 4, 3) := by decide +kernel
theorem d11_17 : decode prog_40_method_13_code 17 = .ok (.dreturn, 1) := by decide +kernel
theorem d11_16 : decode prog_40_method_13_code 16 = .ok (.dload_n 0, 1) := by decide +kernel
def Q_rm11 (Z : State) (u1 : UInt64) (u2 : UInt64) (u3 : UInt64) (h0 : Heap) (n0 : Nat) (v : Option Value) (h : Heap) (L : List Loc) : Prop := v = some (.double (own_cut u1 u2 u3)) ∧ Fr n0 L ∧ h = h0
theorem pn_com_2fexample_2fistra_2fistra_2fengine_2fNodeModel : plainName "com/example/istra/istra/engine/NodeModel" = true := by first | (simp [plainName, overriddenIn]; done) | decide +kernel
set_option maxRecDepth 65536 in
set_option maxHeartbeats 40000000 in
theorem rm11 (l : Launch) (Z : State) (a0 : Array Value) (hw : ∀ d ∈ tables_1, d.before a0 Z = true) (ws : List Jvm.Cond) (u1 : UInt64) (u2 : UInt64) (u3 : UInt64) (h0 : Heap) (n0 : Nat) (Z0 : n0 ≤ h0.size) (hn : (0 : Int32) < cmpValue (FP.dcmp u3 u2) .l → Jvm.Free.Fl.NoNaN64 (FP.dmul u1 u2) ∧ Jvm.Free.Fl.NoNaN64 (FP.ddiv (FP.dmul u1 u2) u3)) :
    Met l (⟨"com/example/istra/istra/engine/NodeModel", "cut", "(DDD)D"⟩ : MethodName) prog_40_method_13_code 6 (some .double) ws (rm 0 0 0 0) #[(.double u1), (.double u2), (.double u3)] Z h0 (Q_rm11 Z u1 u2 u3 h0 n0) := by
  refine MetFree.of_bodySF (plainFor_of_name pn_com_2fexample_2fistra_2fistra_2fengine_2fNodeModel) hisR ?_
  intro p e s m args below meth c s₁ Bd hml0 hP hK
  obtain ⟨rfl, hZ, hh⟩ := hP
  have hx := Bd.exec
  have hby := Bd.bytes
  have hml : c.maxLocals = 6 := hml0
  have hown : s.vm.findClass "com/example/istra/istra/engine/NodeModel" = some m.cls := findClass_of_methodNamed Bd.named
  have hnm := (name_of_methodNamed Bd.named Bd.method).1
  have X0 : Stand p l e (rm 0 0 0 0) s m #[(.double u1), (.double u2), (.double u3)] below meth c s₁ [] 0 0 := Stand.of_body Bd
  have e0 : s₁.heap = h0 := by rw [← hh, Bd.state]; rfl
  have N0 := Fr.nil n0
  have hww := fun (i : Nat) (c : Jvm.Cond) (h : tables_1[i]? = some c) => hw c (List.mem_of_getElem? h)
  have k0 : Rt p e below s₁ (mkF m 0 #[sd u1, se, sd u2, se, sd u3, se] []) s₁ m #[(.double u1), (.double u2), (.double u3)] 6 := fun t k => castTop (ef_11_DDD m u1 u2 u3) k
  have k101 : Rt p e below s₁ (mkF m 4 #[sd u1, se, sd u2, se, sd u3, se] [vI (cmpValue (FP.dcmp u3 u2) .l)]) s₁ m #[(.double u1), (.double u2), (.double u3)] 6 := fun t k => k0 t (by
    show Sp p e below s₁ (mkF m 0 #[sd u1, se, sd u2, se, sd u3, se] []) _
    refine XS.dload X0.here hx rfl (hb hby d11_0) rfl ?_
    refine XS.dloadN X0.here hx rfl (hb hby d11_2) rfl ?_
    refine XS.dcmpS X0.here hx rfl (hb hby d11_3) rfl rfl ?_
    exact k)
  by_cases cq : (0 : Int32) < cmpValue (FP.dcmp u3 u2) .l
  · have k102 : Rt p e below s₁ (mkF m 17 #[sd u1, se, sd u2, se, sd u3, se] [vD (FP.ddiv (FP.dmul u1 u2) u3)]) s₁ m #[(.double u1), (.double u2), (.double u3)] 6 := fun t k => k101 t (by
      show Sp p e below s₁ (mkF m 4 #[sd u1, se, sd u2, se, sd u3, se] [vI (cmpValue (FP.dcmp u3 u2) .l)]) _
      refine XS.ifNo X0.here hx rfl (hb hby d11_4) rfl ((if0 _ _).trans (tlt cq).2.2.2) ?_
      refine XS.dloadN X0.here hx rfl (hb hby d11_7) rfl ?_
      refine XS.dloadN X0.here hx rfl (hb hby d11_8) rfl ?_
      refine XS.dmulS X0.here hx rfl (hb hby d11_9) rfl ((hn cq).1) rfl ?_
      show Sp p e below s₁ (mkF m 10 #[sd u1, se, sd u2, se, sd u3, se] [vD (FP.dmul u1 u2)]) _
      refine XS.dload X0.here hx rfl (hb hby d11_10) rfl ?_
      refine XS.ddivS X0.here hx rfl (hb hby d11_12) rfl ((hn cq).2) rfl ?_
      refine XS.goto X0.here hx rfl (pc0 := 13) (pc' := 17) rfl (hb hby d11_13) (by decide) (by decide) ?_
      exact k)
    obtain ⟨fs, hr, hrun, hended, hW, hsame⟩ := X0.leave (v := some (.double (FP.ddiv (FP.dmul u1 u2) u3))) (fun h => by rw [Bd.returns] at h; cases h)
    refine ⟨_, _, k102 _ (retOut X0 hx (t := .double) Bd.returns rfl (Or.inr (Or.inr (Or.inl ⟨rfl, rfl, _, rfl⟩))) (hb hby d11_17) hr), hrun, hended, _, _, rfl, ?_, ⟨_, rfl⟩, hW, hsame.mono (by decide) (by decide)⟩
    show Q_rm11 Z u1 u2 u3 h0 n0 _ s₁.heap _
    rw [e0]
    exact ⟨by unfold own_cut; rw [if_pos cq], N0, rfl⟩
  · have k103 : Rt p e below s₁ (mkF m 17 #[sd u1, se, sd u2, se, sd u3, se] [vD u1]) s₁ m #[(.double u1), (.double u2), (.double u3)] 6 := fun t k => k101 t (by
      show Sp p e below s₁ (mkF m 4 #[sd u1, se, sd u2, se, sd u3, se] [vI (cmpValue (FP.dcmp u3 u2) .l)]) _
      refine XS.ifYes X0.here hx rfl (pc0 := 4) (pc' := 16) rfl (hb hby d11_4) rfl ((if0 _ _).trans (flt cq).2.2.2) (by decide) (by decide) ?_
      refine XS.dloadN X0.here hx rfl (hb hby d11_16) rfl ?_
      exact k)
    obtain ⟨fs, hr, hrun, hended, hW, hsame⟩ := X0.leave (v := some (.double u1)) (fun h => by rw [Bd.returns] at h; cases h)
    refine ⟨_, _, k103 _ (retOut X0 hx (t := .double) Bd.returns rfl (Or.inr (Or.inr (Or.inl ⟨rfl, rfl, _, rfl⟩))) (hb hby d11_17) hr), hrun, hended, _, _, rfl, ?_, ⟨_, rfl⟩, hW, hsame.mono (by decide) (by decide)⟩
    show Q_rm11 Z u1 u2 u3 h0 n0 _ s₁.heap _
    rw [e0]
    exact ⟨by unfold own_cut; rw [if_neg cq], N0, rfl⟩
theorem ef_9_RI (m : MethodId) (x0 : Addr) (x1 : Int32) : entryFrame m #[(.ref x0), (.int x1)] 6 = mkF m 0 #[.val (.ref x0), .val (.int x1), .unset, .unset, .unset, .unset] [] := by first | (simp [entryFrame, mkF, argsToLocals, Value.category]; done) | rfl
theorem d9_0 : decode prog_40_method_15_code 0 = .ok (.iconst 0, 1) := by decide +kernel
theorem d9_1 : decode prog_40_method_15_code 1 = .ok (.istore_n 2, 1) := by decide +kernel
theorem d9_2 : decode prog_40_method_15_code 2 = .ok (.iconst 0, 1) := by decide +kernel
theorem d9_3 : decode prog_40_method_15_code 3 = .ok (.istore_n 3, 1) := by decide +kernel
theorem d9_4 : decode prog_40_method_15_code 4 = .ok (.iconst 0, 1) := by decide +kernel
theorem d9_5 : decode prog_40_method_15_code 5 = .ok (.istore 4, 2) := by decide +kernel
theorem d9_7 : decode prog_40_method_15_code 7 = .ok (.iload 4, 2) := by decide +kernel
theorem d9_9 : decode prog_40_method_15_code 9 = .ok (.aload_n 0, 1) := by decide +kernel
theorem d9_10 : decode prog_40_method_15_code 10 = .ok (.getfield 55, 3) := by decide +kernel
theorem d9_13 : decode prog_40_method_15_code 13 = .ok (.if_icmp .ge 64, 3) := by decide +kernel
theorem d9_16 : decode prog_40_method_15_code 16 = .ok (.iload_n 1, 1) := by decide +kernel
theorem d9_17 : decode prog_40_method_15_code 17 = .ok (.aload_n 0, 1) := by decide +kernel
theorem d9_18 : decode prog_40_method_15_code 18 = .ok (.getfield 55, 3) := by decide +kernel
theorem d9_21 : decode prog_40_method_15_code 21 = .ok (.imul, 1) := by decide +kernel
theorem d9_22 : decode prog_40_method_15_code 22 = .ok (.iload 4, 2) := by decide +kernel
theorem d9_24 : decode prog_40_method_15_code 24 = .ok (.iadd, 1) := by decide +kernel
theorem d9_25 : decode prog_40_method_15_code 25 = .ok (.istore 5, 2) := by decide +kernel
theorem d9_27 : decode prog_40_method_15_code 27 = .ok (.aload_n 0, 1) := by decide +kernel
theorem d9_28 : decode prog_40_method_15_code 28 = .ok (.getfield 16, 3) := by decide +kernel
theorem d9_31 : decode prog_40_method_15_code 31 = .ok (.iload 5, 2) := by decide +kernel
theorem d9_33 : decode prog_40_method_15_code 33 = .ok (.daload, 1) := by decide +kernel
theorem d9_34 : decode prog_40_method_15_code 34 = .ok (.dconst 0, 1) := by decide +kernel
theorem d9_35 : decode prog_40_method_15_code 35 = .ok (.dcmp .l, 1) := by decide +kernel
theorem d9_36 : decode prog_40_method_15_code 36 = .ok (.ifCond .le 35, 3) := by decide +kernel
theorem d9_39 : decode prog_40_method_15_code 39 = .ok (.iconst 1, 1) := by decide +kernel
theorem d9_40 : decode prog_40_method_15_code 40 = .ok (.istore_n 2, 1) := by decide +kernel
theorem d9_41 : decode prog_40_method_15_code 41 = .ok (.iload_n 3, 1) := by decide +kernel
theorem d9_42 : decode prog_40_method_15_code 42 = .ok (.aload_n 0, 1) := by decide +kernel
theorem d9_43 : decode prog_40_method_15_code 43 = .ok (.getfield 22, 3) := by decide +kernel
theorem d9_46 : decode prog_40_method_15_code 46 = .ok (.iload 4, 2) := by decide +kernel
theorem d9_48 : decode prog_40_method_15_code 48 = .ok (.daload, 1) := by decide +kernel
theorem d9_49 : decode prog_40_method_15_code 49 = .ok (.dconst 0, 1) := by decide +kernel
theorem d9_50 : decode prog_40_method_15_code 50 = .ok (.dcmp .l, 1) := by decide +kernel
theorem d9_51 : decode prog_40_method_15_code 51 = .ok (.ifCond .eq 13, 3) := by decide +kernel
theorem d9_64 : decode prog_40_method_15_code 64 = .ok (.iconst 1, 1) := by decide +kernel
theorem d9_65 : decode prog_40_method_15_code 65 = .ok (.goto 4, 3) := by decide +kernel
theorem d9_69 : decode prog_40_method_15_code 69 = .ok (.ior, 1) := by decide +kernel
theorem d9_70 : decode prog_40_method_15_code 70 = .ok (.istore_n 3, 1) := by decide +kernel
theorem d9_54 : decode prog_40_method_15_code 54 = .ok (.aload_n 0, 1) := by decide +kernel
theorem d9_55 : decode prog_40_method_15_code 55 = .ok (.getfield 41, 3) := by decide +kernel
theorem d9_58 : decode prog_40_method_15_code 58 = .ok (.iload 5, 2) := by decide +kernel
theorem d9_60 : decode prog_40_method_15_code 60 = .ok (.baload, 1) := by decide +kernel
theorem d9_61 : decode prog_40_method_15_code 61 = .ok (.ifCond .eq 7, 3) := by decide +kernel
theorem d9_68 : decode prog_40_method_15_code 68 = .ok (.iconst 0, 1) := by decide +kernel
theorem d9_71 : decode prog_40_method_15_code 71 = .ok (.iinc 4 1, 3) := by decide +kernel
theorem d9_74 : decode prog_40_method_15_code 74 = .ok (.goto (-67), 3) := by decide +kernel
theorem d9_77 : decode prog_40_method_15_code 77 = .ok (.iload_n 2, 1) := by decide +kernel
theorem d9_78 : decode prog_40_method_15_code 78 = .ok (.ifCond .eq 7, 3) := by decide +kernel
theorem d9_85 : decode prog_40_method_15_code 85 = .ok (.iconst 1, 1) := by decide +kernel
theorem d9_86 : decode prog_40_method_15_code 86 = .ok (.goto 4, 3) := by decide +kernel
theorem d9_81 : decode prog_40_method_15_code 81 = .ok (.iload_n 3, 1) := by decide +kernel
theorem d9_82 : decode prog_40_method_15_code 82 = .ok (.ifCond .eq 7, 3) := by decide +kernel
theorem d9_89 : decode prog_40_method_15_code 89 = .ok (.iconst 0, 1) := by decide +kernel
theorem d9_90 : decode prog_40_method_15_code 90 = .ok (.ireturn, 1) := by decide +kernel
def Q_fin0 (Z : State) (ob : Addr) (B : Nat → Addr) (K : Nat → ClassId) (l0 : List Value) (l1 : List Value) (l3 : List Value) (l5 : List Value) (l6 : List Value) (l7 : List Value) (l8 : List Value) (l9 : List Value) (l11 : List Value) (l12 : List Value) (wc : Int32) (y0 : UInt64) (y1 : UInt64) (y2 : UInt64) (y3 : UInt64) (r0 : UInt64) (r1 : UInt64) (h0 : Heap) (n0 : Nat) (v : Option Value) (h : Heap) (L : List Loc) : Prop := ∃ f : Int32, v = some (.int f) ∧ Fr n0 L ∧ h = h0 ∧ own_finp f ((0 : Int32) < cmpValue (FP.dcmp y0 (0 : UInt64)) .l) ((0 : Int32) < cmpValue (FP.dcmp y1 (0 : UInt64)) .l) (cmpValue (FP.dcmp r0 (0 : UInt64)) .l = (0 : Int32)) (cmpValue (FP.dcmp r1 (0 : UInt64)) .l = (0 : Int32))
set_option maxRecDepth 65536 in
set_option maxHeartbeats 40000000 in
theorem fin0 (l : Launch) (Z : State) (a0 : Array Value) (hw : ∀ d ∈ tables_1, d.before a0 Z = true) (ws : List Jvm.Cond) (ob : Addr) (B : Nat → Addr) (K : Nat → ClassId) (l0 : List Value) (l1 : List Value) (l3 : List Value) (l5 : List Value) (l6 : List Value) (l7 : List Value) (l8 : List Value) (l9 : List Value) (l11 : List Value) (l12 : List Value) (wc : Int32) (y0 : UInt64) (y1 : UInt64) (y2 : UInt64) (y3 : UInt64) (r0 : UInt64) (r1 : UInt64) (h0 : Heap) (n0 : Nat) (Z0 : n0 ≤ h0.size) (D : Dis ob B) (NB0 : NB Z h0 ob B K l0 l1 [(.double y0), (.double y1), (.double y2), (.double y3)] l3 [(.double r0), (.double r1)] l5 l6 l7 l8 l9 [(.int (0 : Int32)), (.int (0 : Int32)), (.int (0 : Int32)), (.int (0 : Int32))] l11 l12 wc) :
    Met l (⟨"com/example/istra/istra/engine/NodeModel", "finished", "(I)Z"⟩ : MethodName) prog_40_method_15_code 6 (some .boolean) ws (rm 0 0 0 0) #[(.ref ob), (.int (0 : Int32))] Z h0 (Q_fin0 Z ob B K l0 l1 l3 l5 l6 l7 l8 l9 l11 l12 wc y0 y1 y2 y3 r0 r1 h0 n0) := by
  refine MetFree.of_bodySF (plainFor_of_name pn_com_2fexample_2fistra_2fistra_2fengine_2fNodeModel) hisR ?_
  intro p e s m args below meth c s₁ Bd hml0 hP hK
  obtain ⟨rfl, hZ, hh⟩ := hP
  have hx := Bd.exec
  have hby := Bd.bytes
  have hml : c.maxLocals = 6 := hml0
  have hown : s.vm.findClass "com/example/istra/istra/engine/NodeModel" = some m.cls := findClass_of_methodNamed Bd.named
  have hnm := (name_of_methodNamed Bd.named Bd.method).1
  have X0 : Stand p l e (rm 0 0 0 0) s m #[(.ref ob), (.int (0 : Int32))] below meth c s₁ [] 0 0 := Stand.of_body Bd
  have e0 : s₁.heap = h0 := by rw [← hh, Bd.state]; rfl
  have N0 := Fr.nil n0
  have hww := fun (i : Nat) (c : Jvm.Cond) (h : tables_1[i]? = some c) => hw c (List.mem_of_getElem? h)
  have k0 : Rt p e below s₁ (mkF m 0 #[sr ob, si 0, un, un, un, un] []) s₁ m #[(.ref ob), (.int (0 : Int32))] 6 := fun t k => castTop (ef_9_RI m ob (0 : Int32)) k
  have H : ∀ {pc r}, decode prog_40_method_15_code pc = r → decode c.code pc = r := fun d => hb hby d
  have k101 := f_ic X0 hx k0 (H d9_0) (v := 0) rfl
  have k102 := f_isN X0 hx k101 (H d9_1) (l' := #[sr ob, si 0, si 0, un, un, un]) rfl
  have k103 := f_ic X0 hx k102 (H d9_2) (v := 0) rfl
  have k104 := f_isN X0 hx k103 (H d9_3) (l' := #[sr ob, si 0, si 0, si 0, un, un]) rfl
  have k105 := f_ic X0 hx k104 (H d9_4) (v := 0) rfl
  have k106 := f_is X0 hx k105 (H d9_5) (l' := #[sr ob, si 0, si 0, si 0, si 0, un]) rfl
  have k107 := f_il X0 hx k106 (H d9_7) rfl
  have k108 := f_alN X0 hx k107 (H d9_9) rfl
  obtain ⟨T109, X109, e109, k110⟩ := gFs X0 hx hZ hown (hww 47 _ rfl) e0 (nq16 NB0) k108 (H d9_10)
  have k111 := f_icN X109 hx k110 (H d9_13) (tlt (by decide)).2.1
  have k112 := f_ilN X109 hx k111 (H d9_16) rfl
  have k113 := f_alN X109 hx k112 (H d9_17) rfl
  obtain ⟨T114, X114, e114, k115⟩ := gFs X109 hx hZ hown (hww 47 _ rfl) e109 (nq16 NB0) k113 (H d9_18)
  have k116 := f_imul X114 hx k115 (H d9_21) (r := 0) (by decide)
  have k117 := f_il X114 hx k116 (H d9_22) rfl
  have k118 := f_iadd X114 hx k117 (H d9_24) (r := 0) (by decide)
  have k119 := f_is X114 hx k118 (H d9_25) (l' := #[sr ob, si 0, si 0, si 0, si 0, si 0]) rfl
  have k120 := f_alN X114 hx k119 (H d9_27) rfl
  obtain ⟨T121, X121, e121, k122⟩ := gFs X114 hx hZ hown (hww 14 _ rfl) e114 (nq3 NB0) k120 (H d9_28)
  have k123 := f_il X121 hx k122 (H d9_31) rfl
  have k124 := f_dal X121 hx hZ e121 (nq20 NB0) k123 (H d9_33) (v := y0) (by decide) rfl
  have k125 := f_d0 X121 hx k124 (H d9_34)
  have k126 := f_dc X121 hx k125 (H d9_35)
  obtain ⟨T127, h127, Ls127, wt0, hd0, X127, e127, N127, Zq127, F155, F156, he0, kq127⟩ : ∃ (T127 : State) (h127 : Heap) (Ls127 : List Loc) (wt0 : Int32) (hd0 : Int32), Stand p l e (rm 0 0 0 0) s m #[(.ref ob), (.int (0 : Int32))] below meth c T127 Ls127 0 0 ∧ T127.heap = h127 ∧ Fr n0 Ls127 ∧ n0 ≤ h127.size ∧ NB Z h127 ob B K l0 l1 [(.double y0), (.double y1), (.double y2), (.double y3)] l3 [(.double r0), (.double r1)] l5 l6 l7 l8 l9 [(.int (0 : Int32)), (.int (0 : Int32)), (.int (0 : Int32)), (.int (0 : Int32))] l11 l12 wc ∧ h127 = h0 ∧ (((0 : Int32) < cmpValue (FP.dcmp y0 (0 : UInt64)) .l → cmpValue (FP.dcmp r0 (0 : UInt64)) .l = (0 : Int32) → wt0 = (1 : Int32) ∧ hd0 = (0 : Int32) ||| (1 : Int32)) ∧ ((0 : Int32) < cmpValue (FP.dcmp y0 (0 : UInt64)) .l → ¬ (cmpValue (FP.dcmp r0 (0 : UInt64)) .l = (0 : Int32)) → wt0 = (1 : Int32) ∧ hd0 = (0 : Int32) ||| (0 : Int32)) ∧ (¬ ((0 : Int32) < cmpValue (FP.dcmp y0 (0 : UInt64)) .l) → wt0 = (0 : Int32) ∧ hd0 = (0 : Int32))) ∧ (Rt p e below T127 (mkF m 71 #[sr ob, si 0, si wt0, si hd0, si 0, si 0] []) s₁ m #[(.ref ob), (.int (0 : Int32))] 6) := by
    by_cases qa : (0 : Int32) < cmpValue (FP.dcmp y0 (0 : UInt64)) .l
    · have k128 := f_ifN X121 hx k126 (H d9_36) ((if0 _ _).trans (tlt qa).2.2.2)
      have k129 := f_ic X121 hx k128 (H d9_39) (v := 1) rfl
      have k130 := f_isN X121 hx k129 (H d9_40) (l' := #[sr ob, si 0, si 1, si 0, si 0, si 0]) rfl
      have k131 := f_ilN X121 hx k130 (H d9_41) rfl
      have k132 := f_alN X121 hx k131 (H d9_42) rfl
      obtain ⟨T133, X133, e133, k134⟩ := gFs X121 hx hZ hown (hww 18 _ rfl) e121 (nq5 NB0) k132 (H d9_43)
      have k135 := f_il X133 hx k134 (H d9_46) rfl
      have k136 := f_dal X133 hx hZ e133 (nq22 NB0) k135 (H d9_48) (v := r0) (by decide) rfl
      have k137 := f_d0 X133 hx k136 (H d9_49)
      have k138 := f_dc X133 hx k137 (H d9_50)
      by_cases qr : cmpValue (FP.dcmp r0 (0 : UInt64)) .l = (0 : Int32)
      · have k139 := f_ifY X133 hx k138 (H d9_51) (pc' := 64) ((if0 _ _).trans (teq qr).1) (by decide)
        have k140 := f_ic X133 hx k139 (H d9_64) (v := 1) rfl
        have k141 := f_go X133 hx k140 (H d9_65) (pc' := 69) (by decide)
        have k142 := f_ior X133 hx k141 (H d9_69) (r := 1) (by decide)
        have k143 := f_isN X133 hx k142 (H d9_70) (l' := #[sr ob, si 0, si 1, si 1, si 0, si 0]) rfl
        exact ⟨T133, h0, _, (1 : Int32), (1 : Int32), X133, e133, N0, Z0, NB0, rfl, (own_f1 qa qr rfl (by first | rfl | decide)), k143⟩
      · have k144 := f_ifN X133 hx k138 (H d9_51) ((if0 _ _).trans (feq qr).1)
        have k145 := f_alN X133 hx k144 (H d9_54) rfl
        obtain ⟨T146, X146, e146, k147⟩ := gFs X133 hx hZ hown (hww 31 _ rfl) e133 (nq11 NB0) k145 (H d9_55)
        have k148 := f_il X146 hx k147 (H d9_58) rfl
        have k149 := f_bal X146 hx hZ e146 (nq28 NB0) k148 (H d9_60) (v := 0) (by decide) rfl
        have k150 := f_ifY X146 hx k149 (H d9_61) (pc' := 68) ((if0 _ _).trans (teq (by decide)).1) (by decide)
        have k151 := f_ic X146 hx k150 (H d9_68) (v := 0) rfl
        have k152 := f_ior X146 hx k151 (H d9_69) (r := 0) (by decide)
        have k153 := f_isN X146 hx k152 (H d9_70) (l' := #[sr ob, si 0, si 1, si 0, si 0, si 0]) rfl
        exact ⟨T146, h0, _, (1 : Int32), (0 : Int32), X146, e146, N0, Z0, NB0, rfl, (own_f2 qa qr rfl (by first | rfl | decide)), k153⟩
    · have k154 := f_ifY X121 hx k126 (H d9_36) (pc' := 71) ((if0 _ _).trans (flt qa).2.2.2) (by decide)
      exact ⟨T121, h0, _, (0 : Int32), (0 : Int32), X121, e121, N0, Z0, NB0, rfl, (own_f3 qa rfl (by first | rfl | decide)), k154⟩
  have k157 := f_inc X127 hx kq127 (H d9_71) rfl (l' := #[sr ob, si 0, si wt0, si hd0, si 1, si 0]) rfl
  have k158 := f_go X127 hx k157 (H d9_74) (pc' := 7) (by decide)
  have k159 := f_il X127 hx k158 (H d9_7) rfl
  have k160 := f_alN X127 hx k159 (H d9_9) rfl
  obtain ⟨T161, X161, e161, k162⟩ := gFs X127 hx hZ hown (hww 47 _ rfl) e127 (nq16 F155) k160 (H d9_10)
  have k163 := f_icN X161 hx k162 (H d9_13) (tlt (by decide)).2.1
  have k164 := f_ilN X161 hx k163 (H d9_16) rfl
  have k165 := f_alN X161 hx k164 (H d9_17) rfl
  obtain ⟨T166, X166, e166, k167⟩ := gFs X161 hx hZ hown (hww 47 _ rfl) e161 (nq16 F155) k165 (H d9_18)
  have k168 := f_imul X166 hx k167 (H d9_21) (r := 0) (by decide)
  have k169 := f_il X166 hx k168 (H d9_22) rfl
  have k170 := f_iadd X166 hx k169 (H d9_24) (r := 1) (by decide)
  have k171 := f_is X166 hx k170 (H d9_25) (l' := #[sr ob, si 0, si wt0, si hd0, si 1, si 1]) rfl
  have k172 := f_alN X166 hx k171 (H d9_27) rfl
  obtain ⟨T173, X173, e173, k174⟩ := gFs X166 hx hZ hown (hww 14 _ rfl) e166 (nq3 F155) k172 (H d9_28)
  have k175 := f_il X173 hx k174 (H d9_31) rfl
  have k176 := f_dal X173 hx hZ e173 (nq20 F155) k175 (H d9_33) (v := y1) (by decide) rfl
  have k177 := f_d0 X173 hx k176 (H d9_34)
  have k178 := f_dc X173 hx k177 (H d9_35)
  obtain ⟨T179, h179, Ls179, wt1, hd1, X179, e179, N179, Zq179, F207, F208, he1, kq179⟩ : ∃ (T179 : State) (h179 : Heap) (Ls179 : List Loc) (wt1 : Int32) (hd1 : Int32), Stand p l e (rm 0 0 0 0) s m #[(.ref ob), (.int (0 : Int32))] below meth c T179 Ls179 0 0 ∧ T179.heap = h179 ∧ Fr n0 Ls179 ∧ n0 ≤ h179.size ∧ NB Z h179 ob B K l0 l1 [(.double y0), (.double y1), (.double y2), (.double y3)] l3 [(.double r0), (.double r1)] l5 l6 l7 l8 l9 [(.int (0 : Int32)), (.int (0 : Int32)), (.int (0 : Int32)), (.int (0 : Int32))] l11 l12 wc ∧ h179 = h0 ∧ (((0 : Int32) < cmpValue (FP.dcmp y1 (0 : UInt64)) .l → cmpValue (FP.dcmp r1 (0 : UInt64)) .l = (0 : Int32) → wt1 = (1 : Int32) ∧ hd1 = hd0 ||| (1 : Int32)) ∧ ((0 : Int32) < cmpValue (FP.dcmp y1 (0 : UInt64)) .l → ¬ (cmpValue (FP.dcmp r1 (0 : UInt64)) .l = (0 : Int32)) → wt1 = (1 : Int32) ∧ hd1 = hd0 ||| (0 : Int32)) ∧ (¬ ((0 : Int32) < cmpValue (FP.dcmp y1 (0 : UInt64)) .l) → wt1 = wt0 ∧ hd1 = hd0)) ∧ (Rt p e below T179 (mkF m 71 #[sr ob, si 0, si wt1, si hd1, si 1, si 1] []) s₁ m #[(.ref ob), (.int (0 : Int32))] 6) := by
    by_cases qa : (0 : Int32) < cmpValue (FP.dcmp y1 (0 : UInt64)) .l
    · have k180 := f_ifN X173 hx k178 (H d9_36) ((if0 _ _).trans (tlt qa).2.2.2)
      have k181 := f_ic X173 hx k180 (H d9_39) (v := 1) rfl
      have k182 := f_isN X173 hx k181 (H d9_40) (l' := #[sr ob, si 0, si 1, si hd0, si 1, si 1]) rfl
      have k183 := f_ilN X173 hx k182 (H d9_41) rfl
      have k184 := f_alN X173 hx k183 (H d9_42) rfl
      obtain ⟨T185, X185, e185, k186⟩ := gFs X173 hx hZ hown (hww 18 _ rfl) e173 (nq5 F155) k184 (H d9_43)
      have k187 := f_il X185 hx k186 (H d9_46) rfl
      have k188 := f_dal X185 hx hZ e185 (nq22 F155) k187 (H d9_48) (v := r1) (by decide) rfl
      have k189 := f_d0 X185 hx k188 (H d9_49)
      have k190 := f_dc X185 hx k189 (H d9_50)
      by_cases qr : cmpValue (FP.dcmp r1 (0 : UInt64)) .l = (0 : Int32)
      · have k191 := f_ifY X185 hx k190 (H d9_51) (pc' := 64) ((if0 _ _).trans (teq qr).1) (by decide)
        have k192 := f_ic X185 hx k191 (H d9_64) (v := 1) rfl
        have k193 := f_go X185 hx k192 (H d9_65) (pc' := 69) (by decide)
        have k194 := f_ior X185 hx k193 (H d9_69) rfl
        have k195 := f_isN X185 hx k194 (H d9_70) (l' := #[sr ob, si 0, si 1, si (hd0 ||| (1 : Int32)), si 1, si 1]) rfl
        exact ⟨T185, h127, _, (1 : Int32), (hd0 ||| (1 : Int32)), X185, e185, N127, Zq127, F155, F156, (own_f1 qa qr rfl (by first | rfl | decide)), k195⟩
      · have k196 := f_ifN X185 hx k190 (H d9_51) ((if0 _ _).trans (feq qr).1)
        have k197 := f_alN X185 hx k196 (H d9_54) rfl
        obtain ⟨T198, X198, e198, k199⟩ := gFs X185 hx hZ hown (hww 31 _ rfl) e185 (nq11 F155) k197 (H d9_55)
        have k200 := f_il X198 hx k199 (H d9_58) rfl
        have k201 := f_bal X198 hx hZ e198 (nq28 F155) k200 (H d9_60) (v := 0) (by decide) rfl
        have k202 := f_ifY X198 hx k201 (H d9_61) (pc' := 68) ((if0 _ _).trans (teq (by decide)).1) (by decide)
        have k203 := f_ic X198 hx k202 (H d9_68) (v := 0) rfl
        have k204 := f_ior X198 hx k203 (H d9_69) rfl
        have k205 := f_isN X198 hx k204 (H d9_70) (l' := #[sr ob, si 0, si 1, si (hd0 ||| (0 : Int32)), si 1, si 1]) rfl
        exact ⟨T198, h127, _, (1 : Int32), (hd0 ||| (0 : Int32)), X198, e198, N127, Zq127, F155, F156, (own_f2 qa qr rfl (by first | rfl | decide)), k205⟩
    · have k206 := f_ifY X173 hx k178 (H d9_36) (pc' := 71) ((if0 _ _).trans (flt qa).2.2.2) (by decide)
      exact ⟨T173, h127, _, wt0, hd0, X173, e173, N127, Zq127, F155, F156, (own_f3 qa rfl (by first | rfl | decide)), k206⟩
  have k209 := f_inc X179 hx kq179 (H d9_71) rfl (l' := #[sr ob, si 0, si wt1, si hd1, si 2, si 1]) rfl
  have k210 := f_go X179 hx k209 (H d9_74) (pc' := 7) (by decide)
  have k211 := f_il X179 hx k210 (H d9_7) rfl
  have k212 := f_alN X179 hx k211 (H d9_9) rfl
  obtain ⟨T213, X213, e213, k214⟩ := gFs X179 hx hZ hown (hww 47 _ rfl) e179 (nq16 F207) k212 (H d9_10)
  have k215 := f_icY X213 hx k214 (H d9_13) (pc' := 77) (flt (by decide)).2.1 (by decide)
  have k216 := f_ilN X213 hx k215 (H d9_77) rfl
  obtain ⟨i219, hi219⟩ : ∃ z : Int32, z = (if wt1 = (0 : Int32) then (1 : Int32) else (if hd1 = (0 : Int32) then (0 : Int32) else (1 : Int32))) := ⟨_, rfl⟩
  have k220 : Rt p e below T213 (mkF m 90 #[sr ob, si 0, si wt1, si hd1, si 2, si 1] [vI i219]) s₁ m #[(.ref ob), (.int (0 : Int32))] 6 := fun t k => k216 t (by
    by_cases c217 : wt1 = (0 : Int32)
    · rw [if_pos c217] at hi219
      show Sp p e below T213 (mkF m 78 #[sr ob, si 0, si wt1, si hd1, si 2, si 1] [vI wt1]) _
      refine XS.ifYes X213.here hx rfl (pc0 := 78) (pc' := 85) rfl (hb hby d9_78) rfl ((if0 _ _).trans (teq c217).1) (by decide) (by decide) ?_
      refine XS.iconst X213.here hx rfl (hb hby d9_85) ?_
      refine XS.goto X213.here hx rfl (pc0 := 86) (pc' := 90) rfl (hb hby d9_86) (by decide) (by decide) ?_
      show Sp p e below T213 (mkF m 90 #[sr ob, si 0, si wt1, si hd1, si 2, si 1] [vI 1]) _
      exact castTop (by rw [hi219]) k
    · rw [if_neg c217] at hi219
      show Sp p e below T213 (mkF m 78 #[sr ob, si 0, si wt1, si hd1, si 2, si 1] [vI wt1]) _
      refine XS.ifNo X213.here hx rfl (hb hby d9_78) rfl ((if0 _ _).trans (feq c217).1) ?_
      refine XS.iloadN X213.here hx rfl (hb hby d9_81) rfl ?_
      by_cases c218 : hd1 = (0 : Int32)
      · rw [if_pos c218] at hi219
        show Sp p e below T213 (mkF m 82 #[sr ob, si 0, si wt1, si hd1, si 2, si 1] [vI hd1]) _
        refine XS.ifYes X213.here hx rfl (pc0 := 82) (pc' := 89) rfl (hb hby d9_82) rfl ((if0 _ _).trans (teq c218).1) (by decide) (by decide) ?_
        refine XS.iconst X213.here hx rfl (hb hby d9_89) ?_
        show Sp p e below T213 (mkF m 90 #[sr ob, si 0, si wt1, si hd1, si 2, si 1] [vI 0]) _
        exact castTop (by rw [hi219]) k
      · rw [if_neg c218] at hi219
        show Sp p e below T213 (mkF m 82 #[sr ob, si 0, si wt1, si hd1, si 2, si 1] [vI hd1]) _
        refine XS.ifNo X213.here hx rfl (hb hby d9_82) rfl ((if0 _ _).trans (feq c218).1) ?_
        refine XS.iconst X213.here hx rfl (hb hby d9_85) ?_
        refine XS.goto X213.here hx rfl (pc0 := 86) (pc' := 90) rfl (hb hby d9_86) (by decide) (by decide) ?_
        show Sp p e below T213 (mkF m 90 #[sr ob, si 0, si wt1, si hd1, si 2, si 1] [vI 1]) _
        exact castTop (by rw [hi219]) k)
  obtain ⟨fs, hr, hrun, hended, hW, hsame⟩ := X213.leave (v := some (.int i219)) (fun h => by rw [Bd.returns] at h; cases h)
  refine ⟨_, _, k220 _ (retOut X213 hx (t := .boolean) Bd.returns (own_narZ (own_fin he0 he1 hi219).1) (Or.inl ⟨rfl, Or.inr (Or.inl rfl), _, rfl⟩) (H d9_90) hr), hrun, hended, _, _, rfl, ?_, ⟨_, rfl⟩, hW, hsame.mono (by decide) (by decide)⟩
  show Q_fin0 Z ob B K l0 l1 l3 l5 l6 l7 l8 l9 l11 l12 wc y0 y1 y2 y3 r0 r1 h0 n0 _ T213.heap _
  rw [e213]
  exact ⟨i219, rfl, N179, F208, own_fin he0 he1 hi219⟩
def Q_fin1 (Z : State) (ob : Addr) (B : Nat → Addr) (K : Nat → ClassId) (l0 : List Value) (l1 : List Value) (l3 : List Value) (l5 : List Value) (l6 : List Value) (l7 : List Value) (l8 : List Value) (l9 : List Value) (l11 : List Value) (l12 : List Value) (wc : Int32) (y0 : UInt64) (y1 : UInt64) (y2 : UInt64) (y3 : UInt64) (r0 : UInt64) (r1 : UInt64) (h0 : Heap) (n0 : Nat) (v : Option Value) (h : Heap) (L : List Loc) : Prop := ∃ f : Int32, v = some (.int f) ∧ Fr n0 L ∧ h = h0 ∧ own_finp f ((0 : Int32) < cmpValue (FP.dcmp y2 (0 : UInt64)) .l) ((0 : Int32) < cmpValue (FP.dcmp y3 (0 : UInt64)) .l) (cmpValue (FP.dcmp r0 (0 : UInt64)) .l = (0 : Int32)) (cmpValue (FP.dcmp r1 (0 : UInt64)) .l = (0 : Int32))
set_option maxRecDepth 65536 in
set_option maxHeartbeats 40000000 in
theorem fin1 (l : Launch) (Z : State) (a0 : Array Value) (hw : ∀ d ∈ tables_1, d.before a0 Z = true) (ws : List Jvm.Cond) (ob : Addr) (B : Nat → Addr) (K : Nat → ClassId) (l0 : List Value) (l1 : List Value) (l3 : List Value) (l5 : List Value) (l6 : List Value) (l7 : List Value) (l8 : List Value) (l9 : List Value) (l11 : List Value) (l12 : List Value) (wc : Int32) (y0 : UInt64) (y1 : UInt64) (y2 : UInt64) (y3 : UInt64) (r0 : UInt64) (r1 : UInt64) (h0 : Heap) (n0 : Nat) (Z0 : n0 ≤ h0.size) (D : Dis ob B) (NB0 : NB Z h0 ob B K l0 l1 [(.double y0), (.double y1), (.double y2), (.double y3)] l3 [(.double r0), (.double r1)] l5 l6 l7 l8 l9 [(.int (0 : Int32)), (.int (0 : Int32)), (.int (0 : Int32)), (.int (0 : Int32))] l11 l12 wc) :
    Met l (⟨"com/example/istra/istra/engine/NodeModel", "finished", "(I)Z"⟩ : MethodName) prog_40_method_15_code 6 (some .boolean) ws (rm 0 0 0 0) #[(.ref ob), (.int (1 : Int32))] Z h0 (Q_fin1 Z ob B K l0 l1 l3 l5 l6 l7 l8 l9 l11 l12 wc y0 y1 y2 y3 r0 r1 h0 n0) := by
  refine MetFree.of_bodySF (plainFor_of_name pn_com_2fexample_2fistra_2fistra_2fengine_2fNodeModel) hisR ?_
  intro p e s m args below meth c s₁ Bd hml0 hP hK
  obtain ⟨rfl, hZ, hh⟩ := hP
  have hx := Bd.exec
  have hby := Bd.bytes
  have hml : c.maxLocals = 6 := hml0
  have hown : s.vm.findClass "com/example/istra/istra/engine/NodeModel" = some m.cls := findClass_of_methodNamed Bd.named
  have hnm := (name_of_methodNamed Bd.named Bd.method).1
  have X0 : Stand p l e (rm 0 0 0 0) s m #[(.ref ob), (.int (1 : Int32))] below meth c s₁ [] 0 0 := Stand.of_body Bd
  have e0 : s₁.heap = h0 := by rw [← hh, Bd.state]; rfl
  have N0 := Fr.nil n0
  have hww := fun (i : Nat) (c : Jvm.Cond) (h : tables_1[i]? = some c) => hw c (List.mem_of_getElem? h)
  have k0 : Rt p e below s₁ (mkF m 0 #[sr ob, si 1, un, un, un, un] []) s₁ m #[(.ref ob), (.int (1 : Int32))] 6 := fun t k => castTop (ef_9_RI m ob (1 : Int32)) k
  have H : ∀ {pc r}, decode prog_40_method_15_code pc = r → decode c.code pc = r := fun d => hb hby d
  have k101 := f_ic X0 hx k0 (H d9_0) (v := 0) rfl
  have k102 := f_isN X0 hx k101 (H d9_1) (l' := #[sr ob, si 1, si 0, un, un, un]) rfl
  have k103 := f_ic X0 hx k102 (H d9_2) (v := 0) rfl
  have k104 := f_isN X0 hx k103 (H d9_3) (l' := #[sr ob, si 1, si 0, si 0, un, un]) rfl
  have k105 := f_ic X0 hx k104 (H d9_4) (v := 0) rfl
  have k106 := f_is X0 hx k105 (H d9_5) (l' := #[sr ob, si 1, si 0, si 0, si 0, un]) rfl
  have k107 := f_il X0 hx k106 (H d9_7) rfl
  have k108 := f_alN X0 hx k107 (H d9_9) rfl
  obtain ⟨T109, X109, e109, k110⟩ := gFs X0 hx hZ hown (hww 47 _ rfl) e0 (nq16 NB0) k108 (H d9_10)
  have k111 := f_icN X109 hx k110 (H d9_13) (tlt (by decide)).2.1
  have k112 := f_ilN X109 hx k111 (H d9_16) rfl
  have k113 := f_alN X109 hx k112 (H d9_17) rfl
  obtain ⟨T114, X114, e114, k115⟩ := gFs X109 hx hZ hown (hww 47 _ rfl) e109 (nq16 NB0) k113 (H d9_18)
  have k116 := f_imul X114 hx k115 (H d9_21) (r := 2) (by decide)
  have k117 := f_il X114 hx k116 (H d9_22) rfl
  have k118 := f_iadd X114 hx k117 (H d9_24) (r := 2) (by decide)
  have k119 := f_is X114 hx k118 (H d9_25) (l' := #[sr ob, si 1, si 0, si 0, si 0, si 2]) rfl
  have k120 := f_alN X114 hx k119 (H d9_27) rfl
  obtain ⟨T121, X121, e121, k122⟩ := gFs X114 hx hZ hown (hww 14 _ rfl) e114 (nq3 NB0) k120 (H d9_28)
  have k123 := f_il X121 hx k122 (H d9_31) rfl
  have k124 := f_dal X121 hx hZ e121 (nq20 NB0) k123 (H d9_33) (v := y2) (by decide) rfl
  have k125 := f_d0 X121 hx k124 (H d9_34)
  have k126 := f_dc X121 hx k125 (H d9_35)
  obtain ⟨T127, h127, Ls127, wt0, hd0, X127, e127, N127, Zq127, F155, F156, he0, kq127⟩ : ∃ (T127 : State) (h127 : Heap) (Ls127 : List Loc) (wt0 : Int32) (hd0 : Int32), Stand p l e (rm 0 0 0 0) s m #[(.ref ob), (.int (1 : Int32))] below meth c T127 Ls127 0 0 ∧ T127.heap = h127 ∧ Fr n0 Ls127 ∧ n0 ≤ h127.size ∧ NB Z h127 ob B K l0 l1 [(.double y0), (.double y1), (.double y2), (.double y3)] l3 [(.double r0), (.double r1)] l5 l6 l7 l8 l9 [(.int (0 : Int32)), (.int (0 : Int32)), (.int (0 : Int32)), (.int (0 : Int32))] l11 l12 wc ∧ h127 = h0 ∧ (((0 : Int32) < cmpValue (FP.dcmp y2 (0 : UInt64)) .l → cmpValue (FP.dcmp r0 (0 : UInt64)) .l = (0 : Int32) → wt0 = (1 : Int32) ∧ hd0 = (0 : Int32) ||| (1 : Int32)) ∧ ((0 : Int32) < cmpValue (FP.dcmp y2 (0 : UInt64)) .l → ¬ (cmpValue (FP.dcmp r0 (0 : UInt64)) .l = (0 : Int32)) → wt0 = (1 : Int32) ∧ hd0 = (0 : Int32) ||| (0 : Int32)) ∧ (¬ ((0 : Int32) < cmpValue (FP.dcmp y2 (0 : UInt64)) .l) → wt0 = (0 : Int32) ∧ hd0 = (0 : Int32))) ∧ (Rt p e below T127 (mkF m 71 #[sr ob, si 1, si wt0, si hd0, si 0, si 2] []) s₁ m #[(.ref ob), (.int (1 : Int32))] 6) := by
    by_cases qa : (0 : Int32) < cmpValue (FP.dcmp y2 (0 : UInt64)) .l
    · have k128 := f_ifN X121 hx k126 (H d9_36) ((if0 _ _).trans (tlt qa).2.2.2)
      have k129 := f_ic X121 hx k128 (H d9_39) (v := 1) rfl
      have k130 := f_isN X121 hx k129 (H d9_40) (l' := #[sr ob, si 1, si 1, si 0, si 0, si 2]) rfl
      have k131 := f_ilN X121 hx k130 (H d9_41) rfl
      have k132 := f_alN X121 hx k131 (H d9_42) rfl
      obtain ⟨T133, X133, e133, k134⟩ := gFs X121 hx hZ hown (hww 18 _ rfl) e121 (nq5 NB0) k132 (H d9_43)
      have k135 := f_il X133 hx k134 (H d9_46) rfl
      have k136 := f_dal X133 hx hZ e133 (nq22 NB0) k135 (H d9_48) (v := r0) (by decide) rfl
      have k137 := f_d0 X133 hx k136 (H d9_49)
      have k138 := f_dc X133 hx k137 (H d9_50)
      by_cases qr : cmpValue (FP.dcmp r0 (0 : UInt64)) .l = (0 : Int32)
      · have k139 := f_ifY X133 hx k138 (H d9_51) (pc' := 64) ((if0 _ _).trans (teq qr).1) (by decide)
        have k140 := f_ic X133 hx k139 (H d9_64) (v := 1) rfl
        have k141 := f_go X133 hx k140 (H d9_65) (pc' := 69) (by decide)
        have k142 := f_ior X133 hx k141 (H d9_69) (r := 1) (by decide)
        have k143 := f_isN X133 hx k142 (H d9_70) (l' := #[sr ob, si 1, si 1, si 1, si 0, si 2]) rfl
        exact ⟨T133, h0, _, (1 : Int32), (1 : Int32), X133, e133, N0, Z0, NB0, rfl, (own_f1 qa qr rfl (by first | rfl | decide)), k143⟩
      · have k144 := f_ifN X133 hx k138 (H d9_51) ((if0 _ _).trans (feq qr).1)
        have k145 := f_alN X133 hx k144 (H d9_54) rfl
        obtain ⟨T146, X146, e146, k147⟩ := gFs X133 hx hZ hown (hww 31 _ rfl) e133 (nq11 NB0) k145 (H d9_55)
        have k148 := f_il X146 hx k147 (H d9_58) rfl
        have k149 := f_bal X146 hx hZ e146 (nq28 NB0) k148 (H d9_60) (v := 0) (by decide) rfl
        have k150 := f_ifY X146 hx k149 (H d9_61) (pc' := 68) ((if0 _ _).trans (teq (by decide)).1) (by decide)
        have k151 := f_ic X146 hx k150 (H d9_68) (v := 0) rfl
        have k152 := f_ior X146 hx k151 (H d9_69) (r := 0) (by decide)
        have k153 := f_isN X146 hx k152 (H d9_70) (l' := #[sr ob, si 1, si 1, si 0, si 0, si 2]) rfl
        exact ⟨T146, h0, _, (1 : Int32), (0 : Int32), X146, e146, N0, Z0, NB0, rfl, (own_f2 qa qr rfl (by first | rfl | decide)), k153⟩
    · have k154 := f_ifY X121 hx k126 (H d9_36) (pc' := 71) ((if0 _ _).trans (flt qa).2.2.2) (by decide)
      exact ⟨T121, h0, _, (0 : Int32), (0 : Int32), X121, e121, N0, Z0, NB0, rfl, (own_f3 qa rfl (by first | rfl | decide)), k154⟩
  have k157 := f_inc X127 hx kq127 (H d9_71) rfl (l' := #[sr ob, si 1, si wt0, si hd0, si 1, si 2]) rfl
  have k158 := f_go X127 hx k157 (H d9_74) (pc' := 7) (by decide)
  have k159 := f_il X127 hx k158 (H d9_7) rfl
  have k160 := f_alN X127 hx k159 (H d9_9) rfl
  obtain ⟨T161, X161, e161, k162⟩ := gFs X127 hx hZ hown (hww 47 _ rfl) e127 (nq16 F155) k160 (H d9_10)
  have k163 := f_icN X161 hx k162 (H d9_13) (tlt (by decide)).2.1
  have k164 := f_ilN X161 hx k163 (H d9_16) rfl
  have k165 := f_alN X161 hx k164 (H d9_17) rfl
  obtain ⟨T166, X166, e166, k167⟩ := gFs X161 hx hZ hown (hww 47 _ rfl) e161 (nq16 F155) k165 (H d9_18)
  have k168 := f_imul X166 hx k167 (H d9_21) (r := 2) (by decide)
  have k169 := f_il X166 hx k168 (H d9_22) rfl
  have k170 := f_iadd X166 hx k169 (H d9_24) (r := 3) (by decide)
  have k171 := f_is X166 hx k170 (H d9_25) (l' := #[sr ob, si 1, si wt0, si hd0, si 1, si 3]) rfl
  have k172 := f_alN X166 hx k171 (H d9_27) rfl
  obtain ⟨T173, X173, e173, k174⟩ := gFs X166 hx hZ hown (hww 14 _ rfl) e166 (nq3 F155) k172 (H d9_28)
  have k175 := f_il X173 hx k174 (H d9_31) rfl
  have k176 := f_dal X173 hx hZ e173 (nq20 F155) k175 (H d9_33) (v := y3) (by decide) rfl
  have k177 := f_d0 X173 hx k176 (H d9_34)
  have k178 := f_dc X173 hx k177 (H d9_35)
  obtain ⟨T179, h179, Ls179, wt1, hd1, X179, e179, N179, Zq179, F207, F208, he1, kq179⟩ : ∃ (T179 : State) (h179 : Heap) (Ls179 : List Loc) (wt1 : Int32) (hd1 : Int32), Stand p l e (rm 0 0 0 0) s m #[(.ref ob), (.int (1 : Int32))] below meth c T179 Ls179 0 0 ∧ T179.heap = h179 ∧ Fr n0 Ls179 ∧ n0 ≤ h179.size ∧ NB Z h179 ob B K l0 l1 [(.double y0), (.double y1), (.double y2), (.double y3)] l3 [(.double r0), (.double r1)] l5 l6 l7 l8 l9 [(.int (0 : Int32)), (.int (0 : Int32)), (.int (0 : Int32)), (.int (0 : Int32))] l11 l12 wc ∧ h179 = h0 ∧ (((0 : Int32) < cmpValue (FP.dcmp y3 (0 : UInt64)) .l → cmpValue (FP.dcmp r1 (0 : UInt64)) .l = (0 : Int32) → wt1 = (1 : Int32) ∧ hd1 = hd0 ||| (1 : Int32)) ∧ ((0 : Int32) < cmpValue (FP.dcmp y3 (0 : UInt64)) .l → ¬ (cmpValue (FP.dcmp r1 (0 : UInt64)) .l = (0 : Int32)) → wt1 = (1 : Int32) ∧ hd1 = hd0 ||| (0 : Int32)) ∧ (¬ ((0 : Int32) < cmpValue (FP.dcmp y3 (0 : UInt64)) .l) → wt1 = wt0 ∧ hd1 = hd0)) ∧ (Rt p e below T179 (mkF m 71 #[sr ob, si 1, si wt1, si hd1, si 1, si 3] []) s₁ m #[(.ref ob), (.int (1 : Int32))] 6) := by
    by_cases qa : (0 : Int32) < cmpValue (FP.dcmp y3 (0 : UInt64)) .l
    · have k180 := f_ifN X173 hx k178 (H d9_36) ((if0 _ _).trans (tlt qa).2.2.2)
      have k181 := f_ic X173 hx k180 (H d9_39) (v := 1) rfl
      have k182 := f_isN X173 hx k181 (H d9_40) (l' := #[sr ob, si 1, si 1, si hd0, si 1, si 3]) rfl
      have k183 := f_ilN X173 hx k182 (H d9_41) rfl
      have k184 := f_alN X173 hx k183 (H d9_42) rfl
      obtain ⟨T185, X185, e185, k186⟩ := gFs X173 hx hZ hown (hww 18 _ rfl) e173 (nq5 F155) k184 (H d9_43)
      have k187 := f_il X185 hx k186 (H d9_46) rfl
      have k188 := f_dal X185 hx hZ e185 (nq22 F155) k187 (H d9_48) (v := r1) (by decide) rfl
      have k189 := f_d0 X185 hx k188 (H d9_49)
      have k190 := f_dc X185 hx k189 (H d9_50)
      by_cases qr : cmpValue (FP.dcmp r1 (0 : UInt64)) .l = (0 : Int32)
      · have k191 := f_ifY X185 hx k190 (H d9_51) (pc' := 64) ((if0 _ _).trans (teq qr).1) (by decide)
        have k192 := f_ic X185 hx k191 (H d9_64) (v := 1) rfl
        have k193 := f_go X185 hx k192 (H d9_65) (pc' := 69) (by decide)
        have k194 := f_ior X185 hx k193 (H d9_69) rfl
        have k195 := f_isN X185 hx k194 (H d9_70) (l' := #[sr ob, si 1, si 1, si (hd0 ||| (1 : Int32)), si 1, si 3]) rfl
        exact ⟨T185, h127, _, (1 : Int32), (hd0 ||| (1 : Int32)), X185, e185, N127, Zq127, F155, F156, (own_f1 qa qr rfl (by first | rfl | decide)), k195⟩
      · have k196 := f_ifN X185 hx k190 (H d9_51) ((if0 _ _).trans (feq qr).1)
        have k197 := f_alN X185 hx k196 (H d9_54) rfl
        obtain ⟨T198, X198, e198, k199⟩ := gFs X185 hx hZ hown (hww 31 _ rfl) e185 (nq11 F155) k197 (H d9_55)
        have k200 := f_il X198 hx k199 (H d9_58) rfl
        have k201 := f_bal X198 hx hZ e198 (nq28 F155) k200 (H d9_60) (v := 0) (by decide) rfl
        have k202 := f_ifY X198 hx k201 (H d9_61) (pc' := 68) ((if0 _ _).trans (teq (by decide)).1) (by decide)
        have k203 := f_ic X198 hx k202 (H d9_68) (v := 0) rfl
        have k204 := f_ior X198 hx k203 (H d9_69) rfl
        have k205 := f_isN X198 hx k204 (H d9_70) (l' := #[sr ob, si 1, si 1, si (hd0 ||| (0 : Int32)), si 1, si 3]) rfl
        exact ⟨T198, h127, _, (1 : Int32), (hd0 ||| (0 : Int32)), X198, e198, N127, Zq127, F155, F156, (own_f2 qa qr rfl (by first | rfl | decide)), k205⟩
    · have k206 := f_ifY X173 hx k178 (H d9_36) (pc' := 71) ((if0 _ _).trans (flt qa).2.2.2) (by decide)
      exact ⟨T173, h127, _, wt0, hd0, X173, e173, N127, Zq127, F155, F156, (own_f3 qa rfl (by first | rfl | decide)), k206⟩
  have k209 := f_inc X179 hx kq179 (H d9_71) rfl (l' := #[sr ob, si 1, si wt1, si hd1, si 2, si 3]) rfl
  have k210 := f_go X179 hx k209 (H d9_74) (pc' := 7) (by decide)
  have k211 := f_il X179 hx k210 (H d9_7) rfl
  have k212 := f_alN X179 hx k211 (H d9_9) rfl
  obtain ⟨T213, X213, e213, k214⟩ := gFs X179 hx hZ hown (hww 47 _ rfl) e179 (nq16 F207) k212 (H d9_10)
  have k215 := f_icY X213 hx k214 (H d9_13) (pc' := 77) (flt (by decide)).2.1 (by decide)
  have k216 := f_ilN X213 hx k215 (H d9_77) rfl
  obtain ⟨i219, hi219⟩ : ∃ z : Int32, z = (if wt1 = (0 : Int32) then (1 : Int32) else (if hd1 = (0 : Int32) then (0 : Int32) else (1 : Int32))) := ⟨_, rfl⟩
  have k220 : Rt p e below T213 (mkF m 90 #[sr ob, si 1, si wt1, si hd1, si 2, si 3] [vI i219]) s₁ m #[(.ref ob), (.int (1 : Int32))] 6 := fun t k => k216 t (by
    by_cases c217 : wt1 = (0 : Int32)
    · rw [if_pos c217] at hi219
      show Sp p e below T213 (mkF m 78 #[sr ob, si 1, si wt1, si hd1, si 2, si 3] [vI wt1]) _
      refine XS.ifYes X213.here hx rfl (pc0 := 78) (pc' := 85) rfl (hb hby d9_78) rfl ((if0 _ _).trans (teq c217).1) (by decide) (by decide) ?_
      refine XS.iconst X213.here hx rfl (hb hby d9_85) ?_
      refine XS.goto X213.here hx rfl (pc0 := 86) (pc' := 90) rfl (hb hby d9_86) (by decide) (by decide) ?_
      show Sp p e below T213 (mkF m 90 #[sr ob, si 1, si wt1, si hd1, si 2, si 3] [vI 1]) _
      exact castTop (by rw [hi219]) k
    · rw [if_neg c217] at hi219
      show Sp p e below T213 (mkF m 78 #[sr ob, si 1, si wt1, si hd1, si 2, si 3] [vI wt1]) _
      refine XS.ifNo X213.here hx rfl (hb hby d9_78) rfl ((if0 _ _).trans (feq c217).1) ?_
      refine XS.iloadN X213.here hx rfl (hb hby d9_81) rfl ?_
      by_cases c218 : hd1 = (0 : Int32)
      · rw [if_pos c218] at hi219
        show Sp p e below T213 (mkF m 82 #[sr ob, si 1, si wt1, si hd1, si 2, si 3] [vI hd1]) _
        refine XS.ifYes X213.here hx rfl (pc0 := 82) (pc' := 89) rfl (hb hby d9_82) rfl ((if0 _ _).trans (teq c218).1) (by decide) (by decide) ?_
        refine XS.iconst X213.here hx rfl (hb hby d9_89) ?_
        show Sp p e below T213 (mkF m 90 #[sr ob, si 1, si wt1, si hd1, si 2, si 3] [vI 0]) _
        exact castTop (by rw [hi219]) k
      · rw [if_neg c218] at hi219
        show Sp p e below T213 (mkF m 82 #[sr ob, si 1, si wt1, si hd1, si 2, si 3] [vI hd1]) _
        refine XS.ifNo X213.here hx rfl (hb hby d9_82) rfl ((if0 _ _).trans (feq c218).1) ?_
        refine XS.iconst X213.here hx rfl (hb hby d9_85) ?_
        refine XS.goto X213.here hx rfl (pc0 := 86) (pc' := 90) rfl (hb hby d9_86) (by decide) (by decide) ?_
        show Sp p e below T213 (mkF m 90 #[sr ob, si 1, si wt1, si hd1, si 2, si 3] [vI 1]) _
        exact castTop (by rw [hi219]) k)
  obtain ⟨fs, hr, hrun, hended, hW, hsame⟩ := X213.leave (v := some (.int i219)) (fun h => by rw [Bd.returns] at h; cases h)
  refine ⟨_, _, k220 _ (retOut X213 hx (t := .boolean) Bd.returns (own_narZ (own_fin he0 he1 hi219).1) (Or.inl ⟨rfl, Or.inr (Or.inl rfl), _, rfl⟩) (H d9_90) hr), hrun, hended, _, _, rfl, ?_, ⟨_, rfl⟩, hW, hsame.mono (by decide) (by decide)⟩
  show Q_fin1 Z ob B K l0 l1 l3 l5 l6 l7 l8 l9 l11 l12 wc y0 y1 y2 y3 r0 r1 h0 n0 _ T213.heap _
  rw [e213]
  exact ⟨i219, rfl, N179, F208, own_fin he0 he1 hi219⟩
theorem ef_10_RI (m : MethodId) (x0 : Addr) (x1 : Int32) : entryFrame m #[(.ref x0), (.int x1)] 10 = mkF m 0 #[.val (.ref x0), .val (.int x1), .unset, .unset, .unset, .unset, .unset, .unset, .unset, .unset] [] := by first | (simp [entryFrame, mkF, argsToLocals, Value.category]; done) | rfl
theorem d10_0 : decode prog_40_method_14_code 0 = .ok (.iconst (-1), 1) := by decide +kernel
theorem d10_1 : decode prog_40_method_14_code 1 = .ok (.istore_n 2, 1) := by decide +kernel
theorem d10_2 : decode prog_40_method_14_code 2 = .ok (.iconst 0, 1) := by decide +kernel
theorem d10_3 : decode prog_40_method_14_code 3 = .ok (.istore_n 3, 1) := by decide +kernel
theorem d10_4 : decode prog_40_method_14_code 4 = .ok (.iload_n 3, 1) := by decide +kernel
theorem d10_5 : decode prog_40_method_14_code 5 = .ok (.aload_n 0, 1) := by decide +kernel
theorem d10_6 : decode prog_40_method_14_code 6 = .ok (.getfield 55, 3) := by decide +kernel
theorem d10_9 : decode prog_40_method_14_code 9 = .ok (.if_icmp .ge 60, 3) := by decide +kernel
theorem d10_12 : decode prog_40_method_14_code 12 = .ok (.aload_n 0, 1) := by decide +kernel
theorem d10_13 : decode prog_40_method_14_code 13 = .ok (.getfield 16, 3) := by decide +kernel
theorem d10_16 : decode prog_40_method_14_code 16 = .ok (.iload_n 1, 1) := by decide +kernel
theorem d10_17 : decode prog_40_method_14_code 17 = .ok (.aload_n 0, 1) := by decide +kernel
theorem d10_18 : decode prog_40_method_14_code 18 = .ok (.getfield 55, 3) := by decide +kernel
theorem d10_21 : decode prog_40_method_14_code 21 = .ok (.imul, 1) := by decide +kernel
theorem d10_22 : decode prog_40_method_14_code 22 = .ok (.iload_n 3, 1) := by decide +kernel
theorem d10_23 : decode prog_40_method_14_code 23 = .ok (.iadd, 1) := by decide +kernel
theorem d10_24 : decode prog_40_method_14_code 24 = .ok (.daload, 1) := by decide +kernel
theorem d10_25 : decode prog_40_method_14_code 25 = .ok (.dconst 0, 1) := by decide +kernel
theorem d10_26 : decode prog_40_method_14_code 26 = .ok (.dcmp .l, 1) := by decide +kernel
theorem d10_27 : decode prog_40_method_14_code 27 = .ok (.ifCond .le 36, 3) := by decide +kernel
theorem d10_30 : decode prog_40_method_14_code 30 = .ok (.aload_n 0, 1) := by decide +kernel
theorem d10_31 : decode prog_40_method_14_code 31 = .ok (.getfield 28, 3) := by decide +kernel
theorem d10_34 : decode prog_40_method_14_code 34 = .ok (.iload_n 3, 1) := by decide +kernel
theorem d10_35 : decode prog_40_method_14_code 35 = .ok (.daload, 1) := by decide +kernel
theorem d10_36 : decode prog_40_method_14_code 36 = .ok (.dconst 1, 1) := by decide +kernel
theorem d10_37 : decode prog_40_method_14_code 37 = .ok (.dcmp .g, 1) := by decide +kernel
theorem d10_38 : decode prog_40_method_14_code 38 = .ok (.ifCond .ge 25, 3) := by decide +kernel
theorem d10_41 : decode prog_40_method_14_code 41 = .ok (.iload_n 2, 1) := by decide +kernel
theorem d10_42 : decode prog_40_method_14_code 42 = .ok (.ifCond .lt 19, 3) := by decide +kernel
theorem d10_61 : decode prog_40_method_14_code 61 = .ok (.iload_n 3, 1) := by decide +kernel
theorem d10_62 : decode prog_40_method_14_code 62 = .ok (.istore_n 2, 1) := by decide +kernel
theorem d10_63 : decode prog_40_method_14_code 63 = .ok (.iinc 3 1, 3) := by decide +kernel
theorem d10_66 : decode prog_40_method_14_code 66 = .ok (.goto (-62), 3) := by decide +kernel
theorem d10_69 : decode prog_40_method_14_code 69 = .ok (.iconst 0, 1) := by decide +kernel
theorem d10_70 : decode prog_40_method_14_code 70 = .ok (.istore_n 3, 1) := by decide +kernel
theorem d10_71 : decode prog_40_method_14_code 71 = .ok (.iload_n 3, 1) := by decide +kernel
theorem d10_72 : decode prog_40_method_14_code 72 = .ok (.aload_n 0, 1) := by decide +kernel
theorem d10_73 : decode prog_40_method_14_code 73 = .ok (.getfield 55, 3) := by decide +kernel
theorem d10_76 : decode prog_40_method_14_code 76 = .ok (.if_icmp .ge 136, 3) := by decide +kernel
theorem d10_79 : decode prog_40_method_14_code 79 = .ok (.iload_n 1, 1) := by decide +kernel
theorem d10_80 : decode prog_40_method_14_code 80 = .ok (.aload_n 0, 1) := by decide +kernel
theorem d10_81 : decode prog_40_method_14_code 81 = .ok (.getfield 55, 3) := by decide +kernel
theorem d10_84 : decode prog_40_method_14_code 84 = .ok (.imul, 1) := by decide +kernel
theorem d10_85 : decode prog_40_method_14_code 85 = .ok (.iload_n 3, 1) := by decide +kernel
theorem d10_86 : decode prog_40_method_14_code 86 = .ok (.iadd, 1) := by decide +kernel
theorem d10_87 : decode prog_40_method_14_code 87 = .ok (.istore 4, 2) := by decide +kernel
theorem d10_89 : decode prog_40_method_14_code 89 = .ok (.aload_n 0, 1) := by decide +kernel
theorem d10_90 : decode prog_40_method_14_code 90 = .ok (.getfield 16, 3) := by decide +kernel
theorem d10_93 : decode prog_40_method_14_code 93 = .ok (.iload 4, 2) := by decide +kernel
theorem d10_95 : decode prog_40_method_14_code 95 = .ok (.daload, 1) := by decide +kernel
theorem d10_96 : decode prog_40_method_14_code 96 = .ok (.dstore 5, 2) := by decide +kernel
theorem d10_98 : decode prog_40_method_14_code 98 = .ok (.dload 5, 2) := by decide +kernel
theorem d10_100 : decode prog_40_method_14_code 100 = .ok (.dconst 0, 1) := by decide +kernel
theorem d10_101 : decode prog_40_method_14_code 101 = .ok (.dcmp .l, 1) := by decide +kernel
theorem d10_102 : decode prog_40_method_14_code 102 = .ok (.ifCond .le 104, 3) := by decide +kernel
theorem d10_105 : decode prog_40_method_14_code 105 = .ok (.iload_n 2, 1) := by decide +kernel
theorem d10_106 : decode prog_40_method_14_code 106 = .ok (.ifCond .ge 7, 3) := by decide +kernel
theorem d10_113 : decode prog_40_method_14_code 113 = .ok (.iload_n 2, 1) := by decide +kernel
theorem d10_114 : decode prog_40_method_14_code 114 = .ok (.istore 7, 2) := by decide +kernel
theorem d10_116 : decode prog_40_method_14_code 116 = .ok (.dload 5, 2) := by decide +kernel
theorem d10_118 : decode prog_40_method_14_code 118 = .ok (.aload_n 0, 1) := by decide +kernel
theorem d10_119 : decode prog_40_method_14_code 119 = .ok (.getfield 22, 3) := by decide +kernel
theorem d10_122 : decode prog_40_method_14_code 122 = .ok (.iload 7, 2) := by decide +kernel
theorem d10_124 : decode prog_40_method_14_code 124 = .ok (.daload, 1) := by decide +kernel
theorem d10_125 : decode prog_40_method_14_code 125 = .ok (.aload_n 0, 1) := by decide +kernel
theorem d10_126 : decode prog_40_method_14_code 126 = .ok (.getfield 25, 3) := by decide +kernel
theorem d10_129 : decode prog_40_method_14_code 129 = .ok (.iload 7, 2) := by decide +kernel
theorem d10_131 : decode prog_40_method_14_code 131 = .ok (.daload, 1) := by decide +kernel
theorem d10_132 : decode prog_40_method_14_code 132 = .ok (.invokestatic 103, 3) := by decide +kernel
theorem pd__28DDD_29D : parseMethodDescriptor "(DDD)D" = some ⟨[.double, .double, .double], some .double⟩ := by decide +kernel
theorem d10_135 : decode prog_40_method_14_code 135 = .ok (.dstore 8, 2) := by decide +kernel
theorem d10_137 : decode prog_40_method_14_code 137 = .ok (.aload_n 0, 1) := by decide +kernel
theorem d10_138 : decode prog_40_method_14_code 138 = .ok (.getfield 13, 3) := by decide +kernel
theorem d10_141 : decode prog_40_method_14_code 141 = .ok (.iload 4, 2) := by decide +kernel
theorem d10_143 : decode prog_40_method_14_code 143 = .ok (.dup2, 1) := by decide +kernel
theorem d10_144 : decode prog_40_method_14_code 144 = .ok (.daload, 1) := by decide +kernel
theorem d10_145 : decode prog_40_method_14_code 145 = .ok (.dload 8, 2) := by decide +kernel
theorem d10_147 : decode prog_40_method_14_code 147 = .ok (.dadd, 1) := by decide +kernel
theorem d10_148 : decode prog_40_method_14_code 148 = .ok (.dastore, 1) := by decide +kernel
theorem d10_149 : decode prog_40_method_14_code 149 = .ok (.aload_n 0, 1) := by decide +kernel
theorem d10_150 : decode prog_40_method_14_code 150 = .ok (.getfield 16, 3) := by decide +kernel
theorem d10_153 : decode prog_40_method_14_code 153 = .ok (.iload 4, 2) := by decide +kernel
theorem d10_155 : decode prog_40_method_14_code 155 = .ok (.dload 5, 2) := by decide +kernel
theorem d10_157 : decode prog_40_method_14_code 157 = .ok (.dload 8, 2) := by decide +kernel
theorem d10_159 : decode prog_40_method_14_code 159 = .ok (.dsub, 1) := by decide +kernel
theorem d10_160 : decode prog_40_method_14_code 160 = .ok (.dastore, 1) := by decide +kernel
theorem d10_161 : decode prog_40_method_14_code 161 = .ok (.aload_n 0, 1) := by decide +kernel
theorem d10_162 : decode prog_40_method_14_code 162 = .ok (.getfield 31, 3) := by decide +kernel
theorem d10_165 : decode prog_40_method_14_code 165 = .ok (.iload_n 3, 1) := by decide +kernel
theorem d10_166 : decode prog_40_method_14_code 166 = .ok (.dup2, 1) := by decide +kernel
theorem d10_167 : decode prog_40_method_14_code 167 = .ok (.daload, 1) := by decide +kernel
theorem d10_168 : decode prog_40_method_14_code 168 = .ok (.dload 8, 2) := by decide +kernel
theorem d10_170 : decode prog_40_method_14_code 170 = .ok (.dadd, 1) := by decide +kernel
theorem d10_171 : decode prog_40_method_14_code 171 = .ok (.dastore, 1) := by decide +kernel
theorem d10_172 : decode prog_40_method_14_code 172 = .ok (.aload_n 0, 1) := by decide +kernel
theorem d10_173 : decode prog_40_method_14_code 173 = .ok (.getfield 34, 3) := by decide +kernel
theorem d10_176 : decode prog_40_method_14_code 176 = .ok (.iload_n 3, 1) := by decide +kernel
theorem d10_177 : decode prog_40_method_14_code 177 = .ok (.dup2, 1) := by decide +kernel
theorem d10_178 : decode prog_40_method_14_code 178 = .ok (.baload, 1) := by decide +kernel
theorem d10_179 : decode prog_40_method_14_code 179 = .ok (.iload_n 2, 1) := by decide +kernel
theorem d10_180 : decode prog_40_method_14_code 180 = .ok (.ifCond .lt 19, 3) := by decide +kernel
theorem d10_183 : decode prog_40_method_14_code 183 = .ok (.aload_n 0, 1) := by decide +kernel
theorem d10_184 : decode prog_40_method_14_code 184 = .ok (.getfield 28, 3) := by decide +kernel
theorem d10_187 : decode prog_40_method_14_code 187 = .ok (.iload_n 2, 1) := by decide +kernel
theorem d10_188 : decode prog_40_method_14_code 188 = .ok (.daload, 1) := by decide +kernel
theorem d10_189 : decode prog_40_method_14_code 189 = .ok (.aload_n 0, 1) := by decide +kernel
theorem d10_190 : decode prog_40_method_14_code 190 = .ok (.getfield 28, 3) := by decide +kernel
theorem d10_193 : decode prog_40_method_14_code 193 = .ok (.iload_n 3, 1) := by decide +kernel
theorem d10_194 : decode prog_40_method_14_code 194 = .ok (.daload, 1) := by decide +kernel
theorem d10_195 : decode prog_40_method_14_code 195 = .ok (.dcmp .g, 1) := by decide +kernel
theorem d10_196 : decode prog_40_method_14_code 196 = .ok (.ifCond .ge 7, 3) := by decide +kernel
theorem d10_203 : decode prog_40_method_14_code 203 = .ok (.iconst 0, 1) := by decide +kernel
theorem d10_204 : decode prog_40_method_14_code 204 = .ok (.ior, 1) := by decide +kernel
theorem d10_205 : decode prog_40_method_14_code 205 = .ok (.bastore, 1) := by decide +kernel
theorem d10_109 : decode prog_40_method_14_code 109 = .ok (.iload_n 3, 1) := by decide +kernel
theorem d10_110 : decode prog_40_method_14_code 110 = .ok (.goto 4, 3) := by decide +kernel
theorem d10_199 : decode prog_40_method_14_code 199 = .ok (.iconst 1, 1) := by decide +kernel
theorem d10_200 : decode prog_40_method_14_code 200 = .ok (.goto 4, 3) := by decide +kernel
theorem d10_206 : decode prog_40_method_14_code 206 = .ok (.iinc 3 1, 3) := by decide +kernel
theorem d10_209 : decode prog_40_method_14_code 209 = .ok (.goto (-138), 3) := by decide +kernel
theorem d10_212 : decode prog_40_method_14_code 212 = .ok (.return_, 1) := by decide +kernel
def Q_move00 (Z : State) (ob : Addr) (B : Nat → Addr) (K : Nat → ClassId) (l0 : List Value) (l3 : List Value) (l9 : List Value) (l10 : List Value) (l11 : List Value) (l12 : List Value) (wc : Int32) (mv0 : UInt64) (mv1 : UInt64) (mv2 : UInt64) (mv3 : UInt64) (y0 : UInt64) (y1 : UInt64) (y2 : UInt64) (y3 : UInt64) (r0 : UInt64) (r1 : UInt64) (w0 : UInt64) (w1 : UInt64) (fr0 : UInt64) (fr1 : UInt64) (g0 : UInt64) (g1 : UInt64) (z0 : Int32) (z1 : Int32) (h0 : Heap) (n0 : Nat) (v : Option Value) (h : Heap) (L : List Loc) : Prop := ∃ zq : Int32, v = none ∧ Fr n0 L ∧ Keep h0 h [B 1, B 2, B 7, B 8] ∧ NB Z h ob B K l0 [(.double (FP.dadd mv0 (own_cut y0 r0 w0))), (.double mv1), (.double mv2), (.double mv3)] [(.double (FP.dsub y0 (own_cut y0 r0 w0))), (.double y1), (.double y2), (.double y3)] l3 [(.double r0), (.double r1)] [(.double w0), (.double w1)] [(.double fr0), (.double fr1)] [(.double (FP.dadd g0 (own_cut y0 r0 w0))), (.double g1)] [(.int zq), (.int z1)] l9 l10 l11 l12 wc ∧ ((cmpValue (FP.dcmp fr0 (4607182418800017408 : UInt64)) .g < (0 : Int32)) ∧ zq = nar .boolean (z0 ||| (0 : Int32)) ∨ ¬ (cmpValue (FP.dcmp fr0 (4607182418800017408 : UInt64)) .g < (0 : Int32)) ∧ zq = nar .boolean (z0 ||| (1 : Int32)))
set_option maxRecDepth 65536 in
set_option maxHeartbeats 40000000 in
theorem move00 (l : Launch) (Z : State) (a0 : Array Value) (hw : ∀ d ∈ tables_1, d.before a0 Z = true) (ws : List Jvm.Cond) (ob : Addr) (B : Nat → Addr) (K : Nat → ClassId) (l0 : List Value) (l3 : List Value) (l9 : List Value) (l10 : List Value) (l11 : List Value) (l12 : List Value) (wc : Int32) (mv0 : UInt64) (mv1 : UInt64) (mv2 : UInt64) (mv3 : UInt64) (y0 : UInt64) (y1 : UInt64) (y2 : UInt64) (y3 : UInt64) (r0 : UInt64) (r1 : UInt64) (w0 : UInt64) (w1 : UInt64) (fr0 : UInt64) (fr1 : UInt64) (g0 : UInt64) (g1 : UInt64) (z0 : Int32) (z1 : Int32) (h0 : Heap) (n0 : Nat) (Z0 : n0 ≤ h0.size) (D : Dis ob B) (NB0 : NB Z h0 ob B K l0 [(.double mv0), (.double mv1), (.double mv2), (.double mv3)] [(.double y0), (.double y1), (.double y2), (.double y3)] l3 [(.double r0), (.double r1)] [(.double w0), (.double w1)] [(.double fr0), (.double fr1)] [(.double g0), (.double g1)] [(.int z0), (.int z1)] l9 l10 l11 l12 wc) (G : ∀ i, i < 13 → n0 ≤ B i) (hA : (0 : Int32) < cmpValue (FP.dcmp y0 (0 : UInt64)) .l) (hO : ¬ ((0 : Int32) < cmpValue (FP.dcmp y1 (0 : UInt64)) .l)) (hn : (0 : Int32) < cmpValue (FP.dcmp w0 r0) .l → Jvm.Free.Fl.NoNaN64 (FP.dmul y0 r0) ∧ Jvm.Free.Fl.NoNaN64 (FP.ddiv (FP.dmul y0 r0) w0)) (n1 : Jvm.Free.Fl.NoNaN64 (FP.dadd mv0 (own_cut y0 r0 w0))) (n2 : Jvm.Free.Fl.NoNaN64 (FP.dsub y0 (own_cut y0 r0 w0))) (n3 : Jvm.Free.Fl.NoNaN64 (FP.dadd g0 (own_cut y0 r0 w0))) (nf : Jvm.Free.Fl.NoNaN64 fr0) :
    Met l (⟨"com/example/istra/istra/engine/NodeModel", "move", "(I)V"⟩ : MethodName) prog_40_method_14_code 10 none ws (rm 1 0 0 17) #[(.ref ob), (.int (0 : Int32))] Z h0 (Q_move00 Z ob B K l0 l3 l9 l10 l11 l12 wc mv0 mv1 mv2 mv3 y0 y1 y2 y3 r0 r1 w0 w1 fr0 fr1 g0 g1 z0 z1 h0 n0) := by
  refine MetFree.of_bodySF (plainFor_of_name pn_com_2fexample_2fistra_2fistra_2fengine_2fNodeModel) hisR ?_
  intro p e s m args below meth c s₁ Bd hml0 hP hK
  obtain ⟨rfl, hZ, hh⟩ := hP
  have hx := Bd.exec
  have hby := Bd.bytes
  have hml : c.maxLocals = 10 := hml0
  have hown : s.vm.findClass "com/example/istra/istra/engine/NodeModel" = some m.cls := findClass_of_methodNamed Bd.named
  have hnm := (name_of_methodNamed Bd.named Bd.method).1
  have X0 : Stand p l e (rm 1 0 0 17) s m #[(.ref ob), (.int (0 : Int32))] below meth c s₁ [] 0 0 := Stand.of_body Bd
  have e0 : s₁.heap = h0 := by rw [← hh, Bd.state]; rfl
  have N0 := Fr.nil n0
  have hww := fun (i : Nat) (c : Jvm.Cond) (h : tables_1[i]? = some c) => hw c (List.mem_of_getElem? h)
  have k0 : Rt p e below s₁ (mkF m 0 #[sr ob, si 0, un, un, un, un, un, un, un, un] []) s₁ m #[(.ref ob), (.int (0 : Int32))] 10 := fun t k => castTop (ef_10_RI m ob (0 : Int32)) k
  have K0 := Keep.refl h0 [(B 1), (B 2), (B 7), (B 8)]
  have H : ∀ {pc r}, decode prog_40_method_14_code pc = r → decode c.code pc = r := fun d => hb hby d
  have k101 := f_ic X0 hx k0 (H d10_0) (v := (-1)) rfl
  have k102 := f_isN X0 hx k101 (H d10_1) (l' := #[sr ob, si 0, si (-1), un, un, un, un, un, un, un]) rfl
  have k103 := f_ic X0 hx k102 (H d10_2) (v := 0) rfl
  have k104 := f_isN X0 hx k103 (H d10_3) (l' := #[sr ob, si 0, si (-1), si 0, un, un, un, un, un, un]) rfl
  have k105 := f_ilN X0 hx k104 (H d10_4) rfl
  have k106 := f_alN X0 hx k105 (H d10_5) rfl
  obtain ⟨T107, X107, e107, k108⟩ := gFs X0 hx hZ hown (hww 47 _ rfl) e0 (nq16 NB0) k106 (H d10_6)
  have k109 := f_icN X107 hx k108 (H d10_9) (tlt (by decide)).2.1
  have k110 := f_alN X107 hx k109 (H d10_12) rfl
  obtain ⟨T111, X111, e111, k112⟩ := gFs X107 hx hZ hown (hww 14 _ rfl) e107 (nq3 NB0) k110 (H d10_13)
  have k113 := f_ilN X111 hx k112 (H d10_16) rfl
  have k114 := f_alN X111 hx k113 (H d10_17) rfl
  obtain ⟨T115, X115, e115, k116⟩ := gFs X111 hx hZ hown (hww 47 _ rfl) e111 (nq16 NB0) k114 (H d10_18)
  have k117 := f_imul X115 hx k116 (H d10_21) (r := 0) (by decide)
  have k118 := f_ilN X115 hx k117 (H d10_22) rfl
  have k119 := f_iadd X115 hx k118 (H d10_23) (r := 0) (by decide)
  have k120 := f_dal X115 hx hZ e115 (nq20 NB0) k119 (H d10_24) (v := y0) (by decide) rfl
  have k121 := f_d0 X115 hx k120 (H d10_25)
  have k122 := f_dc X115 hx k121 (H d10_26)
  have k123 := f_ifN X115 hx k122 (H d10_27) ((if0 _ _).trans (tlt hA).2.2.2)
  have k124 := f_alN X115 hx k123 (H d10_30) rfl
  obtain ⟨T125, X125, e125, k126⟩ := gFs X115 hx hZ hown (hww 22 _ rfl) e115 (nq7 NB0) k124 (H d10_31)
  have k127 := f_ilN X125 hx k126 (H d10_34) rfl
  have k128 := f_dal X125 hx hZ e125 (nq24 NB0) k127 (H d10_35) (v := fr0) (by decide) rfl
  have k129 := f_d1 X125 hx k128 (H d10_36)
  have k130 := f_dc X125 hx k129 (H d10_37)
  obtain ⟨T131, h131, Ls131, bq, X131, e131, N131, Zq131, F194, F195, hbq, kq131⟩ : ∃ (T131 : State) (h131 : Heap) (Ls131 : List Loc) (bq : Int32), Stand p l e (rm 1 0 0 17) s m #[(.ref ob), (.int (0 : Int32))] below meth c T131 Ls131 0 0 ∧ T131.heap = h131 ∧ Fr n0 Ls131 ∧ n0 ≤ h131.size ∧ NB Z h131 ob B K l0 [(.double mv0), (.double mv1), (.double mv2), (.double mv3)] [(.double y0), (.double y1), (.double y2), (.double y3)] l3 [(.double r0), (.double r1)] [(.double w0), (.double w1)] [(.double fr0), (.double fr1)] [(.double g0), (.double g1)] [(.int z0), (.int z1)] l9 l10 l11 l12 wc ∧ Keep h0 h131 [B 1, B 2, B 7, B 8] ∧ ((cmpValue (FP.dcmp fr0 (4607182418800017408 : UInt64)) .g < (0 : Int32)) ∧ bq = (0 : Int32) ∨ ¬ (cmpValue (FP.dcmp fr0 (4607182418800017408 : UInt64)) .g < (0 : Int32)) ∧ bq = (-1 : Int32)) ∧ (Rt p e below T131 (mkF m 69 #[sr ob, si 0, si bq, si 2, un, un, un, un, un, un] []) s₁ m #[(.ref ob), (.int (0 : Int32))] 10) := by
    by_cases ql : cmpValue (FP.dcmp fr0 (4607182418800017408 : UInt64)) .g < (0 : Int32)
    · have k132 := f_ifN X125 hx k130 (H d10_38) ((if0 _ _).trans (tlt ql).2.1)
      have k133 := f_ilN X125 hx k132 (H d10_41) rfl
      have k134 := f_ifY X125 hx k133 (H d10_42) (pc' := 61) ((if0 _ _).trans (tlt (by decide)).1) (by decide)
      have k135 := f_ilN X125 hx k134 (H d10_61) rfl
      have k136 := f_isN X125 hx k135 (H d10_62) (l' := #[sr ob, si 0, si 0, si 0, un, un, un, un, un, un]) rfl
      have k137 := f_inc X125 hx k136 (H d10_63) rfl (l' := #[sr ob, si 0, si 0, si 1, un, un, un, un, un, un]) rfl
      have k138 := f_go X125 hx k137 (H d10_66) (pc' := 4) (by decide)
      have k139 := f_ilN X125 hx k138 (H d10_4) rfl
      have k140 := f_alN X125 hx k139 (H d10_5) rfl
      obtain ⟨T141, X141, e141, k142⟩ := gFs X125 hx hZ hown (hww 47 _ rfl) e125 (nq16 NB0) k140 (H d10_6)
      have k143 := f_icN X141 hx k142 (H d10_9) (tlt (by decide)).2.1
      have k144 := f_alN X141 hx k143 (H d10_12) rfl
      obtain ⟨T145, X145, e145, k146⟩ := gFs X141 hx hZ hown (hww 14 _ rfl) e141 (nq3 NB0) k144 (H d10_13)
      have k147 := f_ilN X145 hx k146 (H d10_16) rfl
      have k148 := f_alN X145 hx k147 (H d10_17) rfl
      obtain ⟨T149, X149, e149, k150⟩ := gFs X145 hx hZ hown (hww 47 _ rfl) e145 (nq16 NB0) k148 (H d10_18)
      have k151 := f_imul X149 hx k150 (H d10_21) (r := 0) (by decide)
      have k152 := f_ilN X149 hx k151 (H d10_22) rfl
      have k153 := f_iadd X149 hx k152 (H d10_23) (r := 1) (by decide)
      have k154 := f_dal X149 hx hZ e149 (nq20 NB0) k153 (H d10_24) (v := y1) (by decide) rfl
      have k155 := f_d0 X149 hx k154 (H d10_25)
      have k156 := f_dc X149 hx k155 (H d10_26)
      have k157 := f_ifY X149 hx k156 (H d10_27) (pc' := 63) ((if0 _ _).trans (flt hO).2.2.2) (by decide)
      have k158 := f_inc X149 hx k157 (H d10_63) rfl (l' := #[sr ob, si 0, si 0, si 2, un, un, un, un, un, un]) rfl
      have k159 := f_go X149 hx k158 (H d10_66) (pc' := 4) (by decide)
      have k160 := f_ilN X149 hx k159 (H d10_4) rfl
      have k161 := f_alN X149 hx k160 (H d10_5) rfl
      obtain ⟨T162, X162, e162, k163⟩ := gFs X149 hx hZ hown (hww 47 _ rfl) e149 (nq16 NB0) k161 (H d10_6)
      have k164 := f_icY X162 hx k163 (H d10_9) (pc' := 69) (flt (by decide)).2.1 (by decide)
      exact ⟨T162, h0, _, (0 : Int32), X162, e162, N0, Z0, NB0, K0, (Or.inl ⟨ql, rfl⟩), k164⟩
    · have k165 := f_ifY X125 hx k130 (H d10_38) (pc' := 63) ((if0 _ _).trans (flt ql).2.1) (by decide)
      have k166 := f_inc X125 hx k165 (H d10_63) rfl (l' := #[sr ob, si 0, si (-1), si 1, un, un, un, un, un, un]) rfl
      have k167 := f_go X125 hx k166 (H d10_66) (pc' := 4) (by decide)
      have k168 := f_ilN X125 hx k167 (H d10_4) rfl
      have k169 := f_alN X125 hx k168 (H d10_5) rfl
      obtain ⟨T170, X170, e170, k171⟩ := gFs X125 hx hZ hown (hww 47 _ rfl) e125 (nq16 NB0) k169 (H d10_6)
      have k172 := f_icN X170 hx k171 (H d10_9) (tlt (by decide)).2.1
      have k173 := f_alN X170 hx k172 (H d10_12) rfl
      obtain ⟨T174, X174, e174, k175⟩ := gFs X170 hx hZ hown (hww 14 _ rfl) e170 (nq3 NB0) k173 (H d10_13)
      have k176 := f_ilN X174 hx k175 (H d10_16) rfl
      have k177 := f_alN X174 hx k176 (H d10_17) rfl
      obtain ⟨T178, X178, e178, k179⟩ := gFs X174 hx hZ hown (hww 47 _ rfl) e174 (nq16 NB0) k177 (H d10_18)
      have k180 := f_imul X178 hx k179 (H d10_21) (r := 0) (by decide)
      have k181 := f_ilN X178 hx k180 (H d10_22) rfl
      have k182 := f_iadd X178 hx k181 (H d10_23) (r := 1) (by decide)
      have k183 := f_dal X178 hx hZ e178 (nq20 NB0) k182 (H d10_24) (v := y1) (by decide) rfl
      have k184 := f_d0 X178 hx k183 (H d10_25)
      have k185 := f_dc X178 hx k184 (H d10_26)
      have k186 := f_ifY X178 hx k185 (H d10_27) (pc' := 63) ((if0 _ _).trans (flt hO).2.2.2) (by decide)
      have k187 := f_inc X178 hx k186 (H d10_63) rfl (l' := #[sr ob, si 0, si (-1), si 2, un, un, un, un, un, un]) rfl
      have k188 := f_go X178 hx k187 (H d10_66) (pc' := 4) (by decide)
      have k189 := f_ilN X178 hx k188 (H d10_4) rfl
      have k190 := f_alN X178 hx k189 (H d10_5) rfl
      obtain ⟨T191, X191, e191, k192⟩ := gFs X178 hx hZ hown (hww 47 _ rfl) e178 (nq16 NB0) k190 (H d10_6)
      have k193 := f_icY X191 hx k192 (H d10_9) (pc' := 69) (flt (by decide)).2.1 (by decide)
      exact ⟨T191, h0, _, (-1 : Int32), X191, e191, N0, Z0, NB0, K0, (Or.inr ⟨ql, rfl⟩), k193⟩
  have k196 := f_ic X131 hx kq131 (H d10_69) (v := 0) rfl
  have k197 := f_isN X131 hx k196 (H d10_70) (l' := #[sr ob, si 0, si bq, si 0, un, un, un, un, un, un]) rfl
  have k198 := f_ilN X131 hx k197 (H d10_71) rfl
  have k199 := f_alN X131 hx k198 (H d10_72) rfl
  obtain ⟨T200, X200, e200, k201⟩ := gFs X131 hx hZ hown (hww 47 _ rfl) e131 (nq16 F194) k199 (H d10_73)
  have k202 := f_icN X200 hx k201 (H d10_76) (tlt (by decide)).2.1
  have k203 := f_ilN X200 hx k202 (H d10_79) rfl
  have k204 := f_alN X200 hx k203 (H d10_80) rfl
  obtain ⟨T205, X205, e205, k206⟩ := gFs X200 hx hZ hown (hww 47 _ rfl) e200 (nq16 F194) k204 (H d10_81)
  have k207 := f_imul X205 hx k206 (H d10_84) (r := 0) (by decide)
  have k208 := f_ilN X205 hx k207 (H d10_85) rfl
  have k209 := f_iadd X205 hx k208 (H d10_86) (r := 0) (by decide)
  have k210 := f_is X205 hx k209 (H d10_87) (l' := #[sr ob, si 0, si bq, si 0, si 0, un, un, un, un, un]) rfl
  have k211 := f_alN X205 hx k210 (H d10_89) rfl
  obtain ⟨T212, X212, e212, k213⟩ := gFs X205 hx hZ hown (hww 14 _ rfl) e205 (nq3 F194) k211 (H d10_90)
  have k214 := f_il X212 hx k213 (H d10_93) rfl
  have k215 := f_dal X212 hx hZ e212 (nq20 F194) k214 (H d10_95) (v := y0) (by decide) rfl
  have k216 := f_ds X212 hx k215 (H d10_96) (l' := #[sr ob, si 0, si bq, si 0, si 0, sd y0, se, un, un, un]) rfl
  have k217 := f_dl X212 hx k216 (H d10_98) rfl
  have k218 := f_d0 X212 hx k217 (H d10_100)
  have k219 := f_dc X212 hx k218 (H d10_101)
  have k220 := f_ifN X212 hx k219 (H d10_102) ((if0 _ _).trans (tlt hA).2.2.2)
  obtain ⟨T221, h221, Ls221, bz, zq, X221, e221, N221, Zq221, F364, F365, hzq, kq221⟩ : ∃ (T221 : State) (h221 : Heap) (Ls221 : List Loc) (bz : Int32) (zq : Int32), Stand p l e (rm 1 0 0 17) s m #[(.ref ob), (.int (0 : Int32))] below meth c T221 Ls221 0 0 ∧ T221.heap = h221 ∧ Fr n0 Ls221 ∧ n0 ≤ h221.size ∧ NB Z h221 ob B K l0 [(.double (FP.dadd mv0 (own_cut y0 r0 w0))), (.double mv1), (.double mv2), (.double mv3)] [(.double (FP.dsub y0 (own_cut y0 r0 w0))), (.double y1), (.double y2), (.double y3)] l3 [(.double r0), (.double r1)] [(.double w0), (.double w1)] [(.double fr0), (.double fr1)] [(.double (FP.dadd g0 (own_cut y0 r0 w0))), (.double g1)] [(.int zq), (.int z1)] l9 l10 l11 l12 wc ∧ Keep h0 h221 [B 1, B 2, B 7, B 8] ∧ ((cmpValue (FP.dcmp fr0 (4607182418800017408 : UInt64)) .g < (0 : Int32)) ∧ zq = nar .boolean (z0 ||| (0 : Int32)) ∨ ¬ (cmpValue (FP.dcmp fr0 (4607182418800017408 : UInt64)) .g < (0 : Int32)) ∧ zq = nar .boolean (z0 ||| (1 : Int32))) ∧ (Rt p e below T221 (mkF m 206 #[sr ob, si 0, si bz, si 0, si 0, sd y0, se, si 0, sd (own_cut y0 r0 w0), se] []) s₁ m #[(.ref ob), (.int (0 : Int32))] 10) := by
    rcases hbq with ⟨ql, rfl⟩ | ⟨ql, rfl⟩
    · have k222 := f_ilN X212 hx k220 (H d10_105) rfl
      have k223 := f_ifY X212 hx k222 (H d10_106) (pc' := 113) ((if0 _ _).trans (flt (by decide)).2.1) (by decide)
      have k224 := f_ilN X212 hx k223 (H d10_113) rfl
      have k225 := f_is X212 hx k224 (H d10_114) (l' := #[sr ob, si 0, si 0, si 0, si 0, sd y0, se, si 0, un, un]) rfl
      have k226 := f_dl X212 hx k225 (H d10_116) rfl
      have k227 := f_alN X212 hx k226 (H d10_118) rfl
      obtain ⟨T228, X228, e228, k229⟩ := gFs X212 hx hZ hown (hww 18 _ rfl) e212 (nq5 F194) k227 (H d10_119)
      have k230 := f_il X228 hx k229 (H d10_122) rfl
      have k231 := f_dal X228 hx hZ e228 (nq22 F194) k230 (H d10_124) (v := r0) (by decide) rfl
      have k232 := f_alN X228 hx k231 (H d10_125) rfl
      obtain ⟨T233, X233, e233, k234⟩ := gFs X228 hx hZ hown (hww 20 _ rfl) e228 (nq6 F194) k232 (H d10_126)
      have k235 := f_il X233 hx k234 (H d10_129) rfl
      have k236 := f_dal X233 hx hZ e233 (nq23 F194) k235 (H d10_131) (v := w0) (by decide) rfl
      obtain ⟨_, _, ⟨T237, L237, k237, n237⟩, -, X237, ⟨Lc237, hQ237, l237, y237, z237⟩, st237⟩ := Jvm.LawKit.callS X233 hx (y := (⟨"com/example/istra/istra/engine/NodeModel", "cut", "(DDD)D"⟩ : MethodName)) hown (mvT hZ (hww 85 _ rfl)) (mvT hZ (hww 86 _ rfl)) (mvT hZ (hww 2 _ rfl)) (mvT hZ (hww 87 _ rfl)) (by decide) (backOf (W := 0) (rm11 l Z a0 hw [] y0 r0 w0 h131 n0 Zq131 hn) hZ (hww 87 _ rfl) (hww 2 _ rfl) (by decide) (by decide)) (g := (mkF m 132 #[sr ob, si 0, si 0, si 0, si 0, sd y0, se, si 0, un, un] [vD w0, vD r0, vD y0])) rfl (by rw [hml]; rfl) (argsL := [(.double y0), (.double r0), (.double w0)]) (rest := []) (lenOf pd__28DDD_29D rfl) rfl (by show 2 * 0 + _ ≤ _; exact Nat.le_of_eq rfl) (H d10_132) (fun _ _ => ⟨rfl, e233, (by decide : 0 + 0 ≤ _), (by decide : 0 + 0 ≤ _)⟩)
      dsimp only [Pt.U, Pt.locs, Pt.cells, Pt.slots] at X237 l237 y237 z237 st237 hQ237
      subst l237 y237 z237
      obtain ⟨rfl, N237q, e237⟩ := hQ237
      have N238 := Fr.app N131 N237q
      have k239 : Rt p e below T237 (mkF m 135 #[sr ob, si 0, si 0, si 0, si 0, sd y0, se, si 0, un, un] [vD (own_cut y0 r0 w0)]) s₁ m #[(.ref ob), (.int (0 : Int32))] 10 := fun t k => k236 t (st237 t k)
      have k240 := f_ds X237 hx k239 (H d10_135) (l' := #[sr ob, si 0, si 0, si 0, si 0, sd y0, se, si 0, sd (own_cut y0 r0 w0), se]) rfl
      have k241 := f_alN X237 hx k240 (H d10_137) rfl
      obtain ⟨T242, X242, e242, k243⟩ := gFs X237 hx hZ hown (hww 12 _ rfl) e237 (nq2 F194) k241 (H d10_138)
      have k244 := f_il X242 hx k243 (H d10_141) rfl
      have k245 := f_dup2 X242 hx k244 (H d10_143) rfl rfl
      have k246 := f_dal X242 hx hZ e242 (nq19 F194) k245 (H d10_144) (v := mv0) (by decide) rfl
      have k247 := f_dl X242 hx k246 (H d10_145) rfl
      have k248 := f_dadd X242 hx k247 (H d10_147) n1
      obtain ⟨T249, h249, L249, X249, e249, W249, V249, N249, Z249, k249⟩ := f_dst X242 hx hZ e242 (nq19 F194) N238 (G 1 (by decide)) Zq131 k248 (H d10_148) (by decide) 0 rfl (lt_b rfl)
      have K250 := F195.wr W249 (Or.inl (List.mem_of_getElem? (i := 0) rfl))
      have NB251 := nb_w1 D F194 W249 V249
      have k252 := f_alN X249 hx k249 (H d10_149) rfl
      obtain ⟨T253, X253, e253, k254⟩ := gFs X249 hx hZ hown (hww 14 _ rfl) e249 (nq3 NB251) k252 (H d10_150)
      have k255 := f_il X253 hx k254 (H d10_153) rfl
      have k256 := f_dl X253 hx k255 (H d10_155) rfl
      have k257 := f_dl X253 hx k256 (H d10_157) rfl
      have k258 := f_dsub X253 hx k257 (H d10_159) n2
      obtain ⟨T259, h259, L259, X259, e259, W259, V259, N259, Z259, k259⟩ := f_dst X253 hx hZ e253 (nq20 NB251) N249 (G 2 (by decide)) Z249 k258 (H d10_160) (by decide) 0 rfl (lt_b rfl)
      have K260 := K250.wr W259 (Or.inl (List.mem_of_getElem? (i := 1) rfl))
      have NB261 := nb_w2 D NB251 W259 V259
      have k262 := f_alN X259 hx k259 (H d10_161) rfl
      obtain ⟨T263, X263, e263, k264⟩ := gFs X259 hx hZ hown (hww 24 _ rfl) e259 (nq8 NB261) k262 (H d10_162)
      have k265 := f_ilN X263 hx k264 (H d10_165) rfl
      have k266 := f_dup2 X263 hx k265 (H d10_166) rfl rfl
      have k267 := f_dal X263 hx hZ e263 (nq25 NB261) k266 (H d10_167) (v := g0) (by decide) rfl
      have k268 := f_dl X263 hx k267 (H d10_168) rfl
      have k269 := f_dadd X263 hx k268 (H d10_170) n3
      obtain ⟨T270, h270, L270, X270, e270, W270, V270, N270, Z270, k270⟩ := f_dst X263 hx hZ e263 (nq25 NB261) N259 (G 7 (by decide)) Z259 k269 (H d10_171) (by decide) 0 rfl (lt_b rfl)
      have K271 := K260.wr W270 (Or.inl (List.mem_of_getElem? (i := 2) rfl))
      have NB272 := nb_w7 D NB261 W270 V270
      have k273 := f_alN X270 hx k270 (H d10_172) rfl
      obtain ⟨T274, X274, e274, k275⟩ := gFs X270 hx hZ hown (hww 27 _ rfl) e270 (nq9 NB272) k273 (H d10_173)
      have k276 := f_ilN X274 hx k275 (H d10_176) rfl
      have k277 := f_dup2 X274 hx k276 (H d10_177) rfl rfl
      have k278 := f_bal X274 hx hZ e274 (nq26 NB272) k277 (H d10_178) (v := z0) (by decide) rfl
      have k279 := f_ilN X274 hx k278 (H d10_179) rfl
      have k280 := f_ifN X274 hx k279 (H d10_180) ((if0 _ _).trans (flt (by decide)).1)
      have k281 := f_alN X274 hx k280 (H d10_183) rfl
      obtain ⟨T282, X282, e282, k283⟩ := gFs X274 hx hZ hown (hww 22 _ rfl) e274 (nq7 NB272) k281 (H d10_184)
      have k284 := f_ilN X282 hx k283 (H d10_187) rfl
      have k285 := f_dal X282 hx hZ e282 (nq24 NB272) k284 (H d10_188) (v := fr0) (by decide) rfl
      have k286 := f_alN X282 hx k285 (H d10_189) rfl
      obtain ⟨T287, X287, e287, k288⟩ := gFs X282 hx hZ hown (hww 22 _ rfl) e282 (nq7 NB272) k286 (H d10_190)
      have k289 := f_ilN X287 hx k288 (H d10_193) rfl
      have k290 := f_dal X287 hx hZ e287 (nq24 NB272) k289 (H d10_194) (v := fr0) (by decide) rfl
      have k291 := f_dc X287 hx k290 (H d10_195)
      have k292 := f_ifY X287 hx k291 (H d10_196) (pc' := 203) ((if0 _ _).trans (flt (own_nlt nf)).2.1) (by decide)
      have k293 := f_ic X287 hx k292 (H d10_203) (v := 0) rfl
      have k294 := f_ior X287 hx k293 (H d10_204) rfl
      obtain ⟨T295, h295, L295, X295, e295, W295, V295, N295, Z295, k295⟩ := f_bst X287 hx hZ e287 (nq26 NB272) N270 (G 8 (by decide)) Z270 k294 (H d10_205) (by decide) 0 rfl (lt_b rfl) (v' := (nar .boolean (z0 ||| (0 : Int32)))) rfl
      have K296 := K271.wr W295 (Or.inl (List.mem_of_getElem? (i := 3) rfl))
      have NB297 := nb_w8 D NB272 W295 V295
      exact ⟨T295, h295, _, (0 : Int32), (nar .boolean (z0 ||| (0 : Int32))), X295, e295, N295, Z295, NB297, K296, (Or.inl ⟨ql, rfl⟩), k295⟩
    · have k298 := f_ilN X212 hx k220 (H d10_105) rfl
      have k299 := f_ifN X212 hx k298 (H d10_106) ((if0 _ _).trans (tlt (by decide)).2.1)
      have k300 := f_ilN X212 hx k299 (H d10_109) rfl
      have k301 := f_go X212 hx k300 (H d10_110) (pc' := 114) (by decide)
      have k302 := f_is X212 hx k301 (H d10_114) (l' := #[sr ob, si 0, si (-1), si 0, si 0, sd y0, se, si 0, un, un]) rfl
      have k303 := f_dl X212 hx k302 (H d10_116) rfl
      have k304 := f_alN X212 hx k303 (H d10_118) rfl
      obtain ⟨T305, X305, e305, k306⟩ := gFs X212 hx hZ hown (hww 18 _ rfl) e212 (nq5 F194) k304 (H d10_119)
      have k307 := f_il X305 hx k306 (H d10_122) rfl
      have k308 := f_dal X305 hx hZ e305 (nq22 F194) k307 (H d10_124) (v := r0) (by decide) rfl
      have k309 := f_alN X305 hx k308 (H d10_125) rfl
      obtain ⟨T310, X310, e310, k311⟩ := gFs X305 hx hZ hown (hww 20 _ rfl) e305 (nq6 F194) k309 (H d10_126)
      have k312 := f_il X310 hx k311 (H d10_129) rfl
      have k313 := f_dal X310 hx hZ e310 (nq23 F194) k312 (H d10_131) (v := w0) (by decide) rfl
      obtain ⟨_, _, ⟨T314, L314, k314, n314⟩, -, X314, ⟨Lc314, hQ314, l314, y314, z314⟩, st314⟩ := Jvm.LawKit.callS X310 hx (y := (⟨"com/example/istra/istra/engine/NodeModel", "cut", "(DDD)D"⟩ : MethodName)) hown (mvT hZ (hww 85 _ rfl)) (mvT hZ (hww 86 _ rfl)) (mvT hZ (hww 2 _ rfl)) (mvT hZ (hww 87 _ rfl)) (by decide) (backOf (W := 0) (rm11 l Z a0 hw [] y0 r0 w0 h131 n0 Zq131 hn) hZ (hww 87 _ rfl) (hww 2 _ rfl) (by decide) (by decide)) (g := (mkF m 132 #[sr ob, si 0, si (-1), si 0, si 0, sd y0, se, si 0, un, un] [vD w0, vD r0, vD y0])) rfl (by rw [hml]; rfl) (argsL := [(.double y0), (.double r0), (.double w0)]) (rest := []) (lenOf pd__28DDD_29D rfl) rfl (by show 2 * 0 + _ ≤ _; exact Nat.le_of_eq rfl) (H d10_132) (fun _ _ => ⟨rfl, e310, (by decide : 0 + 0 ≤ _), (by decide : 0 + 0 ≤ _)⟩)
      dsimp only [Pt.U, Pt.locs, Pt.cells, Pt.slots] at X314 l314 y314 z314 st314 hQ314
      subst l314 y314 z314
      obtain ⟨rfl, N314q, e314⟩ := hQ314
      have N315 := Fr.app N131 N314q
      have k316 : Rt p e below T314 (mkF m 135 #[sr ob, si 0, si (-1), si 0, si 0, sd y0, se, si 0, un, un] [vD (own_cut y0 r0 w0)]) s₁ m #[(.ref ob), (.int (0 : Int32))] 10 := fun t k => k313 t (st314 t k)
      have k317 := f_ds X314 hx k316 (H d10_135) (l' := #[sr ob, si 0, si (-1), si 0, si 0, sd y0, se, si 0, sd (own_cut y0 r0 w0), se]) rfl
      have k318 := f_alN X314 hx k317 (H d10_137) rfl
      obtain ⟨T319, X319, e319, k320⟩ := gFs X314 hx hZ hown (hww 12 _ rfl) e314 (nq2 F194) k318 (H d10_138)
      have k321 := f_il X319 hx k320 (H d10_141) rfl
      have k322 := f_dup2 X319 hx k321 (H d10_143) rfl rfl
      have k323 := f_dal X319 hx hZ e319 (nq19 F194) k322 (H d10_144) (v := mv0) (by decide) rfl
      have k324 := f_dl X319 hx k323 (H d10_145) rfl
      have k325 := f_dadd X319 hx k324 (H d10_147) n1
      obtain ⟨T326, h326, L326, X326, e326, W326, V326, N326, Z326, k326⟩ := f_dst X319 hx hZ e319 (nq19 F194) N315 (G 1 (by decide)) Zq131 k325 (H d10_148) (by decide) 0 rfl (lt_b rfl)
      have K327 := F195.wr W326 (Or.inl (List.mem_of_getElem? (i := 0) rfl))
      have NB328 := nb_w1 D F194 W326 V326
      have k329 := f_alN X326 hx k326 (H d10_149) rfl
      obtain ⟨T330, X330, e330, k331⟩ := gFs X326 hx hZ hown (hww 14 _ rfl) e326 (nq3 NB328) k329 (H d10_150)
      have k332 := f_il X330 hx k331 (H d10_153) rfl
      have k333 := f_dl X330 hx k332 (H d10_155) rfl
      have k334 := f_dl X330 hx k333 (H d10_157) rfl
      have k335 := f_dsub X330 hx k334 (H d10_159) n2
      obtain ⟨T336, h336, L336, X336, e336, W336, V336, N336, Z336, k336⟩ := f_dst X330 hx hZ e330 (nq20 NB328) N326 (G 2 (by decide)) Z326 k335 (H d10_160) (by decide) 0 rfl (lt_b rfl)
      have K337 := K327.wr W336 (Or.inl (List.mem_of_getElem? (i := 1) rfl))
      have NB338 := nb_w2 D NB328 W336 V336
      have k339 := f_alN X336 hx k336 (H d10_161) rfl
      obtain ⟨T340, X340, e340, k341⟩ := gFs X336 hx hZ hown (hww 24 _ rfl) e336 (nq8 NB338) k339 (H d10_162)
      have k342 := f_ilN X340 hx k341 (H d10_165) rfl
      have k343 := f_dup2 X340 hx k342 (H d10_166) rfl rfl
      have k344 := f_dal X340 hx hZ e340 (nq25 NB338) k343 (H d10_167) (v := g0) (by decide) rfl
      have k345 := f_dl X340 hx k344 (H d10_168) rfl
      have k346 := f_dadd X340 hx k345 (H d10_170) n3
      obtain ⟨T347, h347, L347, X347, e347, W347, V347, N347, Z347, k347⟩ := f_dst X340 hx hZ e340 (nq25 NB338) N336 (G 7 (by decide)) Z336 k346 (H d10_171) (by decide) 0 rfl (lt_b rfl)
      have K348 := K337.wr W347 (Or.inl (List.mem_of_getElem? (i := 2) rfl))
      have NB349 := nb_w7 D NB338 W347 V347
      have k350 := f_alN X347 hx k347 (H d10_172) rfl
      obtain ⟨T351, X351, e351, k352⟩ := gFs X347 hx hZ hown (hww 27 _ rfl) e347 (nq9 NB349) k350 (H d10_173)
      have k353 := f_ilN X351 hx k352 (H d10_176) rfl
      have k354 := f_dup2 X351 hx k353 (H d10_177) rfl rfl
      have k355 := f_bal X351 hx hZ e351 (nq26 NB349) k354 (H d10_178) (v := z0) (by decide) rfl
      have k356 := f_ilN X351 hx k355 (H d10_179) rfl
      have k357 := f_ifY X351 hx k356 (H d10_180) (pc' := 199) ((if0 _ _).trans (tlt (by decide)).1) (by decide)
      have k358 := f_ic X351 hx k357 (H d10_199) (v := 1) rfl
      have k359 := f_go X351 hx k358 (H d10_200) (pc' := 204) (by decide)
      have k360 := f_ior X351 hx k359 (H d10_204) rfl
      obtain ⟨T361, h361, L361, X361, e361, W361, V361, N361, Z361, k361⟩ := f_bst X351 hx hZ e351 (nq26 NB349) N347 (G 8 (by decide)) Z347 k360 (H d10_205) (by decide) 0 rfl (lt_b rfl) (v' := (nar .boolean (z0 ||| (1 : Int32)))) rfl
      have K362 := K348.wr W361 (Or.inl (List.mem_of_getElem? (i := 3) rfl))
      have NB363 := nb_w8 D NB349 W361 V361
      exact ⟨T361, h361, _, (-1 : Int32), (nar .boolean (z0 ||| (1 : Int32))), X361, e361, N361, Z361, NB363, K362, (Or.inr ⟨ql, rfl⟩), k361⟩
  have k366 := f_inc X221 hx kq221 (H d10_206) rfl (l' := #[sr ob, si 0, si bz, si 1, si 0, sd y0, se, si 0, sd (own_cut y0 r0 w0), se]) rfl
  have k367 := f_go X221 hx k366 (H d10_209) (pc' := 71) (by decide)
  have k368 := f_ilN X221 hx k367 (H d10_71) rfl
  have k369 := f_alN X221 hx k368 (H d10_72) rfl
  obtain ⟨T370, X370, e370, k371⟩ := gFs X221 hx hZ hown (hww 47 _ rfl) e221 (nq16 F364) k369 (H d10_73)
  have k372 := f_icN X370 hx k371 (H d10_76) (tlt (by decide)).2.1
  have k373 := f_ilN X370 hx k372 (H d10_79) rfl
  have k374 := f_alN X370 hx k373 (H d10_80) rfl
  obtain ⟨T375, X375, e375, k376⟩ := gFs X370 hx hZ hown (hww 47 _ rfl) e370 (nq16 F364) k374 (H d10_81)
  have k377 := f_imul X375 hx k376 (H d10_84) (r := 0) (by decide)
  have k378 := f_ilN X375 hx k377 (H d10_85) rfl
  have k379 := f_iadd X375 hx k378 (H d10_86) (r := 1) (by decide)
  have k380 := f_is X375 hx k379 (H d10_87) (l' := #[sr ob, si 0, si bz, si 1, si 1, sd y0, se, si 0, sd (own_cut y0 r0 w0), se]) rfl
  have k381 := f_alN X375 hx k380 (H d10_89) rfl
  obtain ⟨T382, X382, e382, k383⟩ := gFs X375 hx hZ hown (hww 14 _ rfl) e375 (nq3 F364) k381 (H d10_90)
  have k384 := f_il X382 hx k383 (H d10_93) rfl
  have k385 := f_dal X382 hx hZ e382 (nq20 F364) k384 (H d10_95) (v := y1) (by decide) rfl
  have k386 := f_ds X382 hx k385 (H d10_96) (l' := #[sr ob, si 0, si bz, si 1, si 1, sd y1, se, si 0, sd (own_cut y0 r0 w0), se]) rfl
  have k387 := f_dl X382 hx k386 (H d10_98) rfl
  have k388 := f_d0 X382 hx k387 (H d10_100)
  have k389 := f_dc X382 hx k388 (H d10_101)
  have k390 := f_ifY X382 hx k389 (H d10_102) (pc' := 206) ((if0 _ _).trans (flt hO).2.2.2) (by decide)
  have k391 := f_inc X382 hx k390 (H d10_206) rfl (l' := #[sr ob, si 0, si bz, si 2, si 1, sd y1, se, si 0, sd (own_cut y0 r0 w0), se]) rfl
  have k392 := f_go X382 hx k391 (H d10_209) (pc' := 71) (by decide)
  have k393 := f_ilN X382 hx k392 (H d10_71) rfl
  have k394 := f_alN X382 hx k393 (H d10_72) rfl
  obtain ⟨T395, X395, e395, k396⟩ := gFs X382 hx hZ hown (hww 47 _ rfl) e382 (nq16 F364) k394 (H d10_73)
  have k397 := f_icY X395 hx k396 (H d10_76) (pc' := 212) (flt (by decide)).2.1 (by decide)
  obtain ⟨fs, hr, hrun, hended, hW, hsame⟩ := X395.leave (v := none) (fun _ => rfl)
  refine ⟨_, _, k397 _ (X395.returnOut hx Bd.returns (H d10_212) hr), hrun, hended, _, _, rfl, ?_, ⟨_, rfl⟩, hW, hsame.mono (by decide) (by decide)⟩
  show Q_move00 Z ob B K l0 l3 l9 l10 l11 l12 wc mv0 mv1 mv2 mv3 y0 y1 y2 y3 r0 r1 w0 w1 fr0 fr1 g0 g1 z0 z1 h0 n0 _ T395.heap _
  rw [e395]
  exact ⟨zq, rfl, N221, F365, F364, hzq⟩
def Q_move01 (Z : State) (ob : Addr) (B : Nat → Addr) (K : Nat → ClassId) (l0 : List Value) (l3 : List Value) (l9 : List Value) (l10 : List Value) (l11 : List Value) (l12 : List Value) (wc : Int32) (mv0 : UInt64) (mv1 : UInt64) (mv2 : UInt64) (mv3 : UInt64) (y0 : UInt64) (y1 : UInt64) (y2 : UInt64) (y3 : UInt64) (r0 : UInt64) (r1 : UInt64) (w0 : UInt64) (w1 : UInt64) (fr0 : UInt64) (fr1 : UInt64) (g0 : UInt64) (g1 : UInt64) (z0 : Int32) (z1 : Int32) (h0 : Heap) (n0 : Nat) (v : Option Value) (h : Heap) (L : List Loc) : Prop := ∃ zq : Int32, v = none ∧ Fr n0 L ∧ Keep h0 h [B 1, B 2, B 7, B 8] ∧ NB Z h ob B K l0 [(.double mv0), (.double (FP.dadd mv1 (own_cut y1 r1 w1))), (.double mv2), (.double mv3)] [(.double y0), (.double (FP.dsub y1 (own_cut y1 r1 w1))), (.double y2), (.double y3)] l3 [(.double r0), (.double r1)] [(.double w0), (.double w1)] [(.double fr0), (.double fr1)] [(.double g0), (.double (FP.dadd g1 (own_cut y1 r1 w1)))] [(.int z0), (.int zq)] l9 l10 l11 l12 wc ∧ ((cmpValue (FP.dcmp fr1 (4607182418800017408 : UInt64)) .g < (0 : Int32)) ∧ zq = nar .boolean (z1 ||| (0 : Int32)) ∨ ¬ (cmpValue (FP.dcmp fr1 (4607182418800017408 : UInt64)) .g < (0 : Int32)) ∧ zq = nar .boolean (z1 ||| (1 : Int32)))
set_option maxRecDepth 65536 in
set_option maxHeartbeats 40000000 in
theorem move01 (l : Launch) (Z : State) (a0 : Array Value) (hw : ∀ d ∈ tables_1, d.before a0 Z = true) (ws : List Jvm.Cond) (ob : Addr) (B : Nat → Addr) (K : Nat → ClassId) (l0 : List Value) (l3 : List Value) (l9 : List Value) (l10 : List Value) (l11 : List Value) (l12 : List Value) (wc : Int32) (mv0 : UInt64) (mv1 : UInt64) (mv2 : UInt64) (mv3 : UInt64) (y0 : UInt64) (y1 : UInt64) (y2 : UInt64) (y3 : UInt64) (r0 : UInt64) (r1 : UInt64) (w0 : UInt64) (w1 : UInt64) (fr0 : UInt64) (fr1 : UInt64) (g0 : UInt64) (g1 : UInt64) (z0 : Int32) (z1 : Int32) (h0 : Heap) (n0 : Nat) (Z0 : n0 ≤ h0.size) (D : Dis ob B) (NB0 : NB Z h0 ob B K l0 [(.double mv0), (.double mv1), (.double mv2), (.double mv3)] [(.double y0), (.double y1), (.double y2), (.double y3)] l3 [(.double r0), (.double r1)] [(.double w0), (.double w1)] [(.double fr0), (.double fr1)] [(.double g0), (.double g1)] [(.int z0), (.int z1)] l9 l10 l11 l12 wc) (G : ∀ i, i < 13 → n0 ≤ B i) (hA : (0 : Int32) < cmpValue (FP.dcmp y1 (0 : UInt64)) .l) (hO : ¬ ((0 : Int32) < cmpValue (FP.dcmp y0 (0 : UInt64)) .l)) (hn : (0 : Int32) < cmpValue (FP.dcmp w1 r1) .l → Jvm.Free.Fl.NoNaN64 (FP.dmul y1 r1) ∧ Jvm.Free.Fl.NoNaN64 (FP.ddiv (FP.dmul y1 r1) w1)) (n1 : Jvm.Free.Fl.NoNaN64 (FP.dadd mv1 (own_cut y1 r1 w1))) (n2 : Jvm.Free.Fl.NoNaN64 (FP.dsub y1 (own_cut y1 r1 w1))) (n3 : Jvm.Free.Fl.NoNaN64 (FP.dadd g1 (own_cut y1 r1 w1))) (nf : Jvm.Free.Fl.NoNaN64 fr1) :
    Met l (⟨"com/example/istra/istra/engine/NodeModel", "move", "(I)V"⟩ : MethodName) prog_40_method_14_code 10 none ws (rm 1 0 0 17) #[(.ref ob), (.int (0 : Int32))] Z h0 (Q_move01 Z ob B K l0 l3 l9 l10 l11 l12 wc mv0 mv1 mv2 mv3 y0 y1 y2 y3 r0 r1 w0 w1 fr0 fr1 g0 g1 z0 z1 h0 n0) := by
  refine MetFree.of_bodySF (plainFor_of_name pn_com_2fexample_2fistra_2fistra_2fengine_2fNodeModel) hisR ?_
  intro p e s m args below meth c s₁ Bd hml0 hP hK
  obtain ⟨rfl, hZ, hh⟩ := hP
  have hx := Bd.exec
  have hby := Bd.bytes
  have hml : c.maxLocals = 10 := hml0
  have hown : s.vm.findClass "com/example/istra/istra/engine/NodeModel" = some m.cls := findClass_of_methodNamed Bd.named
  have hnm := (name_of_methodNamed Bd.named Bd.method).1
  have X0 : Stand p l e (rm 1 0 0 17) s m #[(.ref ob), (.int (0 : Int32))] below meth c s₁ [] 0 0 := Stand.of_body Bd
  have e0 : s₁.heap = h0 := by rw [← hh, Bd.state]; rfl
  have N0 := Fr.nil n0
  have hww := fun (i : Nat) (c : Jvm.Cond) (h : tables_1[i]? = some c) => hw c (List.mem_of_getElem? h)
  have k0 : Rt p e below s₁ (mkF m 0 #[sr ob, si 0, un, un, un, un, un, un, un, un] []) s₁ m #[(.ref ob), (.int (0 : Int32))] 10 := fun t k => castTop (ef_10_RI m ob (0 : Int32)) k
  have K0 := Keep.refl h0 [(B 1), (B 2), (B 7), (B 8)]
  have H : ∀ {pc r}, decode prog_40_method_14_code pc = r → decode c.code pc = r := fun d => hb hby d
  have k101 := f_ic X0 hx k0 (H d10_0) (v := (-1)) rfl
  have k102 := f_isN X0 hx k101 (H d10_1) (l' := #[sr ob, si 0, si (-1), un, un, un, un, un, un, un]) rfl
  have k103 := f_ic X0 hx k102 (H d10_2) (v := 0) rfl
  have k104 := f_isN X0 hx k103 (H d10_3) (l' := #[sr ob, si 0, si (-1), si 0, un, un, un, un, un, un]) rfl
  have k105 := f_ilN X0 hx k104 (H d10_4) rfl
  have k106 := f_alN X0 hx k105 (H d10_5) rfl
  obtain ⟨T107, X107, e107, k108⟩ := gFs X0 hx hZ hown (hww 47 _ rfl) e0 (nq16 NB0) k106 (H d10_6)
  have k109 := f_icN X107 hx k108 (H d10_9) (tlt (by decide)).2.1
  have k110 := f_alN X107 hx k109 (H d10_12) rfl
  obtain ⟨T111, X111, e111, k112⟩ := gFs X107 hx hZ hown (hww 14 _ rfl) e107 (nq3 NB0) k110 (H d10_13)
  have k113 := f_ilN X111 hx k112 (H d10_16) rfl
  have k114 := f_alN X111 hx k113 (H d10_17) rfl
  obtain ⟨T115, X115, e115, k116⟩ := gFs X111 hx hZ hown (hww 47 _ rfl) e111 (nq16 NB0) k114 (H d10_18)
  have k117 := f_imul X115 hx k116 (H d10_21) (r := 0) (by decide)
  have k118 := f_ilN X115 hx k117 (H d10_22) rfl
  have k119 := f_iadd X115 hx k118 (H d10_23) (r := 0) (by decide)
  have k120 := f_dal X115 hx hZ e115 (nq20 NB0) k119 (H d10_24) (v := y0) (by decide) rfl
  have k121 := f_d0 X115 hx k120 (H d10_25)
  have k122 := f_dc X115 hx k121 (H d10_26)
  have k123 := f_ifY X115 hx k122 (H d10_27) (pc' := 63) ((if0 _ _).trans (flt hO).2.2.2) (by decide)
  have k124 := f_inc X115 hx k123 (H d10_63) rfl (l' := #[sr ob, si 0, si (-1), si 1, un, un, un, un, un, un]) rfl
  have k125 := f_go X115 hx k124 (H d10_66) (pc' := 4) (by decide)
  have k126 := f_ilN X115 hx k125 (H d10_4) rfl
  have k127 := f_alN X115 hx k126 (H d10_5) rfl
  obtain ⟨T128, X128, e128, k129⟩ := gFs X115 hx hZ hown (hww 47 _ rfl) e115 (nq16 NB0) k127 (H d10_6)
  have k130 := f_icN X128 hx k129 (H d10_9) (tlt (by decide)).2.1
  have k131 := f_alN X128 hx k130 (H d10_12) rfl
  obtain ⟨T132, X132, e132, k133⟩ := gFs X128 hx hZ hown (hww 14 _ rfl) e128 (nq3 NB0) k131 (H d10_13)
  have k134 := f_ilN X132 hx k133 (H d10_16) rfl
  have k135 := f_alN X132 hx k134 (H d10_17) rfl
  obtain ⟨T136, X136, e136, k137⟩ := gFs X132 hx hZ hown (hww 47 _ rfl) e132 (nq16 NB0) k135 (H d10_18)
  have k138 := f_imul X136 hx k137 (H d10_21) (r := 0) (by decide)
  have k139 := f_ilN X136 hx k138 (H d10_22) rfl
  have k140 := f_iadd X136 hx k139 (H d10_23) (r := 1) (by decide)
  have k141 := f_dal X136 hx hZ e136 (nq20 NB0) k140 (H d10_24) (v := y1) (by decide) rfl
  have k142 := f_d0 X136 hx k141 (H d10_25)
  have k143 := f_dc X136 hx k142 (H d10_26)
  have k144 := f_ifN X136 hx k143 (H d10_27) ((if0 _ _).trans (tlt hA).2.2.2)
  have k145 := f_alN X136 hx k144 (H d10_30) rfl
  obtain ⟨T146, X146, e146, k147⟩ := gFs X136 hx hZ hown (hww 22 _ rfl) e136 (nq7 NB0) k145 (H d10_31)
  have k148 := f_ilN X146 hx k147 (H d10_34) rfl
  have k149 := f_dal X146 hx hZ e146 (nq24 NB0) k148 (H d10_35) (v := fr1) (by decide) rfl
  have k150 := f_d1 X146 hx k149 (H d10_36)
  have k151 := f_dc X146 hx k150 (H d10_37)
  obtain ⟨T152, h152, Ls152, bq, X152, e152, N152, Zq152, F173, F174, hbq, kq152⟩ : ∃ (T152 : State) (h152 : Heap) (Ls152 : List Loc) (bq : Int32), Stand p l e (rm 1 0 0 17) s m #[(.ref ob), (.int (0 : Int32))] below meth c T152 Ls152 0 0 ∧ T152.heap = h152 ∧ Fr n0 Ls152 ∧ n0 ≤ h152.size ∧ NB Z h152 ob B K l0 [(.double mv0), (.double mv1), (.double mv2), (.double mv3)] [(.double y0), (.double y1), (.double y2), (.double y3)] l3 [(.double r0), (.double r1)] [(.double w0), (.double w1)] [(.double fr0), (.double fr1)] [(.double g0), (.double g1)] [(.int z0), (.int z1)] l9 l10 l11 l12 wc ∧ Keep h0 h152 [B 1, B 2, B 7, B 8] ∧ ((cmpValue (FP.dcmp fr1 (4607182418800017408 : UInt64)) .g < (0 : Int32)) ∧ bq = (1 : Int32) ∨ ¬ (cmpValue (FP.dcmp fr1 (4607182418800017408 : UInt64)) .g < (0 : Int32)) ∧ bq = (-1 : Int32)) ∧ (Rt p e below T152 (mkF m 69 #[sr ob, si 0, si bq, si 2, un, un, un, un, un, un] []) s₁ m #[(.ref ob), (.int (0 : Int32))] 10) := by
    by_cases ql : cmpValue (FP.dcmp fr1 (4607182418800017408 : UInt64)) .g < (0 : Int32)
    · have k153 := f_ifN X146 hx k151 (H d10_38) ((if0 _ _).trans (tlt ql).2.1)
      have k154 := f_ilN X146 hx k153 (H d10_41) rfl
      have k155 := f_ifY X146 hx k154 (H d10_42) (pc' := 61) ((if0 _ _).trans (tlt (by decide)).1) (by decide)
      have k156 := f_ilN X146 hx k155 (H d10_61) rfl
      have k157 := f_isN X146 hx k156 (H d10_62) (l' := #[sr ob, si 0, si 1, si 1, un, un, un, un, un, un]) rfl
      have k158 := f_inc X146 hx k157 (H d10_63) rfl (l' := #[sr ob, si 0, si 1, si 2, un, un, un, un, un, un]) rfl
      have k159 := f_go X146 hx k158 (H d10_66) (pc' := 4) (by decide)
      have k160 := f_ilN X146 hx k159 (H d10_4) rfl
      have k161 := f_alN X146 hx k160 (H d10_5) rfl
      obtain ⟨T162, X162, e162, k163⟩ := gFs X146 hx hZ hown (hww 47 _ rfl) e146 (nq16 NB0) k161 (H d10_6)
      have k164 := f_icY X162 hx k163 (H d10_9) (pc' := 69) (flt (by decide)).2.1 (by decide)
      exact ⟨T162, h0, _, (1 : Int32), X162, e162, N0, Z0, NB0, K0, (Or.inl ⟨ql, rfl⟩), k164⟩
    · have k165 := f_ifY X146 hx k151 (H d10_38) (pc' := 63) ((if0 _ _).trans (flt ql).2.1) (by decide)
      have k166 := f_inc X146 hx k165 (H d10_63) rfl (l' := #[sr ob, si 0, si (-1), si 2, un, un, un, un, un, un]) rfl
      have k167 := f_go X146 hx k166 (H d10_66) (pc' := 4) (by decide)
      have k168 := f_ilN X146 hx k167 (H d10_4) rfl
      have k169 := f_alN X146 hx k168 (H d10_5) rfl
      obtain ⟨T170, X170, e170, k171⟩ := gFs X146 hx hZ hown (hww 47 _ rfl) e146 (nq16 NB0) k169 (H d10_6)
      have k172 := f_icY X170 hx k171 (H d10_9) (pc' := 69) (flt (by decide)).2.1 (by decide)
      exact ⟨T170, h0, _, (-1 : Int32), X170, e170, N0, Z0, NB0, K0, (Or.inr ⟨ql, rfl⟩), k172⟩
  have k175 := f_ic X152 hx kq152 (H d10_69) (v := 0) rfl
  have k176 := f_isN X152 hx k175 (H d10_70) (l' := #[sr ob, si 0, si bq, si 0, un, un, un, un, un, un]) rfl
  have k177 := f_ilN X152 hx k176 (H d10_71) rfl
  have k178 := f_alN X152 hx k177 (H d10_72) rfl
  obtain ⟨T179, X179, e179, k180⟩ := gFs X152 hx hZ hown (hww 47 _ rfl) e152 (nq16 F173) k178 (H d10_73)
  have k181 := f_icN X179 hx k180 (H d10_76) (tlt (by decide)).2.1
  have k182 := f_ilN X179 hx k181 (H d10_79) rfl
  have k183 := f_alN X179 hx k182 (H d10_80) rfl
  obtain ⟨T184, X184, e184, k185⟩ := gFs X179 hx hZ hown (hww 47 _ rfl) e179 (nq16 F173) k183 (H d10_81)
  have k186 := f_imul X184 hx k185 (H d10_84) (r := 0) (by decide)
  have k187 := f_ilN X184 hx k186 (H d10_85) rfl
  have k188 := f_iadd X184 hx k187 (H d10_86) (r := 0) (by decide)
  have k189 := f_is X184 hx k188 (H d10_87) (l' := #[sr ob, si 0, si bq, si 0, si 0, un, un, un, un, un]) rfl
  have k190 := f_alN X184 hx k189 (H d10_89) rfl
  obtain ⟨T191, X191, e191, k192⟩ := gFs X184 hx hZ hown (hww 14 _ rfl) e184 (nq3 F173) k190 (H d10_90)
  have k193 := f_il X191 hx k192 (H d10_93) rfl
  have k194 := f_dal X191 hx hZ e191 (nq20 F173) k193 (H d10_95) (v := y0) (by decide) rfl
  have k195 := f_ds X191 hx k194 (H d10_96) (l' := #[sr ob, si 0, si bq, si 0, si 0, sd y0, se, un, un, un]) rfl
  have k196 := f_dl X191 hx k195 (H d10_98) rfl
  have k197 := f_d0 X191 hx k196 (H d10_100)
  have k198 := f_dc X191 hx k197 (H d10_101)
  have k199 := f_ifY X191 hx k198 (H d10_102) (pc' := 206) ((if0 _ _).trans (flt hO).2.2.2) (by decide)
  have k200 := f_inc X191 hx k199 (H d10_206) rfl (l' := #[sr ob, si 0, si bq, si 1, si 0, sd y0, se, un, un, un]) rfl
  have k201 := f_go X191 hx k200 (H d10_209) (pc' := 71) (by decide)
  have k202 := f_ilN X191 hx k201 (H d10_71) rfl
  have k203 := f_alN X191 hx k202 (H d10_72) rfl
  obtain ⟨T204, X204, e204, k205⟩ := gFs X191 hx hZ hown (hww 47 _ rfl) e191 (nq16 F173) k203 (H d10_73)
  have k206 := f_icN X204 hx k205 (H d10_76) (tlt (by decide)).2.1
  have k207 := f_ilN X204 hx k206 (H d10_79) rfl
  have k208 := f_alN X204 hx k207 (H d10_80) rfl
  obtain ⟨T209, X209, e209, k210⟩ := gFs X204 hx hZ hown (hww 47 _ rfl) e204 (nq16 F173) k208 (H d10_81)
  have k211 := f_imul X209 hx k210 (H d10_84) (r := 0) (by decide)
  have k212 := f_ilN X209 hx k211 (H d10_85) rfl
  have k213 := f_iadd X209 hx k212 (H d10_86) (r := 1) (by decide)
  have k214 := f_is X209 hx k213 (H d10_87) (l' := #[sr ob, si 0, si bq, si 1, si 1, sd y0, se, un, un, un]) rfl
  have k215 := f_alN X209 hx k214 (H d10_89) rfl
  obtain ⟨T216, X216, e216, k217⟩ := gFs X209 hx hZ hown (hww 14 _ rfl) e209 (nq3 F173) k215 (H d10_90)
  have k218 := f_il X216 hx k217 (H d10_93) rfl
  have k219 := f_dal X216 hx hZ e216 (nq20 F173) k218 (H d10_95) (v := y1) (by decide) rfl
  have k220 := f_ds X216 hx k219 (H d10_96) (l' := #[sr ob, si 0, si bq, si 1, si 1, sd y1, se, un, un, un]) rfl
  have k221 := f_dl X216 hx k220 (H d10_98) rfl
  have k222 := f_d0 X216 hx k221 (H d10_100)
  have k223 := f_dc X216 hx k222 (H d10_101)
  have k224 := f_ifN X216 hx k223 (H d10_102) ((if0 _ _).trans (tlt hA).2.2.2)
  obtain ⟨T225, h225, Ls225, bz, zq, X225, e225, N225, Zq225, F368, F369, hzq, kq225⟩ : ∃ (T225 : State) (h225 : Heap) (Ls225 : List Loc) (bz : Int32) (zq : Int32), Stand p l e (rm 1 0 0 17) s m #[(.ref ob), (.int (0 : Int32))] below meth c T225 Ls225 0 0 ∧ T225.heap = h225 ∧ Fr n0 Ls225 ∧ n0 ≤ h225.size ∧ NB Z h225 ob B K l0 [(.double mv0), (.double (FP.dadd mv1 (own_cut y1 r1 w1))), (.double mv2), (.double mv3)] [(.double y0), (.double (FP.dsub y1 (own_cut y1 r1 w1))), (.double y2), (.double y3)] l3 [(.double r0), (.double r1)] [(.double w0), (.double w1)] [(.double fr0), (.double fr1)] [(.double g0), (.double (FP.dadd g1 (own_cut y1 r1 w1)))] [(.int z0), (.int zq)] l9 l10 l11 l12 wc ∧ Keep h0 h225 [B 1, B 2, B 7, B 8] ∧ ((cmpValue (FP.dcmp fr1 (4607182418800017408 : UInt64)) .g < (0 : Int32)) ∧ zq = nar .boolean (z1 ||| (0 : Int32)) ∨ ¬ (cmpValue (FP.dcmp fr1 (4607182418800017408 : UInt64)) .g < (0 : Int32)) ∧ zq = nar .boolean (z1 ||| (1 : Int32))) ∧ (Rt p e below T225 (mkF m 206 #[sr ob, si 0, si bz, si 1, si 1, sd y1, se, si 1, sd (own_cut y1 r1 w1), se] []) s₁ m #[(.ref ob), (.int (0 : Int32))] 10) := by
    rcases hbq with ⟨ql, rfl⟩ | ⟨ql, rfl⟩
    · have k226 := f_ilN X216 hx k224 (H d10_105) rfl
      have k227 := f_ifY X216 hx k226 (H d10_106) (pc' := 113) ((if0 _ _).trans (flt (by decide)).2.1) (by decide)
      have k228 := f_ilN X216 hx k227 (H d10_113) rfl
      have k229 := f_is X216 hx k228 (H d10_114) (l' := #[sr ob, si 0, si 1, si 1, si 1, sd y1, se, si 1, un, un]) rfl
      have k230 := f_dl X216 hx k229 (H d10_116) rfl
      have k231 := f_alN X216 hx k230 (H d10_118) rfl
      obtain ⟨T232, X232, e232, k233⟩ := gFs X216 hx hZ hown (hww 18 _ rfl) e216 (nq5 F173) k231 (H d10_119)
      have k234 := f_il X232 hx k233 (H d10_122) rfl
      have k235 := f_dal X232 hx hZ e232 (nq22 F173) k234 (H d10_124) (v := r1) (by decide) rfl
      have k236 := f_alN X232 hx k235 (H d10_125) rfl
      obtain ⟨T237, X237, e237, k238⟩ := gFs X232 hx hZ hown (hww 20 _ rfl) e232 (nq6 F173) k236 (H d10_126)
      have k239 := f_il X237 hx k238 (H d10_129) rfl
      have k240 := f_dal X237 hx hZ e237 (nq23 F173) k239 (H d10_131) (v := w1) (by decide) rfl
      obtain ⟨_, _, ⟨T241, L241, k241, n241⟩, -, X241, ⟨Lc241, hQ241, l241, y241, z241⟩, st241⟩ := Jvm.LawKit.callS X237 hx (y := (⟨"com/example/istra/istra/engine/NodeModel", "cut", "(DDD)D"⟩ : MethodName)) hown (mvT hZ (hww 85 _ rfl)) (mvT hZ (hww 86 _ rfl)) (mvT hZ (hww 2 _ rfl)) (mvT hZ (hww 87 _ rfl)) (by decide) (backOf (W := 0) (rm11 l Z a0 hw [] y1 r1 w1 h152 n0 Zq152 hn) hZ (hww 87 _ rfl) (hww 2 _ rfl) (by decide) (by decide)) (g := (mkF m 132 #[sr ob, si 0, si 1, si 1, si 1, sd y1, se, si 1, un, un] [vD w1, vD r1, vD y1])) rfl (by rw [hml]; rfl) (argsL := [(.double y1), (.double r1), (.double w1)]) (rest := []) (lenOf pd__28DDD_29D rfl) rfl (by show 2 * 0 + _ ≤ _; exact Nat.le_of_eq rfl) (H d10_132) (fun _ _ => ⟨rfl, e237, (by decide : 0 + 0 ≤ _), (by decide : 0 + 0 ≤ _)⟩)
      dsimp only [Pt.U, Pt.locs, Pt.cells, Pt.slots] at X241 l241 y241 z241 st241 hQ241
      subst l241 y241 z241
      obtain ⟨rfl, N241q, e241⟩ := hQ241
      have N242 := Fr.app N152 N241q
      have k243 : Rt p e below T241 (mkF m 135 #[sr ob, si 0, si 1, si 1, si 1, sd y1, se, si 1, un, un] [vD (own_cut y1 r1 w1)]) s₁ m #[(.ref ob), (.int (0 : Int32))] 10 := fun t k => k240 t (st241 t k)
      have k244 := f_ds X241 hx k243 (H d10_135) (l' := #[sr ob, si 0, si 1, si 1, si 1, sd y1, se, si 1, sd (own_cut y1 r1 w1), se]) rfl
      have k245 := f_alN X241 hx k244 (H d10_137) rfl
      obtain ⟨T246, X246, e246, k247⟩ := gFs X241 hx hZ hown (hww 12 _ rfl) e241 (nq2 F173) k245 (H d10_138)
      have k248 := f_il X246 hx k247 (H d10_141) rfl
      have k249 := f_dup2 X246 hx k248 (H d10_143) rfl rfl
      have k250 := f_dal X246 hx hZ e246 (nq19 F173) k249 (H d10_144) (v := mv1) (by decide) rfl
      have k251 := f_dl X246 hx k250 (H d10_145) rfl
      have k252 := f_dadd X246 hx k251 (H d10_147) n1
      obtain ⟨T253, h253, L253, X253, e253, W253, V253, N253, Z253, k253⟩ := f_dst X246 hx hZ e246 (nq19 F173) N242 (G 1 (by decide)) Zq152 k252 (H d10_148) (by decide) 1 rfl (lt_b rfl)
      have K254 := F174.wr W253 (Or.inl (List.mem_of_getElem? (i := 0) rfl))
      have NB255 := nb_w1 D F173 W253 V253
      have k256 := f_alN X253 hx k253 (H d10_149) rfl
      obtain ⟨T257, X257, e257, k258⟩ := gFs X253 hx hZ hown (hww 14 _ rfl) e253 (nq3 NB255) k256 (H d10_150)
      have k259 := f_il X257 hx k258 (H d10_153) rfl
      have k260 := f_dl X257 hx k259 (H d10_155) rfl
      have k261 := f_dl X257 hx k260 (H d10_157) rfl
      have k262 := f_dsub X257 hx k261 (H d10_159) n2
      obtain ⟨T263, h263, L263, X263, e263, W263, V263, N263, Z263, k263⟩ := f_dst X257 hx hZ e257 (nq20 NB255) N253 (G 2 (by decide)) Z253 k262 (H d10_160) (by decide) 1 rfl (lt_b rfl)
      have K264 := K254.wr W263 (Or.inl (List.mem_of_getElem? (i := 1) rfl))
      have NB265 := nb_w2 D NB255 W263 V263
      have k266 := f_alN X263 hx k263 (H d10_161) rfl
      obtain ⟨T267, X267, e267, k268⟩ := gFs X263 hx hZ hown (hww 24 _ rfl) e263 (nq8 NB265) k266 (H d10_162)
      have k269 := f_ilN X267 hx k268 (H d10_165) rfl
      have k270 := f_dup2 X267 hx k269 (H d10_166) rfl rfl
      have k271 := f_dal X267 hx hZ e267 (nq25 NB265) k270 (H d10_167) (v := g1) (by decide) rfl
      have k272 := f_dl X267 hx k271 (H d10_168) rfl
      have k273 := f_dadd X267 hx k272 (H d10_170) n3
      obtain ⟨T274, h274, L274, X274, e274, W274, V274, N274, Z274, k274⟩ := f_dst X267 hx hZ e267 (nq25 NB265) N263 (G 7 (by decide)) Z263 k273 (H d10_171) (by decide) 1 rfl (lt_b rfl)
      have K275 := K264.wr W274 (Or.inl (List.mem_of_getElem? (i := 2) rfl))
      have NB276 := nb_w7 D NB265 W274 V274
      have k277 := f_alN X274 hx k274 (H d10_172) rfl
      obtain ⟨T278, X278, e278, k279⟩ := gFs X274 hx hZ hown (hww 27 _ rfl) e274 (nq9 NB276) k277 (H d10_173)
      have k280 := f_ilN X278 hx k279 (H d10_176) rfl
      have k281 := f_dup2 X278 hx k280 (H d10_177) rfl rfl
      have k282 := f_bal X278 hx hZ e278 (nq26 NB276) k281 (H d10_178) (v := z1) (by decide) rfl
      have k283 := f_ilN X278 hx k282 (H d10_179) rfl
      have k284 := f_ifN X278 hx k283 (H d10_180) ((if0 _ _).trans (flt (by decide)).1)
      have k285 := f_alN X278 hx k284 (H d10_183) rfl
      obtain ⟨T286, X286, e286, k287⟩ := gFs X278 hx hZ hown (hww 22 _ rfl) e278 (nq7 NB276) k285 (H d10_184)
      have k288 := f_ilN X286 hx k287 (H d10_187) rfl
      have k289 := f_dal X286 hx hZ e286 (nq24 NB276) k288 (H d10_188) (v := fr1) (by decide) rfl
      have k290 := f_alN X286 hx k289 (H d10_189) rfl
      obtain ⟨T291, X291, e291, k292⟩ := gFs X286 hx hZ hown (hww 22 _ rfl) e286 (nq7 NB276) k290 (H d10_190)
      have k293 := f_ilN X291 hx k292 (H d10_193) rfl
      have k294 := f_dal X291 hx hZ e291 (nq24 NB276) k293 (H d10_194) (v := fr1) (by decide) rfl
      have k295 := f_dc X291 hx k294 (H d10_195)
      have k296 := f_ifY X291 hx k295 (H d10_196) (pc' := 203) ((if0 _ _).trans (flt (own_nlt nf)).2.1) (by decide)
      have k297 := f_ic X291 hx k296 (H d10_203) (v := 0) rfl
      have k298 := f_ior X291 hx k297 (H d10_204) rfl
      obtain ⟨T299, h299, L299, X299, e299, W299, V299, N299, Z299, k299⟩ := f_bst X291 hx hZ e291 (nq26 NB276) N274 (G 8 (by decide)) Z274 k298 (H d10_205) (by decide) 1 rfl (lt_b rfl) (v' := (nar .boolean (z1 ||| (0 : Int32)))) rfl
      have K300 := K275.wr W299 (Or.inl (List.mem_of_getElem? (i := 3) rfl))
      have NB301 := nb_w8 D NB276 W299 V299
      exact ⟨T299, h299, _, (1 : Int32), (nar .boolean (z1 ||| (0 : Int32))), X299, e299, N299, Z299, NB301, K300, (Or.inl ⟨ql, rfl⟩), k299⟩
    · have k302 := f_ilN X216 hx k224 (H d10_105) rfl
      have k303 := f_ifN X216 hx k302 (H d10_106) ((if0 _ _).trans (tlt (by decide)).2.1)
      have k304 := f_ilN X216 hx k303 (H d10_109) rfl
      have k305 := f_go X216 hx k304 (H d10_110) (pc' := 114) (by decide)
      have k306 := f_is X216 hx k305 (H d10_114) (l' := #[sr ob, si 0, si (-1), si 1, si 1, sd y1, se, si 1, un, un]) rfl
      have k307 := f_dl X216 hx k306 (H d10_116) rfl
      have k308 := f_alN X216 hx k307 (H d10_118) rfl
      obtain ⟨T309, X309, e309, k310⟩ := gFs X216 hx hZ hown (hww 18 _ rfl) e216 (nq5 F173) k308 (H d10_119)
      have k311 := f_il X309 hx k310 (H d10_122) rfl
      have k312 := f_dal X309 hx hZ e309 (nq22 F173) k311 (H d10_124) (v := r1) (by decide) rfl
      have k313 := f_alN X309 hx k312 (H d10_125) rfl
      obtain ⟨T314, X314, e314, k315⟩ := gFs X309 hx hZ hown (hww 20 _ rfl) e309 (nq6 F173) k313 (H d10_126)
      have k316 := f_il X314 hx k315 (H d10_129) rfl
      have k317 := f_dal X314 hx hZ e314 (nq23 F173) k316 (H d10_131) (v := w1) (by decide) rfl
      obtain ⟨_, _, ⟨T318, L318, k318, n318⟩, -, X318, ⟨Lc318, hQ318, l318, y318, z318⟩, st318⟩ := Jvm.LawKit.callS X314 hx (y := (⟨"com/example/istra/istra/engine/NodeModel", "cut", "(DDD)D"⟩ : MethodName)) hown (mvT hZ (hww 85 _ rfl)) (mvT hZ (hww 86 _ rfl)) (mvT hZ (hww 2 _ rfl)) (mvT hZ (hww 87 _ rfl)) (by decide) (backOf (W := 0) (rm11 l Z a0 hw [] y1 r1 w1 h152 n0 Zq152 hn) hZ (hww 87 _ rfl) (hww 2 _ rfl) (by decide) (by decide)) (g := (mkF m 132 #[sr ob, si 0, si (-1), si 1, si 1, sd y1, se, si 1, un, un] [vD w1, vD r1, vD y1])) rfl (by rw [hml]; rfl) (argsL := [(.double y1), (.double r1), (.double w1)]) (rest := []) (lenOf pd__28DDD_29D rfl) rfl (by show 2 * 0 + _ ≤ _; exact Nat.le_of_eq rfl) (H d10_132) (fun _ _ => ⟨rfl, e314, (by decide : 0 + 0 ≤ _), (by decide : 0 + 0 ≤ _)⟩)
      dsimp only [Pt.U, Pt.locs, Pt.cells, Pt.slots] at X318 l318 y318 z318 st318 hQ318
      subst l318 y318 z318
      obtain ⟨rfl, N318q, e318⟩ := hQ318
      have N319 := Fr.app N152 N318q
      have k320 : Rt p e below T318 (mkF m 135 #[sr ob, si 0, si (-1), si 1, si 1, sd y1, se, si 1, un, un] [vD (own_cut y1 r1 w1)]) s₁ m #[(.ref ob), (.int (0 : Int32))] 10 := fun t k => k317 t (st318 t k)
      have k321 := f_ds X318 hx k320 (H d10_135) (l' := #[sr ob, si 0, si (-1), si 1, si 1, sd y1, se, si 1, sd (own_cut y1 r1 w1), se]) rfl
      have k322 := f_alN X318 hx k321 (H d10_137) rfl
      obtain ⟨T323, X323, e323, k324⟩ := gFs X318 hx hZ hown (hww 12 _ rfl) e318 (nq2 F173) k322 (H d10_138)
      have k325 := f_il X323 hx k324 (H d10_141) rfl
      have k326 := f_dup2 X323 hx k325 (H d10_143) rfl rfl
      have k327 := f_dal X323 hx hZ e323 (nq19 F173) k326 (H d10_144) (v := mv1) (by decide) rfl
      have k328 := f_dl X323 hx k327 (H d10_145) rfl
      have k329 := f_dadd X323 hx k328 (H d10_147) n1
      obtain ⟨T330, h330, L330, X330, e330, W330, V330, N330, Z330, k330⟩ := f_dst X323 hx hZ e323 (nq19 F173) N319 (G 1 (by decide)) Zq152 k329 (H d10_148) (by decide) 1 rfl (lt_b rfl)
      have K331 := F174.wr W330 (Or.inl (List.mem_of_getElem? (i := 0) rfl))
      have NB332 := nb_w1 D F173 W330 V330
      have k333 := f_alN X330 hx k330 (H d10_149) rfl
      obtain ⟨T334, X334, e334, k335⟩ := gFs X330 hx hZ hown (hww 14 _ rfl) e330 (nq3 NB332) k333 (H d10_150)
      have k336 := f_il X334 hx k335 (H d10_153) rfl
      have k337 := f_dl X334 hx k336 (H d10_155) rfl
      have k338 := f_dl X334 hx k337 (H d10_157) rfl
      have k339 := f_dsub X334 hx k338 (H d10_159) n2
      obtain ⟨T340, h340, L340, X340, e340, W340, V340, N340, Z340, k340⟩ := f_dst X334 hx hZ e334 (nq20 NB332) N330 (G 2 (by decide)) Z330 k339 (H d10_160) (by decide) 1 rfl (lt_b rfl)
      have K341 := K331.wr W340 (Or.inl (List.mem_of_getElem? (i := 1) rfl))
      have NB342 := nb_w2 D NB332 W340 V340
      have k343 := f_alN X340 hx k340 (H d10_161) rfl
      obtain ⟨T344, X344, e344, k345⟩ := gFs X340 hx hZ hown (hww 24 _ rfl) e340 (nq8 NB342) k343 (H d10_162)
      have k346 := f_ilN X344 hx k345 (H d10_165) rfl
      have k347 := f_dup2 X344 hx k346 (H d10_166) rfl rfl
      have k348 := f_dal X344 hx hZ e344 (nq25 NB342) k347 (H d10_167) (v := g1) (by decide) rfl
      have k349 := f_dl X344 hx k348 (H d10_168) rfl
      have k350 := f_dadd X344 hx k349 (H d10_170) n3
      obtain ⟨T351, h351, L351, X351, e351, W351, V351, N351, Z351, k351⟩ := f_dst X344 hx hZ e344 (nq25 NB342) N340 (G 7 (by decide)) Z340 k350 (H d10_171) (by decide) 1 rfl (lt_b rfl)
      have K352 := K341.wr W351 (Or.inl (List.mem_of_getElem? (i := 2) rfl))
      have NB353 := nb_w7 D NB342 W351 V351
      have k354 := f_alN X351 hx k351 (H d10_172) rfl
      obtain ⟨T355, X355, e355, k356⟩ := gFs X351 hx hZ hown (hww 27 _ rfl) e351 (nq9 NB353) k354 (H d10_173)
      have k357 := f_ilN X355 hx k356 (H d10_176) rfl
      have k358 := f_dup2 X355 hx k357 (H d10_177) rfl rfl
      have k359 := f_bal X355 hx hZ e355 (nq26 NB353) k358 (H d10_178) (v := z1) (by decide) rfl
      have k360 := f_ilN X355 hx k359 (H d10_179) rfl
      have k361 := f_ifY X355 hx k360 (H d10_180) (pc' := 199) ((if0 _ _).trans (tlt (by decide)).1) (by decide)
      have k362 := f_ic X355 hx k361 (H d10_199) (v := 1) rfl
      have k363 := f_go X355 hx k362 (H d10_200) (pc' := 204) (by decide)
      have k364 := f_ior X355 hx k363 (H d10_204) rfl
      obtain ⟨T365, h365, L365, X365, e365, W365, V365, N365, Z365, k365⟩ := f_bst X355 hx hZ e355 (nq26 NB353) N351 (G 8 (by decide)) Z351 k364 (H d10_205) (by decide) 1 rfl (lt_b rfl) (v' := (nar .boolean (z1 ||| (1 : Int32)))) rfl
      have K366 := K352.wr W365 (Or.inl (List.mem_of_getElem? (i := 3) rfl))
      have NB367 := nb_w8 D NB353 W365 V365
      exact ⟨T365, h365, _, (-1 : Int32), (nar .boolean (z1 ||| (1 : Int32))), X365, e365, N365, Z365, NB367, K366, (Or.inr ⟨ql, rfl⟩), k365⟩
  have k370 := f_inc X225 hx kq225 (H d10_206) rfl (l' := #[sr ob, si 0, si bz, si 2, si 1, sd y1, se, si 1, sd (own_cut y1 r1 w1), se]) rfl
  have k371 := f_go X225 hx k370 (H d10_209) (pc' := 71) (by decide)
  have k372 := f_ilN X225 hx k371 (H d10_71) rfl
  have k373 := f_alN X225 hx k372 (H d10_72) rfl
  obtain ⟨T374, X374, e374, k375⟩ := gFs X225 hx hZ hown (hww 47 _ rfl) e225 (nq16 F368) k373 (H d10_73)
  have k376 := f_icY X374 hx k375 (H d10_76) (pc' := 212) (flt (by decide)).2.1 (by decide)
  obtain ⟨fs, hr, hrun, hended, hW, hsame⟩ := X374.leave (v := none) (fun _ => rfl)
  refine ⟨_, _, k376 _ (X374.returnOut hx Bd.returns (H d10_212) hr), hrun, hended, _, _, rfl, ?_, ⟨_, rfl⟩, hW, hsame.mono (by decide) (by decide)⟩
  show Q_move01 Z ob B K l0 l3 l9 l10 l11 l12 wc mv0 mv1 mv2 mv3 y0 y1 y2 y3 r0 r1 w0 w1 fr0 fr1 g0 g1 z0 z1 h0 n0 _ T374.heap _
  rw [e374]
  exact ⟨zq, rfl, N225, F369, F368, hzq⟩
def Q_move10 (Z : State) (ob : Addr) (B : Nat → Addr) (K : Nat → ClassId) (l0 : List Value) (l3 : List Value) (l9 : List Value) (l10 : List Value) (l11 : List Value) (l12 : List Value) (wc : Int32) (mv0 : UInt64) (mv1 : UInt64) (mv2 : UInt64) (mv3 : UInt64) (y0 : UInt64) (y1 : UInt64) (y2 : UInt64) (y3 : UInt64) (r0 : UInt64) (r1 : UInt64) (w0 : UInt64) (w1 : UInt64) (fr0 : UInt64) (fr1 : UInt64) (g0 : UInt64) (g1 : UInt64) (z0 : Int32) (z1 : Int32) (h0 : Heap) (n0 : Nat) (v : Option Value) (h : Heap) (L : List Loc) : Prop := ∃ zq : Int32, v = none ∧ Fr n0 L ∧ Keep h0 h [B 1, B 2, B 7, B 8] ∧ NB Z h ob B K l0 [(.double mv0), (.double mv1), (.double (FP.dadd mv2 (own_cut y2 r0 w0))), (.double mv3)] [(.double y0), (.double y1), (.double (FP.dsub y2 (own_cut y2 r0 w0))), (.double y3)] l3 [(.double r0), (.double r1)] [(.double w0), (.double w1)] [(.double fr0), (.double fr1)] [(.double (FP.dadd g0 (own_cut y2 r0 w0))), (.double g1)] [(.int zq), (.int z1)] l9 l10 l11 l12 wc ∧ ((cmpValue (FP.dcmp fr0 (4607182418800017408 : UInt64)) .g < (0 : Int32)) ∧ zq = nar .boolean (z0 ||| (0 : Int32)) ∨ ¬ (cmpValue (FP.dcmp fr0 (4607182418800017408 : UInt64)) .g < (0 : Int32)) ∧ zq = nar .boolean (z0 ||| (1 : Int32)))
set_option maxRecDepth 65536 in
set_option maxHeartbeats 40000000 in
theorem move10 (l : Launch) (Z : State) (a0 : Array Value) (hw : ∀ d ∈ tables_1, d.before a0 Z = true) (ws : List Jvm.Cond) (ob : Addr) (B : Nat → Addr) (K : Nat → ClassId) (l0 : List Value) (l3 : List Value) (l9 : List Value) (l10 : List Value) (l11 : List Value) (l12 : List Value) (wc : Int32) (mv0 : UInt64) (mv1 : UInt64) (mv2 : UInt64) (mv3 : UInt64) (y0 : UInt64) (y1 : UInt64) (y2 : UInt64) (y3 : UInt64) (r0 : UInt64) (r1 : UInt64) (w0 : UInt64) (w1 : UInt64) (fr0 : UInt64) (fr1 : UInt64) (g0 : UInt64) (g1 : UInt64) (z0 : Int32) (z1 : Int32) (h0 : Heap) (n0 : Nat) (Z0 : n0 ≤ h0.size) (D : Dis ob B) (NB0 : NB Z h0 ob B K l0 [(.double mv0), (.double mv1), (.double mv2), (.double mv3)] [(.double y0), (.double y1), (.double y2), (.double y3)] l3 [(.double r0), (.double r1)] [(.double w0), (.double w1)] [(.double fr0), (.double fr1)] [(.double g0), (.double g1)] [(.int z0), (.int z1)] l9 l10 l11 l12 wc) (G : ∀ i, i < 13 → n0 ≤ B i) (hA : (0 : Int32) < cmpValue (FP.dcmp y2 (0 : UInt64)) .l) (hO : ¬ ((0 : Int32) < cmpValue (FP.dcmp y3 (0 : UInt64)) .l)) (hn : (0 : Int32) < cmpValue (FP.dcmp w0 r0) .l → Jvm.Free.Fl.NoNaN64 (FP.dmul y2 r0) ∧ Jvm.Free.Fl.NoNaN64 (FP.ddiv (FP.dmul y2 r0) w0)) (n1 : Jvm.Free.Fl.NoNaN64 (FP.dadd mv2 (own_cut y2 r0 w0))) (n2 : Jvm.Free.Fl.NoNaN64 (FP.dsub y2 (own_cut y2 r0 w0))) (n3 : Jvm.Free.Fl.NoNaN64 (FP.dadd g0 (own_cut y2 r0 w0))) (nf : Jvm.Free.Fl.NoNaN64 fr0) :
    Met l (⟨"com/example/istra/istra/engine/NodeModel", "move", "(I)V"⟩ : MethodName) prog_40_method_14_code 10 none ws (rm 1 0 0 17) #[(.ref ob), (.int (1 : Int32))] Z h0 (Q_move10 Z ob B K l0 l3 l9 l10 l11 l12 wc mv0 mv1 mv2 mv3 y0 y1 y2 y3 r0 r1 w0 w1 fr0 fr1 g0 g1 z0 z1 h0 n0) := by
  refine MetFree.of_bodySF (plainFor_of_name pn_com_2fexample_2fistra_2fistra_2fengine_2fNodeModel) hisR ?_
  intro p e s m args below meth c s₁ Bd hml0 hP hK
  obtain ⟨rfl, hZ, hh⟩ := hP
  have hx := Bd.exec
  have hby := Bd.bytes
  have hml : c.maxLocals = 10 := hml0
  have hown : s.vm.findClass "com/example/istra/istra/engine/NodeModel" = some m.cls := findClass_of_methodNamed Bd.named
  have hnm := (name_of_methodNamed Bd.named Bd.method).1
  have X0 : Stand p l e (rm 1 0 0 17) s m #[(.ref ob), (.int (1 : Int32))] below meth c s₁ [] 0 0 := Stand.of_body Bd
  have e0 : s₁.heap = h0 := by rw [← hh, Bd.state]; rfl
  have N0 := Fr.nil n0
  have hww := fun (i : Nat) (c : Jvm.Cond) (h : tables_1[i]? = some c) => hw c (List.mem_of_getElem? h)
  have k0 : Rt p e below s₁ (mkF m 0 #[sr ob, si 1, un, un, un, un, un, un, un, un] []) s₁ m #[(.ref ob), (.int (1 : Int32))] 10 := fun t k => castTop (ef_10_RI m ob (1 : Int32)) k
  have K0 := Keep.refl h0 [(B 1), (B 2), (B 7), (B 8)]
  have H : ∀ {pc r}, decode prog_40_method_14_code pc = r → decode c.code pc = r := fun d => hb hby d
  have k101 := f_ic X0 hx k0 (H d10_0) (v := (-1)) rfl
  have k102 := f_isN X0 hx k101 (H d10_1) (l' := #[sr ob, si 1, si (-1), un, un, un, un, un, un, un]) rfl
  have k103 := f_ic X0 hx k102 (H d10_2) (v := 0) rfl
  have k104 := f_isN X0 hx k103 (H d10_3) (l' := #[sr ob, si 1, si (-1), si 0, un, un, un, un, un, un]) rfl
  have k105 := f_ilN X0 hx k104 (H d10_4) rfl
  have k106 := f_alN X0 hx k105 (H d10_5) rfl
  obtain ⟨T107, X107, e107, k108⟩ := gFs X0 hx hZ hown (hww 47 _ rfl) e0 (nq16 NB0) k106 (H d10_6)
  have k109 := f_icN X107 hx k108 (H d10_9) (tlt (by decide)).2.1
  have k110 := f_alN X107 hx k109 (H d10_12) rfl
  obtain ⟨T111, X111, e111, k112⟩ := gFs X107 hx hZ hown (hww 14 _ rfl) e107 (nq3 NB0) k110 (H d10_13)
  have k113 := f_ilN X111 hx k112 (H d10_16) rfl
  have k114 := f_alN X111 hx k113 (H d10_17) rfl
  obtain ⟨T115, X115, e115, k116⟩ := gFs X111 hx hZ hown (hww 47 _ rfl) e111 (nq16 NB0) k114 (H d10_18)
  have k117 := f_imul X115 hx k116 (H d10_21) (r := 2) (by decide)
  have k118 := f_ilN X115 hx k117 (H d10_22) rfl
  have k119 := f_iadd X115 hx k118 (H d10_23) (r := 2) (by decide)
  have k120 := f_dal X115 hx hZ e115 (nq20 NB0) k119 (H d10_24) (v := y2) (by decide) rfl
  have k121 := f_d0 X115 hx k120 (H d10_25)
  have k122 := f_dc X115 hx k121 (H d10_26)
  have k123 := f_ifN X115 hx k122 (H d10_27) ((if0 _ _).trans (tlt hA).2.2.2)
  have k124 := f_alN X115 hx k123 (H d10_30) rfl
  obtain ⟨T125, X125, e125, k126⟩ := gFs X115 hx hZ hown (hww 22 _ rfl) e115 (nq7 NB0) k124 (H d10_31)
  have k127 := f_ilN X125 hx k126 (H d10_34) rfl
  have k128 := f_dal X125 hx hZ e125 (nq24 NB0) k127 (H d10_35) (v := fr0) (by decide) rfl
  have k129 := f_d1 X125 hx k128 (H d10_36)
  have k130 := f_dc X125 hx k129 (H d10_37)
  obtain ⟨T131, h131, Ls131, bq, X131, e131, N131, Zq131, F194, F195, hbq, kq131⟩ : ∃ (T131 : State) (h131 : Heap) (Ls131 : List Loc) (bq : Int32), Stand p l e (rm 1 0 0 17) s m #[(.ref ob), (.int (1 : Int32))] below meth c T131 Ls131 0 0 ∧ T131.heap = h131 ∧ Fr n0 Ls131 ∧ n0 ≤ h131.size ∧ NB Z h131 ob B K l0 [(.double mv0), (.double mv1), (.double mv2), (.double mv3)] [(.double y0), (.double y1), (.double y2), (.double y3)] l3 [(.double r0), (.double r1)] [(.double w0), (.double w1)] [(.double fr0), (.double fr1)] [(.double g0), (.double g1)] [(.int z0), (.int z1)] l9 l10 l11 l12 wc ∧ Keep h0 h131 [B 1, B 2, B 7, B 8] ∧ ((cmpValue (FP.dcmp fr0 (4607182418800017408 : UInt64)) .g < (0 : Int32)) ∧ bq = (0 : Int32) ∨ ¬ (cmpValue (FP.dcmp fr0 (4607182418800017408 : UInt64)) .g < (0 : Int32)) ∧ bq = (-1 : Int32)) ∧ (Rt p e below T131 (mkF m 69 #[sr ob, si 1, si bq, si 2, un, un, un, un, un, un] []) s₁ m #[(.ref ob), (.int (1 : Int32))] 10) := by
    by_cases ql : cmpValue (FP.dcmp fr0 (4607182418800017408 : UInt64)) .g < (0 : Int32)
    · have k132 := f_ifN X125 hx k130 (H d10_38) ((if0 _ _).trans (tlt ql).2.1)
      have k133 := f_ilN X125 hx k132 (H d10_41) rfl
      have k134 := f_ifY X125 hx k133 (H d10_42) (pc' := 61) ((if0 _ _).trans (tlt (by decide)).1) (by decide)
      have k135 := f_ilN X125 hx k134 (H d10_61) rfl
      have k136 := f_isN X125 hx k135 (H d10_62) (l' := #[sr ob, si 1, si 0, si 0, un, un, un, un, un, un]) rfl
      have k137 := f_inc X125 hx k136 (H d10_63) rfl (l' := #[sr ob, si 1, si 0, si 1, un, un, un, un, un, un]) rfl
      have k138 := f_go X125 hx k137 (H d10_66) (pc' := 4) (by decide)
      have k139 := f_ilN X125 hx k138 (H d10_4) rfl
      have k140 := f_alN X125 hx k139 (H d10_5) rfl
      obtain ⟨T141, X141, e141, k142⟩ := gFs X125 hx hZ hown (hww 47 _ rfl) e125 (nq16 NB0) k140 (H d10_6)
      have k143 := f_icN X141 hx k142 (H d10_9) (tlt (by decide)).2.1
      have k144 := f_alN X141 hx k143 (H d10_12) rfl
      obtain ⟨T145, X145, e145, k146⟩ := gFs X141 hx hZ hown (hww 14 _ rfl) e141 (nq3 NB0) k144 (H d10_13)
      have k147 := f_ilN X145 hx k146 (H d10_16) rfl
      have k148 := f_alN X145 hx k147 (H d10_17) rfl
      obtain ⟨T149, X149, e149, k150⟩ := gFs X145 hx hZ hown (hww 47 _ rfl) e145 (nq16 NB0) k148 (H d10_18)
      have k151 := f_imul X149 hx k150 (H d10_21) (r := 2) (by decide)
      have k152 := f_ilN X149 hx k151 (H d10_22) rfl
      have k153 := f_iadd X149 hx k152 (H d10_23) (r := 3) (by decide)
      have k154 := f_dal X149 hx hZ e149 (nq20 NB0) k153 (H d10_24) (v := y3) (by decide) rfl
      have k155 := f_d0 X149 hx k154 (H d10_25)
      have k156 := f_dc X149 hx k155 (H d10_26)
      have k157 := f_ifY X149 hx k156 (H d10_27) (pc' := 63) ((if0 _ _).trans (flt hO).2.2.2) (by decide)
      have k158 := f_inc X149 hx k157 (H d10_63) rfl (l' := #[sr ob, si 1, si 0, si 2, un, un, un, un, un, un]) rfl
      have k159 := f_go X149 hx k158 (H d10_66) (pc' := 4) (by decide)
      have k160 := f_ilN X149 hx k159 (H d10_4) rfl
      have k161 := f_alN X149 hx k160 (H d10_5) rfl
      obtain ⟨T162, X162, e162, k163⟩ := gFs X149 hx hZ hown (hww 47 _ rfl) e149 (nq16 NB0) k161 (H d10_6)
      have k164 := f_icY X162 hx k163 (H d10_9) (pc' := 69) (flt (by decide)).2.1 (by decide)
      exact ⟨T162, h0, _, (0 : Int32), X162, e162, N0, Z0, NB0, K0, (Or.inl ⟨ql, rfl⟩), k164⟩
    · have k165 := f_ifY X125 hx k130 (H d10_38) (pc' := 63) ((if0 _ _).trans (flt ql).2.1) (by decide)
      have k166 := f_inc X125 hx k165 (H d10_63) rfl (l' := #[sr ob, si 1, si (-1), si 1, un, un, un, un, un, un]) rfl
      have k167 := f_go X125 hx k166 (H d10_66) (pc' := 4) (by decide)
      have k168 := f_ilN X125 hx k167 (H d10_4) rfl
      have k169 := f_alN X125 hx k168 (H d10_5) rfl
      obtain ⟨T170, X170, e170, k171⟩ := gFs X125 hx hZ hown (hww 47 _ rfl) e125 (nq16 NB0) k169 (H d10_6)
      have k172 := f_icN X170 hx k171 (H d10_9) (tlt (by decide)).2.1
      have k173 := f_alN X170 hx k172 (H d10_12) rfl
      obtain ⟨T174, X174, e174, k175⟩ := gFs X170 hx hZ hown (hww 14 _ rfl) e170 (nq3 NB0) k173 (H d10_13)
      have k176 := f_ilN X174 hx k175 (H d10_16) rfl
      have k177 := f_alN X174 hx k176 (H d10_17) rfl
      obtain ⟨T178, X178, e178, k179⟩ := gFs X174 hx hZ hown (hww 47 _ rfl) e174 (nq16 NB0) k177 (H d10_18)
      have k180 := f_imul X178 hx k179 (H d10_21) (r := 2) (by decide)
      have k181 := f_ilN X178 hx k180 (H d10_22) rfl
      have k182 := f_iadd X178 hx k181 (H d10_23) (r := 3) (by decide)
      have k183 := f_dal X178 hx hZ e178 (nq20 NB0) k182 (H d10_24) (v := y3) (by decide) rfl
      have k184 := f_d0 X178 hx k183 (H d10_25)
      have k185 := f_dc X178 hx k184 (H d10_26)
      have k186 := f_ifY X178 hx k185 (H d10_27) (pc' := 63) ((if0 _ _).trans (flt hO).2.2.2) (by decide)
      have k187 := f_inc X178 hx k186 (H d10_63) rfl (l' := #[sr ob, si 1, si (-1), si 2, un, un, un, un, un, un]) rfl
      have k188 := f_go X178 hx k187 (H d10_66) (pc' := 4) (by decide)
      have k189 := f_ilN X178 hx k188 (H d10_4) rfl
      have k190 := f_alN X178 hx k189 (H d10_5) rfl
      obtain ⟨T191, X191, e191, k192⟩ := gFs X178 hx hZ hown (hww 47 _ rfl) e178 (nq16 NB0) k190 (H d10_6)
      have k193 := f_icY X191 hx k192 (H d10_9) (pc' := 69) (flt (by decide)).2.1 (by decide)
      exact ⟨T191, h0, _, (-1 : Int32), X191, e191, N0, Z0, NB0, K0, (Or.inr ⟨ql, rfl⟩), k193⟩
  have k196 := f_ic X131 hx kq131 (H d10_69) (v := 0) rfl
  have k197 := f_isN X131 hx k196 (H d10_70) (l' := #[sr ob, si 1, si bq, si 0, un, un, un, un, un, un]) rfl
  have k198 := f_ilN X131 hx k197 (H d10_71) rfl
  have k199 := f_alN X131 hx k198 (H d10_72) rfl
  obtain ⟨T200, X200, e200, k201⟩ := gFs X131 hx hZ hown (hww 47 _ rfl) e131 (nq16 F194) k199 (H d10_73)
  have k202 := f_icN X200 hx k201 (H d10_76) (tlt (by decide)).2.1
  have k203 := f_ilN X200 hx k202 (H d10_79) rfl
  have k204 := f_alN X200 hx k203 (H d10_80) rfl
  obtain ⟨T205, X205, e205, k206⟩ := gFs X200 hx hZ hown (hww 47 _ rfl) e200 (nq16 F194) k204 (H d10_81)
  have k207 := f_imul X205 hx k206 (H d10_84) (r := 2) (by decide)
  have k208 := f_ilN X205 hx k207 (H d10_85) rfl
  have k209 := f_iadd X205 hx k208 (H d10_86) (r := 2) (by decide)
  have k210 := f_is X205 hx k209 (H d10_87) (l' := #[sr ob, si 1, si bq, si 0, si 2, un, un, un, un, un]) rfl
  have k211 := f_alN X205 hx k210 (H d10_89) rfl
  obtain ⟨T212, X212, e212, k213⟩ := gFs X205 hx hZ hown (hww 14 _ rfl) e205 (nq3 F194) k211 (H d10_90)
  have k214 := f_il X212 hx k213 (H d10_93) rfl
  have k215 := f_dal X212 hx hZ e212 (nq20 F194) k214 (H d10_95) (v := y2) (by decide) rfl
  have k216 := f_ds X212 hx k215 (H d10_96) (l' := #[sr ob, si 1, si bq, si 0, si 2, sd y2, se, un, un, un]) rfl
  have k217 := f_dl X212 hx k216 (H d10_98) rfl
  have k218 := f_d0 X212 hx k217 (H d10_100)
  have k219 := f_dc X212 hx k218 (H d10_101)
  have k220 := f_ifN X212 hx k219 (H d10_102) ((if0 _ _).trans (tlt hA).2.2.2)
  obtain ⟨T221, h221, Ls221, bz, zq, X221, e221, N221, Zq221, F364, F365, hzq, kq221⟩ : ∃ (T221 : State) (h221 : Heap) (Ls221 : List Loc) (bz : Int32) (zq : Int32), Stand p l e (rm 1 0 0 17) s m #[(.ref ob), (.int (1 : Int32))] below meth c T221 Ls221 0 0 ∧ T221.heap = h221 ∧ Fr n0 Ls221 ∧ n0 ≤ h221.size ∧ NB Z h221 ob B K l0 [(.double mv0), (.double mv1), (.double (FP.dadd mv2 (own_cut y2 r0 w0))), (.double mv3)] [(.double y0), (.double y1), (.double (FP.dsub y2 (own_cut y2 r0 w0))), (.double y3)] l3 [(.double r0), (.double r1)] [(.double w0), (.double w1)] [(.double fr0), (.double fr1)] [(.double (FP.dadd g0 (own_cut y2 r0 w0))), (.double g1)] [(.int zq), (.int z1)] l9 l10 l11 l12 wc ∧ Keep h0 h221 [B 1, B 2, B 7, B 8] ∧ ((cmpValue (FP.dcmp fr0 (4607182418800017408 : UInt64)) .g < (0 : Int32)) ∧ zq = nar .boolean (z0 ||| (0 : Int32)) ∨ ¬ (cmpValue (FP.dcmp fr0 (4607182418800017408 : UInt64)) .g < (0 : Int32)) ∧ zq = nar .boolean (z0 ||| (1 : Int32))) ∧ (Rt p e below T221 (mkF m 206 #[sr ob, si 1, si bz, si 0, si 2, sd y2, se, si 0, sd (own_cut y2 r0 w0), se] []) s₁ m #[(.ref ob), (.int (1 : Int32))] 10) := by
    rcases hbq with ⟨ql, rfl⟩ | ⟨ql, rfl⟩
    · have k222 := f_ilN X212 hx k220 (H d10_105) rfl
      have k223 := f_ifY X212 hx k222 (H d10_106) (pc' := 113) ((if0 _ _).trans (flt (by decide)).2.1) (by decide)
      have k224 := f_ilN X212 hx k223 (H d10_113) rfl
      have k225 := f_is X212 hx k224 (H d10_114) (l' := #[sr ob, si 1, si 0, si 0, si 2, sd y2, se, si 0, un, un]) rfl
      have k226 := f_dl X212 hx k225 (H d10_116) rfl
      have k227 := f_alN X212 hx k226 (H d10_118) rfl
      obtain ⟨T228, X228, e228, k229⟩ := gFs X212 hx hZ hown (hww 18 _ rfl) e212 (nq5 F194) k227 (H d10_119)
      have k230 := f_il X228 hx k229 (H d10_122) rfl
      have k231 := f_dal X228 hx hZ e228 (nq22 F194) k230 (H d10_124) (v := r0) (by decide) rfl
      have k232 := f_alN X228 hx k231 (H d10_125) rfl
      obtain ⟨T233, X233, e233, k234⟩ := gFs X228 hx hZ hown (hww 20 _ rfl) e228 (nq6 F194) k232 (H d10_126)
      have k235 := f_il X233 hx k234 (H d10_129) rfl
      have k236 := f_dal X233 hx hZ e233 (nq23 F194) k235 (H d10_131) (v := w0) (by decide) rfl
      obtain ⟨_, _, ⟨T237, L237, k237, n237⟩, -, X237, ⟨Lc237, hQ237, l237, y237, z237⟩, st237⟩ := Jvm.LawKit.callS X233 hx (y := (⟨"com/example/istra/istra/engine/NodeModel", "cut", "(DDD)D"⟩ : MethodName)) hown (mvT hZ (hww 85 _ rfl)) (mvT hZ (hww 86 _ rfl)) (mvT hZ (hww 2 _ rfl)) (mvT hZ (hww 87 _ rfl)) (by decide) (backOf (W := 0) (rm11 l Z a0 hw [] y2 r0 w0 h131 n0 Zq131 hn) hZ (hww 87 _ rfl) (hww 2 _ rfl) (by decide) (by decide)) (g := (mkF m 132 #[sr ob, si 1, si 0, si 0, si 2, sd y2, se, si 0, un, un] [vD w0, vD r0, vD y2])) rfl (by rw [hml]; rfl) (argsL := [(.double y2), (.double r0), (.double w0)]) (rest := []) (lenOf pd__28DDD_29D rfl) rfl (by show 2 * 0 + _ ≤ _; exact Nat.le_of_eq rfl) (H d10_132) (fun _ _ => ⟨rfl, e233, (by decide : 0 + 0 ≤ _), (by decide : 0 + 0 ≤ _)⟩)
      dsimp only [Pt.U, Pt.locs, Pt.cells, Pt.slots] at X237 l237 y237 z237 st237 hQ237
      subst l237 y237 z237
      obtain ⟨rfl, N237q, e237⟩ := hQ237
      have N238 := Fr.app N131 N237q
      have k239 : Rt p e below T237 (mkF m 135 #[sr ob, si 1, si 0, si 0, si 2, sd y2, se, si 0, un, un] [vD (own_cut y2 r0 w0)]) s₁ m #[(.ref ob), (.int (1 : Int32))] 10 := fun t k => k236 t (st237 t k)
      have k240 := f_ds X237 hx k239 (H d10_135) (l' := #[sr ob, si 1, si 0, si 0, si 2, sd y2, se, si 0, sd (own_cut y2 r0 w0), se]) rfl
      have k241 := f_alN X237 hx k240 (H d10_137) rfl
      obtain ⟨T242, X242, e242, k243⟩ := gFs X237 hx hZ hown (hww 12 _ rfl) e237 (nq2 F194) k241 (H d10_138)
      have k244 := f_il X242 hx k243 (H d10_141) rfl
      have k245 := f_dup2 X242 hx k244 (H d10_143) rfl rfl
      have k246 := f_dal X242 hx hZ e242 (nq19 F194) k245 (H d10_144) (v := mv2) (by decide) rfl
      have k247 := f_dl X242 hx k246 (H d10_145) rfl
      have k248 := f_dadd X242 hx k247 (H d10_147) n1
      obtain ⟨T249, h249, L249, X249, e249, W249, V249, N249, Z249, k249⟩ := f_dst X242 hx hZ e242 (nq19 F194) N238 (G 1 (by decide)) Zq131 k248 (H d10_148) (by decide) 2 rfl (lt_b rfl)
      have K250 := F195.wr W249 (Or.inl (List.mem_of_getElem? (i := 0) rfl))
      have NB251 := nb_w1 D F194 W249 V249
      have k252 := f_alN X249 hx k249 (H d10_149) rfl
      obtain ⟨T253, X253, e253, k254⟩ := gFs X249 hx hZ hown (hww 14 _ rfl) e249 (nq3 NB251) k252 (H d10_150)
      have k255 := f_il X253 hx k254 (H d10_153) rfl
      have k256 := f_dl X253 hx k255 (H d10_155) rfl
      have k257 := f_dl X253 hx k256 (H d10_157) rfl
      have k258 := f_dsub X253 hx k257 (H d10_159) n2
      obtain ⟨T259, h259, L259, X259, e259, W259, V259, N259, Z259, k259⟩ := f_dst X253 hx hZ e253 (nq20 NB251) N249 (G 2 (by decide)) Z249 k258 (H d10_160) (by decide) 2 rfl (lt_b rfl)
      have K260 := K250.wr W259 (Or.inl (List.mem_of_getElem? (i := 1) rfl))
      have NB261 := nb_w2 D NB251 W259 V259
      have k262 := f_alN X259 hx k259 (H d10_161) rfl
      obtain ⟨T263, X263, e263, k264⟩ := gFs X259 hx hZ hown (hww 24 _ rfl) e259 (nq8 NB261) k262 (H d10_162)
      have k265 := f_ilN X263 hx k264 (H d10_165) rfl
      have k266 := f_dup2 X263 hx k265 (H d10_166) rfl rfl
      have k267 := f_dal X263 hx hZ e263 (nq25 NB261) k266 (H d10_167) (v := g0) (by decide) rfl
      have k268 := f_dl X263 hx k267 (H d10_168) rfl
      have k269 := f_dadd X263 hx k268 (H d10_170) n3
      obtain ⟨T270, h270, L270, X270, e270, W270, V270, N270, Z270, k270⟩ := f_dst X263 hx hZ e263 (nq25 NB261) N259 (G 7 (by decide)) Z259 k269 (H d10_171) (by decide) 0 rfl (lt_b rfl)
      have K271 := K260.wr W270 (Or.inl (List.mem_of_getElem? (i := 2) rfl))
      have NB272 := nb_w7 D NB261 W270 V270
      have k273 := f_alN X270 hx k270 (H d10_172) rfl
      obtain ⟨T274, X274, e274, k275⟩ := gFs X270 hx hZ hown (hww 27 _ rfl) e270 (nq9 NB272) k273 (H d10_173)
      have k276 := f_ilN X274 hx k275 (H d10_176) rfl
      have k277 := f_dup2 X274 hx k276 (H d10_177) rfl rfl
      have k278 := f_bal X274 hx hZ e274 (nq26 NB272) k277 (H d10_178) (v := z0) (by decide) rfl
      have k279 := f_ilN X274 hx k278 (H d10_179) rfl
      have k280 := f_ifN X274 hx k279 (H d10_180) ((if0 _ _).trans (flt (by decide)).1)
      have k281 := f_alN X274 hx k280 (H d10_183) rfl
      obtain ⟨T282, X282, e282, k283⟩ := gFs X274 hx hZ hown (hww 22 _ rfl) e274 (nq7 NB272) k281 (H d10_184)
      have k284 := f_ilN X282 hx k283 (H d10_187) rfl
      have k285 := f_dal X282 hx hZ e282 (nq24 NB272) k284 (H d10_188) (v := fr0) (by decide) rfl
      have k286 := f_alN X282 hx k285 (H d10_189) rfl
      obtain ⟨T287, X287, e287, k288⟩ := gFs X282 hx hZ hown (hww 22 _ rfl) e282 (nq7 NB272) k286 (H d10_190)
      have k289 := f_ilN X287 hx k288 (H d10_193) rfl
      have k290 := f_dal X287 hx hZ e287 (nq24 NB272) k289 (H d10_194) (v := fr0) (by decide) rfl
      have k291 := f_dc X287 hx k290 (H d10_195)
      have k292 := f_ifY X287 hx k291 (H d10_196) (pc' := 203) ((if0 _ _).trans (flt (own_nlt nf)).2.1) (by decide)
      have k293 := f_ic X287 hx k292 (H d10_203) (v := 0) rfl
      have k294 := f_ior X287 hx k293 (H d10_204) rfl
      obtain ⟨T295, h295, L295, X295, e295, W295, V295, N295, Z295, k295⟩ := f_bst X287 hx hZ e287 (nq26 NB272) N270 (G 8 (by decide)) Z270 k294 (H d10_205) (by decide) 0 rfl (lt_b rfl) (v' := (nar .boolean (z0 ||| (0 : Int32)))) rfl
      have K296 := K271.wr W295 (Or.inl (List.mem_of_getElem? (i := 3) rfl))
      have NB297 := nb_w8 D NB272 W295 V295
      exact ⟨T295, h295, _, (0 : Int32), (nar .boolean (z0 ||| (0 : Int32))), X295, e295, N295, Z295, NB297, K296, (Or.inl ⟨ql, rfl⟩), k295⟩
    · have k298 := f_ilN X212 hx k220 (H d10_105) rfl
      have k299 := f_ifN X212 hx k298 (H d10_106) ((if0 _ _).trans (tlt (by decide)).2.1)
      have k300 := f_ilN X212 hx k299 (H d10_109) rfl
      have k301 := f_go X212 hx k300 (H d10_110) (pc' := 114) (by decide)
      have k302 := f_is X212 hx k301 (H d10_114) (l' := #[sr ob, si 1, si (-1), si 0, si 2, sd y2, se, si 0, un, un]) rfl
      have k303 := f_dl X212 hx k302 (H d10_116) rfl
      have k304 := f_alN X212 hx k303 (H d10_118) rfl
      obtain ⟨T305, X305, e305, k306⟩ := gFs X212 hx hZ hown (hww 18 _ rfl) e212 (nq5 F194) k304 (H d10_119)
      have k307 := f_il X305 hx k306 (H d10_122) rfl
      have k308 := f_dal X305 hx hZ e305 (nq22 F194) k307 (H d10_124) (v := r0) (by decide) rfl
      have k309 := f_alN X305 hx k308 (H d10_125) rfl
      obtain ⟨T310, X310, e310, k311⟩ := gFs X305 hx hZ hown (hww 20 _ rfl) e305 (nq6 F194) k309 (H d10_126)
      have k312 := f_il X310 hx k311 (H d10_129) rfl
      have k313 := f_dal X310 hx hZ e310 (nq23 F194) k312 (H d10_131) (v := w0) (by decide) rfl
      obtain ⟨_, _, ⟨T314, L314, k314, n314⟩, -, X314, ⟨Lc314, hQ314, l314, y314, z314⟩, st314⟩ := Jvm.LawKit.callS X310 hx (y := (⟨"com/example/istra/istra/engine/NodeModel", "cut", "(DDD)D"⟩ : MethodName)) hown (mvT hZ (hww 85 _ rfl)) (mvT hZ (hww 86 _ rfl)) (mvT hZ (hww 2 _ rfl)) (mvT hZ (hww 87 _ rfl)) (by decide) (backOf (W := 0) (rm11 l Z a0 hw [] y2 r0 w0 h131 n0 Zq131 hn) hZ (hww 87 _ rfl) (hww 2 _ rfl) (by decide) (by decide)) (g := (mkF m 132 #[sr ob, si 1, si (-1), si 0, si 2, sd y2, se, si 0, un, un] [vD w0, vD r0, vD y2])) rfl (by rw [hml]; rfl) (argsL := [(.double y2), (.double r0), (.double w0)]) (rest := []) (lenOf pd__28DDD_29D rfl) rfl (by show 2 * 0 + _ ≤ _; exact Nat.le_of_eq rfl) (H d10_132) (fun _ _ => ⟨rfl, e310, (by decide : 0 + 0 ≤ _), (by decide : 0 + 0 ≤ _)⟩)
      dsimp only [Pt.U, Pt.locs, Pt.cells, Pt.slots] at X314 l314 y314 z314 st314 hQ314
      subst l314 y314 z314
      obtain ⟨rfl, N314q, e314⟩ := hQ314
      have N315 := Fr.app N131 N314q
      have k316 : Rt p e below T314 (mkF m 135 #[sr ob, si 1, si (-1), si 0, si 2, sd y2, se, si 0, un, un] [vD (own_cut y2 r0 w0)]) s₁ m #[(.ref ob), (.int (1 : Int32))] 10 := fun t k => k313 t (st314 t k)
      have k317 := f_ds X314 hx k316 (H d10_135) (l' := #[sr ob, si 1, si (-1), si 0, si 2, sd y2, se, si 0, sd (own_cut y2 r0 w0), se]) rfl
      have k318 := f_alN X314 hx k317 (H d10_137) rfl
      obtain ⟨T319, X319, e319, k320⟩ := gFs X314 hx hZ hown (hww 12 _ rfl) e314 (nq2 F194) k318 (H d10_138)
      have k321 := f_il X319 hx k320 (H d10_141) rfl
      have k322 := f_dup2 X319 hx k321 (H d10_143) rfl rfl
      have k323 := f_dal X319 hx hZ e319 (nq19 F194) k322 (H d10_144) (v := mv2) (by decide) rfl
      have k324 := f_dl X319 hx k323 (H d10_145) rfl
      have k325 := f_dadd X319 hx k324 (H d10_147) n1
      obtain ⟨T326, h326, L326, X326, e326, W326, V326, N326, Z326, k326⟩ := f_dst X319 hx hZ e319 (nq19 F194) N315 (G 1 (by decide)) Zq131 k325 (H d10_148) (by decide) 2 rfl (lt_b rfl)
      have K327 := F195.wr W326 (Or.inl (List.mem_of_getElem? (i := 0) rfl))
      have NB328 := nb_w1 D F194 W326 V326
      have k329 := f_alN X326 hx k326 (H d10_149) rfl
      obtain ⟨T330, X330, e330, k331⟩ := gFs X326 hx hZ hown (hww 14 _ rfl) e326 (nq3 NB328) k329 (H d10_150)
      have k332 := f_il X330 hx k331 (H d10_153) rfl
      have k333 := f_dl X330 hx k332 (H d10_155) rfl
      have k334 := f_dl X330 hx k333 (H d10_157) rfl
      have k335 := f_dsub X330 hx k334 (H d10_159) n2
      obtain ⟨T336, h336, L336, X336, e336, W336, V336, N336, Z336, k336⟩ := f_dst X330 hx hZ e330 (nq20 NB328) N326 (G 2 (by decide)) Z326 k335 (H d10_160) (by decide) 2 rfl (lt_b rfl)
      have K337 := K327.wr W336 (Or.inl (List.mem_of_getElem? (i := 1) rfl))
      have NB338 := nb_w2 D NB328 W336 V336
      have k339 := f_alN X336 hx k336 (H d10_161) rfl
      obtain ⟨T340, X340, e340, k341⟩ := gFs X336 hx hZ hown (hww 24 _ rfl) e336 (nq8 NB338) k339 (H d10_162)
      have k342 := f_ilN X340 hx k341 (H d10_165) rfl
      have k343 := f_dup2 X340 hx k342 (H d10_166) rfl rfl
      have k344 := f_dal X340 hx hZ e340 (nq25 NB338) k343 (H d10_167) (v := g0) (by decide) rfl
      have k345 := f_dl X340 hx k344 (H d10_168) rfl
      have k346 := f_dadd X340 hx k345 (H d10_170) n3
      obtain ⟨T347, h347, L347, X347, e347, W347, V347, N347, Z347, k347⟩ := f_dst X340 hx hZ e340 (nq25 NB338) N336 (G 7 (by decide)) Z336 k346 (H d10_171) (by decide) 0 rfl (lt_b rfl)
      have K348 := K337.wr W347 (Or.inl (List.mem_of_getElem? (i := 2) rfl))
      have NB349 := nb_w7 D NB338 W347 V347
      have k350 := f_alN X347 hx k347 (H d10_172) rfl
      obtain ⟨T351, X351, e351, k352⟩ := gFs X347 hx hZ hown (hww 27 _ rfl) e347 (nq9 NB349) k350 (H d10_173)
      have k353 := f_ilN X351 hx k352 (H d10_176) rfl
      have k354 := f_dup2 X351 hx k353 (H d10_177) rfl rfl
      have k355 := f_bal X351 hx hZ e351 (nq26 NB349) k354 (H d10_178) (v := z0) (by decide) rfl
      have k356 := f_ilN X351 hx k355 (H d10_179) rfl
      have k357 := f_ifY X351 hx k356 (H d10_180) (pc' := 199) ((if0 _ _).trans (tlt (by decide)).1) (by decide)
      have k358 := f_ic X351 hx k357 (H d10_199) (v := 1) rfl
      have k359 := f_go X351 hx k358 (H d10_200) (pc' := 204) (by decide)
      have k360 := f_ior X351 hx k359 (H d10_204) rfl
      obtain ⟨T361, h361, L361, X361, e361, W361, V361, N361, Z361, k361⟩ := f_bst X351 hx hZ e351 (nq26 NB349) N347 (G 8 (by decide)) Z347 k360 (H d10_205) (by decide) 0 rfl (lt_b rfl) (v' := (nar .boolean (z0 ||| (1 : Int32)))) rfl
      have K362 := K348.wr W361 (Or.inl (List.mem_of_getElem? (i := 3) rfl))
      have NB363 := nb_w8 D NB349 W361 V361
      exact ⟨T361, h361, _, (-1 : Int32), (nar .boolean (z0 ||| (1 : Int32))), X361, e361, N361, Z361, NB363, K362, (Or.inr ⟨ql, rfl⟩), k361⟩
  have k366 := f_inc X221 hx kq221 (H d10_206) rfl (l' := #[sr ob, si 1, si bz, si 1, si 2, sd y2, se, si 0, sd (own_cut y2 r0 w0), se]) rfl
  have k367 := f_go X221 hx k366 (H d10_209) (pc' := 71) (by decide)
  have k368 := f_ilN X221 hx k367 (H d10_71) rfl
  have k369 := f_alN X221 hx k368 (H d10_72) rfl
  obtain ⟨T370, X370, e370, k371⟩ := gFs X221 hx hZ hown (hww 47 _ rfl) e221 (nq16 F364) k369 (H d10_73)
  have k372 := f_icN X370 hx k371 (H d10_76) (tlt (by decide)).2.1
  have k373 := f_ilN X370 hx k372 (H d10_79) rfl
  have k374 := f_alN X370 hx k373 (H d10_80) rfl
  obtain ⟨T375, X375, e375, k376⟩ := gFs X370 hx hZ hown (hww 47 _ rfl) e370 (nq16 F364) k374 (H d10_81)
  have k377 := f_imul X375 hx k376 (H d10_84) (r := 2) (by decide)
  have k378 := f_ilN X375 hx k377 (H d10_85) rfl
  have k379 := f_iadd X375 hx k378 (H d10_86) (r := 3) (by decide)
  have k380 := f_is X375 hx k379 (H d10_87) (l' := #[sr ob, si 1, si bz, si 1, si 3, sd y2, se, si 0, sd (own_cut y2 r0 w0), se]) rfl
  have k381 := f_alN X375 hx k380 (H d10_89) rfl
  obtain ⟨T382, X382, e382, k383⟩ := gFs X375 hx hZ hown (hww 14 _ rfl) e375 (nq3 F364) k381 (H d10_90)
  have k384 := f_il X382 hx k383 (H d10_93) rfl
  have k385 := f_dal X382 hx hZ e382 (nq20 F364) k384 (H d10_95) (v := y3) (by decide) rfl
  have k386 := f_ds X382 hx k385 (H d10_96) (l' := #[sr ob, si 1, si bz, si 1, si 3, sd y3, se, si 0, sd (own_cut y2 r0 w0), se]) rfl
  have k387 := f_dl X382 hx k386 (H d10_98) rfl
  have k388 := f_d0 X382 hx k387 (H d10_100)
  have k389 := f_dc X382 hx k388 (H d10_101)
  have k390 := f_ifY X382 hx k389 (H d10_102) (pc' := 206) ((if0 _ _).trans (flt hO).2.2.2) (by decide)
  have k391 := f_inc X382 hx k390 (H d10_206) rfl (l' := #[sr ob, si 1, si bz, si 2, si 3, sd y3, se, si 0, sd (own_cut y2 r0 w0), se]) rfl
  have k392 := f_go X382 hx k391 (H d10_209) (pc' := 71) (by decide)
  have k393 := f_ilN X382 hx k392 (H d10_71) rfl
  have k394 := f_alN X382 hx k393 (H d10_72) rfl
  obtain ⟨T395, X395, e395, k396⟩ := gFs X382 hx hZ hown (hww 47 _ rfl) e382 (nq16 F364) k394 (H d10_73)
  have k397 := f_icY X395 hx k396 (H d10_76) (pc' := 212) (flt (by decide)).2.1 (by decide)
  obtain ⟨fs, hr, hrun, hended, hW, hsame⟩ := X395.leave (v := none) (fun _ => rfl)
  refine ⟨_, _, k397 _ (X395.returnOut hx Bd.returns (H d10_212) hr), hrun, hended, _, _, rfl, ?_, ⟨_, rfl⟩, hW, hsame.mono (by decide) (by decide)⟩
  show Q_move10 Z ob B K l0 l3 l9 l10 l11 l12 wc mv0 mv1 mv2 mv3 y0 y1 y2 y3 r0 r1 w0 w1 fr0 fr1 g0 g1 z0 z1 h0 n0 _ T395.heap _
  rw [e395]
  exact ⟨zq, rfl, N221, F365, F364, hzq⟩
def Q_move11 (Z : State) (ob : Addr) (B : Nat → Addr) (K : Nat → ClassId) (l0 : List Value) (l3 : List Value) (l9 : List Value) (l10 : List Value) (l11 : List Value) (l12 : List Value) (wc : Int32) (mv0 : UInt64) (mv1 : UInt64) (mv2 : UInt64) (mv3 : UInt64) (y0 : UInt64) (y1 : UInt64) (y2 : UInt64) (y3 : UInt64) (r0 : UInt64) (r1 : UInt64) (w0 : UInt64) (w1 : UInt64) (fr0 : UInt64) (fr1 : UInt64) (g0 : UInt64) (g1 : UInt64) (z0 : Int32) (z1 : Int32) (h0 : Heap) (n0 : Nat) (v : Option Value) (h : Heap) (L : List Loc) : Prop := ∃ zq : Int32, v = none ∧ Fr n0 L ∧ Keep h0 h [B 1, B 2, B 7, B 8] ∧ NB Z h ob B K l0 [(.double mv0), (.double mv1), (.double mv2), (.double (FP.dadd mv3 (own_cut y3 r1 w1)))] [(.double y0), (.double y1), (.double y2), (.double (FP.dsub y3 (own_cut y3 r1 w1)))] l3 [(.double r0), (.double r1)] [(.double w0), (.double w1)] [(.double fr0), (.double fr1)] [(.double g0), (.double (FP.dadd g1 (own_cut y3 r1 w1)))] [(.int z0), (.int zq)] l9 l10 l11 l12 wc ∧ ((cmpValue (FP.dcmp fr1 (4607182418800017408 : UInt64)) .g < (0 : Int32)) ∧ zq = nar .boolean (z1 ||| (0 : Int32)) ∨ ¬ (cmpValue (FP.dcmp fr1 (4607182418800017408 : UInt64)) .g < (0 : Int32)) ∧ zq = nar .boolean (z1 ||| (1 : Int32)))
set_option maxRecDepth 65536 in
set_option maxHeartbeats 40000000 in
theorem move11 (l : Launch) (Z : State) (a0 : Array Value) (hw : ∀ d ∈ tables_1, d.before a0 Z = true) (ws : List Jvm.Cond) (ob : Addr) (B : Nat → Addr) (K : Nat → ClassId) (l0 : List Value) (l3 : List Value) (l9 : List Value) (l10 : List Value) (l11 : List Value) (l12 : List Value) (wc : Int32) (mv0 : UInt64) (mv1 : UInt64) (mv2 : UInt64) (mv3 : UInt64) (y0 : UInt64) (y1 : UInt64) (y2 : UInt64) (y3 : UInt64) (r0 : UInt64) (r1 : UInt64) (w0 : UInt64) (w1 : UInt64) (fr0 : UInt64) (fr1 : UInt64) (g0 : UInt64) (g1 : UInt64) (z0 : Int32) (z1 : Int32) (h0 : Heap) (n0 : Nat) (Z0 : n0 ≤ h0.size) (D : Dis ob B) (NB0 : NB Z h0 ob B K l0 [(.double mv0), (.double mv1), (.double mv2), (.double mv3)] [(.double y0), (.double y1), (.double y2), (.double y3)] l3 [(.double r0), (.double r1)] [(.double w0), (.double w1)] [(.double fr0), (.double fr1)] [(.double g0), (.double g1)] [(.int z0), (.int z1)] l9 l10 l11 l12 wc) (G : ∀ i, i < 13 → n0 ≤ B i) (hA : (0 : Int32) < cmpValue (FP.dcmp y3 (0 : UInt64)) .l) (hO : ¬ ((0 : Int32) < cmpValue (FP.dcmp y2 (0 : UInt64)) .l)) (hn : (0 : Int32) < cmpValue (FP.dcmp w1 r1) .l → Jvm.Free.Fl.NoNaN64 (FP.dmul y3 r1) ∧ Jvm.Free.Fl.NoNaN64 (FP.ddiv (FP.dmul y3 r1) w1)) (n1 : Jvm.Free.Fl.NoNaN64 (FP.dadd mv3 (own_cut y3 r1 w1))) (n2 : Jvm.Free.Fl.NoNaN64 (FP.dsub y3 (own_cut y3 r1 w1))) (n3 : Jvm.Free.Fl.NoNaN64 (FP.dadd g1 (own_cut y3 r1 w1))) (nf : Jvm.Free.Fl.NoNaN64 fr1) :
    Met l (⟨"com/example/istra/istra/engine/NodeModel", "move", "(I)V"⟩ : MethodName) prog_40_method_14_code 10 none ws (rm 1 0 0 17) #[(.ref ob), (.int (1 : Int32))] Z h0 (Q_move11 Z ob B K l0 l3 l9 l10 l11 l12 wc mv0 mv1 mv2 mv3 y0 y1 y2 y3 r0 r1 w0 w1 fr0 fr1 g0 g1 z0 z1 h0 n0) := by
  refine MetFree.of_bodySF (plainFor_of_name pn_com_2fexample_2fistra_2fistra_2fengine_2fNodeModel) hisR ?_
  intro p e s m args below meth c s₁ Bd hml0 hP hK
  obtain ⟨rfl, hZ, hh⟩ := hP
  have hx := Bd.exec
  have hby := Bd.bytes
  have hml : c.maxLocals = 10 := hml0
  have hown : s.vm.findClass "com/example/istra/istra/engine/NodeModel" = some m.cls := findClass_of_methodNamed Bd.named
  have hnm := (name_of_methodNamed Bd.named Bd.method).1
  have X0 : Stand p l e (rm 1 0 0 17) s m #[(.ref ob), (.int (1 : Int32))] below meth c s₁ [] 0 0 := Stand.of_body Bd
  have e0 : s₁.heap = h0 := by rw [← hh, Bd.state]; rfl
  have N0 := Fr.nil n0
  have hww := fun (i : Nat) (c : Jvm.Cond) (h : tables_1[i]? = some c) => hw c (List.mem_of_getElem? h)
  have k0 : Rt p e below s₁ (mkF m 0 #[sr ob, si 1, un, un, un, un, un, un, un, un] []) s₁ m #[(.ref ob), (.int (1 : Int32))] 10 := fun t k => castTop (ef_10_RI m ob (1 : Int32)) k
  have K0 := Keep.refl h0 [(B 1), (B 2), (B 7), (B 8)]
  have H : ∀ {pc r}, decode prog_40_method_14_code pc = r → decode c.code pc = r := fun d => hb hby d
  have k101 := f_ic X0 hx k0 (H d10_0) (v := (-1)) rfl
  have k102 := f_isN X0 hx k101 (H d10_1) (l' := #[sr ob, si 1, si (-1), un, un, un, un, un, un, un]) rfl
  have k103 := f_ic X0 hx k102 (H d10_2) (v := 0) rfl
  have k104 := f_isN X0 hx k103 (H d10_3) (l' := #[sr ob, si 1, si (-1), si 0, un, un, un, un, un, un]) rfl
  have k105 := f_ilN X0 hx k104 (H d10_4) rfl
  have k106 := f_alN X0 hx k105 (H d10_5) rfl
  obtain ⟨T107, X107, e107, k108⟩ := gFs X0 hx hZ hown (hww 47 _ rfl) e0 (nq16 NB0) k106 (H d10_6)
  have k109 := f_icN X107 hx k108 (H d10_9) (tlt (by decide)).2.1
  have k110 := f_alN X107 hx k109 (H d10_12) rfl
  obtain ⟨T111, X111, e111, k112⟩ := gFs X107 hx hZ hown (hww 14 _ rfl) e107 (nq3 NB0) k110 (H d10_13)
  have k113 := f_ilN X111 hx k112 (H d10_16) rfl
  have k114 := f_alN X111 hx k113 (H d10_17) rfl
  obtain ⟨T115, X115, e115, k116⟩ := gFs X111 hx hZ hown (hww 47 _ rfl) e111 (nq16 NB0) k114 (H d10_18)
  have k117 := f_imul X115 hx k116 (H d10_21) (r := 2) (by decide)
  have k118 := f_ilN X115 hx k117 (H d10_22) rfl
  have k119 := f_iadd X115 hx k118 (H d10_23) (r := 2) (by decide)
  have k120 := f_dal X115 hx hZ e115 (nq20 NB0) k119 (H d10_24) (v := y2) (by decide) rfl
  have k121 := f_d0 X115 hx k120 (H d10_25)
  have k122 := f_dc X115 hx k121 (H d10_26)
  have k123 := f_ifY X115 hx k122 (H d10_27) (pc' := 63) ((if0 _ _).trans (flt hO).2.2.2) (by decide)
  have k124 := f_inc X115 hx k123 (H d10_63) rfl (l' := #[sr ob, si 1, si (-1), si 1, un, un, un, un, un, un]) rfl
  have k125 := f_go X115 hx k124 (H d10_66) (pc' := 4) (by decide)
  have k126 := f_ilN X115 hx k125 (H d10_4) rfl
  have k127 := f_alN X115 hx k126 (H d10_5) rfl
  obtain ⟨T128, X128, e128, k129⟩ := gFs X115 hx hZ hown (hww 47 _ rfl) e115 (nq16 NB0) k127 (H d10_6)
  have k130 := f_icN X128 hx k129 (H d10_9) (tlt (by decide)).2.1
  have k131 := f_alN X128 hx k130 (H d10_12) rfl
  obtain ⟨T132, X132, e132, k133⟩ := gFs X128 hx hZ hown (hww 14 _ rfl) e128 (nq3 NB0) k131 (H d10_13)
  have k134 := f_ilN X132 hx k133 (H d10_16) rfl
  have k135 := f_alN X132 hx k134 (H d10_17) rfl
  obtain ⟨T136, X136, e136, k137⟩ := gFs X132 hx hZ hown (hww 47 _ rfl) e132 (nq16 NB0) k135 (H d10_18)
  have k138 := f_imul X136 hx k137 (H d10_21) (r := 2) (by decide)
  have k139 := f_ilN X136 hx k138 (H d10_22) rfl
  have k140 := f_iadd X136 hx k139 (H d10_23) (r := 3) (by decide)
  have k141 := f_dal X136 hx hZ e136 (nq20 NB0) k140 (H d10_24) (v := y3) (by decide) rfl
  have k142 := f_d0 X136 hx k141 (H d10_25)
  have k143 := f_dc X136 hx k142 (H d10_26)
  have k144 := f_ifN X136 hx k143 (H d10_27) ((if0 _ _).trans (tlt hA).2.2.2)
  have k145 := f_alN X136 hx k144 (H d10_30) rfl
  obtain ⟨T146, X146, e146, k147⟩ := gFs X136 hx hZ hown (hww 22 _ rfl) e136 (nq7 NB0) k145 (H d10_31)
  have k148 := f_ilN X146 hx k147 (H d10_34) rfl
  have k149 := f_dal X146 hx hZ e146 (nq24 NB0) k148 (H d10_35) (v := fr1) (by decide) rfl
  have k150 := f_d1 X146 hx k149 (H d10_36)
  have k151 := f_dc X146 hx k150 (H d10_37)
  obtain ⟨T152, h152, Ls152, bq, X152, e152, N152, Zq152, F173, F174, hbq, kq152⟩ : ∃ (T152 : State) (h152 : Heap) (Ls152 : List Loc) (bq : Int32), Stand p l e (rm 1 0 0 17) s m #[(.ref ob), (.int (1 : Int32))] below meth c T152 Ls152 0 0 ∧ T152.heap = h152 ∧ Fr n0 Ls152 ∧ n0 ≤ h152.size ∧ NB Z h152 ob B K l0 [(.double mv0), (.double mv1), (.double mv2), (.double mv3)] [(.double y0), (.double y1), (.double y2), (.double y3)] l3 [(.double r0), (.double r1)] [(.double w0), (.double w1)] [(.double fr0), (.double fr1)] [(.double g0), (.double g1)] [(.int z0), (.int z1)] l9 l10 l11 l12 wc ∧ Keep h0 h152 [B 1, B 2, B 7, B 8] ∧ ((cmpValue (FP.dcmp fr1 (4607182418800017408 : UInt64)) .g < (0 : Int32)) ∧ bq = (1 : Int32) ∨ ¬ (cmpValue (FP.dcmp fr1 (4607182418800017408 : UInt64)) .g < (0 : Int32)) ∧ bq = (-1 : Int32)) ∧ (Rt p e below T152 (mkF m 69 #[sr ob, si 1, si bq, si 2, un, un, un, un, un, un] []) s₁ m #[(.ref ob), (.int (1 : Int32))] 10) := by
    by_cases ql : cmpValue (FP.dcmp fr1 (4607182418800017408 : UInt64)) .g < (0 : Int32)
    · have k153 := f_ifN X146 hx k151 (H d10_38) ((if0 _ _).trans (tlt ql).2.1)
      have k154 := f_ilN X146 hx k153 (H d10_41) rfl
      have k155 := f_ifY X146 hx k154 (H d10_42) (pc' := 61) ((if0 _ _).trans (tlt (by decide)).1) (by decide)
      have k156 := f_ilN X146 hx k155 (H d10_61) rfl
      have k157 := f_isN X146 hx k156 (H d10_62) (l' := #[sr ob, si 1, si 1, si 1, un, un, un, un, un, un]) rfl
      have k158 := f_inc X146 hx k157 (H d10_63) rfl (l' := #[sr ob, si 1, si 1, si 2, un, un, un, un, un, un]) rfl
      have k159 := f_go X146 hx k158 (H d10_66) (pc' := 4) (by decide)
      have k160 := f_ilN X146 hx k159 (H d10_4) rfl
      have k161 := f_alN X146 hx k160 (H d10_5) rfl
      obtain ⟨T162, X162, e162, k163⟩ := gFs X146 hx hZ hown (hww 47 _ rfl) e146 (nq16 NB0) k161 (H d10_6)
      have k164 := f_icY X162 hx k163 (H d10_9) (pc' := 69) (flt (by decide)).2.1 (by decide)
      exact ⟨T162, h0, _, (1 : Int32), X162, e162, N0, Z0, NB0, K0, (Or.inl ⟨ql, rfl⟩), k164⟩
    · have k165 := f_ifY X146 hx k151 (H d10_38) (pc' := 63) ((if0 _ _).trans (flt ql).2.1) (by decide)
      have k166 := f_inc X146 hx k165 (H d10_63) rfl (l' := #[sr ob, si 1, si (-1), si 2, un, un, un, un, un, un]) rfl
      have k167 := f_go X146 hx k166 (H d10_66) (pc' := 4) (by decide)
      have k168 := f_ilN X146 hx k167 (H d10_4) rfl
      have k169 := f_alN X146 hx k168 (H d10_5) rfl
      obtain ⟨T170, X170, e170, k171⟩ := gFs X146 hx hZ hown (hww 47 _ rfl) e146 (nq16 NB0) k169 (H d10_6)
      have k172 := f_icY X170 hx k171 (H d10_9) (pc' := 69) (flt (by decide)).2.1 (by decide)
      exact ⟨T170, h0, _, (-1 : Int32), X170, e170, N0, Z0, NB0, K0, (Or.inr ⟨ql, rfl⟩), k172⟩
  have k175 := f_ic X152 hx kq152 (H d10_69) (v := 0) rfl
  have k176 := f_isN X152 hx k175 (H d10_70) (l' := #[sr ob, si 1, si bq, si 0, un, un, un, un, un, un]) rfl
  have k177 := f_ilN X152 hx k176 (H d10_71) rfl
  have k178 := f_alN X152 hx k177 (H d10_72) rfl
  obtain ⟨T179, X179, e179, k180⟩ := gFs X152 hx hZ hown (hww 47 _ rfl) e152 (nq16 F173) k178 (H d10_73)
  have k181 := f_icN X179 hx k180 (H d10_76) (tlt (by decide)).2.1
  have k182 := f_ilN X179 hx k181 (H d10_79) rfl
  have k183 := f_alN X179 hx k182 (H d10_80) rfl
  obtain ⟨T184, X184, e184, k185⟩ := gFs X179 hx hZ hown (hww 47 _ rfl) e179 (nq16 F173) k183 (H d10_81)
  have k186 := f_imul X184 hx k185 (H d10_84) (r := 2) (by decide)
  have k187 := f_ilN X184 hx k186 (H d10_85) rfl
  have k188 := f_iadd X184 hx k187 (H d10_86) (r := 2) (by decide)
  have k189 := f_is X184 hx k188 (H d10_87) (l' := #[sr ob, si 1, si bq, si 0, si 2, un, un, un, un, un]) rfl
  have k190 := f_alN X184 hx k189 (H d10_89) rfl
  obtain ⟨T191, X191, e191, k192⟩ := gFs X184 hx hZ hown (hww 14 _ rfl) e184 (nq3 F173) k190 (H d10_90)
  have k193 := f_il X191 hx k192 (H d10_93) rfl
  have k194 := f_dal X191 hx hZ e191 (nq20 F173) k193 (H d10_95) (v := y2) (by decide) rfl
  have k195 := f_ds X191 hx k194 (H d10_96) (l' := #[sr ob, si 1, si bq, si 0, si 2, sd y2, se, un, un, un]) rfl
  have k196 := f_dl X191 hx k195 (H d10_98) rfl
  have k197 := f_d0 X191 hx k196 (H d10_100)
  have k198 := f_dc X191 hx k197 (H d10_101)
  have k199 := f_ifY X191 hx k198 (H d10_102) (pc' := 206) ((if0 _ _).trans (flt hO).2.2.2) (by decide)
  have k200 := f_inc X191 hx k199 (H d10_206) rfl (l' := #[sr ob, si 1, si bq, si 1, si 2, sd y2, se, un, un, un]) rfl
  have k201 := f_go X191 hx k200 (H d10_209) (pc' := 71) (by decide)
  have k202 := f_ilN X191 hx k201 (H d10_71) rfl
  have k203 := f_alN X191 hx k202 (H d10_72) rfl
  obtain ⟨T204, X204, e204, k205⟩ := gFs X191 hx hZ hown (hww 47 _ rfl) e191 (nq16 F173) k203 (H d10_73)
  have k206 := f_icN X204 hx k205 (H d10_76) (tlt (by decide)).2.1
  have k207 := f_ilN X204 hx k206 (H d10_79) rfl
  have k208 := f_alN X204 hx k207 (H d10_80) rfl
  obtain ⟨T209, X209, e209, k210⟩ := gFs X204 hx hZ hown (hww 47 _ rfl) e204 (nq16 F173) k208 (H d10_81)
  have k211 := f_imul X209 hx k210 (H d10_84) (r := 2) (by decide)
  have k212 := f_ilN X209 hx k211 (H d10_85) rfl
  have k213 := f_iadd X209 hx k212 (H d10_86) (r := 3) (by decide)
  have k214 := f_is X209 hx k213 (H d10_87) (l' := #[sr ob, si 1, si bq, si 1, si 3, sd y2, se, un, un, un]) rfl
  have k215 := f_alN X209 hx k214 (H d10_89) rfl
  obtain ⟨T216, X216, e216, k217⟩ := gFs X209 hx hZ hown (hww 14 _ rfl) e209 (nq3 F173) k215 (H d10_90)
  have k218 := f_il X216 hx k217 (H d10_93) rfl
  have k219 := f_dal X216 hx hZ e216 (nq20 F173) k218 (H d10_95) (v := y3) (by decide) rfl
  have k220 := f_ds X216 hx k219 (H d10_96) (l' := #[sr ob, si 1, si bq, si 1, si 3, sd y3, se, un, un, un]) rfl
  have k221 := f_dl X216 hx k220 (H d10_98) rfl
  have k222 := f_d0 X216 hx k221 (H d10_100)
  have k223 := f_dc X216 hx k222 (H d10_101)
  have k224 := f_ifN X216 hx k223 (H d10_102) ((if0 _ _).trans (tlt hA).2.2.2)
  obtain ⟨T225, h225, Ls225, bz, zq, X225, e225, N225, Zq225, F368, F369, hzq, kq225⟩ : ∃ (T225 : State) (h225 : Heap) (Ls225 : List Loc) (bz : Int32) (zq : Int32), Stand p l e (rm 1 0 0 17) s m #[(.ref ob), (.int (1 : Int32))] below meth c T225 Ls225 0 0 ∧ T225.heap = h225 ∧ Fr n0 Ls225 ∧ n0 ≤ h225.size ∧ NB Z h225 ob B K l0 [(.double mv0), (.double mv1), (.double mv2), (.double (FP.dadd mv3 (own_cut y3 r1 w1)))] [(.double y0), (.double y1), (.double y2), (.double (FP.dsub y3 (own_cut y3 r1 w1)))] l3 [(.double r0), (.double r1)] [(.double w0), (.double w1)] [(.double fr0), (.double fr1)] [(.double g0), (.double (FP.dadd g1 (own_cut y3 r1 w1)))] [(.int z0), (.int zq)] l9 l10 l11 l12 wc ∧ Keep h0 h225 [B 1, B 2, B 7, B 8] ∧ ((cmpValue (FP.dcmp fr1 (4607182418800017408 : UInt64)) .g < (0 : Int32)) ∧ zq = nar .boolean (z1 ||| (0 : Int32)) ∨ ¬ (cmpValue (FP.dcmp fr1 (4607182418800017408 : UInt64)) .g < (0 : Int32)) ∧ zq = nar .boolean (z1 ||| (1 : Int32))) ∧ (Rt p e below T225 (mkF m 206 #[sr ob, si 1, si bz, si 1, si 3, sd y3, se, si 1, sd (own_cut y3 r1 w1), se] []) s₁ m #[(.ref ob), (.int (1 : Int32))] 10) := by
    rcases hbq with ⟨ql, rfl⟩ | ⟨ql, rfl⟩
    · have k226 := f_ilN X216 hx k224 (H d10_105) rfl
      have k227 := f_ifY X216 hx k226 (H d10_106) (pc' := 113) ((if0 _ _).trans (flt (by decide)).2.1) (by decide)
      have k228 := f_ilN X216 hx k227 (H d10_113) rfl
      have k229 := f_is X216 hx k228 (H d10_114) (l' := #[sr ob, si 1, si 1, si 1, si 3, sd y3, se, si 1, un, un]) rfl
      have k230 := f_dl X216 hx k229 (H d10_116) rfl
      have k231 := f_alN X216 hx k230 (H d10_118) rfl
      obtain ⟨T232, X232, e232, k233⟩ := gFs X216 hx hZ hown (hww 18 _ rfl) e216 (nq5 F173) k231 (H d10_119)
      have k234 := f_il X232 hx k233 (H d10_122) rfl
      have k235 := f_dal X232 hx hZ e232 (nq22 F173) k234 (H d10_124) (v := r1) (by decide) rfl
      have k236 := f_alN X232 hx k235 (H d10_125) rfl
      obtain ⟨T237, X237, e237, k238⟩ := gFs X232 hx hZ hown (hww 20 _ rfl) e232 (nq6 F173) k236 (H d10_126)
      have k239 := f_il X237 hx k238 (H d10_129) rfl
      have k240 := f_dal X237 hx hZ e237 (nq23 F173) k239 (H d10_131) (v := w1) (by decide) rfl
      obtain ⟨_, _, ⟨T241, L241, k241, n241⟩, -, X241, ⟨Lc241, hQ241, l241, y241, z241⟩, st241⟩ := Jvm.LawKit.callS X237 hx (y := (⟨"com/example/istra/istra/engine/NodeModel", "cut", "(DDD)D"⟩ : MethodName)) hown (mvT hZ (hww 85 _ rfl)) (mvT hZ (hww 86 _ rfl)) (mvT hZ (hww 2 _ rfl)) (mvT hZ (hww 87 _ rfl)) (by decide) (backOf (W := 0) (rm11 l Z a0 hw [] y3 r1 w1 h152 n0 Zq152 hn) hZ (hww 87 _ rfl) (hww 2 _ rfl) (by decide) (by decide)) (g := (mkF m 132 #[sr ob, si 1, si 1, si 1, si 3, sd y3, se, si 1, un, un] [vD w1, vD r1, vD y3])) rfl (by rw [hml]; rfl) (argsL := [(.double y3), (.double r1), (.double w1)]) (rest := []) (lenOf pd__28DDD_29D rfl) rfl (by show 2 * 0 + _ ≤ _; exact Nat.le_of_eq rfl) (H d10_132) (fun _ _ => ⟨rfl, e237, (by decide : 0 + 0 ≤ _), (by decide : 0 + 0 ≤ _)⟩)
      dsimp only [Pt.U, Pt.locs, Pt.cells, Pt.slots] at X241 l241 y241 z241 st241 hQ241
      subst l241 y241 z241
      obtain ⟨rfl, N241q, e241⟩ := hQ241
      have N242 := Fr.app N152 N241q
      have k243 : Rt p e below T241 (mkF m 135 #[sr ob, si 1, si 1, si 1, si 3, sd y3, se, si 1, un, un] [vD (own_cut y3 r1 w1)]) s₁ m #[(.ref ob), (.int (1 : Int32))] 10 := fun t k => k240 t (st241 t k)
      have k244 := f_ds X241 hx k243 (H d10_135) (l' := #[sr ob, si 1, si 1, si 1, si 3, sd y3, se, si 1, sd (own_cut y3 r1 w1), se]) rfl
      have k245 := f_alN X241 hx k244 (H d10_137) rfl
      obtain ⟨T246, X246, e246, k247⟩ := gFs X241 hx hZ hown (hww 12 _ rfl) e241 (nq2 F173) k245 (H d10_138)
      have k248 := f_il X246 hx k247 (H d10_141) rfl
      have k249 := f_dup2 X246 hx k248 (H d10_143) rfl rfl
      have k250 := f_dal X246 hx hZ e246 (nq19 F173) k249 (H d10_144) (v := mv3) (by decide) rfl
      have k251 := f_dl X246 hx k250 (H d10_145) rfl
      have k252 := f_dadd X246 hx k251 (H d10_147) n1
      obtain ⟨T253, h253, L253, X253, e253, W253, V253, N253, Z253, k253⟩ := f_dst X246 hx hZ e246 (nq19 F173) N242 (G 1 (by decide)) Zq152 k252 (H d10_148) (by decide) 3 rfl (lt_b rfl)
      have K254 := F174.wr W253 (Or.inl (List.mem_of_getElem? (i := 0) rfl))
      have NB255 := nb_w1 D F173 W253 V253
      have k256 := f_alN X253 hx k253 (H d10_149) rfl
      obtain ⟨T257, X257, e257, k258⟩ := gFs X253 hx hZ hown (hww 14 _ rfl) e253 (nq3 NB255) k256 (H d10_150)
      have k259 := f_il X257 hx k258 (H d10_153) rfl
      have k260 := f_dl X257 hx k259 (H d10_155) rfl
      have k261 := f_dl X257 hx k260 (H d10_157) rfl
      have k262 := f_dsub X257 hx k261 (H d10_159) n2
      obtain ⟨T263, h263, L263, X263, e263, W263, V263, N263, Z263, k263⟩ := f_dst X257 hx hZ e257 (nq20 NB255) N253 (G 2 (by decide)) Z253 k262 (H d10_160) (by decide) 3 rfl (lt_b rfl)
      have K264 := K254.wr W263 (Or.inl (List.mem_of_getElem? (i := 1) rfl))
      have NB265 := nb_w2 D NB255 W263 V263
      have k266 := f_alN X263 hx k263 (H d10_161) rfl
      obtain ⟨T267, X267, e267, k268⟩ := gFs X263 hx hZ hown (hww 24 _ rfl) e263 (nq8 NB265) k266 (H d10_162)
      have k269 := f_ilN X267 hx k268 (H d10_165) rfl
      have k270 := f_dup2 X267 hx k269 (H d10_166) rfl rfl
      have k271 := f_dal X267 hx hZ e267 (nq25 NB265) k270 (H d10_167) (v := g1) (by decide) rfl
      have k272 := f_dl X267 hx k271 (H d10_168) rfl
      have k273 := f_dadd X267 hx k272 (H d10_170) n3
      obtain ⟨T274, h274, L274, X274, e274, W274, V274, N274, Z274, k274⟩ := f_dst X267 hx hZ e267 (nq25 NB265) N263 (G 7 (by decide)) Z263 k273 (H d10_171) (by decide) 1 rfl (lt_b rfl)
      have K275 := K264.wr W274 (Or.inl (List.mem_of_getElem? (i := 2) rfl))
      have NB276 := nb_w7 D NB265 W274 V274
      have k277 := f_alN X274 hx k274 (H d10_172) rfl
      obtain ⟨T278, X278, e278, k279⟩ := gFs X274 hx hZ hown (hww 27 _ rfl) e274 (nq9 NB276) k277 (H d10_173)
      have k280 := f_ilN X278 hx k279 (H d10_176) rfl
      have k281 := f_dup2 X278 hx k280 (H d10_177) rfl rfl
      have k282 := f_bal X278 hx hZ e278 (nq26 NB276) k281 (H d10_178) (v := z1) (by decide) rfl
      have k283 := f_ilN X278 hx k282 (H d10_179) rfl
      have k284 := f_ifN X278 hx k283 (H d10_180) ((if0 _ _).trans (flt (by decide)).1)
      have k285 := f_alN X278 hx k284 (H d10_183) rfl
      obtain ⟨T286, X286, e286, k287⟩ := gFs X278 hx hZ hown (hww 22 _ rfl) e278 (nq7 NB276) k285 (H d10_184)
      have k288 := f_ilN X286 hx k287 (H d10_187) rfl
      have k289 := f_dal X286 hx hZ e286 (nq24 NB276) k288 (H d10_188) (v := fr1) (by decide) rfl
      have k290 := f_alN X286 hx k289 (H d10_189) rfl
      obtain ⟨T291, X291, e291, k292⟩ := gFs X286 hx hZ hown (hww 22 _ rfl) e286 (nq7 NB276) k290 (H d10_190)
      have k293 := f_ilN X291 hx k292 (H d10_193) rfl
      have k294 := f_dal X291 hx hZ e291 (nq24 NB276) k293 (H d10_194) (v := fr1) (by decide) rfl
      have k295 := f_dc X291 hx k294 (H d10_195)
      have k296 := f_ifY X291 hx k295 (H d10_196) (pc' := 203) ((if0 _ _).trans (flt (own_nlt nf)).2.1) (by decide)
      have k297 := f_ic X291 hx k296 (H d10_203) (v := 0) rfl
      have k298 := f_ior X291 hx k297 (H d10_204) rfl
      obtain ⟨T299, h299, L299, X299, e299, W299, V299, N299, Z299, k299⟩ := f_bst X291 hx hZ e291 (nq26 NB276) N274 (G 8 (by decide)) Z274 k298 (H d10_205) (by decide) 1 rfl (lt_b rfl) (v' := (nar .boolean (z1 ||| (0 : Int32)))) rfl
      have K300 := K275.wr W299 (Or.inl (List.mem_of_getElem? (i := 3) rfl))
      have NB301 := nb_w8 D NB276 W299 V299
      exact ⟨T299, h299, _, (1 : Int32), (nar .boolean (z1 ||| (0 : Int32))), X299, e299, N299, Z299, NB301, K300, (Or.inl ⟨ql, rfl⟩), k299⟩
    · have k302 := f_ilN X216 hx k224 (H d10_105) rfl
      have k303 := f_ifN X216 hx k302 (H d10_106) ((if0 _ _).trans (tlt (by decide)).2.1)
      have k304 := f_ilN X216 hx k303 (H d10_109) rfl
      have k305 := f_go X216 hx k304 (H d10_110) (pc' := 114) (by decide)
      have k306 := f_is X216 hx k305 (H d10_114) (l' := #[sr ob, si 1, si (-1), si 1, si 3, sd y3, se, si 1, un, un]) rfl
      have k307 := f_dl X216 hx k306 (H d10_116) rfl
      have k308 := f_alN X216 hx k307 (H d10_118) rfl
      obtain ⟨T309, X309, e309, k310⟩ := gFs X216 hx hZ hown (hww 18 _ rfl) e216 (nq5 F173) k308 (H d10_119)
      have k311 := f_il X309 hx k310 (H d10_122) rfl
      have k312 := f_dal X309 hx hZ e309 (nq22 F173) k311 (H d10_124) (v := r1) (by decide) rfl
      have k313 := f_alN X309 hx k312 (H d10_125) rfl
      obtain ⟨T314, X314, e314, k315⟩ := gFs X309 hx hZ hown (hww 20 _ rfl) e309 (nq6 F173) k313 (H d10_126)
      have k316 := f_il X314 hx k315 (H d10_129) rfl
      have k317 := f_dal X314 hx hZ e314 (nq23 F173) k316 (H d10_131) (v := w1) (by decide) rfl
      obtain ⟨_, _, ⟨T318, L318, k318, n318⟩, -, X318, ⟨Lc318, hQ318, l318, y318, z318⟩, st318⟩ := Jvm.LawKit.callS X314 hx (y := (⟨"com/example/istra/istra/engine/NodeModel", "cut", "(DDD)D"⟩ : MethodName)) hown (mvT hZ (hww 85 _ rfl)) (mvT hZ (hww 86 _ rfl)) (mvT hZ (hww 2 _ rfl)) (mvT hZ (hww 87 _ rfl)) (by decide) (backOf (W := 0) (rm11 l Z a0 hw [] y3 r1 w1 h152 n0 Zq152 hn) hZ (hww 87 _ rfl) (hww 2 _ rfl) (by decide) (by decide)) (g := (mkF m 132 #[sr ob, si 1, si (-1), si 1, si 3, sd y3, se, si 1, un, un] [vD w1, vD r1, vD y3])) rfl (by rw [hml]; rfl) (argsL := [(.double y3), (.double r1), (.double w1)]) (rest := []) (lenOf pd__28DDD_29D rfl) rfl (by show 2 * 0 + _ ≤ _; exact Nat.le_of_eq rfl) (H d10_132) (fun _ _ => ⟨rfl, e314, (by decide : 0 + 0 ≤ _), (by decide : 0 + 0 ≤ _)⟩)
      dsimp only [Pt.U, Pt.locs, Pt.cells, Pt.slots] at X318 l318 y318 z318 st318 hQ318
      subst l318 y318 z318
      obtain ⟨rfl, N318q, e318⟩ := hQ318
      have N319 := Fr.app N152 N318q
      have k320 : Rt p e below T318 (mkF m 135 #[sr ob, si 1, si (-1), si 1, si 3, sd y3, se, si 1, un, un] [vD (own_cut y3 r1 w1)]) s₁ m #[(.ref ob), (.int (1 : Int32))] 10 := fun t k => k317 t (st318 t k)
      have k321 := f_ds X318 hx k320 (H d10_135) (l' := #[sr ob, si 1, si (-1), si 1, si 3, sd y3, se, si 1, sd (own_cut y3 r1 w1), se]) rfl
      have k322 := f_alN X318 hx k321 (H d10_137) rfl
      obtain ⟨T323, X323, e323, k324⟩ := gFs X318 hx hZ hown (hww 12 _ rfl) e318 (nq2 F173) k322 (H d10_138)
      have k325 := f_il X323 hx k324 (H d10_141) rfl
      have k326 := f_dup2 X323 hx k325 (H d10_143) rfl rfl
      have k327 := f_dal X323 hx hZ e323 (nq19 F173) k326 (H d10_144) (v := mv3) (by decide) rfl
      have k328 := f_dl X323 hx k327 (H d10_145) rfl
      have k329 := f_dadd X323 hx k328 (H d10_147) n1
      obtain ⟨T330, h330, L330, X330, e330, W330, V330, N330, Z330, k330⟩ := f_dst X323 hx hZ e323 (nq19 F173) N319 (G 1 (by decide)) Zq152 k329 (H d10_148) (by decide) 3 rfl (lt_b rfl)
      have K331 := F174.wr W330 (Or.inl (List.mem_of_getElem? (i := 0) rfl))
      have NB332 := nb_w1 D F173 W330 V330
      have k333 := f_alN X330 hx k330 (H d10_149) rfl
      obtain ⟨T334, X334, e334, k335⟩ := gFs X330 hx hZ hown (hww 14 _ rfl) e330 (nq3 NB332) k333 (H d10_150)
      have k336 := f_il X334 hx k335 (H d10_153) rfl
      have k337 := f_dl X334 hx k336 (H d10_155) rfl
      have k338 := f_dl X334 hx k337 (H d10_157) rfl
      have k339 := f_dsub X334 hx k338 (H d10_159) n2
      obtain ⟨T340, h340, L340, X340, e340, W340, V340, N340, Z340, k340⟩ := f_dst X334 hx hZ e334 (nq20 NB332) N330 (G 2 (by decide)) Z330 k339 (H d10_160) (by decide) 3 rfl (lt_b rfl)
      have K341 := K331.wr W340 (Or.inl (List.mem_of_getElem? (i := 1) rfl))
      have NB342 := nb_w2 D NB332 W340 V340
      have k343 := f_alN X340 hx k340 (H d10_161) rfl
      obtain ⟨T344, X344, e344, k345⟩ := gFs X340 hx hZ hown (hww 24 _ rfl) e340 (nq8 NB342) k343 (H d10_162)
      have k346 := f_ilN X344 hx k345 (H d10_165) rfl
      have k347 := f_dup2 X344 hx k346 (H d10_166) rfl rfl
      have k348 := f_dal X344 hx hZ e344 (nq25 NB342) k347 (H d10_167) (v := g1) (by decide) rfl
      have k349 := f_dl X344 hx k348 (H d10_168) rfl
      have k350 := f_dadd X344 hx k349 (H d10_170) n3
      obtain ⟨T351, h351, L351, X351, e351, W351, V351, N351, Z351, k351⟩ := f_dst X344 hx hZ e344 (nq25 NB342) N340 (G 7 (by decide)) Z340 k350 (H d10_171) (by decide) 1 rfl (lt_b rfl)
      have K352 := K341.wr W351 (Or.inl (List.mem_of_getElem? (i := 2) rfl))
      have NB353 := nb_w7 D NB342 W351 V351
      have k354 := f_alN X351 hx k351 (H d10_172) rfl
      obtain ⟨T355, X355, e355, k356⟩ := gFs X351 hx hZ hown (hww 27 _ rfl) e351 (nq9 NB353) k354 (H d10_173)
      have k357 := f_ilN X355 hx k356 (H d10_176) rfl
      have k358 := f_dup2 X355 hx k357 (H d10_177) rfl rfl
      have k359 := f_bal X355 hx hZ e355 (nq26 NB353) k358 (H d10_178) (v := z1) (by decide) rfl
      have k360 := f_ilN X355 hx k359 (H d10_179) rfl
      have k361 := f_ifY X355 hx k360 (H d10_180) (pc' := 199) ((if0 _ _).trans (tlt (by decide)).1) (by decide)
      have k362 := f_ic X355 hx k361 (H d10_199) (v := 1) rfl
      have k363 := f_go X355 hx k362 (H d10_200) (pc' := 204) (by decide)
      have k364 := f_ior X355 hx k363 (H d10_204) rfl
      obtain ⟨T365, h365, L365, X365, e365, W365, V365, N365, Z365, k365⟩ := f_bst X355 hx hZ e355 (nq26 NB353) N351 (G 8 (by decide)) Z351 k364 (H d10_205) (by decide) 1 rfl (lt_b rfl) (v' := (nar .boolean (z1 ||| (1 : Int32)))) rfl
      have K366 := K352.wr W365 (Or.inl (List.mem_of_getElem? (i := 3) rfl))
      have NB367 := nb_w8 D NB353 W365 V365
      exact ⟨T365, h365, _, (-1 : Int32), (nar .boolean (z1 ||| (1 : Int32))), X365, e365, N365, Z365, NB367, K366, (Or.inr ⟨ql, rfl⟩), k365⟩
  have k370 := f_inc X225 hx kq225 (H d10_206) rfl (l' := #[sr ob, si 1, si bz, si 2, si 3, sd y3, se, si 1, sd (own_cut y3 r1 w1), se]) rfl
  have k371 := f_go X225 hx k370 (H d10_209) (pc' := 71) (by decide)
  have k372 := f_ilN X225 hx k371 (H d10_71) rfl
  have k373 := f_alN X225 hx k372 (H d10_72) rfl
  obtain ⟨T374, X374, e374, k375⟩ := gFs X225 hx hZ hown (hww 47 _ rfl) e225 (nq16 F368) k373 (H d10_73)
  have k376 := f_icY X374 hx k375 (H d10_76) (pc' := 212) (flt (by decide)).2.1 (by decide)
  obtain ⟨fs, hr, hrun, hended, hW, hsame⟩ := X374.leave (v := none) (fun _ => rfl)
  refine ⟨_, _, k376 _ (X374.returnOut hx Bd.returns (H d10_212) hr), hrun, hended, _, _, rfl, ?_, ⟨_, rfl⟩, hW, hsame.mono (by decide) (by decide)⟩
  show Q_move11 Z ob B K l0 l3 l9 l10 l11 l12 wc mv0 mv1 mv2 mv3 y0 y1 y2 y3 r0 r1 w0 w1 fr0 fr1 g0 g1 z0 z1 h0 n0 _ T374.heap _
  rw [e374]
  exact ⟨zq, rfl, N225, F369, F368, hzq⟩
theorem ef_13_RI (m : MethodId) (x0 : Addr) (x1 : Int32) : entryFrame m #[(.ref x0), (.int x1)] 2 = mkF m 0 #[.val (.ref x0), .val (.int x1)] [] := by first | (simp [entryFrame, mkF, argsToLocals, Value.category]; done) | rfl
theorem d13_0 : decode prog_40_method_8_code 0 = .ok (.aload_n 0, 1) := by decide +kernel
theorem d13_1 : decode prog_40_method_8_code 1 = .ok (.getfield 19, 3) := by decide +kernel
theorem d13_4 : decode prog_40_method_8_code 4 = .ok (.iload_n 1, 1) := by decide +kernel
theorem d13_5 : decode prog_40_method_8_code 5 = .ok (.daload, 1) := by decide +kernel
theorem d13_6 : decode prog_40_method_8_code 6 = .ok (.dreturn, 1) := by decide +kernel
def Q_gsup0 (Z : State) (ob : Addr) (B : Nat → Addr) (K : Nat → ClassId) (l0 : List Value) (l1 : List Value) (l2 : List Value) (l4 : List Value) (l5 : List Value) (l6 : List Value) (l7 : List Value) (l8 : List Value) (l9 : List Value) (l10 : List Value) (l11 : List Value) (l12 : List Value) (wc : Int32) (s0 : UInt64) (s1 : UInt64) (h0 : Heap) (n0 : Nat) (v : Option Value) (h : Heap) (L : List Loc) : Prop := v = some (.double s0) ∧ Fr n0 L ∧ h = h0
set_option maxRecDepth 65536 in
set_option maxHeartbeats 40000000 in
theorem gsup0 (l : Launch) (Z : State) (a0 : Array Value) (hw : ∀ d ∈ tables_1, d.before a0 Z = true) (ws : List Jvm.Cond) (ob : Addr) (B : Nat → Addr) (K : Nat → ClassId) (l0 : List Value) (l1 : List Value) (l2 : List Value) (l4 : List Value) (l5 : List Value) (l6 : List Value) (l7 : List Value) (l8 : List Value) (l9 : List Value) (l10 : List Value) (l11 : List Value) (l12 : List Value) (wc : Int32) (s0 : UInt64) (s1 : UInt64) (h0 : Heap) (n0 : Nat) (Z0 : n0 ≤ h0.size) (D : Dis ob B) (NB0 : NB Z h0 ob B K l0 l1 l2 [(.double s0), (.double s1)] l4 l5 l6 l7 l8 l9 l10 l11 l12 wc) :
    Met l (⟨"com/example/istra/istra/engine/NodeModel", "supply", "(I)D"⟩ : MethodName) prog_40_method_8_code 2 (some .double) ws (rm 0 0 0 0) #[(.ref ob), (.int (0 : Int32))] Z h0 (Q_gsup0 Z ob B K l0 l1 l2 l4 l5 l6 l7 l8 l9 l10 l11 l12 wc s0 s1 h0 n0) := by
  refine MetFree.of_bodySF (plainFor_of_name pn_com_2fexample_2fistra_2fistra_2fengine_2fNodeModel) hisR ?_
  intro p e s m args below meth c s₁ Bd hml0 hP hK
  obtain ⟨rfl, hZ, hh⟩ := hP
  have hx := Bd.exec
  have hby := Bd.bytes
  have hml : c.maxLocals = 2 := hml0
  have hown : s.vm.findClass "com/example/istra/istra/engine/NodeModel" = some m.cls := findClass_of_methodNamed Bd.named
  have hnm := (name_of_methodNamed Bd.named Bd.method).1
  have X0 : Stand p l e (rm 0 0 0 0) s m #[(.ref ob), (.int (0 : Int32))] below meth c s₁ [] 0 0 := Stand.of_body Bd
  have e0 : s₁.heap = h0 := by rw [← hh, Bd.state]; rfl
  have N0 := Fr.nil n0
  have hww := fun (i : Nat) (c : Jvm.Cond) (h : tables_1[i]? = some c) => hw c (List.mem_of_getElem? h)
  have k0 : Rt p e below s₁ (mkF m 0 #[sr ob, si 0] []) s₁ m #[(.ref ob), (.int (0 : Int32))] 2 := fun t k => castTop (ef_13_RI m ob (0 : Int32)) k
  have H : ∀ {pc r}, decode prog_40_method_8_code pc = r → decode c.code pc = r := fun d => hb hby d
  have k101 := f_alN X0 hx k0 (H d13_0) rfl
  obtain ⟨T102, X102, e102, k103⟩ := gFs X0 hx hZ hown (hww 16 _ rfl) e0 (nq4 NB0) k101 (H d13_1)
  have k104 := f_ilN X102 hx k103 (H d13_4) rfl
  have k105 := f_dal X102 hx hZ e102 (nq21 NB0) k104 (H d13_5) (v := s0) (by decide) rfl
  obtain ⟨fs, hr, hrun, hended, hW, hsame⟩ := X102.leave (v := some (.double s0)) (fun h => by rw [Bd.returns] at h; cases h)
  refine ⟨_, _, k105 _ (retOut X102 hx (t := .double) Bd.returns rfl (Or.inr (Or.inr (Or.inl ⟨rfl, rfl, _, rfl⟩))) (H d13_6) hr), hrun, hended, _, _, rfl, ?_, ⟨_, rfl⟩, hW, hsame.mono (by decide) (by decide)⟩
  show Q_gsup0 Z ob B K l0 l1 l2 l4 l5 l6 l7 l8 l9 l10 l11 l12 wc s0 s1 h0 n0 _ T102.heap _
  rw [e102]
  exact ⟨rfl, N0, rfl⟩
theorem ef_15_RID (m : MethodId) (x0 : Addr) (x1 : Int32) (x2 : UInt64) : entryFrame m #[(.ref x0), (.int x1), (.double x2)] 4 = mkF m 0 #[.val (.ref x0), .val (.int x1), .val (.double x2), .second] [] := by first | (simp [entryFrame, mkF, argsToLocals, Value.category]; done) | rfl
theorem d15_0 : decode prog_40_method_7_code 0 = .ok (.aload_n 0, 1) := by decide +kernel
theorem d15_1 : decode prog_40_method_7_code 1 = .ok (.getfield 19, 3) := by decide +kernel
theorem d15_4 : decode prog_40_method_7_code 4 = .ok (.iload_n 1, 1) := by decide +kernel
theorem d15_5 : decode prog_40_method_7_code 5 = .ok (.dload_n 2, 1) := by decide +kernel
theorem d15_6 : decode prog_40_method_7_code 6 = .ok (.dastore, 1) := by decide +kernel
theorem d15_7 : decode prog_40_method_7_code 7 = .ok (.return_, 1) := by decide +kernel
def Q_psup0 (Z : State) (ob : Addr) (B : Nat → Addr) (K : Nat → ClassId) (l0 : List Value) (l1 : List Value) (l2 : List Value) (l4 : List Value) (l5 : List Value) (l6 : List Value) (l7 : List Value) (l8 : List Value) (l9 : List Value) (l10 : List Value) (l11 : List Value) (l12 : List Value) (wc : Int32) (s0 : UInt64) (s1 : UInt64) (v1 : UInt64) (h0 : Heap) (n0 : Nat) (v : Option Value) (h : Heap) (L : List Loc) : Prop := v = none ∧ Fr n0 L ∧ Keep h0 h [B 3] ∧ NB Z h ob B K l0 l1 l2 [(.double v1), (.double s1)] l4 l5 l6 l7 l8 l9 l10 l11 l12 wc
set_option maxRecDepth 65536 in
set_option maxHeartbeats 40000000 in
theorem psup0 (l : Launch) (Z : State) (a0 : Array Value) (hw : ∀ d ∈ tables_1, d.before a0 Z = true) (ws : List Jvm.Cond) (ob : Addr) (B : Nat → Addr) (K : Nat → ClassId) (l0 : List Value) (l1 : List Value) (l2 : List Value) (l4 : List Value) (l5 : List Value) (l6 : List Value) (l7 : List Value) (l8 : List Value) (l9 : List Value) (l10 : List Value) (l11 : List Value) (l12 : List Value) (wc : Int32) (s0 : UInt64) (s1 : UInt64) (v1 : UInt64) (h0 : Heap) (n0 : Nat) (Z0 : n0 ≤ h0.size) (D : Dis ob B) (NB0 : NB Z h0 ob B K l0 l1 l2 [(.double s0), (.double s1)] l4 l5 l6 l7 l8 l9 l10 l11 l12 wc) (G : ∀ i, i < 13 → n0 ≤ B i) :
    Met l (⟨"com/example/istra/istra/engine/NodeModel", "supply", "(ID)V"⟩ : MethodName) prog_40_method_7_code 4 none ws (rm 0 0 0 0) #[(.ref ob), (.int (0 : Int32)), (.double v1)] Z h0 (Q_psup0 Z ob B K l0 l1 l2 l4 l5 l6 l7 l8 l9 l10 l11 l12 wc s0 s1 v1 h0 n0) := by
  refine MetFree.of_bodySF (plainFor_of_name pn_com_2fexample_2fistra_2fistra_2fengine_2fNodeModel) hisR ?_
  intro p e s m args below meth c s₁ Bd hml0 hP hK
  obtain ⟨rfl, hZ, hh⟩ := hP
  have hx := Bd.exec
  have hby := Bd.bytes
  have hml : c.maxLocals = 4 := hml0
  have hown : s.vm.findClass "com/example/istra/istra/engine/NodeModel" = some m.cls := findClass_of_methodNamed Bd.named
  have hnm := (name_of_methodNamed Bd.named Bd.method).1
  have X0 : Stand p l e (rm 0 0 0 0) s m #[(.ref ob), (.int (0 : Int32)), (.double v1)] below meth c s₁ [] 0 0 := Stand.of_body Bd
  have e0 : s₁.heap = h0 := by rw [← hh, Bd.state]; rfl
  have N0 := Fr.nil n0
  have hww := fun (i : Nat) (c : Jvm.Cond) (h : tables_1[i]? = some c) => hw c (List.mem_of_getElem? h)
  have k0 : Rt p e below s₁ (mkF m 0 #[sr ob, si 0, sd v1, se] []) s₁ m #[(.ref ob), (.int (0 : Int32)), (.double v1)] 4 := fun t k => castTop (ef_15_RID m ob (0 : Int32) v1) k
  have K0 := Keep.refl h0 [(B 3)]
  have H : ∀ {pc r}, decode prog_40_method_7_code pc = r → decode c.code pc = r := fun d => hb hby d
  have k101 := f_alN X0 hx k0 (H d15_0) rfl
  obtain ⟨T102, X102, e102, k103⟩ := gFs X0 hx hZ hown (hww 16 _ rfl) e0 (nq4 NB0) k101 (H d15_1)
  have k104 := f_ilN X102 hx k103 (H d15_4) rfl
  have k105 := f_dlN X102 hx k104 (H d15_5) rfl
  obtain ⟨T106, h106, L106, X106, e106, W106, V106, N106, Z106, k106⟩ := f_dst X102 hx hZ e102 (nq21 NB0) N0 (G 3 (by decide)) Z0 k105 (H d15_6) (by decide) 0 rfl (lt_b rfl)
  have K107 := K0.wr W106 (Or.inl (List.mem_of_getElem? (i := 0) rfl))
  have NB108 := nb_w3 D NB0 W106 V106
  obtain ⟨fs, hr, hrun, hended, hW, hsame⟩ := X106.leave (v := none) (fun _ => rfl)
  refine ⟨_, _, k106 _ (X106.returnOut hx Bd.returns (H d15_7) hr), hrun, hended, _, _, rfl, ?_, ⟨_, rfl⟩, hW, hsame.mono (by decide) (by decide)⟩
  show Q_psup0 Z ob B K l0 l1 l2 l4 l5 l6 l7 l8 l9 l10 l11 l12 wc s0 s1 v1 h0 n0 _ T106.heap _
  rw [e106]
  exact ⟨rfl, N106, K107, NB108⟩
theorem ef_14_RII (m : MethodId) (x0 : Addr) (x1 : Int32) (x2 : Int32) : entryFrame m #[(.ref x0), (.int x1), (.int x2)] 3 = mkF m 0 #[.val (.ref x0), .val (.int x1), .val (.int x2)] [] := by first | (simp [entryFrame, mkF, argsToLocals, Value.category]; done) | rfl
theorem d14_0 : decode prog_40_method_9_code 0 = .ok (.aload_n 0, 1) := by decide +kernel
theorem d14_1 : decode prog_40_method_9_code 1 = .ok (.getfield 13, 3) := by decide +kernel
theorem d14_4 : decode prog_40_method_9_code 4 = .ok (.iload_n 1, 1) := by decide +kernel
theorem d14_5 : decode prog_40_method_9_code 5 = .ok (.aload_n 0, 1) := by decide +kernel
theorem d14_6 : decode prog_40_method_9_code 6 = .ok (.getfield 55, 3) := by decide +kernel
theorem d14_9 : decode prog_40_method_9_code 9 = .ok (.imul, 1) := by decide +kernel
theorem d14_10 : decode prog_40_method_9_code 10 = .ok (.iload_n 2, 1) := by decide +kernel
theorem d14_11 : decode prog_40_method_9_code 11 = .ok (.iadd, 1) := by decide +kernel
theorem d14_12 : decode prog_40_method_9_code 12 = .ok (.daload, 1) := by decide +kernel
theorem d14_13 : decode prog_40_method_9_code 13 = .ok (.dreturn, 1) := by decide +kernel
def Q_gmov00 (Z : State) (ob : Addr) (B : Nat → Addr) (K : Nat → ClassId) (l0 : List Value) (l2 : List Value) (l3 : List Value) (l4 : List Value) (l5 : List Value) (l6 : List Value) (l7 : List Value) (l8 : List Value) (l9 : List Value) (l10 : List Value) (l11 : List Value) (l12 : List Value) (wc : Int32) (mv0 : UInt64) (mv1 : UInt64) (mv2 : UInt64) (mv3 : UInt64) (h0 : Heap) (n0 : Nat) (v : Option Value) (h : Heap) (L : List Loc) : Prop := v = some (.double mv0) ∧ Fr n0 L ∧ h = h0
set_option maxRecDepth 65536 in
set_option maxHeartbeats 40000000 in
theorem gmov00 (l : Launch) (Z : State) (a0 : Array Value) (hw : ∀ d ∈ tables_1, d.before a0 Z = true) (ws : List Jvm.Cond) (ob : Addr) (B : Nat → Addr) (K : Nat → ClassId) (l0 : List Value) (l2 : List Value) (l3 : List Value) (l4 : List Value) (l5 : List Value) (l6 : List Value) (l7 : List Value) (l8 : List Value) (l9 : List Value) (l10 : List Value) (l11 : List Value) (l12 : List Value) (wc : Int32) (mv0 : UInt64) (mv1 : UInt64) (mv2 : UInt64) (mv3 : UInt64) (h0 : Heap) (n0 : Nat) (Z0 : n0 ≤ h0.size) (D : Dis ob B) (NB0 : NB Z h0 ob B K l0 [(.double mv0), (.double mv1), (.double mv2), (.double mv3)] l2 l3 l4 l5 l6 l7 l8 l9 l10 l11 l12 wc) :
    Met l (⟨"com/example/istra/istra/engine/NodeModel", "moved", "(II)D"⟩ : MethodName) prog_40_method_9_code 3 (some .double) ws (rm 0 0 0 0) #[(.ref ob), (.int (0 : Int32)), (.int (0 : Int32))] Z h0 (Q_gmov00 Z ob B K l0 l2 l3 l4 l5 l6 l7 l8 l9 l10 l11 l12 wc mv0 mv1 mv2 mv3 h0 n0) := by
  refine MetFree.of_bodySF (plainFor_of_name pn_com_2fexample_2fistra_2fistra_2fengine_2fNodeModel) hisR ?_
  intro p e s m args below meth c s₁ Bd hml0 hP hK
  obtain ⟨rfl, hZ, hh⟩ := hP
  have hx := Bd.exec
  have hby := Bd.bytes
  have hml : c.maxLocals = 3 := hml0
  have hown : s.vm.findClass "com/example/istra/istra/engine/NodeModel" = some m.cls := findClass_of_methodNamed Bd.named
  have hnm := (name_of_methodNamed Bd.named Bd.method).1
  have X0 : Stand p l e (rm 0 0 0 0) s m #[(.ref ob), (.int (0 : Int32)), (.int (0 : Int32))] below meth c s₁ [] 0 0 := Stand.of_body Bd
  have e0 : s₁.heap = h0 := by rw [← hh, Bd.state]; rfl
  have N0 := Fr.nil n0
  have hww := fun (i : Nat) (c : Jvm.Cond) (h : tables_1[i]? = some c) => hw c (List.mem_of_getElem? h)
  have k0 : Rt p e below s₁ (mkF m 0 #[sr ob, si 0, si 0] []) s₁ m #[(.ref ob), (.int (0 : Int32)), (.int (0 : Int32))] 3 := fun t k => castTop (ef_14_RII m ob (0 : Int32) (0 : Int32)) k
  have H : ∀ {pc r}, decode prog_40_method_9_code pc = r → decode c.code pc = r := fun d => hb hby d
  have k101 := f_alN X0 hx k0 (H d14_0) rfl
  obtain ⟨T102, X102, e102, k103⟩ := gFs X0 hx hZ hown (hww 12 _ rfl) e0 (nq2 NB0) k101 (H d14_1)
  have k104 := f_ilN X102 hx k103 (H d14_4) rfl
  have k105 := f_alN X102 hx k104 (H d14_5) rfl
  obtain ⟨T106, X106, e106, k107⟩ := gFs X102 hx hZ hown (hww 47 _ rfl) e102 (nq16 NB0) k105 (H d14_6)
  have k108 := f_imul X106 hx k107 (H d14_9) (r := 0) (by decide)
  have k109 := f_ilN X106 hx k108 (H d14_10) rfl
  have k110 := f_iadd X106 hx k109 (H d14_11) (r := 0) (by decide)
  have k111 := f_dal X106 hx hZ e106 (nq19 NB0) k110 (H d14_12) (v := mv0) (by decide) rfl
  obtain ⟨fs, hr, hrun, hended, hW, hsame⟩ := X106.leave (v := some (.double mv0)) (fun h => by rw [Bd.returns] at h; cases h)
  refine ⟨_, _, k111 _ (retOut X106 hx (t := .double) Bd.returns rfl (Or.inr (Or.inr (Or.inl ⟨rfl, rfl, _, rfl⟩))) (H d14_13) hr), hrun, hended, _, _, rfl, ?_, ⟨_, rfl⟩, hW, hsame.mono (by decide) (by decide)⟩
  show Q_gmov00 Z ob B K l0 l2 l3 l4 l5 l6 l7 l8 l9 l10 l11 l12 wc mv0 mv1 mv2 mv3 h0 n0 _ T106.heap _
  rw [e106]
  exact ⟨rfl, N0, rfl⟩
def Q_gmov10 (Z : State) (ob : Addr) (B : Nat → Addr) (K : Nat → ClassId) (l0 : List Value) (l2 : List Value) (l3 : List Value) (l4 : List Value) (l5 : List Value) (l6 : List Value) (l7 : List Value) (l8 : List Value) (l9 : List Value) (l10 : List Value) (l11 : List Value) (l12 : List Value) (wc : Int32) (mv0 : UInt64) (mv1 : UInt64) (mv2 : UInt64) (mv3 : UInt64) (h0 : Heap) (n0 : Nat) (v : Option Value) (h : Heap) (L : List Loc) : Prop := v = some (.double mv2) ∧ Fr n0 L ∧ h = h0
set_option maxRecDepth 65536 in
set_option maxHeartbeats 40000000 in
theorem gmov10 (l : Launch) (Z : State) (a0 : Array Value) (hw : ∀ d ∈ tables_1, d.before a0 Z = true) (ws : List Jvm.Cond) (ob : Addr) (B : Nat → Addr) (K : Nat → ClassId) (l0 : List Value) (l2 : List Value) (l3 : List Value) (l4 : List Value) (l5 : List Value) (l6 : List Value) (l7 : List Value) (l8 : List Value) (l9 : List Value) (l10 : List Value) (l11 : List Value) (l12 : List Value) (wc : Int32) (mv0 : UInt64) (mv1 : UInt64) (mv2 : UInt64) (mv3 : UInt64) (h0 : Heap) (n0 : Nat) (Z0 : n0 ≤ h0.size) (D : Dis ob B) (NB0 : NB Z h0 ob B K l0 [(.double mv0), (.double mv1), (.double mv2), (.double mv3)] l2 l3 l4 l5 l6 l7 l8 l9 l10 l11 l12 wc) :
    Met l (⟨"com/example/istra/istra/engine/NodeModel", "moved", "(II)D"⟩ : MethodName) prog_40_method_9_code 3 (some .double) ws (rm 0 0 0 0) #[(.ref ob), (.int (1 : Int32)), (.int (0 : Int32))] Z h0 (Q_gmov10 Z ob B K l0 l2 l3 l4 l5 l6 l7 l8 l9 l10 l11 l12 wc mv0 mv1 mv2 mv3 h0 n0) := by
  refine MetFree.of_bodySF (plainFor_of_name pn_com_2fexample_2fistra_2fistra_2fengine_2fNodeModel) hisR ?_
  intro p e s m args below meth c s₁ Bd hml0 hP hK
  obtain ⟨rfl, hZ, hh⟩ := hP
  have hx := Bd.exec
  have hby := Bd.bytes
  have hml : c.maxLocals = 3 := hml0
  have hown : s.vm.findClass "com/example/istra/istra/engine/NodeModel" = some m.cls := findClass_of_methodNamed Bd.named
  have hnm := (name_of_methodNamed Bd.named Bd.method).1
  have X0 : Stand p l e (rm 0 0 0 0) s m #[(.ref ob), (.int (1 : Int32)), (.int (0 : Int32))] below meth c s₁ [] 0 0 := Stand.of_body Bd
  have e0 : s₁.heap = h0 := by rw [← hh, Bd.state]; rfl
  have N0 := Fr.nil n0
  have hww := fun (i : Nat) (c : Jvm.Cond) (h : tables_1[i]? = some c) => hw c (List.mem_of_getElem? h)
  have k0 : Rt p e below s₁ (mkF m 0 #[sr ob, si 1, si 0] []) s₁ m #[(.ref ob), (.int (1 : Int32)), (.int (0 : Int32))] 3 := fun t k => castTop (ef_14_RII m ob (1 : Int32) (0 : Int32)) k
  have H : ∀ {pc r}, decode prog_40_method_9_code pc = r → decode c.code pc = r := fun d => hb hby d
  have k101 := f_alN X0 hx k0 (H d14_0) rfl
  obtain ⟨T102, X102, e102, k103⟩ := gFs X0 hx hZ hown (hww 12 _ rfl) e0 (nq2 NB0) k101 (H d14_1)
  have k104 := f_ilN X102 hx k103 (H d14_4) rfl
  have k105 := f_alN X102 hx k104 (H d14_5) rfl
  obtain ⟨T106, X106, e106, k107⟩ := gFs X102 hx hZ hown (hww 47 _ rfl) e102 (nq16 NB0) k105 (H d14_6)
  have k108 := f_imul X106 hx k107 (H d14_9) (r := 2) (by decide)
  have k109 := f_ilN X106 hx k108 (H d14_10) rfl
  have k110 := f_iadd X106 hx k109 (H d14_11) (r := 2) (by decide)
  have k111 := f_dal X106 hx hZ e106 (nq19 NB0) k110 (H d14_12) (v := mv2) (by decide) rfl
  obtain ⟨fs, hr, hrun, hended, hW, hsame⟩ := X106.leave (v := some (.double mv2)) (fun h => by rw [Bd.returns] at h; cases h)
  refine ⟨_, _, k111 _ (retOut X106 hx (t := .double) Bd.returns rfl (Or.inr (Or.inr (Or.inl ⟨rfl, rfl, _, rfl⟩))) (H d14_13) hr), hrun, hended, _, _, rfl, ?_, ⟨_, rfl⟩, hW, hsame.mono (by decide) (by decide)⟩
  show Q_gmov10 Z ob B K l0 l2 l3 l4 l5 l6 l7 l8 l9 l10 l11 l12 wc mv0 mv1 mv2 mv3 h0 n0 _ T106.heap _
  rw [e106]
  exact ⟨rfl, N0, rfl⟩
def Q_gsup1 (Z : State) (ob : Addr) (B : Nat → Addr) (K : Nat → ClassId) (l0 : List Value) (l1 : List Value) (l2 : List Value) (l4 : List Value) (l5 : List Value) (l6 : List Value) (l7 : List Value) (l8 : List Value) (l9 : List Value) (l10 : List Value) (l11 : List Value) (l12 : List Value) (wc : Int32) (s0 : UInt64) (s1 : UInt64) (h0 : Heap) (n0 : Nat) (v : Option Value) (h : Heap) (L : List Loc) : Prop := v = some (.double s1) ∧ Fr n0 L ∧ h = h0
set_option maxRecDepth 65536 in
set_option maxHeartbeats 40000000 in
theorem gsup1 (l : Launch) (Z : State) (a0 : Array Value) (hw : ∀ d ∈ tables_1, d.before a0 Z = true) (ws : List Jvm.Cond) (ob : Addr) (B : Nat → Addr) (K : Nat → ClassId) (l0 : List Value) (l1 : List Value) (l2 : List Value) (l4 : List Value) (l5 : List Value) (l6 : List Value) (l7 : List Value) (l8 : List Value) (l9 : List Value) (l10 : List Value) (l11 : List Value) (l12 : List Value) (wc : Int32) (s0 : UInt64) (s1 : UInt64) (h0 : Heap) (n0 : Nat) (Z0 : n0 ≤ h0.size) (D : Dis ob B) (NB0 : NB Z h0 ob B K l0 l1 l2 [(.double s0), (.double s1)] l4 l5 l6 l7 l8 l9 l10 l11 l12 wc) :
    Met l (⟨"com/example/istra/istra/engine/NodeModel", "supply", "(I)D"⟩ : MethodName) prog_40_method_8_code 2 (some .double) ws (rm 0 0 0 0) #[(.ref ob), (.int (1 : Int32))] Z h0 (Q_gsup1 Z ob B K l0 l1 l2 l4 l5 l6 l7 l8 l9 l10 l11 l12 wc s0 s1 h0 n0) := by
  refine MetFree.of_bodySF (plainFor_of_name pn_com_2fexample_2fistra_2fistra_2fengine_2fNodeModel) hisR ?_
  intro p e s m args below meth c s₁ Bd hml0 hP hK
  obtain ⟨rfl, hZ, hh⟩ := hP
  have hx := Bd.exec
  have hby := Bd.bytes
  have hml : c.maxLocals = 2 := hml0
  have hown : s.vm.findClass "com/example/istra/istra/engine/NodeModel" = some m.cls := findClass_of_methodNamed Bd.named
  have hnm := (name_of_methodNamed Bd.named Bd.method).1
  have X0 : Stand p l e (rm 0 0 0 0) s m #[(.ref ob), (.int (1 : Int32))] below meth c s₁ [] 0 0 := Stand.of_body Bd
  have e0 : s₁.heap = h0 := by rw [← hh, Bd.state]; rfl
  have N0 := Fr.nil n0
  have hww := fun (i : Nat) (c : Jvm.Cond) (h : tables_1[i]? = some c) => hw c (List.mem_of_getElem? h)
  have k0 : Rt p e below s₁ (mkF m 0 #[sr ob, si 1] []) s₁ m #[(.ref ob), (.int (1 : Int32))] 2 := fun t k => castTop (ef_13_RI m ob (1 : Int32)) k
  have H : ∀ {pc r}, decode prog_40_method_8_code pc = r → decode c.code pc = r := fun d => hb hby d
  have k101 := f_alN X0 hx k0 (H d13_0) rfl
  obtain ⟨T102, X102, e102, k103⟩ := gFs X0 hx hZ hown (hww 16 _ rfl) e0 (nq4 NB0) k101 (H d13_1)
  have k104 := f_ilN X102 hx k103 (H d13_4) rfl
  have k105 := f_dal X102 hx hZ e102 (nq21 NB0) k104 (H d13_5) (v := s1) (by decide) rfl
  obtain ⟨fs, hr, hrun, hended, hW, hsame⟩ := X102.leave (v := some (.double s1)) (fun h => by rw [Bd.returns] at h; cases h)
  refine ⟨_, _, k105 _ (retOut X102 hx (t := .double) Bd.returns rfl (Or.inr (Or.inr (Or.inl ⟨rfl, rfl, _, rfl⟩))) (H d13_6) hr), hrun, hended, _, _, rfl, ?_, ⟨_, rfl⟩, hW, hsame.mono (by decide) (by decide)⟩
  show Q_gsup1 Z ob B K l0 l1 l2 l4 l5 l6 l7 l8 l9 l10 l11 l12 wc s0 s1 h0 n0 _ T102.heap _
  rw [e102]
  exact ⟨rfl, N0, rfl⟩
def Q_psup1 (Z : State) (ob : Addr) (B : Nat → Addr) (K : Nat → ClassId) (l0 : List Value) (l1 : List Value) (l2 : List Value) (l4 : List Value) (l5 : List Value) (l6 : List Value) (l7 : List Value) (l8 : List Value) (l9 : List Value) (l10 : List Value) (l11 : List Value) (l12 : List Value) (wc : Int32) (s0 : UInt64) (s1 : UInt64) (v1 : UInt64) (h0 : Heap) (n0 : Nat) (v : Option Value) (h : Heap) (L : List Loc) : Prop := v = none ∧ Fr n0 L ∧ Keep h0 h [B 3] ∧ NB Z h ob B K l0 l1 l2 [(.double s0), (.double v1)] l4 l5 l6 l7 l8 l9 l10 l11 l12 wc
set_option maxRecDepth 65536 in
set_option maxHeartbeats 40000000 in
theorem psup1 (l : Launch) (Z : State) (a0 : Array Value) (hw : ∀ d ∈ tables_1, d.before a0 Z = true) (ws : List Jvm.Cond) (ob : Addr) (B : Nat → Addr) (K : Nat → ClassId) (l0 : List Value) (l1 : List Value) (l2 : List Value) (l4 : List Value) (l5 : List Value) (l6 : List Value) (l7 : List Value) (l8 : List Value) (l9 : List Value) (l10 : List Value) (l11 : List Value) (l12 : List Value) (wc : Int32) (s0 : UInt64) (s1 : UInt64) (v1 : UInt64) (h0 : Heap) (n0 : Nat) (Z0 : n0 ≤ h0.size) (D : Dis ob B) (NB0 : NB Z h0 ob B K l0 l1 l2 [(.double s0), (.double s1)] l4 l5 l6 l7 l8 l9 l10 l11 l12 wc) (G : ∀ i, i < 13 → n0 ≤ B i) :
    Met l (⟨"com/example/istra/istra/engine/NodeModel", "supply", "(ID)V"⟩ : MethodName) prog_40_method_7_code 4 none ws (rm 0 0 0 0) #[(.ref ob), (.int (1 : Int32)), (.double v1)] Z h0 (Q_psup1 Z ob B K l0 l1 l2 l4 l5 l6 l7 l8 l9 l10 l11 l12 wc s0 s1 v1 h0 n0) := by
  refine MetFree.of_bodySF (plainFor_of_name pn_com_2fexample_2fistra_2fistra_2fengine_2fNodeModel) hisR ?_
  intro p e s m args below meth c s₁ Bd hml0 hP hK
  obtain ⟨rfl, hZ, hh⟩ := hP
  have hx := Bd.exec
  have hby := Bd.bytes
  have hml : c.maxLocals = 4 := hml0
  have hown : s.vm.findClass "com/example/istra/istra/engine/NodeModel" = some m.cls := findClass_of_methodNamed Bd.named
  have hnm := (name_of_methodNamed Bd.named Bd.method).1
  have X0 : Stand p l e (rm 0 0 0 0) s m #[(.ref ob), (.int (1 : Int32)), (.double v1)] below meth c s₁ [] 0 0 := Stand.of_body Bd
  have e0 : s₁.heap = h0 := by rw [← hh, Bd.state]; rfl
  have N0 := Fr.nil n0
  have hww := fun (i : Nat) (c : Jvm.Cond) (h : tables_1[i]? = some c) => hw c (List.mem_of_getElem? h)
  have k0 : Rt p e below s₁ (mkF m 0 #[sr ob, si 1, sd v1, se] []) s₁ m #[(.ref ob), (.int (1 : Int32)), (.double v1)] 4 := fun t k => castTop (ef_15_RID m ob (1 : Int32) v1) k
  have K0 := Keep.refl h0 [(B 3)]
  have H : ∀ {pc r}, decode prog_40_method_7_code pc = r → decode c.code pc = r := fun d => hb hby d
  have k101 := f_alN X0 hx k0 (H d15_0) rfl
  obtain ⟨T102, X102, e102, k103⟩ := gFs X0 hx hZ hown (hww 16 _ rfl) e0 (nq4 NB0) k101 (H d15_1)
  have k104 := f_ilN X102 hx k103 (H d15_4) rfl
  have k105 := f_dlN X102 hx k104 (H d15_5) rfl
  obtain ⟨T106, h106, L106, X106, e106, W106, V106, N106, Z106, k106⟩ := f_dst X102 hx hZ e102 (nq21 NB0) N0 (G 3 (by decide)) Z0 k105 (H d15_6) (by decide) 1 rfl (lt_b rfl)
  have K107 := K0.wr W106 (Or.inl (List.mem_of_getElem? (i := 0) rfl))
  have NB108 := nb_w3 D NB0 W106 V106
  obtain ⟨fs, hr, hrun, hended, hW, hsame⟩ := X106.leave (v := none) (fun _ => rfl)
  refine ⟨_, _, k106 _ (X106.returnOut hx Bd.returns (H d15_7) hr), hrun, hended, _, _, rfl, ?_, ⟨_, rfl⟩, hW, hsame.mono (by decide) (by decide)⟩
  show Q_psup1 Z ob B K l0 l1 l2 l4 l5 l6 l7 l8 l9 l10 l11 l12 wc s0 s1 v1 h0 n0 _ T106.heap _
  rw [e106]
  exact ⟨rfl, N106, K107, NB108⟩
def Q_gmov01 (Z : State) (ob : Addr) (B : Nat → Addr) (K : Nat → ClassId) (l0 : List Value) (l2 : List Value) (l3 : List Value) (l4 : List Value) (l5 : List Value) (l6 : List Value) (l7 : List Value) (l8 : List Value) (l9 : List Value) (l10 : List Value) (l11 : List Value) (l12 : List Value) (wc : Int32) (mv0 : UInt64) (mv1 : UInt64) (mv2 : UInt64) (mv3 : UInt64) (h0 : Heap) (n0 : Nat) (v : Option Value) (h : Heap) (L : List Loc) : Prop := v = some (.double mv1) ∧ Fr n0 L ∧ h = h0
set_option maxRecDepth 65536 in
set_option maxHeartbeats 40000000 in
theorem gmov01 (l : Launch) (Z : State) (a0 : Array Value) (hw : ∀ d ∈ tables_1, d.before a0 Z = true) (ws : List Jvm.Cond) (ob : Addr) (B : Nat → Addr) (K : Nat → ClassId) (l0 : List Value) (l2 : List Value) (l3 : List Value) (l4 : List Value) (l5 : List Value) (l6 : List Value) (l7 : List Value) (l8 : List Value) (l9 : List Value) (l10 : List Value) (l11 : List Value) (l12 : List Value) (wc : Int32) (mv0 : UInt64) (mv1 : UInt64) (mv2 : UInt64) (mv3 : UInt64) (h0 : Heap) (n0 : Nat) (Z0 : n0 ≤ h0.size) (D : Dis ob B) (NB0 : NB Z h0 ob B K l0 [(.double mv0), (.double mv1), (.double mv2), (.double mv3)] l2 l3 l4 l5 l6 l7 l8 l9 l10 l11 l12 wc) :
    Met l (⟨"com/example/istra/istra/engine/NodeModel", "moved", "(II)D"⟩ : MethodName) prog_40_method_9_code 3 (some .double) ws (rm 0 0 0 0) #[(.ref ob), (.int (0 : Int32)), (.int (1 : Int32))] Z h0 (Q_gmov01 Z ob B K l0 l2 l3 l4 l5 l6 l7 l8 l9 l10 l11 l12 wc mv0 mv1 mv2 mv3 h0 n0) := by
  refine MetFree.of_bodySF (plainFor_of_name pn_com_2fexample_2fistra_2fistra_2fengine_2fNodeModel) hisR ?_
  intro p e s m args below meth c s₁ Bd hml0 hP hK
  obtain ⟨rfl, hZ, hh⟩ := hP
  have hx := Bd.exec
  have hby := Bd.bytes
  have hml : c.maxLocals = 3 := hml0
  have hown : s.vm.findClass "com/example/istra/istra/engine/NodeModel" = some m.cls := findClass_of_methodNamed Bd.named
  have hnm := (name_of_methodNamed Bd.named Bd.method).1
  have X0 : Stand p l e (rm 0 0 0 0) s m #[(.ref ob), (.int (0 : Int32)), (.int (1 : Int32))] below meth c s₁ [] 0 0 := Stand.of_body Bd
  have e0 : s₁.heap = h0 := by rw [← hh, Bd.state]; rfl
  have N0 := Fr.nil n0
  have hww := fun (i : Nat) (c : Jvm.Cond) (h : tables_1[i]? = some c) => hw c (List.mem_of_getElem? h)
  have k0 : Rt p e below s₁ (mkF m 0 #[sr ob, si 0, si 1] []) s₁ m #[(.ref ob), (.int (0 : Int32)), (.int (1 : Int32))] 3 := fun t k => castTop (ef_14_RII m ob (0 : Int32) (1 : Int32)) k
  have H : ∀ {pc r}, decode prog_40_method_9_code pc = r → decode c.code pc = r := fun d => hb hby d
  have k101 := f_alN X0 hx k0 (H d14_0) rfl
  obtain ⟨T102, X102, e102, k103⟩ := gFs X0 hx hZ hown (hww 12 _ rfl) e0 (nq2 NB0) k101 (H d14_1)
  have k104 := f_ilN X102 hx k103 (H d14_4) rfl
  have k105 := f_alN X102 hx k104 (H d14_5) rfl
  obtain ⟨T106, X106, e106, k107⟩ := gFs X102 hx hZ hown (hww 47 _ rfl) e102 (nq16 NB0) k105 (H d14_6)
  have k108 := f_imul X106 hx k107 (H d14_9) (r := 0) (by decide)
  have k109 := f_ilN X106 hx k108 (H d14_10) rfl
  have k110 := f_iadd X106 hx k109 (H d14_11) (r := 1) (by decide)
  have k111 := f_dal X106 hx hZ e106 (nq19 NB0) k110 (H d14_12) (v := mv1) (by decide) rfl
  obtain ⟨fs, hr, hrun, hended, hW, hsame⟩ := X106.leave (v := some (.double mv1)) (fun h => by rw [Bd.returns] at h; cases h)
  refine ⟨_, _, k111 _ (retOut X106 hx (t := .double) Bd.returns rfl (Or.inr (Or.inr (Or.inl ⟨rfl, rfl, _, rfl⟩))) (H d14_13) hr), hrun, hended, _, _, rfl, ?_, ⟨_, rfl⟩, hW, hsame.mono (by decide) (by decide)⟩
  show Q_gmov01 Z ob B K l0 l2 l3 l4 l5 l6 l7 l8 l9 l10 l11 l12 wc mv0 mv1 mv2 mv3 h0 n0 _ T106.heap _
  rw [e106]
  exact ⟨rfl, N0, rfl⟩
def Q_gmov11 (Z : State) (ob : Addr) (B : Nat → Addr) (K : Nat → ClassId) (l0 : List Value) (l2 : List Value) (l3 : List Value) (l4 : List Value) (l5 : List Value) (l6 : List Value) (l7 : List Value) (l8 : List Value) (l9 : List Value) (l10 : List Value) (l11 : List Value) (l12 : List Value) (wc : Int32) (mv0 : UInt64) (mv1 : UInt64) (mv2 : UInt64) (mv3 : UInt64) (h0 : Heap) (n0 : Nat) (v : Option Value) (h : Heap) (L : List Loc) : Prop := v = some (.double mv3) ∧ Fr n0 L ∧ h = h0
set_option maxRecDepth 65536 in
set_option maxHeartbeats 40000000 in
theorem gmov11 (l : Launch) (Z : State) (a0 : Array Value) (hw : ∀ d ∈ tables_1, d.before a0 Z = true) (ws : List Jvm.Cond) (ob : Addr) (B : Nat → Addr) (K : Nat → ClassId) (l0 : List Value) (l2 : List Value) (l3 : List Value) (l4 : List Value) (l5 : List Value) (l6 : List Value) (l7 : List Value) (l8 : List Value) (l9 : List Value) (l10 : List Value) (l11 : List Value) (l12 : List Value) (wc : Int32) (mv0 : UInt64) (mv1 : UInt64) (mv2 : UInt64) (mv3 : UInt64) (h0 : Heap) (n0 : Nat) (Z0 : n0 ≤ h0.size) (D : Dis ob B) (NB0 : NB Z h0 ob B K l0 [(.double mv0), (.double mv1), (.double mv2), (.double mv3)] l2 l3 l4 l5 l6 l7 l8 l9 l10 l11 l12 wc) :
    Met l (⟨"com/example/istra/istra/engine/NodeModel", "moved", "(II)D"⟩ : MethodName) prog_40_method_9_code 3 (some .double) ws (rm 0 0 0 0) #[(.ref ob), (.int (1 : Int32)), (.int (1 : Int32))] Z h0 (Q_gmov11 Z ob B K l0 l2 l3 l4 l5 l6 l7 l8 l9 l10 l11 l12 wc mv0 mv1 mv2 mv3 h0 n0) := by
  refine MetFree.of_bodySF (plainFor_of_name pn_com_2fexample_2fistra_2fistra_2fengine_2fNodeModel) hisR ?_
  intro p e s m args below meth c s₁ Bd hml0 hP hK
  obtain ⟨rfl, hZ, hh⟩ := hP
  have hx := Bd.exec
  have hby := Bd.bytes
  have hml : c.maxLocals = 3 := hml0
  have hown : s.vm.findClass "com/example/istra/istra/engine/NodeModel" = some m.cls := findClass_of_methodNamed Bd.named
  have hnm := (name_of_methodNamed Bd.named Bd.method).1
  have X0 : Stand p l e (rm 0 0 0 0) s m #[(.ref ob), (.int (1 : Int32)), (.int (1 : Int32))] below meth c s₁ [] 0 0 := Stand.of_body Bd
  have e0 : s₁.heap = h0 := by rw [← hh, Bd.state]; rfl
  have N0 := Fr.nil n0
  have hww := fun (i : Nat) (c : Jvm.Cond) (h : tables_1[i]? = some c) => hw c (List.mem_of_getElem? h)
  have k0 : Rt p e below s₁ (mkF m 0 #[sr ob, si 1, si 1] []) s₁ m #[(.ref ob), (.int (1 : Int32)), (.int (1 : Int32))] 3 := fun t k => castTop (ef_14_RII m ob (1 : Int32) (1 : Int32)) k
  have H : ∀ {pc r}, decode prog_40_method_9_code pc = r → decode c.code pc = r := fun d => hb hby d
  have k101 := f_alN X0 hx k0 (H d14_0) rfl
  obtain ⟨T102, X102, e102, k103⟩ := gFs X0 hx hZ hown (hww 12 _ rfl) e0 (nq2 NB0) k101 (H d14_1)
  have k104 := f_ilN X102 hx k103 (H d14_4) rfl
  have k105 := f_alN X102 hx k104 (H d14_5) rfl
  obtain ⟨T106, X106, e106, k107⟩ := gFs X102 hx hZ hown (hww 47 _ rfl) e102 (nq16 NB0) k105 (H d14_6)
  have k108 := f_imul X106 hx k107 (H d14_9) (r := 2) (by decide)
  have k109 := f_ilN X106 hx k108 (H d14_10) rfl
  have k110 := f_iadd X106 hx k109 (H d14_11) (r := 3) (by decide)
  have k111 := f_dal X106 hx hZ e106 (nq19 NB0) k110 (H d14_12) (v := mv3) (by decide) rfl
  obtain ⟨fs, hr, hrun, hended, hW, hsame⟩ := X106.leave (v := some (.double mv3)) (fun h => by rw [Bd.returns] at h; cases h)
  refine ⟨_, _, k111 _ (retOut X106 hx (t := .double) Bd.returns rfl (Or.inr (Or.inr (Or.inl ⟨rfl, rfl, _, rfl⟩))) (H d14_13) hr), hrun, hended, _, _, rfl, ?_, ⟨_, rfl⟩, hW, hsame.mono (by decide) (by decide)⟩
  show Q_gmov11 Z ob B K l0 l2 l3 l4 l5 l6 l7 l8 l9 l10 l11 l12 wc mv0 mv1 mv2 mv3 h0 n0 _ T106.heap _
  rw [e106]
  exact ⟨rfl, N0, rfl⟩
theorem ef_12_RI (m : MethodId) (x0 : Addr) (x1 : Int32) : entryFrame m #[(.ref x0), (.int x1)] 5 = mkF m 0 #[.val (.ref x0), .val (.int x1), .unset, .unset, .unset] [] := by first | (simp [entryFrame, mkF, argsToLocals, Value.category]; done) | rfl
theorem d12_0 : decode prog_40_method_10_code 0 = .ok (.aload_n 0, 1) := by decide +kernel
theorem d12_1 : decode prog_40_method_10_code 1 = .ok (.getfield 19, 3) := by decide +kernel
theorem d12_4 : decode prog_40_method_10_code 4 = .ok (.iload_n 1, 1) := by decide +kernel
theorem d12_5 : decode prog_40_method_10_code 5 = .ok (.daload, 1) := by decide +kernel
theorem d12_6 : decode prog_40_method_10_code 6 = .ok (.dstore_n 2, 1) := by decide +kernel
theorem d12_7 : decode prog_40_method_10_code 7 = .ok (.iconst 0, 1) := by decide +kernel
theorem d12_8 : decode prog_40_method_10_code 8 = .ok (.istore 4, 2) := by decide +kernel
theorem d12_10 : decode prog_40_method_10_code 10 = .ok (.iload 4, 2) := by decide +kernel
theorem d12_12 : decode prog_40_method_10_code 12 = .ok (.aload_n 0, 1) := by decide +kernel
theorem d12_13 : decode prog_40_method_10_code 13 = .ok (.getfield 51, 3) := by decide +kernel
theorem d12_16 : decode prog_40_method_10_code 16 = .ok (.if_icmp .ge 31, 3) := by decide +kernel
theorem d12_19 : decode prog_40_method_10_code 19 = .ok (.dload_n 2, 1) := by decide +kernel
theorem d12_20 : decode prog_40_method_10_code 20 = .ok (.aload_n 0, 1) := by decide +kernel
theorem d12_21 : decode prog_40_method_10_code 21 = .ok (.getfield 13, 3) := by decide +kernel
theorem d12_24 : decode prog_40_method_10_code 24 = .ok (.aload_n 0, 1) := by decide +kernel
theorem d12_25 : decode prog_40_method_10_code 25 = .ok (.getfield 44, 3) := by decide +kernel
theorem d12_28 : decode prog_40_method_10_code 28 = .ok (.iload 4, 2) := by decide +kernel
theorem d12_30 : decode prog_40_method_10_code 30 = .ok (.iaload, 1) := by decide +kernel
theorem d12_31 : decode prog_40_method_10_code 31 = .ok (.aload_n 0, 1) := by decide +kernel
theorem d12_32 : decode prog_40_method_10_code 32 = .ok (.getfield 55, 3) := by decide +kernel
theorem d12_35 : decode prog_40_method_10_code 35 = .ok (.imul, 1) := by decide +kernel
theorem d12_36 : decode prog_40_method_10_code 36 = .ok (.iload_n 1, 1) := by decide +kernel
theorem d12_37 : decode prog_40_method_10_code 37 = .ok (.iadd, 1) := by decide +kernel
theorem d12_38 : decode prog_40_method_10_code 38 = .ok (.daload, 1) := by decide +kernel
theorem d12_39 : decode prog_40_method_10_code 39 = .ok (.dsub, 1) := by decide +kernel
theorem d12_40 : decode prog_40_method_10_code 40 = .ok (.dstore_n 2, 1) := by decide +kernel
theorem d12_41 : decode prog_40_method_10_code 41 = .ok (.iinc 4 1, 3) := by decide +kernel
theorem d12_44 : decode prog_40_method_10_code 44 = .ok (.goto (-34), 3) := by decide +kernel
theorem d12_47 : decode prog_40_method_10_code 47 = .ok (.dload_n 2, 1) := by decide +kernel
theorem d12_48 : decode prog_40_method_10_code 48 = .ok (.dreturn, 1) := by decide +kernel
def Q_unh10 (Z : State) (ob : Addr) (B : Nat → Addr) (K : Nat → ClassId) (l0 : List Value) (l2 : List Value) (l4 : List Value) (l5 : List Value) (l6 : List Value) (l7 : List Value) (l8 : List Value) (l9 : List Value) (l10 : List Value) (l12 : List Value) (s0 : UInt64) (s1 : UInt64) (mv0 : UInt64) (mv1 : UInt64) (mv2 : UInt64) (mv3 : UInt64) (h0 : Heap) (n0 : Nat) (v : Option Value) (h : Heap) (L : List Loc) : Prop := v = some (.double (FP.dsub s0 mv2)) ∧ Fr n0 L ∧ h = h0
set_option maxRecDepth 65536 in
set_option maxHeartbeats 40000000 in
theorem unh10 (l : Launch) (Z : State) (a0 : Array Value) (hw : ∀ d ∈ tables_1, d.before a0 Z = true) (ws : List Jvm.Cond) (ob : Addr) (B : Nat → Addr) (K : Nat → ClassId) (l0 : List Value) (l2 : List Value) (l4 : List Value) (l5 : List Value) (l6 : List Value) (l7 : List Value) (l8 : List Value) (l9 : List Value) (l10 : List Value) (l12 : List Value) (s0 : UInt64) (s1 : UInt64) (mv0 : UInt64) (mv1 : UInt64) (mv2 : UInt64) (mv3 : UInt64) (h0 : Heap) (n0 : Nat) (Z0 : n0 ≤ h0.size) (D : Dis ob B) (NB0 : NB Z h0 ob B K l0 [(.double mv0), (.double mv1), (.double mv2), (.double mv3)] l2 [(.double s0), (.double s1)] l4 l5 l6 l7 l8 l9 l10 [(.int (1 : Int32)), (.int (0 : Int32))] l12 (1 : Int32)) (q1 : Jvm.Free.Fl.NoNaN64 (FP.dsub s0 mv2)) :
    Met l (⟨"com/example/istra/istra/engine/NodeModel", "unhanded", "(I)D"⟩ : MethodName) prog_40_method_10_code 5 (some .double) ws (rm 0 0 0 0) #[(.ref ob), (.int (0 : Int32))] Z h0 (Q_unh10 Z ob B K l0 l2 l4 l5 l6 l7 l8 l9 l10 l12 s0 s1 mv0 mv1 mv2 mv3 h0 n0) := by
  refine MetFree.of_bodySF (plainFor_of_name pn_com_2fexample_2fistra_2fistra_2fengine_2fNodeModel) hisR ?_
  intro p e s m args below meth c s₁ Bd hml0 hP hK
  obtain ⟨rfl, hZ, hh⟩ := hP
  have hx := Bd.exec
  have hby := Bd.bytes
  have hml : c.maxLocals = 5 := hml0
  have hown : s.vm.findClass "com/example/istra/istra/engine/NodeModel" = some m.cls := findClass_of_methodNamed Bd.named
  have hnm := (name_of_methodNamed Bd.named Bd.method).1
  have X0 : Stand p l e (rm 0 0 0 0) s m #[(.ref ob), (.int (0 : Int32))] below meth c s₁ [] 0 0 := Stand.of_body Bd
  have e0 : s₁.heap = h0 := by rw [← hh, Bd.state]; rfl
  have N0 := Fr.nil n0
  have hww := fun (i : Nat) (c : Jvm.Cond) (h : tables_1[i]? = some c) => hw c (List.mem_of_getElem? h)
  have k0 : Rt p e below s₁ (mkF m 0 #[sr ob, si 0, un, un, un] []) s₁ m #[(.ref ob), (.int (0 : Int32))] 5 := fun t k => castTop (ef_12_RI m ob (0 : Int32)) k
  have H : ∀ {pc r}, decode prog_40_method_10_code pc = r → decode c.code pc = r := fun d => hb hby d
  have k101 := f_alN X0 hx k0 (H d12_0) rfl
  obtain ⟨T102, X102, e102, k103⟩ := gFs X0 hx hZ hown (hww 16 _ rfl) e0 (nq4 NB0) k101 (H d12_1)
  have k104 := f_ilN X102 hx k103 (H d12_4) rfl
  have k105 := f_dal X102 hx hZ e102 (nq21 NB0) k104 (H d12_5) (v := s0) (by decide) rfl
  have k106 := f_dsN X102 hx k105 (H d12_6) (l' := #[sr ob, si 0, sd s0, se, un]) rfl
  have k107 := f_ic X102 hx k106 (H d12_7) (v := 0) rfl
  have k108 := f_is X102 hx k107 (H d12_8) (l' := #[sr ob, si 0, sd s0, se, si 0]) rfl
  have k109 := f_il X102 hx k108 (H d12_10) rfl
  have k110 := f_alN X102 hx k109 (H d12_12) rfl
  obtain ⟨T111, X111, e111, k112⟩ := gFs X102 hx hZ hown (hww 43 _ rfl) e102 (nq14 NB0) k110 (H d12_13)
  have k113 := f_icN X111 hx k112 (H d12_16) (tlt (by decide)).2.1
  have k114 := f_dlN X111 hx k113 (H d12_19) rfl
  have k115 := f_alN X111 hx k114 (H d12_20) rfl
  obtain ⟨T116, X116, e116, k117⟩ := gFs X111 hx hZ hown (hww 12 _ rfl) e111 (nq2 NB0) k115 (H d12_21)
  have k118 := f_alN X116 hx k117 (H d12_24) rfl
  obtain ⟨T119, X119, e119, k120⟩ := gFs X116 hx hZ hown (hww 34 _ rfl) e116 (nq12 NB0) k118 (H d12_25)
  have k121 := f_il X119 hx k120 (H d12_28) rfl
  have k122 := f_ial X119 hx hZ e119 (nq29 NB0) k121 (H d12_30) (v := 1) (by decide) rfl
  have k123 := f_alN X119 hx k122 (H d12_31) rfl
  obtain ⟨T124, X124, e124, k125⟩ := gFs X119 hx hZ hown (hww 47 _ rfl) e119 (nq16 NB0) k123 (H d12_32)
  have k126 := f_imul X124 hx k125 (H d12_35) (r := 2) (by decide)
  have k127 := f_ilN X124 hx k126 (H d12_36) rfl
  have k128 := f_iadd X124 hx k127 (H d12_37) (r := 2) (by decide)
  have k129 := f_dal X124 hx hZ e124 (nq19 NB0) k128 (H d12_38) (v := mv2) (by decide) rfl
  have k130 := f_dsub X124 hx k129 (H d12_39) q1
  have k131 := f_dsN X124 hx k130 (H d12_40) (l' := #[sr ob, si 0, sd (FP.dsub s0 mv2), se, si 0]) rfl
  have k132 := f_inc X124 hx k131 (H d12_41) rfl (l' := #[sr ob, si 0, sd (FP.dsub s0 mv2), se, si 1]) rfl
  have k133 := f_go X124 hx k132 (H d12_44) (pc' := 10) (by decide)
  have k134 := f_il X124 hx k133 (H d12_10) rfl
  have k135 := f_alN X124 hx k134 (H d12_12) rfl
  obtain ⟨T136, X136, e136, k137⟩ := gFs X124 hx hZ hown (hww 43 _ rfl) e124 (nq14 NB0) k135 (H d12_13)
  have k138 := f_icY X136 hx k137 (H d12_16) (pc' := 47) (flt (by decide)).2.1 (by decide)
  have k139 := f_dlN X136 hx k138 (H d12_47) rfl
  obtain ⟨fs, hr, hrun, hended, hW, hsame⟩ := X136.leave (v := some (.double (FP.dsub s0 mv2))) (fun h => by rw [Bd.returns] at h; cases h)
  refine ⟨_, _, k139 _ (retOut X136 hx (t := .double) Bd.returns rfl (Or.inr (Or.inr (Or.inl ⟨rfl, rfl, _, rfl⟩))) (H d12_48) hr), hrun, hended, _, _, rfl, ?_, ⟨_, rfl⟩, hW, hsame.mono (by decide) (by decide)⟩
  show Q_unh10 Z ob B K l0 l2 l4 l5 l6 l7 l8 l9 l10 l12 s0 s1 mv0 mv1 mv2 mv3 h0 n0 _ T136.heap _
  rw [e136]
  exact ⟨rfl, N0, rfl⟩
def Q_unh11 (Z : State) (ob : Addr) (B : Nat → Addr) (K : Nat → ClassId) (l0 : List Value) (l2 : List Value) (l4 : List Value) (l5 : List Value) (l6 : List Value) (l7 : List Value) (l8 : List Value) (l9 : List Value) (l10 : List Value) (l12 : List Value) (s0 : UInt64) (s1 : UInt64) (mv0 : UInt64) (mv1 : UInt64) (mv2 : UInt64) (mv3 : UInt64) (h0 : Heap) (n0 : Nat) (v : Option Value) (h : Heap) (L : List Loc) : Prop := v = some (.double (FP.dsub s1 mv3)) ∧ Fr n0 L ∧ h = h0
set_option maxRecDepth 65536 in
set_option maxHeartbeats 40000000 in
theorem unh11 (l : Launch) (Z : State) (a0 : Array Value) (hw : ∀ d ∈ tables_1, d.before a0 Z = true) (ws : List Jvm.Cond) (ob : Addr) (B : Nat → Addr) (K : Nat → ClassId) (l0 : List Value) (l2 : List Value) (l4 : List Value) (l5 : List Value) (l6 : List Value) (l7 : List Value) (l8 : List Value) (l9 : List Value) (l10 : List Value) (l12 : List Value) (s0 : UInt64) (s1 : UInt64) (mv0 : UInt64) (mv1 : UInt64) (mv2 : UInt64) (mv3 : UInt64) (h0 : Heap) (n0 : Nat) (Z0 : n0 ≤ h0.size) (D : Dis ob B) (NB0 : NB Z h0 ob B K l0 [(.double mv0), (.double mv1), (.double mv2), (.double mv3)] l2 [(.double s0), (.double s1)] l4 l5 l6 l7 l8 l9 l10 [(.int (1 : Int32)), (.int (0 : Int32))] l12 (1 : Int32)) (q1 : Jvm.Free.Fl.NoNaN64 (FP.dsub s1 mv3)) :
    Met l (⟨"com/example/istra/istra/engine/NodeModel", "unhanded", "(I)D"⟩ : MethodName) prog_40_method_10_code 5 (some .double) ws (rm 0 0 0 0) #[(.ref ob), (.int (1 : Int32))] Z h0 (Q_unh11 Z ob B K l0 l2 l4 l5 l6 l7 l8 l9 l10 l12 s0 s1 mv0 mv1 mv2 mv3 h0 n0) := by
  refine MetFree.of_bodySF (plainFor_of_name pn_com_2fexample_2fistra_2fistra_2fengine_2fNodeModel) hisR ?_
  intro p e s m args below meth c s₁ Bd hml0 hP hK
  obtain ⟨rfl, hZ, hh⟩ := hP
  have hx := Bd.exec
  have hby := Bd.bytes
  have hml : c.maxLocals = 5 := hml0
  have hown : s.vm.findClass "com/example/istra/istra/engine/NodeModel" = some m.cls := findClass_of_methodNamed Bd.named
  have hnm := (name_of_methodNamed Bd.named Bd.method).1
  have X0 : Stand p l e (rm 0 0 0 0) s m #[(.ref ob), (.int (1 : Int32))] below meth c s₁ [] 0 0 := Stand.of_body Bd
  have e0 : s₁.heap = h0 := by rw [← hh, Bd.state]; rfl
  have N0 := Fr.nil n0
  have hww := fun (i : Nat) (c : Jvm.Cond) (h : tables_1[i]? = some c) => hw c (List.mem_of_getElem? h)
  have k0 : Rt p e below s₁ (mkF m 0 #[sr ob, si 1, un, un, un] []) s₁ m #[(.ref ob), (.int (1 : Int32))] 5 := fun t k => castTop (ef_12_RI m ob (1 : Int32)) k
  have H : ∀ {pc r}, decode prog_40_method_10_code pc = r → decode c.code pc = r := fun d => hb hby d
  have k101 := f_alN X0 hx k0 (H d12_0) rfl
  obtain ⟨T102, X102, e102, k103⟩ := gFs X0 hx hZ hown (hww 16 _ rfl) e0 (nq4 NB0) k101 (H d12_1)
  have k104 := f_ilN X102 hx k103 (H d12_4) rfl
  have k105 := f_dal X102 hx hZ e102 (nq21 NB0) k104 (H d12_5) (v := s1) (by decide) rfl
  have k106 := f_dsN X102 hx k105 (H d12_6) (l' := #[sr ob, si 1, sd s1, se, un]) rfl
  have k107 := f_ic X102 hx k106 (H d12_7) (v := 0) rfl
  have k108 := f_is X102 hx k107 (H d12_8) (l' := #[sr ob, si 1, sd s1, se, si 0]) rfl
  have k109 := f_il X102 hx k108 (H d12_10) rfl
  have k110 := f_alN X102 hx k109 (H d12_12) rfl
  obtain ⟨T111, X111, e111, k112⟩ := gFs X102 hx hZ hown (hww 43 _ rfl) e102 (nq14 NB0) k110 (H d12_13)
  have k113 := f_icN X111 hx k112 (H d12_16) (tlt (by decide)).2.1
  have k114 := f_dlN X111 hx k113 (H d12_19) rfl
  have k115 := f_alN X111 hx k114 (H d12_20) rfl
  obtain ⟨T116, X116, e116, k117⟩ := gFs X111 hx hZ hown (hww 12 _ rfl) e111 (nq2 NB0) k115 (H d12_21)
  have k118 := f_alN X116 hx k117 (H d12_24) rfl
  obtain ⟨T119, X119, e119, k120⟩ := gFs X116 hx hZ hown (hww 34 _ rfl) e116 (nq12 NB0) k118 (H d12_25)
  have k121 := f_il X119 hx k120 (H d12_28) rfl
  have k122 := f_ial X119 hx hZ e119 (nq29 NB0) k121 (H d12_30) (v := 1) (by decide) rfl
  have k123 := f_alN X119 hx k122 (H d12_31) rfl
  obtain ⟨T124, X124, e124, k125⟩ := gFs X119 hx hZ hown (hww 47 _ rfl) e119 (nq16 NB0) k123 (H d12_32)
  have k126 := f_imul X124 hx k125 (H d12_35) (r := 2) (by decide)
  have k127 := f_ilN X124 hx k126 (H d12_36) rfl
  have k128 := f_iadd X124 hx k127 (H d12_37) (r := 3) (by decide)
  have k129 := f_dal X124 hx hZ e124 (nq19 NB0) k128 (H d12_38) (v := mv3) (by decide) rfl
  have k130 := f_dsub X124 hx k129 (H d12_39) q1
  have k131 := f_dsN X124 hx k130 (H d12_40) (l' := #[sr ob, si 1, sd (FP.dsub s1 mv3), se, si 0]) rfl
  have k132 := f_inc X124 hx k131 (H d12_41) rfl (l' := #[sr ob, si 1, sd (FP.dsub s1 mv3), se, si 1]) rfl
  have k133 := f_go X124 hx k132 (H d12_44) (pc' := 10) (by decide)
  have k134 := f_il X124 hx k133 (H d12_10) rfl
  have k135 := f_alN X124 hx k134 (H d12_12) rfl
  obtain ⟨T136, X136, e136, k137⟩ := gFs X124 hx hZ hown (hww 43 _ rfl) e124 (nq14 NB0) k135 (H d12_13)
  have k138 := f_icY X136 hx k137 (H d12_16) (pc' := 47) (flt (by decide)).2.1 (by decide)
  have k139 := f_dlN X136 hx k138 (H d12_47) rfl
  obtain ⟨fs, hr, hrun, hended, hW, hsame⟩ := X136.leave (v := some (.double (FP.dsub s1 mv3))) (fun h => by rw [Bd.returns] at h; cases h)
  refine ⟨_, _, k139 _ (retOut X136 hx (t := .double) Bd.returns rfl (Or.inr (Or.inr (Or.inl ⟨rfl, rfl, _, rfl⟩))) (H d12_48) hr), hrun, hended, _, _, rfl, ?_, ⟨_, rfl⟩, hW, hsame.mono (by decide) (by decide)⟩
  show Q_unh11 Z ob B K l0 l2 l4 l5 l6 l7 l8 l9 l10 l12 s0 s1 mv0 mv1 mv2 mv3 h0 n0 _ T136.heap _
  rw [e136]
  exact ⟨rfl, N0, rfl⟩
def Q_unh20 (Z : State) (ob : Addr) (B : Nat → Addr) (K : Nat → ClassId) (l0 : List Value) (l2 : List Value) (l4 : List Value) (l5 : List Value) (l6 : List Value) (l7 : List Value) (l8 : List Value) (l9 : List Value) (l10 : List Value) (l12 : List Value) (s0 : UInt64) (s1 : UInt64) (mv0 : UInt64) (mv1 : UInt64) (mv2 : UInt64) (mv3 : UInt64) (h0 : Heap) (n0 : Nat) (v : Option Value) (h : Heap) (L : List Loc) : Prop := v = some (.double (FP.dsub (FP.dsub s0 mv0) mv2)) ∧ Fr n0 L ∧ h = h0
set_option maxRecDepth 65536 in
set_option maxHeartbeats 40000000 in
theorem unh20 (l : Launch) (Z : State) (a0 : Array Value) (hw : ∀ d ∈ tables_1, d.before a0 Z = true) (ws : List Jvm.Cond) (ob : Addr) (B : Nat → Addr) (K : Nat → ClassId) (l0 : List Value) (l2 : List Value) (l4 : List Value) (l5 : List Value) (l6 : List Value) (l7 : List Value) (l8 : List Value) (l9 : List Value) (l10 : List Value) (l12 : List Value) (s0 : UInt64) (s1 : UInt64) (mv0 : UInt64) (mv1 : UInt64) (mv2 : UInt64) (mv3 : UInt64) (h0 : Heap) (n0 : Nat) (Z0 : n0 ≤ h0.size) (D : Dis ob B) (NB0 : NB Z h0 ob B K l0 [(.double mv0), (.double mv1), (.double mv2), (.double mv3)] l2 [(.double s0), (.double s1)] l4 l5 l6 l7 l8 l9 l10 [(.int (0 : Int32)), (.int (1 : Int32))] l12 (2 : Int32)) (q1 : Jvm.Free.Fl.NoNaN64 (FP.dsub s0 mv0)) (q2 : Jvm.Free.Fl.NoNaN64 (FP.dsub (FP.dsub s0 mv0) mv2)) :
    Met l (⟨"com/example/istra/istra/engine/NodeModel", "unhanded", "(I)D"⟩ : MethodName) prog_40_method_10_code 5 (some .double) ws (rm 0 0 0 0) #[(.ref ob), (.int (0 : Int32))] Z h0 (Q_unh20 Z ob B K l0 l2 l4 l5 l6 l7 l8 l9 l10 l12 s0 s1 mv0 mv1 mv2 mv3 h0 n0) := by
  refine MetFree.of_bodySF (plainFor_of_name pn_com_2fexample_2fistra_2fistra_2fengine_2fNodeModel) hisR ?_
  intro p e s m args below meth c s₁ Bd hml0 hP hK
  obtain ⟨rfl, hZ, hh⟩ := hP
  have hx := Bd.exec
  have hby := Bd.bytes
  have hml : c.maxLocals = 5 := hml0
  have hown : s.vm.findClass "com/example/istra/istra/engine/NodeModel" = some m.cls := findClass_of_methodNamed Bd.named
  have hnm := (name_of_methodNamed Bd.named Bd.method).1
  have X0 : Stand p l e (rm 0 0 0 0) s m #[(.ref ob), (.int (0 : Int32))] below meth c s₁ [] 0 0 := Stand.of_body Bd
  have e0 : s₁.heap = h0 := by rw [← hh, Bd.state]; rfl
  have N0 := Fr.nil n0
  have hww := fun (i : Nat) (c : Jvm.Cond) (h : tables_1[i]? = some c) => hw c (List.mem_of_getElem? h)
  have k0 : Rt p e below s₁ (mkF m 0 #[sr ob, si 0, un, un, un] []) s₁ m #[(.ref ob), (.int (0 : Int32))] 5 := fun t k => castTop (ef_12_RI m ob (0 : Int32)) k
  have H : ∀ {pc r}, decode prog_40_method_10_code pc = r → decode c.code pc = r := fun d => hb hby d
  have k101 := f_alN X0 hx k0 (H d12_0) rfl
  obtain ⟨T102, X102, e102, k103⟩ := gFs X0 hx hZ hown (hww 16 _ rfl) e0 (nq4 NB0) k101 (H d12_1)
  have k104 := f_ilN X102 hx k103 (H d12_4) rfl
  have k105 := f_dal X102 hx hZ e102 (nq21 NB0) k104 (H d12_5) (v := s0) (by decide) rfl
  have k106 := f_dsN X102 hx k105 (H d12_6) (l' := #[sr ob, si 0, sd s0, se, un]) rfl
  have k107 := f_ic X102 hx k106 (H d12_7) (v := 0) rfl
  have k108 := f_is X102 hx k107 (H d12_8) (l' := #[sr ob, si 0, sd s0, se, si 0]) rfl
  have k109 := f_il X102 hx k108 (H d12_10) rfl
  have k110 := f_alN X102 hx k109 (H d12_12) rfl
  obtain ⟨T111, X111, e111, k112⟩ := gFs X102 hx hZ hown (hww 43 _ rfl) e102 (nq14 NB0) k110 (H d12_13)
  have k113 := f_icN X111 hx k112 (H d12_16) (tlt (by decide)).2.1
  have k114 := f_dlN X111 hx k113 (H d12_19) rfl
  have k115 := f_alN X111 hx k114 (H d12_20) rfl
  obtain ⟨T116, X116, e116, k117⟩ := gFs X111 hx hZ hown (hww 12 _ rfl) e111 (nq2 NB0) k115 (H d12_21)
  have k118 := f_alN X116 hx k117 (H d12_24) rfl
  obtain ⟨T119, X119, e119, k120⟩ := gFs X116 hx hZ hown (hww 34 _ rfl) e116 (nq12 NB0) k118 (H d12_25)
  have k121 := f_il X119 hx k120 (H d12_28) rfl
  have k122 := f_ial X119 hx hZ e119 (nq29 NB0) k121 (H d12_30) (v := 0) (by decide) rfl
  have k123 := f_alN X119 hx k122 (H d12_31) rfl
  obtain ⟨T124, X124, e124, k125⟩ := gFs X119 hx hZ hown (hww 47 _ rfl) e119 (nq16 NB0) k123 (H d12_32)
  have k126 := f_imul X124 hx k125 (H d12_35) (r := 0) (by decide)
  have k127 := f_ilN X124 hx k126 (H d12_36) rfl
  have k128 := f_iadd X124 hx k127 (H d12_37) (r := 0) (by decide)
  have k129 := f_dal X124 hx hZ e124 (nq19 NB0) k128 (H d12_38) (v := mv0) (by decide) rfl
  have k130 := f_dsub X124 hx k129 (H d12_39) q1
  have k131 := f_dsN X124 hx k130 (H d12_40) (l' := #[sr ob, si 0, sd (FP.dsub s0 mv0), se, si 0]) rfl
  have k132 := f_inc X124 hx k131 (H d12_41) rfl (l' := #[sr ob, si 0, sd (FP.dsub s0 mv0), se, si 1]) rfl
  have k133 := f_go X124 hx k132 (H d12_44) (pc' := 10) (by decide)
  have k134 := f_il X124 hx k133 (H d12_10) rfl
  have k135 := f_alN X124 hx k134 (H d12_12) rfl
  obtain ⟨T136, X136, e136, k137⟩ := gFs X124 hx hZ hown (hww 43 _ rfl) e124 (nq14 NB0) k135 (H d12_13)
  have k138 := f_icN X136 hx k137 (H d12_16) (tlt (by decide)).2.1
  have k139 := f_dlN X136 hx k138 (H d12_19) rfl
  have k140 := f_alN X136 hx k139 (H d12_20) rfl
  obtain ⟨T141, X141, e141, k142⟩ := gFs X136 hx hZ hown (hww 12 _ rfl) e136 (nq2 NB0) k140 (H d12_21)
  have k143 := f_alN X141 hx k142 (H d12_24) rfl
  obtain ⟨T144, X144, e144, k145⟩ := gFs X141 hx hZ hown (hww 34 _ rfl) e141 (nq12 NB0) k143 (H d12_25)
  have k146 := f_il X144 hx k145 (H d12_28) rfl
  have k147 := f_ial X144 hx hZ e144 (nq29 NB0) k146 (H d12_30) (v := 1) (by decide) rfl
  have k148 := f_alN X144 hx k147 (H d12_31) rfl
  obtain ⟨T149, X149, e149, k150⟩ := gFs X144 hx hZ hown (hww 47 _ rfl) e144 (nq16 NB0) k148 (H d12_32)
  have k151 := f_imul X149 hx k150 (H d12_35) (r := 2) (by decide)
  have k152 := f_ilN X149 hx k151 (H d12_36) rfl
  have k153 := f_iadd X149 hx k152 (H d12_37) (r := 2) (by decide)
  have k154 := f_dal X149 hx hZ e149 (nq19 NB0) k153 (H d12_38) (v := mv2) (by decide) rfl
  have k155 := f_dsub X149 hx k154 (H d12_39) q2
  have k156 := f_dsN X149 hx k155 (H d12_40) (l' := #[sr ob, si 0, sd (FP.dsub (FP.dsub s0 mv0) mv2), se, si 1]) rfl
  have k157 := f_inc X149 hx k156 (H d12_41) rfl (l' := #[sr ob, si 0, sd (FP.dsub (FP.dsub s0 mv0) mv2), se, si 2]) rfl
  have k158 := f_go X149 hx k157 (H d12_44) (pc' := 10) (by decide)
  have k159 := f_il X149 hx k158 (H d12_10) rfl
  have k160 := f_alN X149 hx k159 (H d12_12) rfl
  obtain ⟨T161, X161, e161, k162⟩ := gFs X149 hx hZ hown (hww 43 _ rfl) e149 (nq14 NB0) k160 (H d12_13)
  have k163 := f_icY X161 hx k162 (H d12_16) (pc' := 47) (flt (by decide)).2.1 (by decide)
  have k164 := f_dlN X161 hx k163 (H d12_47) rfl
  obtain ⟨fs, hr, hrun, hended, hW, hsame⟩ := X161.leave (v := some (.double (FP.dsub (FP.dsub s0 mv0) mv2))) (fun h => by rw [Bd.returns] at h; cases h)
  refine ⟨_, _, k164 _ (retOut X161 hx (t := .double) Bd.returns rfl (Or.inr (Or.inr (Or.inl ⟨rfl, rfl, _, rfl⟩))) (H d12_48) hr), hrun, hended, _, _, rfl, ?_, ⟨_, rfl⟩, hW, hsame.mono (by decide) (by decide)⟩
  show Q_unh20 Z ob B K l0 l2 l4 l5 l6 l7 l8 l9 l10 l12 s0 s1 mv0 mv1 mv2 mv3 h0 n0 _ T161.heap _
  rw [e161]
  exact ⟨rfl, N0, rfl⟩
def Q_unh21 (Z : State) (ob : Addr) (B : Nat → Addr) (K : Nat → ClassId) (l0 : List Value) (l2 : List Value) (l4 : List Value) (l5 : List Value) (l6 : List Value) (l7 : List Value) (l8 : List Value) (l9 : List Value) (l10 : List Value) (l12 : List Value) (s0 : UInt64) (s1 : UInt64) (mv0 : UInt64) (mv1 : UInt64) (mv2 : UInt64) (mv3 : UInt64) (h0 : Heap) (n0 : Nat) (v : Option Value) (h : Heap) (L : List Loc) : Prop := v = some (.double (FP.dsub (FP.dsub s1 mv1) mv3)) ∧ Fr n0 L ∧ h = h0
set_option maxRecDepth 65536 in
set_option maxHeartbeats 40000000 in
theorem unh21 (l : Launch) (Z : State) (a0 : Array Value) (hw : ∀ d ∈ tables_1, d.before a0 Z = true) (ws : List Jvm.Cond) (ob : Addr) (B : Nat → Addr) (K : Nat → ClassId) (l0 : List Value) (l2 : List Value) (l4 : List Value) (l5 : List Value) (l6 : List Value) (l7 : List Value) (l8 : List Value) (l9 : List Value) (l10 : List Value) (l12 : List Value) (s0 : UInt64) (s1 : UInt64) (mv0 : UInt64) (mv1 : UInt64) (mv2 : UInt64) (mv3 : UInt64) (h0 : Heap) (n0 : Nat) (Z0 : n0 ≤ h0.size) (D : Dis ob B) (NB0 : NB Z h0 ob B K l0 [(.double mv0), (.double mv1), (.double mv2), (.double mv3)] l2 [(.double s0), (.double s1)] l4 l5 l6 l7 l8 l9 l10 [(.int (0 : Int32)), (.int (1 : Int32))] l12 (2 : Int32)) (q1 : Jvm.Free.Fl.NoNaN64 (FP.dsub s1 mv1)) (q2 : Jvm.Free.Fl.NoNaN64 (FP.dsub (FP.dsub s1 mv1) mv3)) :
    Met l (⟨"com/example/istra/istra/engine/NodeModel", "unhanded", "(I)D"⟩ : MethodName) prog_40_method_10_code 5 (some .double) ws (rm 0 0 0 0) #[(.ref ob), (.int (1 : Int32))] Z h0 (Q_unh21 Z ob B K l0 l2 l4 l5 l6 l7 l8 l9 l10 l12 s0 s1 mv0 mv1 mv2 mv3 h0 n0) := by
  refine MetFree.of_bodySF (plainFor_of_name pn_com_2fexample_2fistra_2fistra_2fengine_2fNodeModel) hisR ?_
  intro p e s m args below meth c s₁ Bd hml0 hP hK
  obtain ⟨rfl, hZ, hh⟩ := hP
  have hx := Bd.exec
  have hby := Bd.bytes
  have hml : c.maxLocals = 5 := hml0
  have hown : s.vm.findClass "com/example/istra/istra/engine/NodeModel" = some m.cls := findClass_of_methodNamed Bd.named
  have hnm := (name_of_methodNamed Bd.named Bd.method).1
  have X0 : Stand p l e (rm 0 0 0 0) s m #[(.ref ob), (.int (1 : Int32))] below meth c s₁ [] 0 0 := Stand.of_body Bd
  have e0 : s₁.heap = h0 := by rw [← hh, Bd.state]; rfl
  have N0 := Fr.nil n0
  have hww := fun (i : Nat) (c : Jvm.Cond) (h : tables_1[i]? = some c) => hw c (List.mem_of_getElem? h)
  have k0 : Rt p e below s₁ (mkF m 0 #[sr ob, si 1, un, un, un] []) s₁ m #[(.ref ob), (.int (1 : Int32))] 5 := fun t k => castTop (ef_12_RI m ob (1 : Int32)) k
  have H : ∀ {pc r}, decode prog_40_method_10_code pc = r → decode c.code pc = r := fun d => hb hby d
  have k101 := f_alN X0 hx k0 (H d12_0) rfl
  obtain ⟨T102, X102, e102, k103⟩ := gFs X0 hx hZ hown (hww 16 _ rfl) e0 (nq4 NB0) k101 (H d12_1)
  have k104 := f_ilN X102 hx k103 (H d12_4) rfl
  have k105 := f_dal X102 hx hZ e102 (nq21 NB0) k104 (H d12_5) (v := s1) (by decide) rfl
  have k106 := f_dsN X102 hx k105 (H d12_6) (l' := #[sr ob, si 1, sd s1, se, un]) rfl
  have k107 := f_ic X102 hx k106 (H d12_7) (v := 0) rfl
  have k108 := f_is X102 hx k107 (H d12_8) (l' := #[sr ob, si 1, sd s1, se, si 0]) rfl
  have k109 := f_il X102 hx k108 (H d12_10) rfl
  have k110 := f_alN X102 hx k109 (H d12_12) rfl
  obtain ⟨T111, X111, e111, k112⟩ := gFs X102 hx hZ hown (hww 43 _ rfl) e102 (nq14 NB0) k110 (H d12_13)
  have k113 := f_icN X111 hx k112 (H d12_16) (tlt (by decide)).2.1
  have k114 := f_dlN X111 hx k113 (H d12_19) rfl
  have k115 := f_alN X111 hx k114 (H d12_20) rfl
  obtain ⟨T116, X116, e116, k117⟩ := gFs X111 hx hZ hown (hww 12 _ rfl) e111 (nq2 NB0) k115 (H d12_21)
  have k118 := f_alN X116 hx k117 (H d12_24) rfl
  obtain ⟨T119, X119, e119, k120⟩ := gFs X116 hx hZ hown (hww 34 _ rfl) e116 (nq12 NB0) k118 (H d12_25)
  have k121 := f_il X119 hx k120 (H d12_28) rfl
  have k122 := f_ial X119 hx hZ e119 (nq29 NB0) k121 (H d12_30) (v := 0) (by decide) rfl
  have k123 := f_alN X119 hx k122 (H d12_31) rfl
  obtain ⟨T124, X124, e124, k125⟩ := gFs X119 hx hZ hown (hww 47 _ rfl) e119 (nq16 NB0) k123 (H d12_32)
  have k126 := f_imul X124 hx k125 (H d12_35) (r := 0) (by decide)
  have k127 := f_ilN X124 hx k126 (H d12_36) rfl
  have k128 := f_iadd X124 hx k127 (H d12_37) (r := 1) (by decide)
  have k129 := f_dal X124 hx hZ e124 (nq19 NB0) k128 (H d12_38) (v := mv1) (by decide) rfl
  have k130 := f_dsub X124 hx k129 (H d12_39) q1
  have k131 := f_dsN X124 hx k130 (H d12_40) (l' := #[sr ob, si 1, sd (FP.dsub s1 mv1), se, si 0]) rfl
  have k132 := f_inc X124 hx k131 (H d12_41) rfl (l' := #[sr ob, si 1, sd (FP.dsub s1 mv1), se, si 1]) rfl
  have k133 := f_go X124 hx k132 (H d12_44) (pc' := 10) (by decide)
  have k134 := f_il X124 hx k133 (H d12_10) rfl
  have k135 := f_alN X124 hx k134 (H d12_12) rfl
  obtain ⟨T136, X136, e136, k137⟩ := gFs X124 hx hZ hown (hww 43 _ rfl) e124 (nq14 NB0) k135 (H d12_13)
  have k138 := f_icN X136 hx k137 (H d12_16) (tlt (by decide)).2.1
  have k139 := f_dlN X136 hx k138 (H d12_19) rfl
  have k140 := f_alN X136 hx k139 (H d12_20) rfl
  obtain ⟨T141, X141, e141, k142⟩ := gFs X136 hx hZ hown (hww 12 _ rfl) e136 (nq2 NB0) k140 (H d12_21)
  have k143 := f_alN X141 hx k142 (H d12_24) rfl
  obtain ⟨T144, X144, e144, k145⟩ := gFs X141 hx hZ hown (hww 34 _ rfl) e141 (nq12 NB0) k143 (H d12_25)
  have k146 := f_il X144 hx k145 (H d12_28) rfl
  have k147 := f_ial X144 hx hZ e144 (nq29 NB0) k146 (H d12_30) (v := 1) (by decide) rfl
  have k148 := f_alN X144 hx k147 (H d12_31) rfl
  obtain ⟨T149, X149, e149, k150⟩ := gFs X144 hx hZ hown (hww 47 _ rfl) e144 (nq16 NB0) k148 (H d12_32)
  have k151 := f_imul X149 hx k150 (H d12_35) (r := 2) (by decide)
  have k152 := f_ilN X149 hx k151 (H d12_36) rfl
  have k153 := f_iadd X149 hx k152 (H d12_37) (r := 3) (by decide)
  have k154 := f_dal X149 hx hZ e149 (nq19 NB0) k153 (H d12_38) (v := mv3) (by decide) rfl
  have k155 := f_dsub X149 hx k154 (H d12_39) q2
  have k156 := f_dsN X149 hx k155 (H d12_40) (l' := #[sr ob, si 1, sd (FP.dsub (FP.dsub s1 mv1) mv3), se, si 1]) rfl
  have k157 := f_inc X149 hx k156 (H d12_41) rfl (l' := #[sr ob, si 1, sd (FP.dsub (FP.dsub s1 mv1) mv3), se, si 2]) rfl
  have k158 := f_go X149 hx k157 (H d12_44) (pc' := 10) (by decide)
  have k159 := f_il X149 hx k158 (H d12_10) rfl
  have k160 := f_alN X149 hx k159 (H d12_12) rfl
  obtain ⟨T161, X161, e161, k162⟩ := gFs X149 hx hZ hown (hww 43 _ rfl) e149 (nq14 NB0) k160 (H d12_13)
  have k163 := f_icY X161 hx k162 (H d12_16) (pc' := 47) (flt (by decide)).2.1 (by decide)
  have k164 := f_dlN X161 hx k163 (H d12_47) rfl
  obtain ⟨fs, hr, hrun, hended, hW, hsame⟩ := X161.leave (v := some (.double (FP.dsub (FP.dsub s1 mv1) mv3))) (fun h => by rw [Bd.returns] at h; cases h)
  refine ⟨_, _, k164 _ (retOut X161 hx (t := .double) Bd.returns rfl (Or.inr (Or.inr (Or.inl ⟨rfl, rfl, _, rfl⟩))) (H d12_48) hr), hrun, hended, _, _, rfl, ?_, ⟨_, rfl⟩, hW, hsame.mono (by decide) (by decide)⟩
  show Q_unh21 Z ob B K l0 l2 l4 l5 l6 l7 l8 l9 l10 l12 s0 s1 mv0 mv1 mv2 mv3 h0 n0 _ T161.heap _
  rw [e161]
  exact ⟨rfl, N0, rfl⟩
theorem ef_8_III (m : MethodId) (x0 : Int32) (x1 : Int32) (x2 : Int32) : entryFrame m #[(.int x0), (.int x1), (.int x2)] 3 = mkF m 0 #[.val (.int x0), .val (.int x1), .val (.int x2)] [] := by first | (simp [entryFrame, mkF, argsToLocals, Value.category]; done) | rfl
theorem d8_0 : decode jdk_65_method_30_code 0 = .ok (.iload_n 1, 1) := by decide +kernel
theorem d8_1 : decode jdk_65_method_30_code 1 = .ok (.iload_n 2, 1) := by decide +kernel
theorem d8_2 : decode jdk_65_method_30_code 2 = .ok (.if_icmp .le 44, 3) := by decide +kernel
theorem d8_46 : decode jdk_65_method_30_code 46 = .ok (.iload_n 1, 1) := by decide +kernel
theorem d8_47 : decode jdk_65_method_30_code 47 = .ok (.ifCond .ge 12, 3) := by decide +kernel
theorem d8_59 : decode jdk_65_method_30_code 59 = .ok (.iload_n 2, 1) := by decide +kernel
theorem d8_60 : decode jdk_65_method_30_code 60 = .ok (.iload_n 0, 1) := by decide +kernel
theorem d8_61 : decode jdk_65_method_30_code 61 = .ok (.if_icmp .le 12, 3) := by decide +kernel
theorem d8_73 : decode jdk_65_method_30_code 73 = .ok (.return_, 1) := by decide +kernel
def Q_rch0 (Z : State)  (h0 : Heap) (n0 : Nat) (v : Option Value) (h : Heap) (L : List Loc) : Prop := v = none ∧ Fr n0 L ∧ h = h0
theorem pn_java_2futil_2fArrays : plainName "java/util/Arrays" = true := by first | (simp [plainName, overriddenIn]; done) | decide +kernel
set_option maxRecDepth 65536 in
set_option maxHeartbeats 40000000 in
theorem rch0 (l : Launch) (Z : State) (a0 : Array Value) (hw : ∀ d ∈ tables_1, d.before a0 Z = true) (ws : List Jvm.Cond)  (h0 : Heap) (n0 : Nat) (Z0 : n0 ≤ h0.size) :
    Met l (⟨"java/util/Arrays", "rangeCheck", "(III)V"⟩ : MethodName) jdk_65_method_30_code 3 none ws (rm 0 0 0 0) #[(.int (4 : Int32)), (.int (0 : Int32)), (.int (2 : Int32))] Z h0 (Q_rch0 Z  h0 n0) := by
  refine MetFree.of_bodySF (plainFor_of_name pn_java_2futil_2fArrays) hisR ?_
  intro p e s m args below meth c s₁ Bd hml0 hP hK
  obtain ⟨rfl, hZ, hh⟩ := hP
  have hx := Bd.exec
  have hby := Bd.bytes
  have hml : c.maxLocals = 3 := hml0
  have hown : s.vm.findClass "java/util/Arrays" = some m.cls := findClass_of_methodNamed Bd.named
  have hnm := (name_of_methodNamed Bd.named Bd.method).1
  have X0 : Stand p l e (rm 0 0 0 0) s m #[(.int (4 : Int32)), (.int (0 : Int32)), (.int (2 : Int32))] below meth c s₁ [] 0 0 := Stand.of_body Bd
  have e0 : s₁.heap = h0 := by rw [← hh, Bd.state]; rfl
  have N0 := Fr.nil n0
  have hww := fun (i : Nat) (c : Jvm.Cond) (h : tables_1[i]? = some c) => hw c (List.mem_of_getElem? h)
  have k0 : Rt p e below s₁ (mkF m 0 #[si 4, si 0, si 2] []) s₁ m #[(.int (4 : Int32)), (.int (0 : Int32)), (.int (2 : Int32))] 3 := fun t k => castTop (ef_8_III m (4 : Int32) (0 : Int32) (2 : Int32)) k
  have k101 : Rt p e below s₁ (mkF m 73 #[si 4, si 0, si 2] []) s₁ m #[(.int (4 : Int32)), (.int (0 : Int32)), (.int (2 : Int32))] 3 := fun t k => k0 t (by
    show Sp p e below s₁ (mkF m 0 #[si 4, si 0, si 2] []) _
    refine XS.iloadN X0.here hx rfl (hb hby d8_0) rfl ?_
    refine XS.iloadN X0.here hx rfl (hb hby d8_1) rfl ?_
    refine XS.icmpYes X0.here hx rfl (pc0 := 2) (pc' := 46) rfl (hb hby d8_2) rfl (flt (by decide)).2.2.2 (by decide) (by decide) ?_
    refine XS.iloadN X0.here hx rfl (hb hby d8_46) rfl ?_
    show Sp p e below s₁ (mkF m 47 #[si 4, si 0, si 2] [vI 0]) _
    refine XS.ifYes X0.here hx rfl (pc0 := 47) (pc' := 59) rfl (hb hby d8_47) rfl ((if0 _ _).trans (flt (by decide)).2.1) (by decide) (by decide) ?_
    refine XS.iloadN X0.here hx rfl (hb hby d8_59) rfl ?_
    refine XS.iloadN X0.here hx rfl (hb hby d8_60) rfl ?_
    refine XS.icmpYes X0.here hx rfl (pc0 := 61) (pc' := 73) rfl (hb hby d8_61) rfl (flt (by decide)).2.2.2 (by decide) (by decide) ?_
    exact k)
  obtain ⟨fs, hr, hrun, hended, hW, hsame⟩ := X0.leave (v := none) (fun _ => rfl)
  refine ⟨_, _, k101 _ (X0.returnOut hx Bd.returns (hb hby d8_73) hr), hrun, hended, _, _, rfl, ?_, ⟨_, rfl⟩, hW, hsame.mono (by decide) (by decide)⟩
  show Q_rch0 Z h0 n0 _ s₁.heap _
  rw [e0]
  exact ⟨rfl, N0, rfl⟩
theorem ef_7_RIID (m : MethodId) (x0 : Addr) (x1 : Int32) (x2 : Int32) (x3 : UInt64) : entryFrame m #[(.ref x0), (.int x1), (.int x2), (.double x3)] 6 = mkF m 0 #[.val (.ref x0), .val (.int x1), .val (.int x2), .val (.double x3), .second, .unset] [] := by first | (simp [entryFrame, mkF, argsToLocals, Value.category]; done) | rfl
theorem d7_0 : decode jdk_65_method_114_code 0 = .ok (.aload_n 0, 1) := by decide +kernel
theorem d7_1 : decode jdk_65_method_114_code 1 = .ok (.arraylength, 1) := by decide +kernel
theorem d7_2 : decode jdk_65_method_114_code 2 = .ok (.iload_n 1, 1) := by decide +kernel
theorem d7_3 : decode jdk_65_method_114_code 3 = .ok (.iload_n 2, 1) := by decide +kernel
theorem d7_4 : decode jdk_65_method_114_code 4 = .ok (.invokestatic 13, 3) := by decide +kernel
theorem pd__28III_29V : parseMethodDescriptor "(III)V" = some ⟨[.int, .int, .int], none⟩ := by decide +kernel
theorem d7_7 : decode jdk_65_method_114_code 7 = .ok (.iload_n 1, 1) := by decide +kernel
theorem d7_8 : decode jdk_65_method_114_code 8 = .ok (.istore 5, 2) := by decide +kernel
theorem d7_10 : decode jdk_65_method_114_code 10 = .ok (.iload 5, 2) := by decide +kernel
theorem d7_12 : decode jdk_65_method_114_code 12 = .ok (.iload_n 2, 1) := by decide +kernel
theorem d7_13 : decode jdk_65_method_114_code 13 = .ok (.if_icmp .ge 14, 3) := by decide +kernel
theorem d7_16 : decode jdk_65_method_114_code 16 = .ok (.aload_n 0, 1) := by decide +kernel
theorem d7_17 : decode jdk_65_method_114_code 17 = .ok (.iload 5, 2) := by decide +kernel
theorem d7_19 : decode jdk_65_method_114_code 19 = .ok (.dload_n 3, 1) := by decide +kernel
theorem d7_20 : decode jdk_65_method_114_code 20 = .ok (.dastore, 1) := by decide +kernel
theorem d7_21 : decode jdk_65_method_114_code 21 = .ok (.iinc 5 1, 3) := by decide +kernel
theorem d7_24 : decode jdk_65_method_114_code 24 = .ok (.goto (-14), 3) := by decide +kernel
theorem d7_27 : decode jdk_65_method_114_code 27 = .ok (.return_, 1) := by decide +kernel
def Q_fil0 (Z : State) (a1 : Addr) (k1 : ClassId) (u0 : UInt64) (u1 : UInt64) (u2 : UInt64) (u3 : UInt64) (h0 : Heap) (n0 : Nat) (v : Option Value) (h : Heap) (L : List Loc) : Prop := v = none ∧ Fr n0 L ∧ Keep h0 h [a1] ∧ Arv Z h a1 k1 .double (4 : Int32) [(.double (0 : UInt64)), (.double (0 : UInt64)), (.double u2), (.double u3)] (.double (0 : UInt64))
set_option maxRecDepth 65536 in
set_option maxHeartbeats 40000000 in
theorem fil0 (l : Launch) (Z : State) (a0 : Array Value) (hw : ∀ d ∈ tables_1, d.before a0 Z = true) (ws : List Jvm.Cond) (a1 : Addr) (k1 : ClassId) (u0 : UInt64) (u1 : UInt64) (u2 : UInt64) (u3 : UInt64) (h0 : Heap) (n0 : Nat) (Z0 : n0 ≤ h0.size) (V1 : Arv Z h0 a1 k1 .double (4 : Int32) [(.double u0), (.double u1), (.double u2), (.double u3)] (.double (0 : UInt64))) (ga : n0 ≤ a1) :
    Met l (⟨"java/util/Arrays", "fill", "([DIID)V"⟩ : MethodName) jdk_65_method_114_code 6 none ws (rm 1 0 0 14) #[(.ref a1), (.int (0 : Int32)), (.int (2 : Int32)), (.double (0 : UInt64))] Z h0 (Q_fil0 Z a1 k1 u0 u1 u2 u3 h0 n0) := by
  refine MetFree.of_bodySF (plainFor_of_name pn_java_2futil_2fArrays) hisR ?_
  intro p e s m args below meth c s₁ Bd hml0 hP hK
  obtain ⟨rfl, hZ, hh⟩ := hP
  have hx := Bd.exec
  have hby := Bd.bytes
  have hml : c.maxLocals = 6 := hml0
  have hown : s.vm.findClass "java/util/Arrays" = some m.cls := findClass_of_methodNamed Bd.named
  have hnm := (name_of_methodNamed Bd.named Bd.method).1
  have X0 : Stand p l e (rm 1 0 0 14) s m #[(.ref a1), (.int (0 : Int32)), (.int (2 : Int32)), (.double (0 : UInt64))] below meth c s₁ [] 0 0 := Stand.of_body Bd
  have e0 : s₁.heap = h0 := by rw [← hh, Bd.state]; rfl
  have N0 := Fr.nil n0
  have hww := fun (i : Nat) (c : Jvm.Cond) (h : tables_1[i]? = some c) => hw c (List.mem_of_getElem? h)
  have k0 : Rt p e below s₁ (mkF m 0 #[sr a1, si 0, si 2, sd 0, se, un] []) s₁ m #[(.ref a1), (.int (0 : Int32)), (.int (2 : Int32)), (.double (0 : UInt64))] 6 := fun t k => castTop (ef_7_RIID m a1 (0 : Int32) (2 : Int32) (0 : UInt64)) k
  have K0 := Keep.refl h0 [a1]
  have k101 : Rt p e below s₁ (mkF m 1 #[sr a1, si 0, si 2, sd 0, se, un] [vR a1]) s₁ m #[(.ref a1), (.int (0 : Int32)), (.int (2 : Int32)), (.double (0 : UInt64))] 6 := fun t k => k0 t (by
    show Sp p e below s₁ (mkF m 0 #[sr a1, si 0, si 2, sd 0, se, un] []) _
    refine XS.aloadN X0.here hx rfl (hb hby d7_0) rfl rfl ?_
    exact k)
  obtain ⟨c102, Ar102, -, As102, An102, -, -⟩ := id V1
  have k103 : Rt p e below s₁ (mkF m 4 #[sr a1, si 0, si 2, sd 0, se, un] [vI 2, vI 0, vI 4]) s₁ m #[(.ref a1), (.int (0 : Int32)), (.int (2 : Int32)), (.double (0 : UInt64))] 6 := fun t k => k101 t (by
    show Sp p e below s₁ (mkF m 1 #[sr a1, si 0, si 2, sd 0, se, un] [vR a1]) _
    refine X0.arraylength hx (by rw [e0]; exact Ar102.1) (State.isArrayOf_alike hZ.alike Ar102.2.1) (g := (mkF m 1 #[sr a1, si 0, si 2, sd 0, se, un] [vR a1])) rfl rfl (hb hby d7_1) _ ?_
    rw [len_of As102 An102]
    refine XS.iloadN X0.here hx rfl (hb hby d7_2) rfl ?_
    refine XS.iloadN X0.here hx rfl (hb hby d7_3) rfl ?_
    exact k)
  obtain ⟨_, _, ⟨T104, L104, k104, n104⟩, -, X104, ⟨Lc104, hQ104, l104, y104, z104⟩, st104⟩ := Jvm.LawKit.callS X0 hx (y := (⟨"java/util/Arrays", "rangeCheck", "(III)V"⟩ : MethodName)) hown (mvT hZ (hww 74 _ rfl)) (mvT hZ (hww 75 _ rfl)) (mvT hZ (hww 72 _ rfl)) (mvT hZ (hww 76 _ rfl)) (by decide) (backOf (W := 0) (rch0 l Z a0 hw []  h0 n0 Z0 ) hZ (hww 76 _ rfl) (hww 72 _ rfl) (by decide) (by decide)) (g := (mkF m 4 #[sr a1, si 0, si 2, sd 0, se, un] [vI 2, vI 0, vI 4])) rfl (by rw [hml]; rfl) (argsL := [(.int (4 : Int32)), (.int (0 : Int32)), (.int (2 : Int32))]) (rest := []) (lenOf pd__28III_29V rfl) rfl (by show 2 * 0 + _ ≤ _; exact Nat.le_of_eq rfl) (hb hby d7_4) (fun _ _ => ⟨rfl, e0, (by decide : 0 + 0 ≤ _), (by decide : 0 + 0 ≤ _)⟩)
  dsimp only [Pt.U, Pt.locs, Pt.cells, Pt.slots] at X104 l104 y104 z104 st104 hQ104
  subst l104 y104 z104
  obtain ⟨rfl, N104q, e104⟩ := hQ104
  have N105 := Fr.app N0 N104q
  have k106 : Rt p e below T104 (mkF m 7 #[sr a1, si 0, si 2, sd 0, se, un] []) s₁ m #[(.ref a1), (.int (0 : Int32)), (.int (2 : Int32)), (.double (0 : UInt64))] 6 := fun t k => k103 t (st104 t k)
  have k107 : Rt p e below T104 (mkF m 20 #[sr a1, si 0, si 2, sd 0, se, si 0] [vD 0, vI 0, vR a1]) s₁ m #[(.ref a1), (.int (0 : Int32)), (.int (2 : Int32)), (.double (0 : UInt64))] 6 := fun t k => k106 t (by
    show Sp p e below T104 (mkF m 7 #[sr a1, si 0, si 2, sd 0, se, un] []) _
    refine XS.iloadN X104.here hx rfl (hb hby d7_7) rfl ?_
    refine XS.istore X104.here hx rfl (hb hby d7_8) rfl (l' := #[.val (.ref a1), .val (.int (0 : Int32)), .val (.int (2 : Int32)), .val (.double (0 : UInt64)), .second, .val (.int (0 : Int32))]) rfl ?_
    refine XS.iload X104.here hx rfl (hb hby d7_10) rfl ?_
    refine XS.iloadN X104.here hx rfl (hb hby d7_12) rfl ?_
    show Sp p e below T104 (mkF m 13 #[sr a1, si 0, si 2, sd 0, se, si 0] [vI 2, vI 0]) _
    refine XS.icmpNo X104.here hx rfl (hb hby d7_13) rfl (tlt (by decide)).2.1 ?_
    refine XS.aloadN X104.here hx rfl (hb hby d7_16) rfl rfl ?_
    refine XS.iload X104.here hx rfl (hb hby d7_17) rfl ?_
    refine XS.dloadN X104.here hx rfl (hb hby d7_19) rfl ?_
    exact k)
  obtain ⟨c108, Ar108, Aq108, As108, An108, Ah108, Ag108⟩ := id V1
  have hin108 : ¬ ((0 : Int32) < 0 ∨ c108.slots.size ≤ ((0 : Int32)).toNatClampNeg) := inb_of As108 ⟨by decide, by decide⟩
  obtain ⟨T108, h108, X108, e108, W108, st108⟩ := stD X104 hx hZ e104 Ar108 (j := (0 : Int32)) hin108 (g := (mkF m 20 #[sr a1, si 0, si 2, sd 0, se, si 0] [vD 0, vI 0, vR a1])) rfl rfl (hb hby d7_20)
  have V109 := Arv.set Ar108 Aq108 As108 An108 Ah108 Ag108 rfl W108 0 rfl (Nat.le_of_ble_eq_true rfl)
  have Z110 : n0 ≤ h108.size := Nat.le_trans Z0 (Nat.le_of_eq W108.size.symm)
  have N111 := Fr.snoc X108 N105 ga
  have K112 := K0.wr W108 (Or.inl (List.mem_of_getElem? (i := 0) rfl))
  have k113 : Rt p e below T108 (mkF m 21 #[sr a1, si 0, si 2, sd 0, se, si 0] []) s₁ m #[(.ref a1), (.int (0 : Int32)), (.int (2 : Int32)), (.double (0 : UInt64))] 6 := fun t k => k107 t (st108 t k)
  have k114 : Rt p e below T108 (mkF m 20 #[sr a1, si 0, si 2, sd 0, se, si 1] [vD 0, vI 1, vR a1]) s₁ m #[(.ref a1), (.int (0 : Int32)), (.int (2 : Int32)), (.double (0 : UInt64))] 6 := fun t k => k113 t (by
    show Sp p e below T108 (mkF m 21 #[sr a1, si 0, si 2, sd 0, se, si 0] []) _
    refine XS.iinc X108.here hx rfl (hb hby d7_21) rfl (l' := #[.val (.ref a1), .val (.int (0 : Int32)), .val (.int (2 : Int32)), .val (.double (0 : UInt64)), .second, .val (.int (1 : Int32))]) rfl ?_
    refine XS.goto X108.here hx rfl (pc0 := 24) (pc' := 10) rfl (hb hby d7_24) (by decide) (by decide) ?_
    refine XS.iload X108.here hx rfl (hb hby d7_10) rfl ?_
    refine XS.iloadN X108.here hx rfl (hb hby d7_12) rfl ?_
    show Sp p e below T108 (mkF m 13 #[sr a1, si 0, si 2, sd 0, se, si 1] [vI 2, vI 1]) _
    refine XS.icmpNo X108.here hx rfl (hb hby d7_13) rfl (tlt (by decide)).2.1 ?_
    refine XS.aloadN X108.here hx rfl (hb hby d7_16) rfl rfl ?_
    refine XS.iload X108.here hx rfl (hb hby d7_17) rfl ?_
    refine XS.dloadN X108.here hx rfl (hb hby d7_19) rfl ?_
    exact k)
  obtain ⟨c115, Ar115, Aq115, As115, An115, Ah115, Ag115⟩ := id V109
  have hin115 : ¬ ((1 : Int32) < 0 ∨ c115.slots.size ≤ ((1 : Int32)).toNatClampNeg) := inb_of As115 ⟨by decide, by decide⟩
  obtain ⟨T115, h115, X115, e115, W115, st115⟩ := stD X108 hx hZ e108 Ar115 (j := (1 : Int32)) hin115 (g := (mkF m 20 #[sr a1, si 0, si 2, sd 0, se, si 1] [vD 0, vI 1, vR a1])) rfl rfl (hb hby d7_20)
  have V116 := Arv.set Ar115 Aq115 As115 An115 Ah115 Ag115 rfl W115 1 rfl (Nat.le_of_ble_eq_true rfl)
  have Z117 : n0 ≤ h115.size := Nat.le_trans Z110 (Nat.le_of_eq W115.size.symm)
  have N118 := Fr.snoc X115 N111 ga
  have K119 := K112.wr W115 (Or.inl (List.mem_of_getElem? (i := 0) rfl))
  have k120 : Rt p e below T115 (mkF m 21 #[sr a1, si 0, si 2, sd 0, se, si 1] []) s₁ m #[(.ref a1), (.int (0 : Int32)), (.int (2 : Int32)), (.double (0 : UInt64))] 6 := fun t k => k114 t (st115 t k)
  have k121 : Rt p e below T115 (mkF m 27 #[sr a1, si 0, si 2, sd 0, se, si 2] []) s₁ m #[(.ref a1), (.int (0 : Int32)), (.int (2 : Int32)), (.double (0 : UInt64))] 6 := fun t k => k120 t (by
    show Sp p e below T115 (mkF m 21 #[sr a1, si 0, si 2, sd 0, se, si 1] []) _
    refine XS.iinc X115.here hx rfl (hb hby d7_21) rfl (l' := #[.val (.ref a1), .val (.int (0 : Int32)), .val (.int (2 : Int32)), .val (.double (0 : UInt64)), .second, .val (.int (2 : Int32))]) rfl ?_
    refine XS.goto X115.here hx rfl (pc0 := 24) (pc' := 10) rfl (hb hby d7_24) (by decide) (by decide) ?_
    refine XS.iload X115.here hx rfl (hb hby d7_10) rfl ?_
    refine XS.iloadN X115.here hx rfl (hb hby d7_12) rfl ?_
    show Sp p e below T115 (mkF m 13 #[sr a1, si 0, si 2, sd 0, se, si 2] [vI 2, vI 2]) _
    refine XS.icmpYes X115.here hx rfl (pc0 := 13) (pc' := 27) rfl (hb hby d7_13) rfl (flt (by decide)).2.1 (by decide) (by decide) ?_
    exact k)
  obtain ⟨fs, hr, hrun, hended, hW, hsame⟩ := X115.leave (v := none) (fun _ => rfl)
  refine ⟨_, _, k121 _ (X115.returnOut hx Bd.returns (hb hby d7_27) hr), hrun, hended, _, _, rfl, ?_, ⟨_, rfl⟩, hW, hsame.mono (by decide) (by decide)⟩
  show Q_fil0 Z a1 k1 u0 u1 u2 u3 h0 n0 _ T115.heap _
  rw [e115]
  exact ⟨rfl, N118, K119, V116⟩
def Q_rch1 (Z : State)  (h0 : Heap) (n0 : Nat) (v : Option Value) (h : Heap) (L : List Loc) : Prop := v = none ∧ Fr n0 L ∧ h = h0
set_option maxRecDepth 65536 in
set_option maxHeartbeats 40000000 in
theorem rch1 (l : Launch) (Z : State) (a0 : Array Value) (hw : ∀ d ∈ tables_1, d.before a0 Z = true) (ws : List Jvm.Cond)  (h0 : Heap) (n0 : Nat) (Z0 : n0 ≤ h0.size) :
    Met l (⟨"java/util/Arrays", "rangeCheck", "(III)V"⟩ : MethodName) jdk_65_method_30_code 3 none ws (rm 0 0 0 0) #[(.int (4 : Int32)), (.int (2 : Int32)), (.int (4 : Int32))] Z h0 (Q_rch1 Z  h0 n0) := by
  refine MetFree.of_bodySF (plainFor_of_name pn_java_2futil_2fArrays) hisR ?_
  intro p e s m args below meth c s₁ Bd hml0 hP hK
  obtain ⟨rfl, hZ, hh⟩ := hP
  have hx := Bd.exec
  have hby := Bd.bytes
  have hml : c.maxLocals = 3 := hml0
  have hown : s.vm.findClass "java/util/Arrays" = some m.cls := findClass_of_methodNamed Bd.named
  have hnm := (name_of_methodNamed Bd.named Bd.method).1
  have X0 : Stand p l e (rm 0 0 0 0) s m #[(.int (4 : Int32)), (.int (2 : Int32)), (.int (4 : Int32))] below meth c s₁ [] 0 0 := Stand.of_body Bd
  have e0 : s₁.heap = h0 := by rw [← hh, Bd.state]; rfl
  have N0 := Fr.nil n0
  have hww := fun (i : Nat) (c : Jvm.Cond) (h : tables_1[i]? = some c) => hw c (List.mem_of_getElem? h)
  have k0 : Rt p e below s₁ (mkF m 0 #[si 4, si 2, si 4] []) s₁ m #[(.int (4 : Int32)), (.int (2 : Int32)), (.int (4 : Int32))] 3 := fun t k => castTop (ef_8_III m (4 : Int32) (2 : Int32) (4 : Int32)) k
  have k101 : Rt p e below s₁ (mkF m 73 #[si 4, si 2, si 4] []) s₁ m #[(.int (4 : Int32)), (.int (2 : Int32)), (.int (4 : Int32))] 3 := fun t k => k0 t (by
    show Sp p e below s₁ (mkF m 0 #[si 4, si 2, si 4] []) _
    refine XS.iloadN X0.here hx rfl (hb hby d8_0) rfl ?_
    refine XS.iloadN X0.here hx rfl (hb hby d8_1) rfl ?_
    refine XS.icmpYes X0.here hx rfl (pc0 := 2) (pc' := 46) rfl (hb hby d8_2) rfl (flt (by decide)).2.2.2 (by decide) (by decide) ?_
    refine XS.iloadN X0.here hx rfl (hb hby d8_46) rfl ?_
    show Sp p e below s₁ (mkF m 47 #[si 4, si 2, si 4] [vI 2]) _
    refine XS.ifYes X0.here hx rfl (pc0 := 47) (pc' := 59) rfl (hb hby d8_47) rfl ((if0 _ _).trans (flt (by decide)).2.1) (by decide) (by decide) ?_
    refine XS.iloadN X0.here hx rfl (hb hby d8_59) rfl ?_
    refine XS.iloadN X0.here hx rfl (hb hby d8_60) rfl ?_
    refine XS.icmpYes X0.here hx rfl (pc0 := 61) (pc' := 73) rfl (hb hby d8_61) rfl (flt (by decide)).2.2.2 (by decide) (by decide) ?_
    exact k)
  obtain ⟨fs, hr, hrun, hended, hW, hsame⟩ := X0.leave (v := none) (fun _ => rfl)
  refine ⟨_, _, k101 _ (X0.returnOut hx Bd.returns (hb hby d8_73) hr), hrun, hended, _, _, rfl, ?_, ⟨_, rfl⟩, hW, hsame.mono (by decide) (by decide)⟩
  show Q_rch1 Z h0 n0 _ s₁.heap _
  rw [e0]
  exact ⟨rfl, N0, rfl⟩
def Q_fil1 (Z : State) (a1 : Addr) (k1 : ClassId) (u0 : UInt64) (u1 : UInt64) (u2 : UInt64) (u3 : UInt64) (h0 : Heap) (n0 : Nat) (v : Option Value) (h : Heap) (L : List Loc) : Prop := v = none ∧ Fr n0 L ∧ Keep h0 h [a1] ∧ Arv Z h a1 k1 .double (4 : Int32) [(.double u0), (.double u1), (.double (0 : UInt64)), (.double (0 : UInt64))] (.double (0 : UInt64))
set_option maxRecDepth 65536 in
set_option maxHeartbeats 40000000 in
theorem fil1 (l : Launch) (Z : State) (a0 : Array Value) (hw : ∀ d ∈ tables_1, d.before a0 Z = true) (ws : List Jvm.Cond) (a1 : Addr) (k1 : ClassId) (u0 : UInt64) (u1 : UInt64) (u2 : UInt64) (u3 : UInt64) (h0 : Heap) (n0 : Nat) (Z0 : n0 ≤ h0.size) (V1 : Arv Z h0 a1 k1 .double (4 : Int32) [(.double u0), (.double u1), (.double u2), (.double u3)] (.double (0 : UInt64))) (ga : n0 ≤ a1) :
    Met l (⟨"java/util/Arrays", "fill", "([DIID)V"⟩ : MethodName) jdk_65_method_114_code 6 none ws (rm 1 0 0 14) #[(.ref a1), (.int (2 : Int32)), (.int (4 : Int32)), (.double (0 : UInt64))] Z h0 (Q_fil1 Z a1 k1 u0 u1 u2 u3 h0 n0) := by
  refine MetFree.of_bodySF (plainFor_of_name pn_java_2futil_2fArrays) hisR ?_
  intro p e s m args below meth c s₁ Bd hml0 hP hK
  obtain ⟨rfl, hZ, hh⟩ := hP
  have hx := Bd.exec
  have hby := Bd.bytes
  have hml : c.maxLocals = 6 := hml0
  have hown : s.vm.findClass "java/util/Arrays" = some m.cls := findClass_of_methodNamed Bd.named
  have hnm := (name_of_methodNamed Bd.named Bd.method).1
  have X0 : Stand p l e (rm 1 0 0 14) s m #[(.ref a1), (.int (2 : Int32)), (.int (4 : Int32)), (.double (0 : UInt64))] below meth c s₁ [] 0 0 := Stand.of_body Bd
  have e0 : s₁.heap = h0 := by rw [← hh, Bd.state]; rfl
  have N0 := Fr.nil n0
  have hww := fun (i : Nat) (c : Jvm.Cond) (h : tables_1[i]? = some c) => hw c (List.mem_of_getElem? h)
  have k0 : Rt p e below s₁ (mkF m 0 #[sr a1, si 2, si 4, sd 0, se, un] []) s₁ m #[(.ref a1), (.int (2 : Int32)), (.int (4 : Int32)), (.double (0 : UInt64))] 6 := fun t k => castTop (ef_7_RIID m a1 (2 : Int32) (4 : Int32) (0 : UInt64)) k
  have K0 := Keep.refl h0 [a1]
  have k101 : Rt p e below s₁ (mkF m 1 #[sr a1, si 2, si 4, sd 0, se, un] [vR a1]) s₁ m #[(.ref a1), (.int (2 : Int32)), (.int (4 : Int32)), (.double (0 : UInt64))] 6 := fun t k => k0 t (by
    show Sp p e below s₁ (mkF m 0 #[sr a1, si 2, si 4, sd 0, se, un] []) _
    refine XS.aloadN X0.here hx rfl (hb hby d7_0) rfl rfl ?_
    exact k)
  obtain ⟨c102, Ar102, -, As102, An102, -, -⟩ := id V1
  have k103 : Rt p e below s₁ (mkF m 4 #[sr a1, si 2, si 4, sd 0, se, un] [vI 4, vI 2, vI 4]) s₁ m #[(.ref a1), (.int (2 : Int32)), (.int (4 : Int32)), (.double (0 : UInt64))] 6 := fun t k => k101 t (by
    show Sp p e below s₁ (mkF m 1 #[sr a1, si 2, si 4, sd 0, se, un] [vR a1]) _
    refine X0.arraylength hx (by rw [e0]; exact Ar102.1) (State.isArrayOf_alike hZ.alike Ar102.2.1) (g := (mkF m 1 #[sr a1, si 2, si 4, sd 0, se, un] [vR a1])) rfl rfl (hb hby d7_1) _ ?_
    rw [len_of As102 An102]
    refine XS.iloadN X0.here hx rfl (hb hby d7_2) rfl ?_
    refine XS.iloadN X0.here hx rfl (hb hby d7_3) rfl ?_
    exact k)
  obtain ⟨_, _, ⟨T104, L104, k104, n104⟩, -, X104, ⟨Lc104, hQ104, l104, y104, z104⟩, st104⟩ := Jvm.LawKit.callS X0 hx (y := (⟨"java/util/Arrays", "rangeCheck", "(III)V"⟩ : MethodName)) hown (mvT hZ (hww 74 _ rfl)) (mvT hZ (hww 75 _ rfl)) (mvT hZ (hww 72 _ rfl)) (mvT hZ (hww 76 _ rfl)) (by decide) (backOf (W := 0) (rch1 l Z a0 hw []  h0 n0 Z0 ) hZ (hww 76 _ rfl) (hww 72 _ rfl) (by decide) (by decide)) (g := (mkF m 4 #[sr a1, si 2, si 4, sd 0, se, un] [vI 4, vI 2, vI 4])) rfl (by rw [hml]; rfl) (argsL := [(.int (4 : Int32)), (.int (2 : Int32)), (.int (4 : Int32))]) (rest := []) (lenOf pd__28III_29V rfl) rfl (by show 2 * 0 + _ ≤ _; exact Nat.le_of_eq rfl) (hb hby d7_4) (fun _ _ => ⟨rfl, e0, (by decide : 0 + 0 ≤ _), (by decide : 0 + 0 ≤ _)⟩)
  dsimp only [Pt.U, Pt.locs, Pt.cells, Pt.slots] at X104 l104 y104 z104 st104 hQ104
  subst l104 y104 z104
  obtain ⟨rfl, N104q, e104⟩ := hQ104
  have N105 := Fr.app N0 N104q
  have k106 : Rt p e below T104 (mkF m 7 #[sr a1, si 2, si 4, sd 0, se, un] []) s₁ m #[(.ref a1), (.int (2 : Int32)), (.int (4 : Int32)), (.double (0 : UInt64))] 6 := fun t k => k103 t (st104 t k)
  have k107 : Rt p e below T104 (mkF m 20 #[sr a1, si 2, si 4, sd 0, se, si 2] [vD 0, vI 2, vR a1]) s₁ m #[(.ref a1), (.int (2 : Int32)), (.int (4 : Int32)), (.double (0 : UInt64))] 6 := fun t k => k106 t (by
    show Sp p e below T104 (mkF m 7 #[sr a1, si 2, si 4, sd 0, se, un] []) _
    refine XS.iloadN X104.here hx rfl (hb hby d7_7) rfl ?_
    refine XS.istore X104.here hx rfl (hb hby d7_8) rfl (l' := #[.val (.ref a1), .val (.int (2 : Int32)), .val (.int (4 : Int32)), .val (.double (0 : UInt64)), .second, .val (.int (2 : Int32))]) rfl ?_
    refine XS.iload X104.here hx rfl (hb hby d7_10) rfl ?_
    refine XS.iloadN X104.here hx rfl (hb hby d7_12) rfl ?_
    show Sp p e below T104 (mkF m 13 #[sr a1, si 2, si 4, sd 0, se, si 2] [vI 4, vI 2]) _
    refine XS.icmpNo X104.here hx rfl (hb hby d7_13) rfl (tlt (by decide)).2.1 ?_
    refine XS.aloadN X104.here hx rfl (hb hby d7_16) rfl rfl ?_
    refine XS.iload X104.here hx rfl (hb hby d7_17) rfl ?_
    refine XS.dloadN X104.here hx rfl (hb hby d7_19) rfl ?_
    exact k)
  obtain ⟨c108, Ar108, Aq108, As108, An108, Ah108, Ag108⟩ := id V1
  have hin108 : ¬ ((2 : Int32) < 0 ∨ c108.slots.size ≤ ((2 : Int32)).toNatClampNeg) := inb_of As108 ⟨by decide, by decide⟩
  obtain ⟨T108, h108, X108, e108, W108, st108⟩ := stD X104 hx hZ e104 Ar108 (j := (2 : Int32)) hin108 (g := (mkF m 20 #[sr a1, si 2, si 4, sd 0, se, si 2] [vD 0, vI 2, vR a1])) rfl rfl (hb hby d7_20)
  have V109 := Arv.set Ar108 Aq108 As108 An108 Ah108 Ag108 rfl W108 2 rfl (Nat.le_of_ble_eq_true rfl)
  have Z110 : n0 ≤ h108.size := Nat.le_trans Z0 (Nat.le_of_eq W108.size.symm)
  have N111 := Fr.snoc X108 N105 ga
  have K112 := K0.wr W108 (Or.inl (List.mem_of_getElem? (i := 0) rfl))
  have k113 : Rt p e below T108 (mkF m 21 #[sr a1, si 2, si 4, sd 0, se, si 2] []) s₁ m #[(.ref a1), (.int (2 : Int32)), (.int (4 : Int32)), (.double (0 : UInt64))] 6 := fun t k => k107 t (st108 t k)
  have k114 : Rt p e below T108 (mkF m 20 #[sr a1, si 2, si 4, sd 0, se, si 3] [vD 0, vI 3, vR a1]) s₁ m #[(.ref a1), (.int (2 : Int32)), (.int (4 : Int32)), (.double (0 : UInt64))] 6 := fun t k => k113 t (by
    show Sp p e below T108 (mkF m 21 #[sr a1, si 2, si 4, sd 0, se, si 2] []) _
    refine XS.iinc X108.here hx rfl (hb hby d7_21) rfl (l' := #[.val (.ref a1), .val (.int (2 : Int32)), .val (.int (4 : Int32)), .val (.double (0 : UInt64)), .second, .val (.int (3 : Int32))]) rfl ?_
    refine XS.goto X108.here hx rfl (pc0 := 24) (pc' := 10) rfl (hb hby d7_24) (by decide) (by decide) ?_
    refine XS.iload X108.here hx rfl (hb hby d7_10) rfl ?_
    refine XS.iloadN X108.here hx rfl (hb hby d7_12) rfl ?_
    show Sp p e below T108 (mkF m 13 #[sr a1, si 2, si 4, sd 0, se, si 3] [vI 4, vI 3]) _
    refine XS.icmpNo X108.here hx rfl (hb hby d7_13) rfl (tlt (by decide)).2.1 ?_
    refine XS.aloadN X108.here hx rfl (hb hby d7_16) rfl rfl ?_
    refine XS.iload X108.here hx rfl (hb hby d7_17) rfl ?_
    refine XS.dloadN X108.here hx rfl (hb hby d7_19) rfl ?_
    exact k)
  obtain ⟨c115, Ar115, Aq115, As115, An115, Ah115, Ag115⟩ := id V109
  have hin115 : ¬ ((3 : Int32) < 0 ∨ c115.slots.size ≤ ((3 : Int32)).toNatClampNeg) := inb_of As115 ⟨by decide, by decide⟩
  obtain ⟨T115, h115, X115, e115, W115, st115⟩ := stD X108 hx hZ e108 Ar115 (j := (3 : Int32)) hin115 (g := (mkF m 20 #[sr a1, si 2, si 4, sd 0, se, si 3] [vD 0, vI 3, vR a1])) rfl rfl (hb hby d7_20)
  have V116 := Arv.set Ar115 Aq115 As115 An115 Ah115 Ag115 rfl W115 3 rfl (Nat.le_of_ble_eq_true rfl)
  have Z117 : n0 ≤ h115.size := Nat.le_trans Z110 (Nat.le_of_eq W115.size.symm)
  have N118 := Fr.snoc X115 N111 ga
  have K119 := K112.wr W115 (Or.inl (List.mem_of_getElem? (i := 0) rfl))
  have k120 : Rt p e below T115 (mkF m 21 #[sr a1, si 2, si 4, sd 0, se, si 3] []) s₁ m #[(.ref a1), (.int (2 : Int32)), (.int (4 : Int32)), (.double (0 : UInt64))] 6 := fun t k => k114 t (st115 t k)
  have k121 : Rt p e below T115 (mkF m 27 #[sr a1, si 2, si 4, sd 0, se, si 4] []) s₁ m #[(.ref a1), (.int (2 : Int32)), (.int (4 : Int32)), (.double (0 : UInt64))] 6 := fun t k => k120 t (by
    show Sp p e below T115 (mkF m 21 #[sr a1, si 2, si 4, sd 0, se, si 3] []) _
    refine XS.iinc X115.here hx rfl (hb hby d7_21) rfl (l' := #[.val (.ref a1), .val (.int (2 : Int32)), .val (.int (4 : Int32)), .val (.double (0 : UInt64)), .second, .val (.int (4 : Int32))]) rfl ?_
    refine XS.goto X115.here hx rfl (pc0 := 24) (pc' := 10) rfl (hb hby d7_24) (by decide) (by decide) ?_
    refine XS.iload X115.here hx rfl (hb hby d7_10) rfl ?_
    refine XS.iloadN X115.here hx rfl (hb hby d7_12) rfl ?_
    show Sp p e below T115 (mkF m 13 #[sr a1, si 2, si 4, sd 0, se, si 4] [vI 4, vI 4]) _
    refine XS.icmpYes X115.here hx rfl (pc0 := 13) (pc' := 27) rfl (hb hby d7_13) rfl (flt (by decide)).2.1 (by decide) (by decide) ?_
    exact k)
  obtain ⟨fs, hr, hrun, hended, hW, hsame⟩ := X115.leave (v := none) (fun _ => rfl)
  refine ⟨_, _, k121 _ (X115.returnOut hx Bd.returns (hb hby d7_27) hr), hrun, hended, _, _, rfl, ?_, ⟨_, rfl⟩, hW, hsame.mono (by decide) (by decide)⟩
  show Q_fil1 Z a1 k1 u0 u1 u2 u3 h0 n0 _ T115.heap _
  rw [e115]
  exact ⟨rfl, N118, K119, V116⟩
theorem ef_1_RII (m : MethodId) (x0 : Addr) (x1 : Int32) (x2 : Int32) : entryFrame m #[(.ref x0), (.int x1), (.int x2)] 3 = mkF m 0 #[.val (.ref x0), .val (.int x1), .val (.int x2)] [] := by first | (simp [entryFrame, mkF, argsToLocals, Value.category]; done) | rfl
theorem d1_0 : decode prog_40_method_1_code 0 = .ok (.aload_n 0, 1) := by decide +kernel
theorem d1_1 : decode prog_40_method_1_code 1 = .ok (.invokespecial 1, 3) := by decide +kernel
theorem d1_4 : decode prog_40_method_1_code 4 = .ok (.aload_n 0, 1) := by decide +kernel
theorem d1_5 : decode prog_40_method_1_code 5 = .ok (.iload_n 1, 1) := by decide +kernel
theorem d1_6 : decode prog_40_method_1_code 6 = .ok (.iload_n 2, 1) := by decide +kernel
theorem d1_7 : decode prog_40_method_1_code 7 = .ok (.imul, 1) := by decide +kernel
theorem d1_8 : decode prog_40_method_1_code 8 = .ok (.newarray .double, 2) := by decide +kernel
theorem d1_10 : decode prog_40_method_1_code 10 = .ok (.putfield 7, 3) := by decide +kernel
theorem d1_13 : decode prog_40_method_1_code 13 = .ok (.aload_n 0, 1) := by decide +kernel
theorem d1_14 : decode prog_40_method_1_code 14 = .ok (.iload_n 1, 1) := by decide +kernel
theorem d1_15 : decode prog_40_method_1_code 15 = .ok (.iload_n 2, 1) := by decide +kernel
theorem d1_16 : decode prog_40_method_1_code 16 = .ok (.imul, 1) := by decide +kernel
theorem d1_17 : decode prog_40_method_1_code 17 = .ok (.newarray .double, 2) := by decide +kernel
theorem d1_19 : decode prog_40_method_1_code 19 = .ok (.putfield 13, 3) := by decide +kernel
theorem d1_22 : decode prog_40_method_1_code 22 = .ok (.aload_n 0, 1) := by decide +kernel
theorem d1_23 : decode prog_40_method_1_code 23 = .ok (.iload_n 1, 1) := by decide +kernel
theorem d1_24 : decode prog_40_method_1_code 24 = .ok (.iload_n 2, 1) := by decide +kernel
theorem d1_25 : decode prog_40_method_1_code 25 = .ok (.imul, 1) := by decide +kernel
theorem d1_26 : decode prog_40_method_1_code 26 = .ok (.newarray .double, 2) := by decide +kernel
theorem d1_28 : decode prog_40_method_1_code 28 = .ok (.putfield 16, 3) := by decide +kernel
theorem d1_31 : decode prog_40_method_1_code 31 = .ok (.aload_n 0, 1) := by decide +kernel
theorem d1_32 : decode prog_40_method_1_code 32 = .ok (.iload_n 2, 1) := by decide +kernel
theorem d1_33 : decode prog_40_method_1_code 33 = .ok (.newarray .double, 2) := by decide +kernel
theorem d1_35 : decode prog_40_method_1_code 35 = .ok (.putfield 19, 3) := by decide +kernel
theorem d1_38 : decode prog_40_method_1_code 38 = .ok (.aload_n 0, 1) := by decide +kernel
theorem d1_39 : decode prog_40_method_1_code 39 = .ok (.iload_n 2, 1) := by decide +kernel
theorem d1_40 : decode prog_40_method_1_code 40 = .ok (.newarray .double, 2) := by decide +kernel
theorem d1_42 : decode prog_40_method_1_code 42 = .ok (.putfield 22, 3) := by decide +kernel
theorem d1_45 : decode prog_40_method_1_code 45 = .ok (.aload_n 0, 1) := by decide +kernel
theorem d1_46 : decode prog_40_method_1_code 46 = .ok (.iload_n 2, 1) := by decide +kernel
theorem d1_47 : decode prog_40_method_1_code 47 = .ok (.newarray .double, 2) := by decide +kernel
theorem d1_49 : decode prog_40_method_1_code 49 = .ok (.putfield 25, 3) := by decide +kernel
theorem d1_52 : decode prog_40_method_1_code 52 = .ok (.aload_n 0, 1) := by decide +kernel
theorem d1_53 : decode prog_40_method_1_code 53 = .ok (.iload_n 2, 1) := by decide +kernel
theorem d1_54 : decode prog_40_method_1_code 54 = .ok (.newarray .double, 2) := by decide +kernel
theorem d1_56 : decode prog_40_method_1_code 56 = .ok (.putfield 28, 3) := by decide +kernel
theorem d1_59 : decode prog_40_method_1_code 59 = .ok (.aload_n 0, 1) := by decide +kernel
theorem d1_60 : decode prog_40_method_1_code 60 = .ok (.iload_n 2, 1) := by decide +kernel
theorem d1_61 : decode prog_40_method_1_code 61 = .ok (.newarray .double, 2) := by decide +kernel
theorem d1_63 : decode prog_40_method_1_code 63 = .ok (.putfield 31, 3) := by decide +kernel
theorem d1_66 : decode prog_40_method_1_code 66 = .ok (.aload_n 0, 1) := by decide +kernel
theorem d1_67 : decode prog_40_method_1_code 67 = .ok (.iload_n 2, 1) := by decide +kernel
theorem d1_68 : decode prog_40_method_1_code 68 = .ok (.newarray .boolean, 2) := by decide +kernel
theorem d1_70 : decode prog_40_method_1_code 70 = .ok (.putfield 34, 3) := by decide +kernel
theorem d1_73 : decode prog_40_method_1_code 73 = .ok (.aload_n 0, 1) := by decide +kernel
theorem d1_74 : decode prog_40_method_1_code 74 = .ok (.iload_n 1, 1) := by decide +kernel
theorem d1_75 : decode prog_40_method_1_code 75 = .ok (.newarray .boolean, 2) := by decide +kernel
theorem d1_77 : decode prog_40_method_1_code 77 = .ok (.putfield 38, 3) := by decide +kernel
theorem d1_80 : decode prog_40_method_1_code 80 = .ok (.aload_n 0, 1) := by decide +kernel
theorem d1_81 : decode prog_40_method_1_code 81 = .ok (.iload_n 1, 1) := by decide +kernel
theorem d1_82 : decode prog_40_method_1_code 82 = .ok (.iload_n 2, 1) := by decide +kernel
theorem d1_83 : decode prog_40_method_1_code 83 = .ok (.imul, 1) := by decide +kernel
theorem d1_84 : decode prog_40_method_1_code 84 = .ok (.newarray .boolean, 2) := by decide +kernel
theorem d1_86 : decode prog_40_method_1_code 86 = .ok (.putfield 41, 3) := by decide +kernel
theorem d1_89 : decode prog_40_method_1_code 89 = .ok (.aload_n 0, 1) := by decide +kernel
theorem d1_90 : decode prog_40_method_1_code 90 = .ok (.iload_n 1, 1) := by decide +kernel
theorem d1_91 : decode prog_40_method_1_code 91 = .ok (.newarray .int, 2) := by decide +kernel
theorem d1_93 : decode prog_40_method_1_code 93 = .ok (.putfield 44, 3) := by decide +kernel
theorem d1_96 : decode prog_40_method_1_code 96 = .ok (.aload_n 0, 1) := by decide +kernel
theorem d1_97 : decode prog_40_method_1_code 97 = .ok (.iload_n 1, 1) := by decide +kernel
theorem d1_98 : decode prog_40_method_1_code 98 = .ok (.newarray .boolean, 2) := by decide +kernel
theorem d1_100 : decode prog_40_method_1_code 100 = .ok (.putfield 48, 3) := by decide +kernel
theorem d1_103 : decode prog_40_method_1_code 103 = .ok (.return_, 1) := by decide +kernel
def Q_ini (Z : State) (ob : Addr) (h0 : Heap) (n0 : Nat) (v : Option Value) (h : Heap) (L : List Loc) : Prop := ∃ (B : Nat → Addr) (K : Nat → ClassId), v = none ∧ Fr n0 L ∧ n0 ≤ h.size ∧ Dis ob B ∧ (∀ i, i < 13 → n0 ≤ B i) ∧ FB Z h ob [(.ref (B 0)), (.ref (B 1)), (.ref (B 2)), (.ref (B 3)), (.ref (B 4)), (.ref (B 5)), (.ref (B 6)), (.ref (B 7)), (.ref (B 8)), (.ref (B 9)), (.ref (B 10)), (.ref (B 11)), (.ref (B 12)), (.int (0 : Int32)), (.int (0 : Int32)), (.int (0 : Int32)), (.int (0 : Int32))] ∧ Arv Z h (B 0) (K 0) .double (4 : Int32) [(.double (0 : UInt64)), (.double (0 : UInt64)), (.double (0 : UInt64)), (.double (0 : UInt64))] (.double (0 : UInt64)) ∧ Arv Z h (B 1) (K 1) .double (4 : Int32) [(.double (0 : UInt64)), (.double (0 : UInt64)), (.double (0 : UInt64)), (.double (0 : UInt64))] (.double (0 : UInt64)) ∧ Arv Z h (B 2) (K 2) .double (4 : Int32) [(.double (0 : UInt64)), (.double (0 : UInt64)), (.double (0 : UInt64)), (.double (0 : UInt64))] (.double (0 : UInt64)) ∧ Arv Z h (B 3) (K 3) .double (2 : Int32) [(.double (0 : UInt64)), (.double (0 : UInt64))] (.double (0 : UInt64)) ∧ Arv Z h (B 4) (K 4) .double (2 : Int32) [(.double (0 : UInt64)), (.double (0 : UInt64))] (.double (0 : UInt64)) ∧ Arv Z h (B 5) (K 5) .double (2 : Int32) [(.double (0 : UInt64)), (.double (0 : UInt64))] (.double (0 : UInt64)) ∧ Arv Z h (B 6) (K 6) .double (2 : Int32) [(.double (0 : UInt64)), (.double (0 : UInt64))] (.double (0 : UInt64)) ∧ Arv Z h (B 7) (K 7) .double (2 : Int32) [(.double (0 : UInt64)), (.double (0 : UInt64))] (.double (0 : UInt64)) ∧ Arv Z h (B 8) (K 8) .boolean (2 : Int32) [(.int (0 : Int32)), (.int (0 : Int32))] (.int (0 : Int32)) ∧ Arv Z h (B 9) (K 9) .boolean (2 : Int32) [(.int (0 : Int32)), (.int (0 : Int32))] (.int (0 : Int32)) ∧ Arv Z h (B 10) (K 10) .boolean (4 : Int32) [(.int (0 : Int32)), (.int (0 : Int32)), (.int (0 : Int32)), (.int (0 : Int32))] (.int (0 : Int32)) ∧ Arv Z h (B 11) (K 11) .int (2 : Int32) [(.int (0 : Int32)), (.int (0 : Int32))] (.int (0 : Int32)) ∧ Arv Z h (B 12) (K 12) .boolean (2 : Int32) [(.int (0 : Int32)), (.int (0 : Int32))] (.int (0 : Int32))
set_option maxRecDepth 65536 in
set_option maxHeartbeats 40000000 in
theorem ini (l : Launch) (Z : State) (a0 : Array Value) (hw : ∀ d ∈ tables_1, d.before a0 Z = true) (ws : List Jvm.Cond) (ob : Addr) (h0 : Heap) (n0 : Nat) (Z0 : n0 ≤ h0.size) (FB0 : FB Z h0 ob [.null, .null, .null, .null, .null, .null, .null, .null, .null, .null, .null, .null, .null, (.int (0 : Int32)), (.int (0 : Int32)), (.int (0 : Int32)), (.int (0 : Int32))]) (gob : n0 ≤ ob) :
    Met l (⟨"com/example/istra/istra/engine/NodeModel", "<init>", "(II)V"⟩ : MethodName) prog_40_method_1_code 3 none ws (rm 1 13 34 12) #[(.ref ob), (.int (2 : Int32)), (.int (2 : Int32))] Z h0 (Q_ini Z ob h0 n0) := by
  refine MetFree.of_bodySF (plainFor_of_name pn_com_2fexample_2fistra_2fistra_2fengine_2fNodeModel) hisR ?_
  intro p e s m args below meth c s₁ Bd hml0 hP hK
  obtain ⟨rfl, hZ, hh⟩ := hP
  have hx := Bd.exec
  have hby := Bd.bytes
  have hml : c.maxLocals = 3 := hml0
  have hown : s.vm.findClass "com/example/istra/istra/engine/NodeModel" = some m.cls := findClass_of_methodNamed Bd.named
  have hnm := (name_of_methodNamed Bd.named Bd.method).1
  have X0 : Stand p l e (rm 1 13 34 12) s m #[(.ref ob), (.int (2 : Int32)), (.int (2 : Int32))] below meth c s₁ [] 0 0 := Stand.of_body Bd
  have e0 : s₁.heap = h0 := by rw [← hh, Bd.state]; rfl
  have N0 := Fr.nil n0
  have hww := fun (i : Nat) (c : Jvm.Cond) (h : tables_1[i]? = some c) => hw c (List.mem_of_getElem? h)
  have k0 : Rt p e below s₁ (mkF m 0 #[sr ob, si 2, si 2] []) s₁ m #[(.ref ob), (.int (2 : Int32)), (.int (2 : Int32))] 3 := fun t k => castTop (ef_1_RII m ob (2 : Int32) (2 : Int32)) k
  have H : ∀ {pc r}, decode prog_40_method_1_code pc = r → decode c.code pc = r := fun d => hb hby d
  have k101 := f_alN X0 hx k0 (H d1_0) rfl
  obtain ⟨T102, X102, e102, st102⟩ := initO X0 hx hZ hown (hww 6 _ rfl) (hww 7 _ rfl) (hww 8 _ rfl) e0 (g := (mkF m 1 #[sr ob, si 2, si 2] [vR ob])) rfl (by rw [hml]; rfl) rfl (H d1_1) (by decide) (W := 0) (by show 2 * 0 + _ ≤ _; exact Nat.le_of_eq rfl) (by decide)
  have k103 : Rt p e below T102 (mkF m 4 #[sr ob, si 2, si 2] []) s₁ m #[(.ref ob), (.int (2 : Int32)), (.int (2 : Int32))] 3 := fun t k => k101 t (st102 t k)
  have k104 := f_alN X102 hx k103 (H d1_4) rfl
  have k105 := f_ilN X102 hx k104 (H d1_5) rfl
  have k106 := f_ilN X102 hx k105 (H d1_6) rfl
  have k107 := f_imul X102 hx k106 (H d1_7) (r := 4) (by decide)
  obtain ⟨T108, h108, k108, X108, e108, E108, A108, st108⟩ := newP X102 hx hZ (hww 9 _ rfl) e102 (g := (mkF m 8 #[sr ob, si 2, si 2] [vI 4, vR ob])) rfl (H d1_8) rfl (by decide) (cap := 4) (by decide) (by decide) (by decide) (by decide)
  obtain ⟨b108, g108⟩ : ∃ z, z = h0.size := ⟨_, rfl⟩
  rw [← g108] at A108 st108
  have lt109 : ob < b108 := Nat.lt_of_lt_of_le FB0.1.lt (Nat.le_of_eq g108.symm)
  have n110 : ob ≠ b108 := Nat.ne_of_lt (Nat.lt_of_lt_of_le FB0.1.lt (Nat.le_of_eq g108.symm))
  have g111 : n0 ≤ b108 := Nat.le_trans Z0 (Nat.le_of_eq g108.symm)
  have Z112 : n0 ≤ h108.size := Nat.le_trans Z0 E108.1
  have FB113 := fb_ext FB0 E108
  have V114 : Arv Z h108 b108 k108 .double (4 : Int32) [(.double (0 : UInt64)), (.double (0 : UInt64)), (.double (0 : UInt64)), (.double (0 : UInt64))] (.double (0 : UInt64)) := (Arv.new A108 (by decide)).pad (pad_rep [] (.double (0 : UInt64)) 4)
  have k115 : Rt p e below T108 (mkF m 10 #[sr ob, si 2, si 2] [vR b108, vR ob]) s₁ m #[(.ref ob), (.int (2 : Int32)), (.int (2 : Int32))] 3 := fun t k => k107 t (st108 t k)
  obtain ⟨T116, h116, X116, e116, W116, st116⟩ := putF X108 hx hZ hown (host := "") (Or.inl (hww 10 _ rfl)) Via.refl e108 (fbg FB113 0 (v := .null) (by decide) rfl rfl rfl) FB113.1 (Or.inr ⟨(hww 11 _ rfl), rfl, hnm⟩) (hww 1 _ rfl) (ty := (.array .double)) (by decide) rfl rfl (g := (mkF m 10 #[sr ob, si 2, si 2] [vR b108, vR ob])) rfl rfl (H d1_10)
  have F117 := (fbg FB113 0 (v := .null) (by decide) rfl rfl rfl).same W116
  have F118 := V114.other W116 (Ne.symm n110)
  have Z119 : n0 ≤ h116.size := Nat.le_trans Z112 (Nat.le_of_eq W116.size.symm)
  have N120 := Fr.snoc X116 N0 gob
  have FB121 : FB Z h116 ob [(.ref b108), .null, .null, .null, .null, .null, .null, .null, .null, .null, .null, .null, .null, (.int (0 : Int32)), (.int (0 : Int32)), (.int (0 : Int32)), (.int (0 : Int32))] := fb_set hw FB113 0 (by decide) W116 rfl rfl
  have k122 : Rt p e below T116 (mkF m 13 #[sr ob, si 2, si 2] []) s₁ m #[(.ref ob), (.int (2 : Int32)), (.int (2 : Int32))] 3 := fun t k => k115 t (st116 t k)
  have k123 := f_alN X116 hx k122 (H d1_13) rfl
  have k124 := f_ilN X116 hx k123 (H d1_14) rfl
  have k125 := f_ilN X116 hx k124 (H d1_15) rfl
  have k126 := f_imul X116 hx k125 (H d1_16) (r := 4) (by decide)
  obtain ⟨T127, h127, k127, X127, e127, E127, A127, st127⟩ := newP X116 hx hZ (hww 9 _ rfl) e116 (g := (mkF m 17 #[sr ob, si 2, si 2] [vI 4, vR ob])) rfl (H d1_17) rfl (by decide) (cap := 4) (by decide) (by decide) (by decide) (by decide)
  obtain ⟨b127, g127⟩ : ∃ z, z = h116.size := ⟨_, rfl⟩
  rw [← g127] at A127 st127
  have lt128 : b108 < b127 := Nat.lt_of_lt_of_le F118.lt (Nat.le_of_eq g127.symm)
  have n129 : ob ≠ b127 := Nat.ne_of_lt (Nat.lt_of_lt_of_le FB121.1.lt (Nat.le_of_eq g127.symm))
  have g130 : n0 ≤ b127 := Nat.le_trans Z119 (Nat.le_of_eq g127.symm)
  have F131 := F118.ext E127
  have Z132 : n0 ≤ h127.size := Nat.le_trans Z119 E127.1
  have FB133 := fb_ext FB121 E127
  have V134 : Arv Z h127 b127 k127 .double (4 : Int32) [(.double (0 : UInt64)), (.double (0 : UInt64)), (.double (0 : UInt64)), (.double (0 : UInt64))] (.double (0 : UInt64)) := (Arv.new A127 (by decide)).pad (pad_rep [] (.double (0 : UInt64)) 4)
  have k135 : Rt p e below T127 (mkF m 19 #[sr ob, si 2, si 2] [vR b127, vR ob]) s₁ m #[(.ref ob), (.int (2 : Int32)), (.int (2 : Int32))] 3 := fun t k => k126 t (st127 t k)
  obtain ⟨T136, h136, X136, e136, W136, st136⟩ := putF X127 hx hZ hown (host := "") (Or.inl (hww 12 _ rfl)) Via.refl e127 (fbg FB133 1 (v := .null) (by decide) rfl rfl rfl) FB133.1 (Or.inr ⟨(hww 13 _ rfl), rfl, hnm⟩) (hww 1 _ rfl) (ty := (.array .double)) (by decide) rfl rfl (g := (mkF m 19 #[sr ob, si 2, si 2] [vR b127, vR ob])) rfl rfl (H d1_19)
  have F137 := (fbg FB133 1 (v := .null) (by decide) rfl rfl rfl).same W136
  have F138 := F131.other W136 (Ne.symm n110)
  have F139 := V134.other W136 (Ne.symm n129)
  have Z140 : n0 ≤ h136.size := Nat.le_trans Z132 (Nat.le_of_eq W136.size.symm)
  have N141 := Fr.snoc X136 N120 gob
  have FB142 : FB Z h136 ob [(.ref b108), (.ref b127), .null, .null, .null, .null, .null, .null, .null, .null, .null, .null, .null, (.int (0 : Int32)), (.int (0 : Int32)), (.int (0 : Int32)), (.int (0 : Int32))] := fb_set hw FB133 1 (by decide) W136 rfl rfl
  have k143 : Rt p e below T136 (mkF m 22 #[sr ob, si 2, si 2] []) s₁ m #[(.ref ob), (.int (2 : Int32)), (.int (2 : Int32))] 3 := fun t k => k135 t (st136 t k)
  have k144 := f_alN X136 hx k143 (H d1_22) rfl
  have k145 := f_ilN X136 hx k144 (H d1_23) rfl
  have k146 := f_ilN X136 hx k145 (H d1_24) rfl
  have k147 := f_imul X136 hx k146 (H d1_25) (r := 4) (by decide)
  obtain ⟨T148, h148, k148, X148, e148, E148, A148, st148⟩ := newP X136 hx hZ (hww 9 _ rfl) e136 (g := (mkF m 26 #[sr ob, si 2, si 2] [vI 4, vR ob])) rfl (H d1_26) rfl (by decide) (cap := 4) (by decide) (by decide) (by decide) (by decide)
  obtain ⟨b148, g148⟩ : ∃ z, z = h136.size := ⟨_, rfl⟩
  rw [← g148] at A148 st148
  have lt149 : b127 < b148 := Nat.lt_of_lt_of_le F139.lt (Nat.le_of_eq g148.symm)
  have n150 : ob ≠ b148 := Nat.ne_of_lt (Nat.lt_of_lt_of_le FB142.1.lt (Nat.le_of_eq g148.symm))
  have g151 : n0 ≤ b148 := Nat.le_trans Z140 (Nat.le_of_eq g148.symm)
  have F152 := F138.ext E148
  have F153 := F139.ext E148
  have Z154 : n0 ≤ h148.size := Nat.le_trans Z140 E148.1
  have FB155 := fb_ext FB142 E148
  have V156 : Arv Z h148 b148 k148 .double (4 : Int32) [(.double (0 : UInt64)), (.double (0 : UInt64)), (.double (0 : UInt64)), (.double (0 : UInt64))] (.double (0 : UInt64)) := (Arv.new A148 (by decide)).pad (pad_rep [] (.double (0 : UInt64)) 4)
  have k157 : Rt p e below T148 (mkF m 28 #[sr ob, si 2, si 2] [vR b148, vR ob]) s₁ m #[(.ref ob), (.int (2 : Int32)), (.int (2 : Int32))] 3 := fun t k => k147 t (st148 t k)
  obtain ⟨T158, h158, X158, e158, W158, st158⟩ := putF X148 hx hZ hown (host := "") (Or.inl (hww 14 _ rfl)) Via.refl e148 (fbg FB155 2 (v := .null) (by decide) rfl rfl rfl) FB155.1 (Or.inr ⟨(hww 15 _ rfl), rfl, hnm⟩) (hww 1 _ rfl) (ty := (.array .double)) (by decide) rfl rfl (g := (mkF m 28 #[sr ob, si 2, si 2] [vR b148, vR ob])) rfl rfl (H d1_28)
  have F159 := (fbg FB155 2 (v := .null) (by decide) rfl rfl rfl).same W158
  have F160 := F152.other W158 (Ne.symm n110)
  have F161 := F153.other W158 (Ne.symm n129)
  have F162 := V156.other W158 (Ne.symm n150)
  have Z163 : n0 ≤ h158.size := Nat.le_trans Z154 (Nat.le_of_eq W158.size.symm)
  have N164 := Fr.snoc X158 N141 gob
  have FB165 : FB Z h158 ob [(.ref b108), (.ref b127), (.ref b148), .null, .null, .null, .null, .null, .null, .null, .null, .null, .null, (.int (0 : Int32)), (.int (0 : Int32)), (.int (0 : Int32)), (.int (0 : Int32))] := fb_set hw FB155 2 (by decide) W158 rfl rfl
  have k166 : Rt p e below T158 (mkF m 31 #[sr ob, si 2, si 2] []) s₁ m #[(.ref ob), (.int (2 : Int32)), (.int (2 : Int32))] 3 := fun t k => k157 t (st158 t k)
  have k167 := f_alN X158 hx k166 (H d1_31) rfl
  have k168 := f_ilN X158 hx k167 (H d1_32) rfl
  obtain ⟨T169, h169, k169, X169, e169, E169, A169, st169⟩ := newP X158 hx hZ (hww 9 _ rfl) e158 (g := (mkF m 33 #[sr ob, si 2, si 2] [vI 2, vR ob])) rfl (H d1_33) rfl (by decide) (cap := 2) (by decide) (by decide) (by decide) (by decide)
  obtain ⟨b169, g169⟩ : ∃ z, z = h158.size := ⟨_, rfl⟩
  rw [← g169] at A169 st169
  have lt170 : b148 < b169 := Nat.lt_of_lt_of_le F162.lt (Nat.le_of_eq g169.symm)
  have n171 : ob ≠ b169 := Nat.ne_of_lt (Nat.lt_of_lt_of_le FB165.1.lt (Nat.le_of_eq g169.symm))
  have g172 : n0 ≤ b169 := Nat.le_trans Z163 (Nat.le_of_eq g169.symm)
  have F173 := F160.ext E169
  have F174 := F161.ext E169
  have F175 := F162.ext E169
  have Z176 : n0 ≤ h169.size := Nat.le_trans Z163 E169.1
  have FB177 := fb_ext FB165 E169
  have V178 : Arv Z h169 b169 k169 .double (2 : Int32) [(.double (0 : UInt64)), (.double (0 : UInt64))] (.double (0 : UInt64)) := (Arv.new A169 (by decide)).pad (pad_rep [] (.double (0 : UInt64)) 2)
  have k179 : Rt p e below T169 (mkF m 35 #[sr ob, si 2, si 2] [vR b169, vR ob]) s₁ m #[(.ref ob), (.int (2 : Int32)), (.int (2 : Int32))] 3 := fun t k => k168 t (st169 t k)
  obtain ⟨T180, h180, X180, e180, W180, st180⟩ := putF X169 hx hZ hown (host := "") (Or.inl (hww 16 _ rfl)) Via.refl e169 (fbg FB177 3 (v := .null) (by decide) rfl rfl rfl) FB177.1 (Or.inr ⟨(hww 17 _ rfl), rfl, hnm⟩) (hww 1 _ rfl) (ty := (.array .double)) (by decide) rfl rfl (g := (mkF m 35 #[sr ob, si 2, si 2] [vR b169, vR ob])) rfl rfl (H d1_35)
  have F181 := (fbg FB177 3 (v := .null) (by decide) rfl rfl rfl).same W180
  have F182 := F173.other W180 (Ne.symm n110)
  have F183 := F174.other W180 (Ne.symm n129)
  have F184 := F175.other W180 (Ne.symm n150)
  have F185 := V178.other W180 (Ne.symm n171)
  have Z186 : n0 ≤ h180.size := Nat.le_trans Z176 (Nat.le_of_eq W180.size.symm)
  have N187 := Fr.snoc X180 N164 gob
  have FB188 : FB Z h180 ob [(.ref b108), (.ref b127), (.ref b148), (.ref b169), .null, .null, .null, .null, .null, .null, .null, .null, .null, (.int (0 : Int32)), (.int (0 : Int32)), (.int (0 : Int32)), (.int (0 : Int32))] := fb_set hw FB177 3 (by decide) W180 rfl rfl
  have k189 : Rt p e below T180 (mkF m 38 #[sr ob, si 2, si 2] []) s₁ m #[(.ref ob), (.int (2 : Int32)), (.int (2 : Int32))] 3 := fun t k => k179 t (st180 t k)
  have k190 := f_alN X180 hx k189 (H d1_38) rfl
  have k191 := f_ilN X180 hx k190 (H d1_39) rfl
  obtain ⟨T192, h192, k192, X192, e192, E192, A192, st192⟩ := newP X180 hx hZ (hww 9 _ rfl) e180 (g := (mkF m 40 #[sr ob, si 2, si 2] [vI 2, vR ob])) rfl (H d1_40) rfl (by decide) (cap := 2) (by decide) (by decide) (by decide) (by decide)
  obtain ⟨b192, g192⟩ : ∃ z, z = h180.size := ⟨_, rfl⟩
  rw [← g192] at A192 st192
  have lt193 : b169 < b192 := Nat.lt_of_lt_of_le F185.lt (Nat.le_of_eq g192.symm)
  have n194 : ob ≠ b192 := Nat.ne_of_lt (Nat.lt_of_lt_of_le FB188.1.lt (Nat.le_of_eq g192.symm))
  have g195 : n0 ≤ b192 := Nat.le_trans Z186 (Nat.le_of_eq g192.symm)
  have F196 := F182.ext E192
  have F197 := F183.ext E192
  have F198 := F184.ext E192
  have F199 := F185.ext E192
  have Z200 : n0 ≤ h192.size := Nat.le_trans Z186 E192.1
  have FB201 := fb_ext FB188 E192
  have V202 : Arv Z h192 b192 k192 .double (2 : Int32) [(.double (0 : UInt64)), (.double (0 : UInt64))] (.double (0 : UInt64)) := (Arv.new A192 (by decide)).pad (pad_rep [] (.double (0 : UInt64)) 2)
  have k203 : Rt p e below T192 (mkF m 42 #[sr ob, si 2, si 2] [vR b192, vR ob]) s₁ m #[(.ref ob), (.int (2 : Int32)), (.int (2 : Int32))] 3 := fun t k => k191 t (st192 t k)
  obtain ⟨T204, h204, X204, e204, W204, st204⟩ := putF X192 hx hZ hown (host := "") (Or.inl (hww 18 _ rfl)) Via.refl e192 (fbg FB201 4 (v := .null) (by decide) rfl rfl rfl) FB201.1 (Or.inr ⟨(hww 19 _ rfl), rfl, hnm⟩) (hww 1 _ rfl) (ty := (.array .double)) (by decide) rfl rfl (g := (mkF m 42 #[sr ob, si 2, si 2] [vR b192, vR ob])) rfl rfl (H d1_42)
  have F205 := (fbg FB201 4 (v := .null) (by decide) rfl rfl rfl).same W204
  have F206 := F196.other W204 (Ne.symm n110)
  have F207 := F197.other W204 (Ne.symm n129)
  have F208 := F198.other W204 (Ne.symm n150)
  have F209 := F199.other W204 (Ne.symm n171)
  have F210 := V202.other W204 (Ne.symm n194)
  have Z211 : n0 ≤ h204.size := Nat.le_trans Z200 (Nat.le_of_eq W204.size.symm)
  have N212 := Fr.snoc X204 N187 gob
  have FB213 : FB Z h204 ob [(.ref b108), (.ref b127), (.ref b148), (.ref b169), (.ref b192), .null, .null, .null, .null, .null, .null, .null, .null, (.int (0 : Int32)), (.int (0 : Int32)), (.int (0 : Int32)), (.int (0 : Int32))] := fb_set hw FB201 4 (by decide) W204 rfl rfl
  have k214 : Rt p e below T204 (mkF m 45 #[sr ob, si 2, si 2] []) s₁ m #[(.ref ob), (.int (2 : Int32)), (.int (2 : Int32))] 3 := fun t k => k203 t (st204 t k)
  have k215 := f_alN X204 hx k214 (H d1_45) rfl
  have k216 := f_ilN X204 hx k215 (H d1_46) rfl
  obtain ⟨T217, h217, k217, X217, e217, E217, A217, st217⟩ := newP X204 hx hZ (hww 9 _ rfl) e204 (g := (mkF m 47 #[sr ob, si 2, si 2] [vI 2, vR ob])) rfl (H d1_47) rfl (by decide) (cap := 2) (by decide) (by decide) (by decide) (by decide)
  obtain ⟨b217, g217⟩ : ∃ z, z = h204.size := ⟨_, rfl⟩
  rw [← g217] at A217 st217
  have lt218 : b192 < b217 := Nat.lt_of_lt_of_le F210.lt (Nat.le_of_eq g217.symm)
  have n219 : ob ≠ b217 := Nat.ne_of_lt (Nat.lt_of_lt_of_le FB213.1.lt (Nat.le_of_eq g217.symm))
  have g220 : n0 ≤ b217 := Nat.le_trans Z211 (Nat.le_of_eq g217.symm)
  have F221 := F206.ext E217
  have F222 := F207.ext E217
  have F223 := F208.ext E217
  have F224 := F209.ext E217
  have F225 := F210.ext E217
  have Z226 : n0 ≤ h217.size := Nat.le_trans Z211 E217.1
  have FB227 := fb_ext FB213 E217
  have V228 : Arv Z h217 b217 k217 .double (2 : Int32) [(.double (0 : UInt64)), (.double (0 : UInt64))] (.double (0 : UInt64)) := (Arv.new A217 (by decide)).pad (pad_rep [] (.double (0 : UInt64)) 2)
  have k229 : Rt p e below T217 (mkF m 49 #[sr ob, si 2, si 2] [vR b217, vR ob]) s₁ m #[(.ref ob), (.int (2 : Int32)), (.int (2 : Int32))] 3 := fun t k => k216 t (st217 t k)
  obtain ⟨T230, h230, X230, e230, W230, st230⟩ := putF X217 hx hZ hown (host := "") (Or.inl (hww 20 _ rfl)) Via.refl e217 (fbg FB227 5 (v := .null) (by decide) rfl rfl rfl) FB227.1 (Or.inr ⟨(hww 21 _ rfl), rfl, hnm⟩) (hww 1 _ rfl) (ty := (.array .double)) (by decide) rfl rfl (g := (mkF m 49 #[sr ob, si 2, si 2] [vR b217, vR ob])) rfl rfl (H d1_49)
  have F231 := (fbg FB227 5 (v := .null) (by decide) rfl rfl rfl).same W230
  have F232 := F221.other W230 (Ne.symm n110)
  have F233 := F222.other W230 (Ne.symm n129)
  have F234 := F223.other W230 (Ne.symm n150)
  have F235 := F224.other W230 (Ne.symm n171)
  have F236 := F225.other W230 (Ne.symm n194)
  have F237 := V228.other W230 (Ne.symm n219)
  have Z238 : n0 ≤ h230.size := Nat.le_trans Z226 (Nat.le_of_eq W230.size.symm)
  have N239 := Fr.snoc X230 N212 gob
  have FB240 : FB Z h230 ob [(.ref b108), (.ref b127), (.ref b148), (.ref b169), (.ref b192), (.ref b217), .null, .null, .null, .null, .null, .null, .null, (.int (0 : Int32)), (.int (0 : Int32)), (.int (0 : Int32)), (.int (0 : Int32))] := fb_set hw FB227 5 (by decide) W230 rfl rfl
  have k241 : Rt p e below T230 (mkF m 52 #[sr ob, si 2, si 2] []) s₁ m #[(.ref ob), (.int (2 : Int32)), (.int (2 : Int32))] 3 := fun t k => k229 t (st230 t k)
  have k242 := f_alN X230 hx k241 (H d1_52) rfl
  have k243 := f_ilN X230 hx k242 (H d1_53) rfl
  obtain ⟨T244, h244, k244, X244, e244, E244, A244, st244⟩ := newP X230 hx hZ (hww 9 _ rfl) e230 (g := (mkF m 54 #[sr ob, si 2, si 2] [vI 2, vR ob])) rfl (H d1_54) rfl (by decide) (cap := 2) (by decide) (by decide) (by decide) (by decide)
  obtain ⟨b244, g244⟩ : ∃ z, z = h230.size := ⟨_, rfl⟩
  rw [← g244] at A244 st244
  have lt245 : b217 < b244 := Nat.lt_of_lt_of_le F237.lt (Nat.le_of_eq g244.symm)
  have n246 : ob ≠ b244 := Nat.ne_of_lt (Nat.lt_of_lt_of_le FB240.1.lt (Nat.le_of_eq g244.symm))
  have g247 : n0 ≤ b244 := Nat.le_trans Z238 (Nat.le_of_eq g244.symm)
  have F248 := F232.ext E244
  have F249 := F233.ext E244
  have F250 := F234.ext E244
  have F251 := F235.ext E244
  have F252 := F236.ext E244
  have F253 := F237.ext E244
  have Z254 : n0 ≤ h244.size := Nat.le_trans Z238 E244.1
  have FB255 := fb_ext FB240 E244
  have V256 : Arv Z h244 b244 k244 .double (2 : Int32) [(.double (0 : UInt64)), (.double (0 : UInt64))] (.double (0 : UInt64)) := (Arv.new A244 (by decide)).pad (pad_rep [] (.double (0 : UInt64)) 2)
  have k257 : Rt p e below T244 (mkF m 56 #[sr ob, si 2, si 2] [vR b244, vR ob]) s₁ m #[(.ref ob), (.int (2 : Int32)), (.int (2 : Int32))] 3 := fun t k => k243 t (st244 t k)
  obtain ⟨T258, h258, X258, e258, W258, st258⟩ := putF X244 hx hZ hown (host := "") (Or.inl (hww 22 _ rfl)) Via.refl e244 (fbg FB255 6 (v := .null) (by decide) rfl rfl rfl) FB255.1 (Or.inr ⟨(hww 23 _ rfl), rfl, hnm⟩) (hww 1 _ rfl) (ty := (.array .double)) (by decide) rfl rfl (g := (mkF m 56 #[sr ob, si 2, si 2] [vR b244, vR ob])) rfl rfl (H d1_56)
  have F259 := (fbg FB255 6 (v := .null) (by decide) rfl rfl rfl).same W258
  have F260 := F248.other W258 (Ne.symm n110)
  have F261 := F249.other W258 (Ne.symm n129)
  have F262 := F250.other W258 (Ne.symm n150)
  have F263 := F251.other W258 (Ne.symm n171)
  have F264 := F252.other W258 (Ne.symm n194)
  have F265 := F253.other W258 (Ne.symm n219)
  have F266 := V256.other W258 (Ne.symm n246)
  have Z267 : n0 ≤ h258.size := Nat.le_trans Z254 (Nat.le_of_eq W258.size.symm)
  have N268 := Fr.snoc X258 N239 gob
  have FB269 : FB Z h258 ob [(.ref b108), (.ref b127), (.ref b148), (.ref b169), (.ref b192), (.ref b217), (.ref b244), .null, .null, .null, .null, .null, .null, (.int (0 : Int32)), (.int (0 : Int32)), (.int (0 : Int32)), (.int (0 : Int32))] := fb_set hw FB255 6 (by decide) W258 rfl rfl
  have k270 : Rt p e below T258 (mkF m 59 #[sr ob, si 2, si 2] []) s₁ m #[(.ref ob), (.int (2 : Int32)), (.int (2 : Int32))] 3 := fun t k => k257 t (st258 t k)
  have k271 := f_alN X258 hx k270 (H d1_59) rfl
  have k272 := f_ilN X258 hx k271 (H d1_60) rfl
  obtain ⟨T273, h273, k273, X273, e273, E273, A273, st273⟩ := newP X258 hx hZ (hww 9 _ rfl) e258 (g := (mkF m 61 #[sr ob, si 2, si 2] [vI 2, vR ob])) rfl (H d1_61) rfl (by decide) (cap := 2) (by decide) (by decide) (by decide) (by decide)
  obtain ⟨b273, g273⟩ : ∃ z, z = h258.size := ⟨_, rfl⟩
  rw [← g273] at A273 st273
  have lt274 : b244 < b273 := Nat.lt_of_lt_of_le F266.lt (Nat.le_of_eq g273.symm)
  have n275 : ob ≠ b273 := Nat.ne_of_lt (Nat.lt_of_lt_of_le FB269.1.lt (Nat.le_of_eq g273.symm))
  have g276 : n0 ≤ b273 := Nat.le_trans Z267 (Nat.le_of_eq g273.symm)
  have F277 := F260.ext E273
  have F278 := F261.ext E273
  have F279 := F262.ext E273
  have F280 := F263.ext E273
  have F281 := F264.ext E273
  have F282 := F265.ext E273
  have F283 := F266.ext E273
  have Z284 : n0 ≤ h273.size := Nat.le_trans Z267 E273.1
  have FB285 := fb_ext FB269 E273
  have V286 : Arv Z h273 b273 k273 .double (2 : Int32) [(.double (0 : UInt64)), (.double (0 : UInt64))] (.double (0 : UInt64)) := (Arv.new A273 (by decide)).pad (pad_rep [] (.double (0 : UInt64)) 2)
  have k287 : Rt p e below T273 (mkF m 63 #[sr ob, si 2, si 2] [vR b273, vR ob]) s₁ m #[(.ref ob), (.int (2 : Int32)), (.int (2 : Int32))] 3 := fun t k => k272 t (st273 t k)
  obtain ⟨T288, h288, X288, e288, W288, st288⟩ := putF X273 hx hZ hown (host := "") (Or.inl (hww 24 _ rfl)) Via.refl e273 (fbg FB285 7 (v := .null) (by decide) rfl rfl rfl) FB285.1 (Or.inr ⟨(hww 25 _ rfl), rfl, hnm⟩) (hww 1 _ rfl) (ty := (.array .double)) (by decide) rfl rfl (g := (mkF m 63 #[sr ob, si 2, si 2] [vR b273, vR ob])) rfl rfl (H d1_63)
  have F289 := (fbg FB285 7 (v := .null) (by decide) rfl rfl rfl).same W288
  have F290 := F277.other W288 (Ne.symm n110)
  have F291 := F278.other W288 (Ne.symm n129)
  have F292 := F279.other W288 (Ne.symm n150)
  have F293 := F280.other W288 (Ne.symm n171)
  have F294 := F281.other W288 (Ne.symm n194)
  have F295 := F282.other W288 (Ne.symm n219)
  have F296 := F283.other W288 (Ne.symm n246)
  have F297 := V286.other W288 (Ne.symm n275)
  have Z298 : n0 ≤ h288.size := Nat.le_trans Z284 (Nat.le_of_eq W288.size.symm)
  have N299 := Fr.snoc X288 N268 gob
  have FB300 : FB Z h288 ob [(.ref b108), (.ref b127), (.ref b148), (.ref b169), (.ref b192), (.ref b217), (.ref b244), (.ref b273), .null, .null, .null, .null, .null, (.int (0 : Int32)), (.int (0 : Int32)), (.int (0 : Int32)), (.int (0 : Int32))] := fb_set hw FB285 7 (by decide) W288 rfl rfl
  have k301 : Rt p e below T288 (mkF m 66 #[sr ob, si 2, si 2] []) s₁ m #[(.ref ob), (.int (2 : Int32)), (.int (2 : Int32))] 3 := fun t k => k287 t (st288 t k)
  have k302 := f_alN X288 hx k301 (H d1_66) rfl
  have k303 := f_ilN X288 hx k302 (H d1_67) rfl
  obtain ⟨T304, h304, k304, X304, e304, E304, A304, st304⟩ := newP X288 hx hZ (hww 26 _ rfl) e288 (g := (mkF m 68 #[sr ob, si 2, si 2] [vI 2, vR ob])) rfl (H d1_68) rfl (by decide) (cap := 2) (by decide) (by decide) (by decide) (by decide)
  obtain ⟨b304, g304⟩ : ∃ z, z = h288.size := ⟨_, rfl⟩
  rw [← g304] at A304 st304
  have lt305 : b273 < b304 := Nat.lt_of_lt_of_le F297.lt (Nat.le_of_eq g304.symm)
  have n306 : ob ≠ b304 := Nat.ne_of_lt (Nat.lt_of_lt_of_le FB300.1.lt (Nat.le_of_eq g304.symm))
  have g307 : n0 ≤ b304 := Nat.le_trans Z298 (Nat.le_of_eq g304.symm)
  have F308 := F290.ext E304
  have F309 := F291.ext E304
  have F310 := F292.ext E304
  have F311 := F293.ext E304
  have F312 := F294.ext E304
  have F313 := F295.ext E304
  have F314 := F296.ext E304
  have F315 := F297.ext E304
  have Z316 : n0 ≤ h304.size := Nat.le_trans Z298 E304.1
  have FB317 := fb_ext FB300 E304
  have V318 : Arv Z h304 b304 k304 .boolean (2 : Int32) [(.int (0 : Int32)), (.int (0 : Int32))] (.int (0 : Int32)) := (Arv.new A304 (by decide)).pad (pad_rep [] (.int (0 : Int32)) 2)
  have k319 : Rt p e below T304 (mkF m 70 #[sr ob, si 2, si 2] [vR b304, vR ob]) s₁ m #[(.ref ob), (.int (2 : Int32)), (.int (2 : Int32))] 3 := fun t k => k303 t (st304 t k)
  obtain ⟨T320, h320, X320, e320, W320, st320⟩ := putF X304 hx hZ hown (host := "") (Or.inl (hww 27 _ rfl)) Via.refl e304 (fbg FB317 8 (v := .null) (by decide) rfl rfl rfl) FB317.1 (Or.inr ⟨(hww 28 _ rfl), rfl, hnm⟩) (hww 1 _ rfl) (ty := (.array .boolean)) (by decide) rfl rfl (g := (mkF m 70 #[sr ob, si 2, si 2] [vR b304, vR ob])) rfl rfl (H d1_70)
  have F321 := (fbg FB317 8 (v := .null) (by decide) rfl rfl rfl).same W320
  have F322 := F308.other W320 (Ne.symm n110)
  have F323 := F309.other W320 (Ne.symm n129)
  have F324 := F310.other W320 (Ne.symm n150)
  have F325 := F311.other W320 (Ne.symm n171)
  have F326 := F312.other W320 (Ne.symm n194)
  have F327 := F313.other W320 (Ne.symm n219)
  have F328 := F314.other W320 (Ne.symm n246)
  have F329 := F315.other W320 (Ne.symm n275)
  have F330 := V318.other W320 (Ne.symm n306)
  have Z331 : n0 ≤ h320.size := Nat.le_trans Z316 (Nat.le_of_eq W320.size.symm)
  have N332 := Fr.snoc X320 N299 gob
  have FB333 : FB Z h320 ob [(.ref b108), (.ref b127), (.ref b148), (.ref b169), (.ref b192), (.ref b217), (.ref b244), (.ref b273), (.ref b304), .null, .null, .null, .null, (.int (0 : Int32)), (.int (0 : Int32)), (.int (0 : Int32)), (.int (0 : Int32))] := fb_set hw FB317 8 (by decide) W320 rfl rfl
  have k334 : Rt p e below T320 (mkF m 73 #[sr ob, si 2, si 2] []) s₁ m #[(.ref ob), (.int (2 : Int32)), (.int (2 : Int32))] 3 := fun t k => k319 t (st320 t k)
  have k335 := f_alN X320 hx k334 (H d1_73) rfl
  have k336 := f_ilN X320 hx k335 (H d1_74) rfl
  obtain ⟨T337, h337, k337, X337, e337, E337, A337, st337⟩ := newP X320 hx hZ (hww 26 _ rfl) e320 (g := (mkF m 75 #[sr ob, si 2, si 2] [vI 2, vR ob])) rfl (H d1_75) rfl (by decide) (cap := 2) (by decide) (by decide) (by decide) (by decide)
  obtain ⟨b337, g337⟩ : ∃ z, z = h320.size := ⟨_, rfl⟩
  rw [← g337] at A337 st337
  have lt338 : b304 < b337 := Nat.lt_of_lt_of_le F330.lt (Nat.le_of_eq g337.symm)
  have n339 : ob ≠ b337 := Nat.ne_of_lt (Nat.lt_of_lt_of_le FB333.1.lt (Nat.le_of_eq g337.symm))
  have g340 : n0 ≤ b337 := Nat.le_trans Z331 (Nat.le_of_eq g337.symm)
  have F341 := F322.ext E337
  have F342 := F323.ext E337
  have F343 := F324.ext E337
  have F344 := F325.ext E337
  have F345 := F326.ext E337
  have F346 := F327.ext E337
  have F347 := F328.ext E337
  have F348 := F329.ext E337
  have F349 := F330.ext E337
  have Z350 : n0 ≤ h337.size := Nat.le_trans Z331 E337.1
  have FB351 := fb_ext FB333 E337
  have V352 : Arv Z h337 b337 k337 .boolean (2 : Int32) [(.int (0 : Int32)), (.int (0 : Int32))] (.int (0 : Int32)) := (Arv.new A337 (by decide)).pad (pad_rep [] (.int (0 : Int32)) 2)
  have k353 : Rt p e below T337 (mkF m 77 #[sr ob, si 2, si 2] [vR b337, vR ob]) s₁ m #[(.ref ob), (.int (2 : Int32)), (.int (2 : Int32))] 3 := fun t k => k336 t (st337 t k)
  obtain ⟨T354, h354, X354, e354, W354, st354⟩ := putF X337 hx hZ hown (host := "") (Or.inl (hww 29 _ rfl)) Via.refl e337 (fbg FB351 9 (v := .null) (by decide) rfl rfl rfl) FB351.1 (Or.inr ⟨(hww 30 _ rfl), rfl, hnm⟩) (hww 1 _ rfl) (ty := (.array .boolean)) (by decide) rfl rfl (g := (mkF m 77 #[sr ob, si 2, si 2] [vR b337, vR ob])) rfl rfl (H d1_77)
  have F355 := (fbg FB351 9 (v := .null) (by decide) rfl rfl rfl).same W354
  have F356 := F341.other W354 (Ne.symm n110)
  have F357 := F342.other W354 (Ne.symm n129)
  have F358 := F343.other W354 (Ne.symm n150)
  have F359 := F344.other W354 (Ne.symm n171)
  have F360 := F345.other W354 (Ne.symm n194)
  have F361 := F346.other W354 (Ne.symm n219)
  have F362 := F347.other W354 (Ne.symm n246)
  have F363 := F348.other W354 (Ne.symm n275)
  have F364 := F349.other W354 (Ne.symm n306)
  have F365 := V352.other W354 (Ne.symm n339)
  have Z366 : n0 ≤ h354.size := Nat.le_trans Z350 (Nat.le_of_eq W354.size.symm)
  have N367 := Fr.snoc X354 N332 gob
  have FB368 : FB Z h354 ob [(.ref b108), (.ref b127), (.ref b148), (.ref b169), (.ref b192), (.ref b217), (.ref b244), (.ref b273), (.ref b304), (.ref b337), .null, .null, .null, (.int (0 : Int32)), (.int (0 : Int32)), (.int (0 : Int32)), (.int (0 : Int32))] := fb_set hw FB351 9 (by decide) W354 rfl rfl
  have k369 : Rt p e below T354 (mkF m 80 #[sr ob, si 2, si 2] []) s₁ m #[(.ref ob), (.int (2 : Int32)), (.int (2 : Int32))] 3 := fun t k => k353 t (st354 t k)
  have k370 := f_alN X354 hx k369 (H d1_80) rfl
  have k371 := f_ilN X354 hx k370 (H d1_81) rfl
  have k372 := f_ilN X354 hx k371 (H d1_82) rfl
  have k373 := f_imul X354 hx k372 (H d1_83) (r := 4) (by decide)
  obtain ⟨T374, h374, k374, X374, e374, E374, A374, st374⟩ := newP X354 hx hZ (hww 26 _ rfl) e354 (g := (mkF m 84 #[sr ob, si 2, si 2] [vI 4, vR ob])) rfl (H d1_84) rfl (by decide) (cap := 4) (by decide) (by decide) (by decide) (by decide)
  obtain ⟨b374, g374⟩ : ∃ z, z = h354.size := ⟨_, rfl⟩
  rw [← g374] at A374 st374
  have lt375 : b337 < b374 := Nat.lt_of_lt_of_le F365.lt (Nat.le_of_eq g374.symm)
  have n376 : ob ≠ b374 := Nat.ne_of_lt (Nat.lt_of_lt_of_le FB368.1.lt (Nat.le_of_eq g374.symm))
  have g377 : n0 ≤ b374 := Nat.le_trans Z366 (Nat.le_of_eq g374.symm)
  have F378 := F356.ext E374
  have F379 := F357.ext E374
  have F380 := F358.ext E374
  have F381 := F359.ext E374
  have F382 := F360.ext E374
  have F383 := F361.ext E374
  have F384 := F362.ext E374
  have F385 := F363.ext E374
  have F386 := F364.ext E374
  have F387 := F365.ext E374
  have Z388 : n0 ≤ h374.size := Nat.le_trans Z366 E374.1
  have FB389 := fb_ext FB368 E374
  have V390 : Arv Z h374 b374 k374 .boolean (4 : Int32) [(.int (0 : Int32)), (.int (0 : Int32)), (.int (0 : Int32)), (.int (0 : Int32))] (.int (0 : Int32)) := (Arv.new A374 (by decide)).pad (pad_rep [] (.int (0 : Int32)) 4)
  have k391 : Rt p e below T374 (mkF m 86 #[sr ob, si 2, si 2] [vR b374, vR ob]) s₁ m #[(.ref ob), (.int (2 : Int32)), (.int (2 : Int32))] 3 := fun t k => k373 t (st374 t k)
  obtain ⟨T392, h392, X392, e392, W392, st392⟩ := putF X374 hx hZ hown (host := "") (Or.inl (hww 31 _ rfl)) Via.refl e374 (fbg FB389 10 (v := .null) (by decide) rfl rfl rfl) FB389.1 (Or.inr ⟨(hww 32 _ rfl), rfl, hnm⟩) (hww 1 _ rfl) (ty := (.array .boolean)) (by decide) rfl rfl (g := (mkF m 86 #[sr ob, si 2, si 2] [vR b374, vR ob])) rfl rfl (H d1_86)
  have F393 := (fbg FB389 10 (v := .null) (by decide) rfl rfl rfl).same W392
  have F394 := F378.other W392 (Ne.symm n110)
  have F395 := F379.other W392 (Ne.symm n129)
  have F396 := F380.other W392 (Ne.symm n150)
  have F397 := F381.other W392 (Ne.symm n171)
  have F398 := F382.other W392 (Ne.symm n194)
  have F399 := F383.other W392 (Ne.symm n219)
  have F400 := F384.other W392 (Ne.symm n246)
  have F401 := F385.other W392 (Ne.symm n275)
  have F402 := F386.other W392 (Ne.symm n306)
  have F403 := F387.other W392 (Ne.symm n339)
  have F404 := V390.other W392 (Ne.symm n376)
  have Z405 : n0 ≤ h392.size := Nat.le_trans Z388 (Nat.le_of_eq W392.size.symm)
  have N406 := Fr.snoc X392 N367 gob
  have FB407 : FB Z h392 ob [(.ref b108), (.ref b127), (.ref b148), (.ref b169), (.ref b192), (.ref b217), (.ref b244), (.ref b273), (.ref b304), (.ref b337), (.ref b374), .null, .null, (.int (0 : Int32)), (.int (0 : Int32)), (.int (0 : Int32)), (.int (0 : Int32))] := fb_set hw FB389 10 (by decide) W392 rfl rfl
  have k408 : Rt p e below T392 (mkF m 89 #[sr ob, si 2, si 2] []) s₁ m #[(.ref ob), (.int (2 : Int32)), (.int (2 : Int32))] 3 := fun t k => k391 t (st392 t k)
  have k409 := f_alN X392 hx k408 (H d1_89) rfl
  have k410 := f_ilN X392 hx k409 (H d1_90) rfl
  obtain ⟨T411, h411, k411, X411, e411, E411, A411, st411⟩ := newP X392 hx hZ (hww 33 _ rfl) e392 (g := (mkF m 91 #[sr ob, si 2, si 2] [vI 2, vR ob])) rfl (H d1_91) rfl (by decide) (cap := 2) (by decide) (by decide) (by decide) (by decide)
  obtain ⟨b411, g411⟩ : ∃ z, z = h392.size := ⟨_, rfl⟩
  rw [← g411] at A411 st411
  have lt412 : b374 < b411 := Nat.lt_of_lt_of_le F404.lt (Nat.le_of_eq g411.symm)
  have n413 : ob ≠ b411 := Nat.ne_of_lt (Nat.lt_of_lt_of_le FB407.1.lt (Nat.le_of_eq g411.symm))
  have g414 : n0 ≤ b411 := Nat.le_trans Z405 (Nat.le_of_eq g411.symm)
  have F415 := F394.ext E411
  have F416 := F395.ext E411
  have F417 := F396.ext E411
  have F418 := F397.ext E411
  have F419 := F398.ext E411
  have F420 := F399.ext E411
  have F421 := F400.ext E411
  have F422 := F401.ext E411
  have F423 := F402.ext E411
  have F424 := F403.ext E411
  have F425 := F404.ext E411
  have Z426 : n0 ≤ h411.size := Nat.le_trans Z405 E411.1
  have FB427 := fb_ext FB407 E411
  have V428 : Arv Z h411 b411 k411 .int (2 : Int32) [(.int (0 : Int32)), (.int (0 : Int32))] (.int (0 : Int32)) := (Arv.new A411 (by decide)).pad (pad_rep [] (.int (0 : Int32)) 2)
  have k429 : Rt p e below T411 (mkF m 93 #[sr ob, si 2, si 2] [vR b411, vR ob]) s₁ m #[(.ref ob), (.int (2 : Int32)), (.int (2 : Int32))] 3 := fun t k => k410 t (st411 t k)
  obtain ⟨T430, h430, X430, e430, W430, st430⟩ := putF X411 hx hZ hown (host := "") (Or.inl (hww 34 _ rfl)) Via.refl e411 (fbg FB427 11 (v := .null) (by decide) rfl rfl rfl) FB427.1 (Or.inr ⟨(hww 35 _ rfl), rfl, hnm⟩) (hww 1 _ rfl) (ty := (.array .int)) (by decide) rfl rfl (g := (mkF m 93 #[sr ob, si 2, si 2] [vR b411, vR ob])) rfl rfl (H d1_93)
  have F431 := (fbg FB427 11 (v := .null) (by decide) rfl rfl rfl).same W430
  have F432 := F415.other W430 (Ne.symm n110)
  have F433 := F416.other W430 (Ne.symm n129)
  have F434 := F417.other W430 (Ne.symm n150)
  have F435 := F418.other W430 (Ne.symm n171)
  have F436 := F419.other W430 (Ne.symm n194)
  have F437 := F420.other W430 (Ne.symm n219)
  have F438 := F421.other W430 (Ne.symm n246)
  have F439 := F422.other W430 (Ne.symm n275)
  have F440 := F423.other W430 (Ne.symm n306)
  have F441 := F424.other W430 (Ne.symm n339)
  have F442 := F425.other W430 (Ne.symm n376)
  have F443 := V428.other W430 (Ne.symm n413)
  have Z444 : n0 ≤ h430.size := Nat.le_trans Z426 (Nat.le_of_eq W430.size.symm)
  have N445 := Fr.snoc X430 N406 gob
  have FB446 : FB Z h430 ob [(.ref b108), (.ref b127), (.ref b148), (.ref b169), (.ref b192), (.ref b217), (.ref b244), (.ref b273), (.ref b304), (.ref b337), (.ref b374), (.ref b411), .null, (.int (0 : Int32)), (.int (0 : Int32)), (.int (0 : Int32)), (.int (0 : Int32))] := fb_set hw FB427 11 (by decide) W430 rfl rfl
  have k447 : Rt p e below T430 (mkF m 96 #[sr ob, si 2, si 2] []) s₁ m #[(.ref ob), (.int (2 : Int32)), (.int (2 : Int32))] 3 := fun t k => k429 t (st430 t k)
  have k448 := f_alN X430 hx k447 (H d1_96) rfl
  have k449 := f_ilN X430 hx k448 (H d1_97) rfl
  obtain ⟨T450, h450, k450, X450, e450, E450, A450, st450⟩ := newP X430 hx hZ (hww 26 _ rfl) e430 (g := (mkF m 98 #[sr ob, si 2, si 2] [vI 2, vR ob])) rfl (H d1_98) rfl (by decide) (cap := 2) (by decide) (by decide) (by decide) (by decide)
  obtain ⟨b450, g450⟩ : ∃ z, z = h430.size := ⟨_, rfl⟩
  rw [← g450] at A450 st450
  have lt451 : b411 < b450 := Nat.lt_of_lt_of_le F443.lt (Nat.le_of_eq g450.symm)
  have n452 : ob ≠ b450 := Nat.ne_of_lt (Nat.lt_of_lt_of_le FB446.1.lt (Nat.le_of_eq g450.symm))
  have g453 : n0 ≤ b450 := Nat.le_trans Z444 (Nat.le_of_eq g450.symm)
  have F454 := F432.ext E450
  have F455 := F433.ext E450
  have F456 := F434.ext E450
  have F457 := F435.ext E450
  have F458 := F436.ext E450
  have F459 := F437.ext E450
  have F460 := F438.ext E450
  have F461 := F439.ext E450
  have F462 := F440.ext E450
  have F463 := F441.ext E450
  have F464 := F442.ext E450
  have F465 := F443.ext E450
  have Z466 : n0 ≤ h450.size := Nat.le_trans Z444 E450.1
  have FB467 := fb_ext FB446 E450
  have V468 : Arv Z h450 b450 k450 .boolean (2 : Int32) [(.int (0 : Int32)), (.int (0 : Int32))] (.int (0 : Int32)) := (Arv.new A450 (by decide)).pad (pad_rep [] (.int (0 : Int32)) 2)
  have k469 : Rt p e below T450 (mkF m 100 #[sr ob, si 2, si 2] [vR b450, vR ob]) s₁ m #[(.ref ob), (.int (2 : Int32)), (.int (2 : Int32))] 3 := fun t k => k449 t (st450 t k)
  obtain ⟨T470, h470, X470, e470, W470, st470⟩ := putF X450 hx hZ hown (host := "") (Or.inl (hww 36 _ rfl)) Via.refl e450 (fbg FB467 12 (v := .null) (by decide) rfl rfl rfl) FB467.1 (Or.inr ⟨(hww 37 _ rfl), rfl, hnm⟩) (hww 1 _ rfl) (ty := (.array .boolean)) (by decide) rfl rfl (g := (mkF m 100 #[sr ob, si 2, si 2] [vR b450, vR ob])) rfl rfl (H d1_100)
  have F471 := (fbg FB467 12 (v := .null) (by decide) rfl rfl rfl).same W470
  have F472 := F454.other W470 (Ne.symm n110)
  have F473 := F455.other W470 (Ne.symm n129)
  have F474 := F456.other W470 (Ne.symm n150)
  have F475 := F457.other W470 (Ne.symm n171)
  have F476 := F458.other W470 (Ne.symm n194)
  have F477 := F459.other W470 (Ne.symm n219)
  have F478 := F460.other W470 (Ne.symm n246)
  have F479 := F461.other W470 (Ne.symm n275)
  have F480 := F462.other W470 (Ne.symm n306)
  have F481 := F463.other W470 (Ne.symm n339)
  have F482 := F464.other W470 (Ne.symm n376)
  have F483 := F465.other W470 (Ne.symm n413)
  have F484 := V468.other W470 (Ne.symm n452)
  have Z485 : n0 ≤ h470.size := Nat.le_trans Z466 (Nat.le_of_eq W470.size.symm)
  have N486 := Fr.snoc X470 N445 gob
  have FB487 : FB Z h470 ob [(.ref b108), (.ref b127), (.ref b148), (.ref b169), (.ref b192), (.ref b217), (.ref b244), (.ref b273), (.ref b304), (.ref b337), (.ref b374), (.ref b411), (.ref b450), (.int (0 : Int32)), (.int (0 : Int32)), (.int (0 : Int32)), (.int (0 : Int32))] := fb_set hw FB467 12 (by decide) W470 rfl rfl
  have k488 : Rt p e below T470 (mkF m 103 #[sr ob, si 2, si 2] []) s₁ m #[(.ref ob), (.int (2 : Int32)), (.int (2 : Int32))] 3 := fun t k => k469 t (st470 t k)
  have hD : Dis ob (fun i => [b108, b127, b148, b169, b192, b217, b244, b273, b304, b337, b374, b411, b450].getD i 0) := dis_mk lt109 lt128 lt149 lt170 lt193 lt218 lt245 lt274 lt305 lt338 lt375 lt412 lt451
  obtain ⟨fs, hr, hrun, hended, hW, hsame⟩ := X470.leave (v := none) (fun _ => rfl)
  refine ⟨_, _, k488 _ (X470.returnOut hx Bd.returns (H d1_103) hr), hrun, hended, _, _, rfl, ?_, ⟨_, rfl⟩, hW, hsame.mono (by decide) (by decide)⟩
  show Q_ini Z ob h0 n0 _ T470.heap _
  rw [e470]
  exact ⟨(fun i => [b108, b127, b148, b169, b192, b217, b244, b273, b304, b337, b374, b411, b450].getD i 0), (fun i => [k108, k127, k148, k169, k192, k217, k244, k273, k304, k337, k374, k411, k450].getD i 0), rfl, N486, Z485, hD, fun i hi => Nat.le_trans gob (Nat.le_of_lt (hD.1 i hi)), FB487, F472, F473, F474, F475, F476, F477, F478, F479, F480, F481, F482, F483, F484⟩
theorem ef_3_RII (m : MethodId) (x0 : Addr) (x1 : Int32) (x2 : Int32) : entryFrame m #[(.ref x0), (.int x1), (.int x2)] 5 = mkF m 0 #[.val (.ref x0), .val (.int x1), .val (.int x2), .unset, .unset] [] := by first | (simp [entryFrame, mkF, argsToLocals, Value.category]; done) | rfl
theorem d3_0 : decode prog_40_method_2_code 0 = .ok (.iconst 0, 1) := by decide +kernel
theorem d3_1 : decode prog_40_method_2_code 1 = .ok (.istore_n 3, 1) := by decide +kernel
theorem d3_2 : decode prog_40_method_2_code 2 = .ok (.iload_n 3, 1) := by decide +kernel
theorem d3_3 : decode prog_40_method_2_code 3 = .ok (.aload_n 0, 1) := by decide +kernel
theorem d3_4 : decode prog_40_method_2_code 4 = .ok (.getfield 51, 3) := by decide +kernel
theorem d3_7 : decode prog_40_method_2_code 7 = .ok (.if_icmp .ge 68, 3) := by decide +kernel
theorem d3_75 : decode prog_40_method_2_code 75 = .ok (.aload_n 0, 1) := by decide +kernel
theorem d3_76 : decode prog_40_method_2_code 76 = .ok (.iconst 0, 1) := by decide +kernel
theorem d3_77 : decode prog_40_method_2_code 77 = .ok (.putfield 51, 3) := by decide +kernel
theorem d3_80 : decode prog_40_method_2_code 80 = .ok (.aload_n 0, 1) := by decide +kernel
theorem d3_81 : decode prog_40_method_2_code 81 = .ok (.iload_n 1, 1) := by decide +kernel
theorem d3_82 : decode prog_40_method_2_code 82 = .ok (.putfield 64, 3) := by decide +kernel
theorem d3_85 : decode prog_40_method_2_code 85 = .ok (.aload_n 0, 1) := by decide +kernel
theorem d3_86 : decode prog_40_method_2_code 86 = .ok (.iload_n 2, 1) := by decide +kernel
theorem d3_87 : decode prog_40_method_2_code 87 = .ok (.putfield 55, 3) := by decide +kernel
theorem d3_90 : decode prog_40_method_2_code 90 = .ok (.iconst 0, 1) := by decide +kernel
theorem d3_91 : decode prog_40_method_2_code 91 = .ok (.istore_n 3, 1) := by decide +kernel
theorem d3_92 : decode prog_40_method_2_code 92 = .ok (.iload_n 3, 1) := by decide +kernel
theorem d3_93 : decode prog_40_method_2_code 93 = .ok (.aload_n 0, 1) := by decide +kernel
theorem d3_94 : decode prog_40_method_2_code 94 = .ok (.getfield 55, 3) := by decide +kernel
theorem d3_97 : decode prog_40_method_2_code 97 = .ok (.if_icmp .ge 18, 3) := by decide +kernel
theorem d3_100 : decode prog_40_method_2_code 100 = .ok (.aload_n 0, 1) := by decide +kernel
theorem d3_101 : decode prog_40_method_2_code 101 = .ok (.getfield 19, 3) := by decide +kernel
theorem d3_104 : decode prog_40_method_2_code 104 = .ok (.iload_n 3, 1) := by decide +kernel
theorem d3_105 : decode prog_40_method_2_code 105 = .ok (.ldc2_w 69, 3) := by decide +kernel
theorem d3_108 : decode prog_40_method_2_code 108 = .ok (.dastore, 1) := by decide +kernel
theorem d3_109 : decode prog_40_method_2_code 109 = .ok (.iinc 3 1, 3) := by decide +kernel
theorem d3_112 : decode prog_40_method_2_code 112 = .ok (.goto (-20), 3) := by decide +kernel
theorem d3_115 : decode prog_40_method_2_code 115 = .ok (.aload_n 0, 1) := by decide +kernel
theorem d3_116 : decode prog_40_method_2_code 116 = .ok (.getfield 71, 3) := by decide +kernel
theorem d3_119 : decode prog_40_method_2_code 119 = .ok (.ifCond .eq 16, 3) := by decide +kernel
theorem d3_135 : decode prog_40_method_2_code 135 = .ok (.return_, 1) := by decide +kernel
def Q_opn (Z : State) (ob : Addr) (B : Nat → Addr) (K : Nat → ClassId) (h0 : Heap) (n0 : Nat) (v : Option Value) (h : Heap) (L : List Loc) : Prop := v = none ∧ Fr n0 L ∧ n0 ≤ h.size ∧ NB Z h ob B K [(.double (0 : UInt64)), (.double (0 : UInt64)), (.double (0 : UInt64)), (.double (0 : UInt64))] [(.double (0 : UInt64)), (.double (0 : UInt64)), (.double (0 : UInt64)), (.double (0 : UInt64))] [(.double (0 : UInt64)), (.double (0 : UInt64)), (.double (0 : UInt64)), (.double (0 : UInt64))] [(.double (9218868437227405312 : UInt64)), (.double (9218868437227405312 : UInt64))] [(.double (0 : UInt64)), (.double (0 : UInt64))] [(.double (0 : UInt64)), (.double (0 : UInt64))] [(.double (0 : UInt64)), (.double (0 : UInt64))] [(.double (0 : UInt64)), (.double (0 : UInt64))] [(.int (0 : Int32)), (.int (0 : Int32))] [(.int (0 : Int32)), (.int (0 : Int32))] [(.int (0 : Int32)), (.int (0 : Int32)), (.int (0 : Int32)), (.int (0 : Int32))] [(.int (0 : Int32)), (.int (0 : Int32))] [(.int (0 : Int32)), (.int (0 : Int32))] (0 : Int32)
set_option maxRecDepth 65536 in
set_option maxHeartbeats 40000000 in
theorem opn (l : Launch) (Z : State) (a0 : Array Value) (hw : ∀ d ∈ tables_1, d.before a0 Z = true) (ws : List Jvm.Cond) (ob : Addr) (B : Nat → Addr) (K : Nat → ClassId) (h0 : Heap) (n0 : Nat) (Z0 : n0 ≤ h0.size) (D : Dis ob B) (gob : n0 ≤ ob) (G : ∀ i, i < 13 → n0 ≤ B i) (FB0 : FB Z h0 ob [(.ref (B 0)), (.ref (B 1)), (.ref (B 2)), (.ref (B 3)), (.ref (B 4)), (.ref (B 5)), (.ref (B 6)), (.ref (B 7)), (.ref (B 8)), (.ref (B 9)), (.ref (B 10)), (.ref (B 11)), (.ref (B 12)), (.int (0 : Int32)), (.int (0 : Int32)), (.int (0 : Int32)), (.int (0 : Int32))]) (V0 : Arv Z h0 (B 0) (K 0) .double (4 : Int32) [(.double (0 : UInt64)), (.double (0 : UInt64)), (.double (0 : UInt64)), (.double (0 : UInt64))] (.double (0 : UInt64))) (V1 : Arv Z h0 (B 1) (K 1) .double (4 : Int32) [(.double (0 : UInt64)), (.double (0 : UInt64)), (.double (0 : UInt64)), (.double (0 : UInt64))] (.double (0 : UInt64))) (V2 : Arv Z h0 (B 2) (K 2) .double (4 : Int32) [(.double (0 : UInt64)), (.double (0 : UInt64)), (.double (0 : UInt64)), (.double (0 : UInt64))] (.double (0 : UInt64))) (V3 : Arv Z h0 (B 3) (K 3) .double (2 : Int32) [(.double (0 : UInt64)), (.double (0 : UInt64))] (.double (0 : UInt64))) (V4 : Arv Z h0 (B 4) (K 4) .double (2 : Int32) [(.double (0 : UInt64)), (.double (0 : UInt64))] (.double (0 : UInt64))) (V5 : Arv Z h0 (B 5) (K 5) .double (2 : Int32) [(.double (0 : UInt64)), (.double (0 : UInt64))] (.double (0 : UInt64))) (V6 : Arv Z h0 (B 6) (K 6) .double (2 : Int32) [(.double (0 : UInt64)), (.double (0 : UInt64))] (.double (0 : UInt64))) (V7 : Arv Z h0 (B 7) (K 7) .double (2 : Int32) [(.double (0 : UInt64)), (.double (0 : UInt64))] (.double (0 : UInt64))) (V8 : Arv Z h0 (B 8) (K 8) .boolean (2 : Int32) [(.int (0 : Int32)), (.int (0 : Int32))] (.int (0 : Int32))) (V9 : Arv Z h0 (B 9) (K 9) .boolean (2 : Int32) [(.int (0 : Int32)), (.int (0 : Int32))] (.int (0 : Int32))) (V10 : Arv Z h0 (B 10) (K 10) .boolean (4 : Int32) [(.int (0 : Int32)), (.int (0 : Int32)), (.int (0 : Int32)), (.int (0 : Int32))] (.int (0 : Int32))) (V11 : Arv Z h0 (B 11) (K 11) .int (2 : Int32) [(.int (0 : Int32)), (.int (0 : Int32))] (.int (0 : Int32))) (V12 : Arv Z h0 (B 12) (K 12) .boolean (2 : Int32) [(.int (0 : Int32)), (.int (0 : Int32))] (.int (0 : Int32))) :
    Met l (⟨"com/example/istra/istra/engine/NodeModel", "open", "(II)V"⟩ : MethodName) prog_40_method_2_code 5 none ws (rm 0 0 0 0) #[(.ref ob), (.int (2 : Int32)), (.int (2 : Int32))] Z h0 (Q_opn Z ob B K h0 n0) := by
  refine MetFree.of_bodySF (plainFor_of_name pn_com_2fexample_2fistra_2fistra_2fengine_2fNodeModel) hisR ?_
  intro p e s m args below meth c s₁ Bd hml0 hP hK
  obtain ⟨rfl, hZ, hh⟩ := hP
  have hx := Bd.exec
  have hby := Bd.bytes
  have hml : c.maxLocals = 5 := hml0
  have hown : s.vm.findClass "com/example/istra/istra/engine/NodeModel" = some m.cls := findClass_of_methodNamed Bd.named
  have hnm := (name_of_methodNamed Bd.named Bd.method).1
  have X0 : Stand p l e (rm 0 0 0 0) s m #[(.ref ob), (.int (2 : Int32)), (.int (2 : Int32))] below meth c s₁ [] 0 0 := Stand.of_body Bd
  have e0 : s₁.heap = h0 := by rw [← hh, Bd.state]; rfl
  have N0 := Fr.nil n0
  have hww := fun (i : Nat) (c : Jvm.Cond) (h : tables_1[i]? = some c) => hw c (List.mem_of_getElem? h)
  have k0 : Rt p e below s₁ (mkF m 0 #[sr ob, si 2, si 2, un, un] []) s₁ m #[(.ref ob), (.int (2 : Int32)), (.int (2 : Int32))] 5 := fun t k => castTop (ef_3_RII m ob (2 : Int32) (2 : Int32)) k
  have H : ∀ {pc r}, decode prog_40_method_2_code pc = r → decode c.code pc = r := fun d => hb hby d
  have k101 := f_ic X0 hx k0 (H d3_0) (v := 0) rfl
  have k102 := f_isN X0 hx k101 (H d3_1) (l' := #[sr ob, si 2, si 2, si 0, un]) rfl
  have k103 := f_ilN X0 hx k102 (H d3_2) rfl
  have k104 := f_alN X0 hx k103 (H d3_3) rfl
  obtain ⟨T105, X105, e105, k106⟩ := gFs X0 hx hZ hown (hww 43 _ rfl) e0 (fbg FB0 13 (v := (.int (0 : Int32))) (by decide) rfl rfl rfl) k104 (H d3_4)
  have k107 := f_icY X105 hx k106 (H d3_7) (pc' := 75) (flt (by decide)).2.1 (by decide)
  have k108 := f_alN X105 hx k107 (H d3_75) rfl
  have k109 := f_ic X105 hx k108 (H d3_76) (v := 0) rfl
  obtain ⟨T110, h110, X110, e110, W110, st110⟩ := putF X105 hx hZ hown (host := "") (Or.inl (hww 43 _ rfl)) Via.refl e105 (fbg FB0 13 (v := (.int (0 : Int32))) (by decide) rfl rfl rfl) FB0.1 (Or.inl (hww 44 _ rfl)) (hww 1 _ rfl) (ty := .int) (by decide) rfl rfl (g := (mkF m 77 #[sr ob, si 2, si 2, si 0, un] [vI 0, vR ob])) rfl rfl (H d3_77)
  have F111 := (fbg FB0 13 (v := (.int (0 : Int32))) (by decide) rfl rfl rfl).same W110
  have F112 := V0.other W110 (Ne.symm (Nat.ne_of_lt (D.1 0 (by decide))))
  have F113 := V1.other W110 (Ne.symm (Nat.ne_of_lt (D.1 1 (by decide))))
  have F114 := V2.other W110 (Ne.symm (Nat.ne_of_lt (D.1 2 (by decide))))
  have F115 := V3.other W110 (Ne.symm (Nat.ne_of_lt (D.1 3 (by decide))))
  have F116 := V4.other W110 (Ne.symm (Nat.ne_of_lt (D.1 4 (by decide))))
  have F117 := V5.other W110 (Ne.symm (Nat.ne_of_lt (D.1 5 (by decide))))
  have F118 := V6.other W110 (Ne.symm (Nat.ne_of_lt (D.1 6 (by decide))))
  have F119 := V7.other W110 (Ne.symm (Nat.ne_of_lt (D.1 7 (by decide))))
  have F120 := V8.other W110 (Ne.symm (Nat.ne_of_lt (D.1 8 (by decide))))
  have F121 := V9.other W110 (Ne.symm (Nat.ne_of_lt (D.1 9 (by decide))))
  have F122 := V10.other W110 (Ne.symm (Nat.ne_of_lt (D.1 10 (by decide))))
  have F123 := V11.other W110 (Ne.symm (Nat.ne_of_lt (D.1 11 (by decide))))
  have F124 := V12.other W110 (Ne.symm (Nat.ne_of_lt (D.1 12 (by decide))))
  have Z125 : n0 ≤ h110.size := Nat.le_trans Z0 (Nat.le_of_eq W110.size.symm)
  have N126 := Fr.snoc X110 N0 gob
  have FB127 : FB Z h110 ob [(.ref (B 0)), (.ref (B 1)), (.ref (B 2)), (.ref (B 3)), (.ref (B 4)), (.ref (B 5)), (.ref (B 6)), (.ref (B 7)), (.ref (B 8)), (.ref (B 9)), (.ref (B 10)), (.ref (B 11)), (.ref (B 12)), (.int (0 : Int32)), (.int (0 : Int32)), (.int (0 : Int32)), (.int (0 : Int32))] := fb_set hw FB0 13 (by decide) W110 rfl rfl
  have k128 : Rt p e below T110 (mkF m 80 #[sr ob, si 2, si 2, si 0, un] []) s₁ m #[(.ref ob), (.int (2 : Int32)), (.int (2 : Int32))] 5 := fun t k => k109 t (st110 t k)
  have k129 := f_alN X110 hx k128 (H d3_80) rfl
  have k130 := f_ilN X110 hx k129 (H d3_81) rfl
  obtain ⟨T131, h131, X131, e131, W131, st131⟩ := putF X110 hx hZ hown (host := "") (Or.inl (hww 45 _ rfl)) Via.refl e110 (fbg FB127 14 (v := (.int (0 : Int32))) (by decide) rfl rfl rfl) FB127.1 (Or.inl (hww 46 _ rfl)) (hww 1 _ rfl) (ty := .int) (by decide) rfl rfl (g := (mkF m 82 #[sr ob, si 2, si 2, si 0, un] [vI 2, vR ob])) rfl rfl (H d3_82)
  have F132 := (fbg FB127 14 (v := (.int (0 : Int32))) (by decide) rfl rfl rfl).same W131
  have F133 := F112.other W131 (Ne.symm (Nat.ne_of_lt (D.1 0 (by decide))))
  have F134 := F113.other W131 (Ne.symm (Nat.ne_of_lt (D.1 1 (by decide))))
  have F135 := F114.other W131 (Ne.symm (Nat.ne_of_lt (D.1 2 (by decide))))
  have F136 := F115.other W131 (Ne.symm (Nat.ne_of_lt (D.1 3 (by decide))))
  have F137 := F116.other W131 (Ne.symm (Nat.ne_of_lt (D.1 4 (by decide))))
  have F138 := F117.other W131 (Ne.symm (Nat.ne_of_lt (D.1 5 (by decide))))
  have F139 := F118.other W131 (Ne.symm (Nat.ne_of_lt (D.1 6 (by decide))))
  have F140 := F119.other W131 (Ne.symm (Nat.ne_of_lt (D.1 7 (by decide))))
  have F141 := F120.other W131 (Ne.symm (Nat.ne_of_lt (D.1 8 (by decide))))
  have F142 := F121.other W131 (Ne.symm (Nat.ne_of_lt (D.1 9 (by decide))))
  have F143 := F122.other W131 (Ne.symm (Nat.ne_of_lt (D.1 10 (by decide))))
  have F144 := F123.other W131 (Ne.symm (Nat.ne_of_lt (D.1 11 (by decide))))
  have F145 := F124.other W131 (Ne.symm (Nat.ne_of_lt (D.1 12 (by decide))))
  have Z146 : n0 ≤ h131.size := Nat.le_trans Z125 (Nat.le_of_eq W131.size.symm)
  have N147 := Fr.snoc X131 N126 gob
  have FB148 : FB Z h131 ob [(.ref (B 0)), (.ref (B 1)), (.ref (B 2)), (.ref (B 3)), (.ref (B 4)), (.ref (B 5)), (.ref (B 6)), (.ref (B 7)), (.ref (B 8)), (.ref (B 9)), (.ref (B 10)), (.ref (B 11)), (.ref (B 12)), (.int (0 : Int32)), (.int (2 : Int32)), (.int (0 : Int32)), (.int (0 : Int32))] := fb_set hw FB127 14 (by decide) W131 rfl rfl
  have k149 : Rt p e below T131 (mkF m 85 #[sr ob, si 2, si 2, si 0, un] []) s₁ m #[(.ref ob), (.int (2 : Int32)), (.int (2 : Int32))] 5 := fun t k => k130 t (st131 t k)
  have k150 := f_alN X131 hx k149 (H d3_85) rfl
  have k151 := f_ilN X131 hx k150 (H d3_86) rfl
  obtain ⟨T152, h152, X152, e152, W152, st152⟩ := putF X131 hx hZ hown (host := "") (Or.inl (hww 47 _ rfl)) Via.refl e131 (fbg FB148 15 (v := (.int (0 : Int32))) (by decide) rfl rfl rfl) FB148.1 (Or.inl (hww 48 _ rfl)) (hww 1 _ rfl) (ty := .int) (by decide) rfl rfl (g := (mkF m 87 #[sr ob, si 2, si 2, si 0, un] [vI 2, vR ob])) rfl rfl (H d3_87)
  have F153 := (fbg FB148 15 (v := (.int (0 : Int32))) (by decide) rfl rfl rfl).same W152
  have F154 := F133.other W152 (Ne.symm (Nat.ne_of_lt (D.1 0 (by decide))))
  have F155 := F134.other W152 (Ne.symm (Nat.ne_of_lt (D.1 1 (by decide))))
  have F156 := F135.other W152 (Ne.symm (Nat.ne_of_lt (D.1 2 (by decide))))
  have F157 := F136.other W152 (Ne.symm (Nat.ne_of_lt (D.1 3 (by decide))))
  have F158 := F137.other W152 (Ne.symm (Nat.ne_of_lt (D.1 4 (by decide))))
  have F159 := F138.other W152 (Ne.symm (Nat.ne_of_lt (D.1 5 (by decide))))
  have F160 := F139.other W152 (Ne.symm (Nat.ne_of_lt (D.1 6 (by decide))))
  have F161 := F140.other W152 (Ne.symm (Nat.ne_of_lt (D.1 7 (by decide))))
  have F162 := F141.other W152 (Ne.symm (Nat.ne_of_lt (D.1 8 (by decide))))
  have F163 := F142.other W152 (Ne.symm (Nat.ne_of_lt (D.1 9 (by decide))))
  have F164 := F143.other W152 (Ne.symm (Nat.ne_of_lt (D.1 10 (by decide))))
  have F165 := F144.other W152 (Ne.symm (Nat.ne_of_lt (D.1 11 (by decide))))
  have F166 := F145.other W152 (Ne.symm (Nat.ne_of_lt (D.1 12 (by decide))))
  have Z167 : n0 ≤ h152.size := Nat.le_trans Z146 (Nat.le_of_eq W152.size.symm)
  have N168 := Fr.snoc X152 N147 gob
  have FB169 : FB Z h152 ob [(.ref (B 0)), (.ref (B 1)), (.ref (B 2)), (.ref (B 3)), (.ref (B 4)), (.ref (B 5)), (.ref (B 6)), (.ref (B 7)), (.ref (B 8)), (.ref (B 9)), (.ref (B 10)), (.ref (B 11)), (.ref (B 12)), (.int (0 : Int32)), (.int (2 : Int32)), (.int (2 : Int32)), (.int (0 : Int32))] := fb_set hw FB148 15 (by decide) W152 rfl rfl
  have k170 : Rt p e below T152 (mkF m 90 #[sr ob, si 2, si 2, si 0, un] []) s₁ m #[(.ref ob), (.int (2 : Int32)), (.int (2 : Int32))] 5 := fun t k => k151 t (st152 t k)
  have k171 := f_ic X152 hx k170 (H d3_90) (v := 0) rfl
  have k172 := f_isN X152 hx k171 (H d3_91) (l' := #[sr ob, si 2, si 2, si 0, un]) rfl
  have k173 := f_ilN X152 hx k172 (H d3_92) rfl
  have k174 := f_alN X152 hx k173 (H d3_93) rfl
  obtain ⟨T175, X175, e175, k176⟩ := gFs X152 hx hZ hown (hww 47 _ rfl) e152 (fbg FB169 15 (v := (.int (2 : Int32))) (by decide) rfl rfl rfl) k174 (H d3_94)
  have k177 := f_icN X175 hx k176 (H d3_97) (tlt (by decide)).2.1
  have k178 := f_alN X175 hx k177 (H d3_100) rfl
  obtain ⟨T179, X179, e179, k180⟩ := gFs X175 hx hZ hown (hww 16 _ rfl) e175 (fbg FB169 3 (v := (.ref (B 3))) (by decide) rfl rfl rfl) k178 (H d3_101)
  have k181 := f_ilN X179 hx k180 (H d3_104) rfl
  have k182 : Rt p e below T179 (mkF m 108 #[sr ob, si 2, si 2, si 0, un] [vD 9218868437227405312, vI 0, vR (B 3)]) s₁ m #[(.ref ob), (.int (2 : Int32)), (.int (2 : Int32))] 5 := fun t k => k181 t (by
    show Sp p e below T179 (mkF m 105 #[sr ob, si 2, si 2, si 0, un] [vI 0, vR (B 3)]) _
    refine X179.ldc2DoubleC hx hown (mvT hZ (hww 49 _ rfl)) (g := (mkF m 105 #[sr ob, si 2, si 2, si 0, un] [vI 0, vR (B 3)])) rfl (H d3_105) _ ?_
    exact k)
  obtain ⟨T183, h183, L183, X183, e183, W183, V183, N183, Z183, k183⟩ := f_dst X179 hx hZ e179 F157 N168 (G 3 (by decide)) Z167 k182 (H d3_108) (by decide) 0 rfl (lt_b rfl)
  have F184 := F154.other W183 (Nat.ne_of_lt (D.2 0 3 (by decide) (by decide)))
  have F185 := F155.other W183 (Nat.ne_of_lt (D.2 1 3 (by decide) (by decide)))
  have F186 := F156.other W183 (Nat.ne_of_lt (D.2 2 3 (by decide) (by decide)))
  have F187 := F158.other W183 (Nat.ne_of_gt (D.2 3 4 (by decide) (by decide)))
  have F188 := F159.other W183 (Nat.ne_of_gt (D.2 3 5 (by decide) (by decide)))
  have F189 := F160.other W183 (Nat.ne_of_gt (D.2 3 6 (by decide) (by decide)))
  have F190 := F161.other W183 (Nat.ne_of_gt (D.2 3 7 (by decide) (by decide)))
  have F191 := F162.other W183 (Nat.ne_of_gt (D.2 3 8 (by decide) (by decide)))
  have F192 := F163.other W183 (Nat.ne_of_gt (D.2 3 9 (by decide) (by decide)))
  have F193 := F164.other W183 (Nat.ne_of_gt (D.2 3 10 (by decide) (by decide)))
  have F194 := F165.other W183 (Nat.ne_of_gt (D.2 3 11 (by decide) (by decide)))
  have F195 := F166.other W183 (Nat.ne_of_gt (D.2 3 12 (by decide) (by decide)))
  have FB196 := fb_o FB169 W183 (Nat.ne_of_lt (D.1 3 (by decide)))
  have k197 := f_inc X183 hx k183 (H d3_109) rfl (l' := #[sr ob, si 2, si 2, si 1, un]) rfl
  have k198 := f_go X183 hx k197 (H d3_112) (pc' := 92) (by decide)
  have k199 := f_ilN X183 hx k198 (H d3_92) rfl
  have k200 := f_alN X183 hx k199 (H d3_93) rfl
  obtain ⟨T201, X201, e201, k202⟩ := gFs X183 hx hZ hown (hww 47 _ rfl) e183 (fbg FB196 15 (v := (.int (2 : Int32))) (by decide) rfl rfl rfl) k200 (H d3_94)
  have k203 := f_icN X201 hx k202 (H d3_97) (tlt (by decide)).2.1
  have k204 := f_alN X201 hx k203 (H d3_100) rfl
  obtain ⟨T205, X205, e205, k206⟩ := gFs X201 hx hZ hown (hww 16 _ rfl) e201 (fbg FB196 3 (v := (.ref (B 3))) (by decide) rfl rfl rfl) k204 (H d3_101)
  have k207 := f_ilN X205 hx k206 (H d3_104) rfl
  have k208 : Rt p e below T205 (mkF m 108 #[sr ob, si 2, si 2, si 1, un] [vD 9218868437227405312, vI 1, vR (B 3)]) s₁ m #[(.ref ob), (.int (2 : Int32)), (.int (2 : Int32))] 5 := fun t k => k207 t (by
    show Sp p e below T205 (mkF m 105 #[sr ob, si 2, si 2, si 1, un] [vI 1, vR (B 3)]) _
    refine X205.ldc2DoubleC hx hown (mvT hZ (hww 49 _ rfl)) (g := (mkF m 105 #[sr ob, si 2, si 2, si 1, un] [vI 1, vR (B 3)])) rfl (H d3_105) _ ?_
    exact k)
  obtain ⟨T209, h209, L209, X209, e209, W209, V209, N209, Z209, k209⟩ := f_dst X205 hx hZ e205 V183 N183 (G 3 (by decide)) Z183 k208 (H d3_108) (by decide) 1 rfl (lt_b rfl)
  have F210 := F184.other W209 (Nat.ne_of_lt (D.2 0 3 (by decide) (by decide)))
  have F211 := F185.other W209 (Nat.ne_of_lt (D.2 1 3 (by decide) (by decide)))
  have F212 := F186.other W209 (Nat.ne_of_lt (D.2 2 3 (by decide) (by decide)))
  have F213 := F187.other W209 (Nat.ne_of_gt (D.2 3 4 (by decide) (by decide)))
  have F214 := F188.other W209 (Nat.ne_of_gt (D.2 3 5 (by decide) (by decide)))
  have F215 := F189.other W209 (Nat.ne_of_gt (D.2 3 6 (by decide) (by decide)))
  have F216 := F190.other W209 (Nat.ne_of_gt (D.2 3 7 (by decide) (by decide)))
  have F217 := F191.other W209 (Nat.ne_of_gt (D.2 3 8 (by decide) (by decide)))
  have F218 := F192.other W209 (Nat.ne_of_gt (D.2 3 9 (by decide) (by decide)))
  have F219 := F193.other W209 (Nat.ne_of_gt (D.2 3 10 (by decide) (by decide)))
  have F220 := F194.other W209 (Nat.ne_of_gt (D.2 3 11 (by decide) (by decide)))
  have F221 := F195.other W209 (Nat.ne_of_gt (D.2 3 12 (by decide) (by decide)))
  have FB222 := fb_o FB196 W209 (Nat.ne_of_lt (D.1 3 (by decide)))
  have k223 := f_inc X209 hx k209 (H d3_109) rfl (l' := #[sr ob, si 2, si 2, si 2, un]) rfl
  have k224 := f_go X209 hx k223 (H d3_112) (pc' := 92) (by decide)
  have k225 := f_ilN X209 hx k224 (H d3_92) rfl
  have k226 := f_alN X209 hx k225 (H d3_93) rfl
  obtain ⟨T227, X227, e227, k228⟩ := gFs X209 hx hZ hown (hww 47 _ rfl) e209 (fbg FB222 15 (v := (.int (2 : Int32))) (by decide) rfl rfl rfl) k226 (H d3_94)
  have k229 := f_icY X227 hx k228 (H d3_97) (pc' := 115) (flt (by decide)).2.1 (by decide)
  have k230 := f_alN X227 hx k229 (H d3_115) rfl
  obtain ⟨T231, X231, e231, k232⟩ := gFs X227 hx hZ hown (hww 50 _ rfl) e227 (fbg FB222 16 (v := (.int (0 : Int32))) (by decide) rfl rfl rfl) k230 (H d3_116)
  have k233 := f_ifY X231 hx k232 (H d3_119) (pc' := 135) ((if0 _ _).trans (teq (by decide)).1) (by decide)
  obtain ⟨fs, hr, hrun, hended, hW, hsame⟩ := X231.leave (v := none) (fun _ => rfl)
  refine ⟨_, _, k233 _ (X231.returnOut hx Bd.returns (H d3_135) hr), hrun, hended, _, _, rfl, ?_, ⟨_, rfl⟩, hW, hsame.mono (by decide) (by decide)⟩
  show Q_opn Z ob B K h0 n0 _ T231.heap _
  rw [e231]
  exact ⟨rfl, N209, Z209, nb_fb FB222 F210 F211 F212 V209 F213 F214 F215 F216 F217 F218 F219 F220 F221⟩
theorem ef_5_RI (m : MethodId) (x0 : Addr) (x1 : Int32) : entryFrame m #[(.ref x0), (.int x1)] 3 = mkF m 0 #[.val (.ref x0), .val (.int x1), .unset] [] := by first | (simp [entryFrame, mkF, argsToLocals, Value.category]; done) | rfl
theorem d5_0 : decode prog_40_method_4_code 0 = .ok (.aload_n 0, 1) := by decide +kernel
theorem d5_1 : decode prog_40_method_4_code 1 = .ok (.dup, 1) := by decide +kernel
theorem d5_2 : decode prog_40_method_4_code 2 = .ok (.getfield 51, 3) := by decide +kernel
theorem d5_5 : decode prog_40_method_4_code 5 = .ok (.dup_x1, 1) := by decide +kernel
theorem d5_6 : decode prog_40_method_4_code 6 = .ok (.iconst 1, 1) := by decide +kernel
theorem d5_7 : decode prog_40_method_4_code 7 = .ok (.iadd, 1) := by decide +kernel
theorem d5_8 : decode prog_40_method_4_code 8 = .ok (.putfield 51, 3) := by decide +kernel
theorem d5_11 : decode prog_40_method_4_code 11 = .ok (.istore_n 2, 1) := by decide +kernel
theorem d5_12 : decode prog_40_method_4_code 12 = .ok (.iload_n 2, 1) := by decide +kernel
theorem d5_13 : decode prog_40_method_4_code 13 = .ok (.ifCond .le 35, 3) := by decide +kernel
theorem d5_48 : decode prog_40_method_4_code 48 = .ok (.aload_n 0, 1) := by decide +kernel
theorem d5_49 : decode prog_40_method_4_code 49 = .ok (.getfield 44, 3) := by decide +kernel
theorem d5_52 : decode prog_40_method_4_code 52 = .ok (.iload_n 2, 1) := by decide +kernel
theorem d5_53 : decode prog_40_method_4_code 53 = .ok (.iload_n 1, 1) := by decide +kernel
theorem d5_54 : decode prog_40_method_4_code 54 = .ok (.iastore, 1) := by decide +kernel
theorem d5_55 : decode prog_40_method_4_code 55 = .ok (.aload_n 0, 1) := by decide +kernel
theorem d5_56 : decode prog_40_method_4_code 56 = .ok (.getfield 48, 3) := by decide +kernel
theorem d5_59 : decode prog_40_method_4_code 59 = .ok (.iload_n 1, 1) := by decide +kernel
theorem d5_60 : decode prog_40_method_4_code 60 = .ok (.iconst 1, 1) := by decide +kernel
theorem d5_61 : decode prog_40_method_4_code 61 = .ok (.bastore, 1) := by decide +kernel
theorem d5_62 : decode prog_40_method_4_code 62 = .ok (.return_, 1) := by decide +kernel
def Q_lst00 (Z : State) (ob : Addr) (B : Nat → Addr) (K : Nat → ClassId) (l0 : List Value) (l1 : List Value) (l2 : List Value) (l3 : List Value) (l4 : List Value) (l5 : List Value) (l6 : List Value) (l7 : List Value) (l8 : List Value) (l9 : List Value) (l10 : List Value) (h0 : Heap) (n0 : Nat) (v : Option Value) (h : Heap) (L : List Loc) : Prop := v = none ∧ Fr n0 L ∧ n0 ≤ h.size ∧ NB Z h ob B K l0 l1 l2 l3 l4 l5 l6 l7 l8 l9 l10 [(.int (0 : Int32)), (.int (0 : Int32))] [(.int (1 : Int32)), (.int (0 : Int32))] (1 : Int32)
set_option maxRecDepth 65536 in
set_option maxHeartbeats 40000000 in
theorem lst00 (l : Launch) (Z : State) (a0 : Array Value) (hw : ∀ d ∈ tables_1, d.before a0 Z = true) (ws : List Jvm.Cond) (ob : Addr) (B : Nat → Addr) (K : Nat → ClassId) (l0 : List Value) (l1 : List Value) (l2 : List Value) (l3 : List Value) (l4 : List Value) (l5 : List Value) (l6 : List Value) (l7 : List Value) (l8 : List Value) (l9 : List Value) (l10 : List Value) (h0 : Heap) (n0 : Nat) (Z0 : n0 ≤ h0.size) (D : Dis ob B) (gob : n0 ≤ ob) (G : ∀ i, i < 13 → n0 ≤ B i) (NB0 : NB Z h0 ob B K l0 l1 l2 l3 l4 l5 l6 l7 l8 l9 l10 [(.int (0 : Int32)), (.int (0 : Int32))] [(.int (0 : Int32)), (.int (0 : Int32))] (0 : Int32)) :
    Met l (⟨"com/example/istra/istra/engine/NodeModel", "list", "(I)V"⟩ : MethodName) prog_40_method_4_code 3 none ws (rm 0 0 0 0) #[(.ref ob), (.int (0 : Int32))] Z h0 (Q_lst00 Z ob B K l0 l1 l2 l3 l4 l5 l6 l7 l8 l9 l10 h0 n0) := by
  refine MetFree.of_bodySF (plainFor_of_name pn_com_2fexample_2fistra_2fistra_2fengine_2fNodeModel) hisR ?_
  intro p e s m args below meth c s₁ Bd hml0 hP hK
  obtain ⟨rfl, hZ, hh⟩ := hP
  have hx := Bd.exec
  have hby := Bd.bytes
  have hml : c.maxLocals = 3 := hml0
  have hown : s.vm.findClass "com/example/istra/istra/engine/NodeModel" = some m.cls := findClass_of_methodNamed Bd.named
  have hnm := (name_of_methodNamed Bd.named Bd.method).1
  have X0 : Stand p l e (rm 0 0 0 0) s m #[(.ref ob), (.int (0 : Int32))] below meth c s₁ [] 0 0 := Stand.of_body Bd
  have e0 : s₁.heap = h0 := by rw [← hh, Bd.state]; rfl
  have N0 := Fr.nil n0
  have hww := fun (i : Nat) (c : Jvm.Cond) (h : tables_1[i]? = some c) => hw c (List.mem_of_getElem? h)
  have k0 : Rt p e below s₁ (mkF m 0 #[sr ob, si 0, un] []) s₁ m #[(.ref ob), (.int (0 : Int32))] 3 := fun t k => castTop (ef_5_RI m ob (0 : Int32)) k
  have H : ∀ {pc r}, decode prog_40_method_4_code pc = r → decode c.code pc = r := fun d => hb hby d
  have k101 := f_alN X0 hx k0 (H d5_0) rfl
  have k102 := f_dup X0 hx k101 (H d5_1) rfl
  obtain ⟨T103, X103, e103, k104⟩ := gFs X0 hx hZ hown (hww 43 _ rfl) e0 (nq14 NB0) k102 (H d5_2)
  have k105 := f_dupX1 X103 hx k104 (H d5_5) rfl rfl
  have k106 := f_ic X103 hx k105 (H d5_6) (v := 1) rfl
  have k107 := f_iadd X103 hx k106 (H d5_7) (r := 1) (by decide)
  obtain ⟨T108, h108, X108, e108, W108, st108⟩ := putF X103 hx hZ hown (host := "") (Or.inl (hww 43 _ rfl)) Via.refl e103 (nq14 NB0) (nq0 NB0) (Or.inl (hww 44 _ rfl)) (hww 1 _ rfl) (ty := .int) (by decide) rfl rfl (g := (mkF m 8 #[sr ob, si 0, un] [vI 1, vR ob, vI 0])) rfl rfl (H d5_8)
  have F109 := (nq14 NB0).same W108
  have Z110 : n0 ≤ h108.size := Nat.le_trans Z0 (Nat.le_of_eq W108.size.symm)
  have N111 := Fr.snoc X108 N0 gob
  have NB112 := nb_wc hw D NB0 W108
  have k113 : Rt p e below T108 (mkF m 11 #[sr ob, si 0, un] [vI 0]) s₁ m #[(.ref ob), (.int (0 : Int32))] 3 := fun t k => k107 t (st108 t k)
  have k114 := f_isN X108 hx k113 (H d5_11) (l' := #[sr ob, si 0, si 0]) rfl
  have k115 := f_ilN X108 hx k114 (H d5_12) rfl
  have k116 := f_ifY X108 hx k115 (H d5_13) (pc' := 48) ((if0 _ _).trans (flt (by decide)).2.2.2) (by decide)
  have k117 := f_alN X108 hx k116 (H d5_48) rfl
  obtain ⟨T118, X118, e118, k119⟩ := gFs X108 hx hZ hown (hww 34 _ rfl) e108 (nq12 NB112) k117 (H d5_49)
  have k120 := f_ilN X118 hx k119 (H d5_52) rfl
  have k121 := f_ilN X118 hx k120 (H d5_53) rfl
  obtain ⟨T122, h122, L122, X122, e122, W122, V122, N122, Z122, k122⟩ := f_ist X118 hx hZ e118 (nq29 NB112) N111 (G 11 (by decide)) Z110 k121 (H d5_54) (by decide) 0 rfl (lt_b rfl)
  have NB123 := nb_w11 D NB112 W122 V122
  have k124 := f_alN X122 hx k122 (H d5_55) rfl
  obtain ⟨T125, X125, e125, k126⟩ := gFs X122 hx hZ hown (hww 36 _ rfl) e122 (nq13 NB123) k124 (H d5_56)
  have k127 := f_ilN X125 hx k126 (H d5_59) rfl
  have k128 := f_ic X125 hx k127 (H d5_60) (v := 1) rfl
  obtain ⟨T129, h129, L129, X129, e129, W129, V129, N129, Z129, k129⟩ := f_bst X125 hx hZ e125 (nq30 NB123) N122 (G 12 (by decide)) Z122 k128 (H d5_61) (by decide) 0 rfl (lt_b rfl) (v' := 1) rfl
  have NB130 := nb_w12 D NB123 W129 V129
  obtain ⟨fs, hr, hrun, hended, hW, hsame⟩ := X129.leave (v := none) (fun _ => rfl)
  refine ⟨_, _, k129 _ (X129.returnOut hx Bd.returns (H d5_62) hr), hrun, hended, _, _, rfl, ?_, ⟨_, rfl⟩, hW, hsame.mono (by decide) (by decide)⟩
  show Q_lst00 Z ob B K l0 l1 l2 l3 l4 l5 l6 l7 l8 l9 l10 h0 n0 _ T129.heap _
  rw [e129]
  exact ⟨rfl, N129, Z129, NB130⟩
theorem ef_4_RIID (m : MethodId) (x0 : Addr) (x1 : Int32) (x2 : Int32) (x3 : UInt64) : entryFrame m #[(.ref x0), (.int x1), (.int x2), (.double x3)] 5 = mkF m 0 #[.val (.ref x0), .val (.int x1), .val (.int x2), .val (.double x3), .second] [] := by first | (simp [entryFrame, mkF, argsToLocals, Value.category]; done) | rfl
theorem d4_0 : decode prog_40_method_3_code 0 = .ok (.aload_n 0, 1) := by decide +kernel
theorem d4_1 : decode prog_40_method_3_code 1 = .ok (.getfield 7, 3) := by decide +kernel
theorem d4_4 : decode prog_40_method_3_code 4 = .ok (.iload_n 1, 1) := by decide +kernel
theorem d4_5 : decode prog_40_method_3_code 5 = .ok (.aload_n 0, 1) := by decide +kernel
theorem d4_6 : decode prog_40_method_3_code 6 = .ok (.getfield 55, 3) := by decide +kernel
theorem d4_9 : decode prog_40_method_3_code 9 = .ok (.imul, 1) := by decide +kernel
theorem d4_10 : decode prog_40_method_3_code 10 = .ok (.iload_n 2, 1) := by decide +kernel
theorem d4_11 : decode prog_40_method_3_code 11 = .ok (.iadd, 1) := by decide +kernel
theorem d4_12 : decode prog_40_method_3_code 12 = .ok (.dload_n 3, 1) := by decide +kernel
theorem d4_13 : decode prog_40_method_3_code 13 = .ok (.dastore, 1) := by decide +kernel
theorem d4_14 : decode prog_40_method_3_code 14 = .ok (.aload_n 0, 1) := by decide +kernel
theorem d4_15 : decode prog_40_method_3_code 15 = .ok (.getfield 48, 3) := by decide +kernel
theorem d4_18 : decode prog_40_method_3_code 18 = .ok (.iload_n 1, 1) := by decide +kernel
theorem d4_19 : decode prog_40_method_3_code 19 = .ok (.baload, 1) := by decide +kernel
theorem d4_20 : decode prog_40_method_3_code 20 = .ok (.ifCond .ne 8, 3) := by decide +kernel
theorem d4_23 : decode prog_40_method_3_code 23 = .ok (.aload_n 0, 1) := by decide +kernel
theorem d4_24 : decode prog_40_method_3_code 24 = .ok (.iload_n 1, 1) := by decide +kernel
theorem d4_25 : decode prog_40_method_3_code 25 = .ok (.invokevirtual 78, 3) := by decide +kernel
theorem pd__28I_29V : parseMethodDescriptor "(I)V" = some ⟨[.int], none⟩ := by decide +kernel
theorem own_selP {s : State} {args : Array Value} {C : String} {y z : MethodName} (hsel : (Cond.selects C z z).before args s = true) (hz : z.cls = y.cls) (hpriv : s.PrivateAt y) (hinst : (Cond.instanceMethod y).before args s = true) (hy : y.cls ≠ "java/lang/invoke/MethodHandle" ∧ y.cls ≠ "java/lang/invoke/VarHandle") : (Cond.selects y.cls y y).before args s = true := by
  obtain ⟨c, r, m, -, -, a3, -, k, hk, hki⟩ := Cond.selects_spec hsel
  have q : s.vm.findClass z.cls = some m.cls := findClass_of_methodNamed a3
  rw [hz] at q
  exact Stand.selects_self_of_private q hk hki hpriv hinst hy
theorem d4_28 : decode prog_40_method_3_code 28 = .ok (.return_, 1) := by decide +kernel
def Q_wnt000 (Z : State) (ob : Addr) (B : Nat → Addr) (K : Nat → ClassId) (l1 : List Value) (l2 : List Value) (l3 : List Value) (l4 : List Value) (l5 : List Value) (l6 : List Value) (l7 : List Value) (l8 : List Value) (l9 : List Value) (l10 : List Value) (x0 : UInt64) (x1 : UInt64) (x2 : UInt64) (x3 : UInt64) (u1 : UInt64) (h0 : Heap) (n0 : Nat) (v : Option Value) (h : Heap) (L : List Loc) : Prop := v = none ∧ Fr n0 L ∧ n0 ≤ h.size ∧ NB Z h ob B K [(.double u1), (.double x1), (.double x2), (.double x3)] l1 l2 l3 l4 l5 l6 l7 l8 l9 l10 [(.int (0 : Int32)), (.int (0 : Int32))] [(.int (1 : Int32)), (.int (0 : Int32))] (1 : Int32)
set_option maxRecDepth 65536 in
set_option maxHeartbeats 40000000 in
theorem wnt000 (l : Launch) (Z : State) (a0 : Array Value) (hw : ∀ d ∈ tables_1, d.before a0 Z = true) (ws : List Jvm.Cond) (ob : Addr) (B : Nat → Addr) (K : Nat → ClassId) (l1 : List Value) (l2 : List Value) (l3 : List Value) (l4 : List Value) (l5 : List Value) (l6 : List Value) (l7 : List Value) (l8 : List Value) (l9 : List Value) (l10 : List Value) (x0 : UInt64) (x1 : UInt64) (x2 : UInt64) (x3 : UInt64) (u1 : UInt64) (h0 : Heap) (n0 : Nat) (Z0 : n0 ≤ h0.size) (D : Dis ob B) (gob : n0 ≤ ob) (G : ∀ i, i < 13 → n0 ≤ B i) (NB0 : NB Z h0 ob B K [(.double x0), (.double x1), (.double x2), (.double x3)] l1 l2 l3 l4 l5 l6 l7 l8 l9 l10 [(.int (0 : Int32)), (.int (0 : Int32))] [(.int (0 : Int32)), (.int (0 : Int32))] (0 : Int32)) :
    Met l (⟨"com/example/istra/istra/engine/NodeModel", "want", "(IID)V"⟩ : MethodName) prog_40_method_3_code 5 none ws (rm 1 0 0 14) #[(.ref ob), (.int (0 : Int32)), (.int (0 : Int32)), (.double u1)] Z h0 (Q_wnt000 Z ob B K l1 l2 l3 l4 l5 l6 l7 l8 l9 l10 x0 x1 x2 x3 u1 h0 n0) := by
  refine MetFree.of_bodySF (plainFor_of_name pn_com_2fexample_2fistra_2fistra_2fengine_2fNodeModel) hisR ?_
  intro p e s m args below meth c s₁ Bd hml0 hP hK
  obtain ⟨rfl, hZ, hh⟩ := hP
  have hx := Bd.exec
  have hby := Bd.bytes
  have hml : c.maxLocals = 5 := hml0
  have hown : s.vm.findClass "com/example/istra/istra/engine/NodeModel" = some m.cls := findClass_of_methodNamed Bd.named
  have hnm := (name_of_methodNamed Bd.named Bd.method).1
  have X0 : Stand p l e (rm 1 0 0 14) s m #[(.ref ob), (.int (0 : Int32)), (.int (0 : Int32)), (.double u1)] below meth c s₁ [] 0 0 := Stand.of_body Bd
  have e0 : s₁.heap = h0 := by rw [← hh, Bd.state]; rfl
  have N0 := Fr.nil n0
  have hww := fun (i : Nat) (c : Jvm.Cond) (h : tables_1[i]? = some c) => hw c (List.mem_of_getElem? h)
  have k0 : Rt p e below s₁ (mkF m 0 #[sr ob, si 0, si 0, sd u1, se] []) s₁ m #[(.ref ob), (.int (0 : Int32)), (.int (0 : Int32)), (.double u1)] 5 := fun t k => castTop (ef_4_RIID m ob (0 : Int32) (0 : Int32) u1) k
  have H : ∀ {pc r}, decode prog_40_method_3_code pc = r → decode c.code pc = r := fun d => hb hby d
  have k101 := f_alN X0 hx k0 (H d4_0) rfl
  obtain ⟨T102, X102, e102, k103⟩ := gFs X0 hx hZ hown (hww 10 _ rfl) e0 (nq1 NB0) k101 (H d4_1)
  have k104 := f_ilN X102 hx k103 (H d4_4) rfl
  have k105 := f_alN X102 hx k104 (H d4_5) rfl
  obtain ⟨T106, X106, e106, k107⟩ := gFs X102 hx hZ hown (hww 47 _ rfl) e102 (nq16 NB0) k105 (H d4_6)
  have k108 := f_imul X106 hx k107 (H d4_9) (r := 0) (by decide)
  have k109 := f_ilN X106 hx k108 (H d4_10) rfl
  have k110 := f_iadd X106 hx k109 (H d4_11) (r := 0) (by decide)
  have k111 := f_dlN X106 hx k110 (H d4_12) rfl
  obtain ⟨T112, h112, L112, X112, e112, W112, V112, N112, Z112, k112⟩ := f_dst X106 hx hZ e106 (nq18 NB0) N0 (G 0 (by decide)) Z0 k111 (H d4_13) (by decide) 0 rfl (lt_b rfl)
  have NB113 := nb_w0 D NB0 W112 V112
  have k114 := f_alN X112 hx k112 (H d4_14) rfl
  obtain ⟨T115, X115, e115, k116⟩ := gFs X112 hx hZ hown (hww 36 _ rfl) e112 (nq13 NB113) k114 (H d4_15)
  have k117 := f_ilN X115 hx k116 (H d4_18) rfl
  have k118 := f_bal X115 hx hZ e115 (nq30 NB113) k117 (H d4_19) (v := 0) (by decide) rfl
  have k119 := f_ifN X115 hx k118 (H d4_20) ((if0 _ _).trans (teq (by decide)).2)
  have k120 := f_alN X115 hx k119 (H d4_23) rfl
  have k121 := f_ilN X115 hx k120 (H d4_24) rfl
  obtain ⟨cq122, q122, q122'⟩ := (nq0 NB113).cell
  obtain ⟨_, _, ⟨T122, L122, k122, n122⟩, -, X122, ⟨Lc122, hQ122, l122, y122, z122⟩, st122⟩ := X115.privateBack hx (y := (⟨"com/example/istra/istra/engine/NodeModel", "list", "(I)V"⟩ : MethodName)) hown (mvT hZ (hww 57 _ rfl)) (mvT hZ (hww 58 _ rfl)) (own_selP (mvT hZ (hww 41 _ rfl)) rfl (Cond.privateMethod_at (mvP hZ (hww 59 _ rfl) (args := #[]))) (mvT hZ (hww 58 _ rfl)) (by decide)) (Cond.privateMethod_at (mvP hZ (hww 59 _ rfl) (args := #[]))) (mvT hZ (hww 60 _ rfl)) (by decide) (backOf (W := 0) (lst00 l Z a0 hw [] ob B K [(.double u1), (.double x1), (.double x2), (.double x3)] l1 l2 l3 l4 l5 l6 l7 l8 l9 l10 h112 n0 Z112 D gob G NB113) hZ (hww 60 _ rfl) (hww 2 _ rfl) (by decide) (by decide)) (g := (mkF m 25 #[sr ob, si 0, si 0, sd u1, se] [vI 0, vR ob])) rfl (by rw [hml]; rfl) (Steps.refl _) (a := ob) (by rw [e115]; exact q122) q122' (argsL := [(.int (0 : Int32))]) (rest := []) (lenOf pd__28I_29V rfl) rfl (by show 2 * 0 + _ ≤ _; exact Nat.le_of_eq rfl) (H d4_25) (fun _ _ => ⟨rfl, e115, (by decide : 0 + 0 ≤ _), (by decide : 0 + 0 ≤ _)⟩)
  dsimp only [Pt.U, Pt.locs, Pt.cells, Pt.slots] at X122 l122 y122 z122 st122 hQ122
  subst l122 y122 z122
  obtain ⟨h122, e122⟩ : ∃ h', T122.heap = h' := ⟨_, rfl⟩
  rw [e122] at hQ122
  obtain ⟨rfl, N122q, Z122, NB122⟩ := hQ122
  have N123 := Fr.app N112 N122q
  have k124 : Rt p e below T122 (mkF m 28 #[sr ob, si 0, si 0, sd u1, se] []) s₁ m #[(.ref ob), (.int (0 : Int32)), (.int (0 : Int32)), (.double u1)] 5 := fun t k => k121 t (st122.trans k)
  obtain ⟨fs, hr, hrun, hended, hW, hsame⟩ := X122.leave (v := none) (fun _ => rfl)
  refine ⟨_, _, k124 _ (X122.returnOut hx Bd.returns (H d4_28) hr), hrun, hended, _, _, rfl, ?_, ⟨_, rfl⟩, hW, hsame.mono (by decide) (by decide)⟩
  show Q_wnt000 Z ob B K l1 l2 l3 l4 l5 l6 l7 l8 l9 l10 x0 x1 x2 x3 u1 h0 n0 _ T122.heap _
  rw [e122]
  exact ⟨rfl, N123, Z122, NB122⟩
def Q_wnt001 (Z : State) (ob : Addr) (B : Nat → Addr) (K : Nat → ClassId) (l1 : List Value) (l2 : List Value) (l3 : List Value) (l4 : List Value) (l5 : List Value) (l6 : List Value) (l7 : List Value) (l8 : List Value) (l9 : List Value) (l10 : List Value) (x0 : UInt64) (x1 : UInt64) (x2 : UInt64) (x3 : UInt64) (u1 : UInt64) (h0 : Heap) (n0 : Nat) (v : Option Value) (h : Heap) (L : List Loc) : Prop := v = none ∧ Fr n0 L ∧ n0 ≤ h.size ∧ NB Z h ob B K [(.double x0), (.double u1), (.double x2), (.double x3)] l1 l2 l3 l4 l5 l6 l7 l8 l9 l10 [(.int (0 : Int32)), (.int (0 : Int32))] [(.int (1 : Int32)), (.int (0 : Int32))] (1 : Int32)
set_option maxRecDepth 65536 in
set_option maxHeartbeats 40000000 in
theorem wnt001 (l : Launch) (Z : State) (a0 : Array Value) (hw : ∀ d ∈ tables_1, d.before a0 Z = true) (ws : List Jvm.Cond) (ob : Addr) (B : Nat → Addr) (K : Nat → ClassId) (l1 : List Value) (l2 : List Value) (l3 : List Value) (l4 : List Value) (l5 : List Value) (l6 : List Value) (l7 : List Value) (l8 : List Value) (l9 : List Value) (l10 : List Value) (x0 : UInt64) (x1 : UInt64) (x2 : UInt64) (x3 : UInt64) (u1 : UInt64) (h0 : Heap) (n0 : Nat) (Z0 : n0 ≤ h0.size) (D : Dis ob B) (gob : n0 ≤ ob) (G : ∀ i, i < 13 → n0 ≤ B i) (NB0 : NB Z h0 ob B K [(.double x0), (.double x1), (.double x2), (.double x3)] l1 l2 l3 l4 l5 l6 l7 l8 l9 l10 [(.int (0 : Int32)), (.int (0 : Int32))] [(.int (0 : Int32)), (.int (0 : Int32))] (0 : Int32)) :
    Met l (⟨"com/example/istra/istra/engine/NodeModel", "want", "(IID)V"⟩ : MethodName) prog_40_method_3_code 5 none ws (rm 1 0 0 14) #[(.ref ob), (.int (0 : Int32)), (.int (1 : Int32)), (.double u1)] Z h0 (Q_wnt001 Z ob B K l1 l2 l3 l4 l5 l6 l7 l8 l9 l10 x0 x1 x2 x3 u1 h0 n0) := by
  refine MetFree.of_bodySF (plainFor_of_name pn_com_2fexample_2fistra_2fistra_2fengine_2fNodeModel) hisR ?_
  intro p e s m args below meth c s₁ Bd hml0 hP hK
  obtain ⟨rfl, hZ, hh⟩ := hP
  have hx := Bd.exec
  have hby := Bd.bytes
  have hml : c.maxLocals = 5 := hml0
  have hown : s.vm.findClass "com/example/istra/istra/engine/NodeModel" = some m.cls := findClass_of_methodNamed Bd.named
  have hnm := (name_of_methodNamed Bd.named Bd.method).1
  have X0 : Stand p l e (rm 1 0 0 14) s m #[(.ref ob), (.int (0 : Int32)), (.int (1 : Int32)), (.double u1)] below meth c s₁ [] 0 0 := Stand.of_body Bd
  have e0 : s₁.heap = h0 := by rw [← hh, Bd.state]; rfl
  have N0 := Fr.nil n0
  have hww := fun (i : Nat) (c : Jvm.Cond) (h : tables_1[i]? = some c) => hw c (List.mem_of_getElem? h)
  have k0 : Rt p e below s₁ (mkF m 0 #[sr ob, si 0, si 1, sd u1, se] []) s₁ m #[(.ref ob), (.int (0 : Int32)), (.int (1 : Int32)), (.double u1)] 5 := fun t k => castTop (ef_4_RIID m ob (0 : Int32) (1 : Int32) u1) k
  have H : ∀ {pc r}, decode prog_40_method_3_code pc = r → decode c.code pc = r := fun d => hb hby d
  have k101 := f_alN X0 hx k0 (H d4_0) rfl
  obtain ⟨T102, X102, e102, k103⟩ := gFs X0 hx hZ hown (hww 10 _ rfl) e0 (nq1 NB0) k101 (H d4_1)
  have k104 := f_ilN X102 hx k103 (H d4_4) rfl
  have k105 := f_alN X102 hx k104 (H d4_5) rfl
  obtain ⟨T106, X106, e106, k107⟩ := gFs X102 hx hZ hown (hww 47 _ rfl) e102 (nq16 NB0) k105 (H d4_6)
  have k108 := f_imul X106 hx k107 (H d4_9) (r := 0) (by decide)
  have k109 := f_ilN X106 hx k108 (H d4_10) rfl
  have k110 := f_iadd X106 hx k109 (H d4_11) (r := 1) (by decide)
  have k111 := f_dlN X106 hx k110 (H d4_12) rfl
  obtain ⟨T112, h112, L112, X112, e112, W112, V112, N112, Z112, k112⟩ := f_dst X106 hx hZ e106 (nq18 NB0) N0 (G 0 (by decide)) Z0 k111 (H d4_13) (by decide) 1 rfl (lt_b rfl)
  have NB113 := nb_w0 D NB0 W112 V112
  have k114 := f_alN X112 hx k112 (H d4_14) rfl
  obtain ⟨T115, X115, e115, k116⟩ := gFs X112 hx hZ hown (hww 36 _ rfl) e112 (nq13 NB113) k114 (H d4_15)
  have k117 := f_ilN X115 hx k116 (H d4_18) rfl
  have k118 := f_bal X115 hx hZ e115 (nq30 NB113) k117 (H d4_19) (v := 0) (by decide) rfl
  have k119 := f_ifN X115 hx k118 (H d4_20) ((if0 _ _).trans (teq (by decide)).2)
  have k120 := f_alN X115 hx k119 (H d4_23) rfl
  have k121 := f_ilN X115 hx k120 (H d4_24) rfl
  obtain ⟨cq122, q122, q122'⟩ := (nq0 NB113).cell
  obtain ⟨_, _, ⟨T122, L122, k122, n122⟩, -, X122, ⟨Lc122, hQ122, l122, y122, z122⟩, st122⟩ := X115.privateBack hx (y := (⟨"com/example/istra/istra/engine/NodeModel", "list", "(I)V"⟩ : MethodName)) hown (mvT hZ (hww 57 _ rfl)) (mvT hZ (hww 58 _ rfl)) (own_selP (mvT hZ (hww 41 _ rfl)) rfl (Cond.privateMethod_at (mvP hZ (hww 59 _ rfl) (args := #[]))) (mvT hZ (hww 58 _ rfl)) (by decide)) (Cond.privateMethod_at (mvP hZ (hww 59 _ rfl) (args := #[]))) (mvT hZ (hww 60 _ rfl)) (by decide) (backOf (W := 0) (lst00 l Z a0 hw [] ob B K [(.double x0), (.double u1), (.double x2), (.double x3)] l1 l2 l3 l4 l5 l6 l7 l8 l9 l10 h112 n0 Z112 D gob G NB113) hZ (hww 60 _ rfl) (hww 2 _ rfl) (by decide) (by decide)) (g := (mkF m 25 #[sr ob, si 0, si 1, sd u1, se] [vI 0, vR ob])) rfl (by rw [hml]; rfl) (Steps.refl _) (a := ob) (by rw [e115]; exact q122) q122' (argsL := [(.int (0 : Int32))]) (rest := []) (lenOf pd__28I_29V rfl) rfl (by show 2 * 0 + _ ≤ _; exact Nat.le_of_eq rfl) (H d4_25) (fun _ _ => ⟨rfl, e115, (by decide : 0 + 0 ≤ _), (by decide : 0 + 0 ≤ _)⟩)
  dsimp only [Pt.U, Pt.locs, Pt.cells, Pt.slots] at X122 l122 y122 z122 st122 hQ122
  subst l122 y122 z122
  obtain ⟨h122, e122⟩ : ∃ h', T122.heap = h' := ⟨_, rfl⟩
  rw [e122] at hQ122
  obtain ⟨rfl, N122q, Z122, NB122⟩ := hQ122
  have N123 := Fr.app N112 N122q
  have k124 : Rt p e below T122 (mkF m 28 #[sr ob, si 0, si 1, sd u1, se] []) s₁ m #[(.ref ob), (.int (0 : Int32)), (.int (1 : Int32)), (.double u1)] 5 := fun t k => k121 t (st122.trans k)
  obtain ⟨fs, hr, hrun, hended, hW, hsame⟩ := X122.leave (v := none) (fun _ => rfl)
  refine ⟨_, _, k124 _ (X122.returnOut hx Bd.returns (H d4_28) hr), hrun, hended, _, _, rfl, ?_, ⟨_, rfl⟩, hW, hsame.mono (by decide) (by decide)⟩
  show Q_wnt001 Z ob B K l1 l2 l3 l4 l5 l6 l7 l8 l9 l10 x0 x1 x2 x3 u1 h0 n0 _ T122.heap _
  rw [e122]
  exact ⟨rfl, N123, Z122, NB122⟩
def Q_lst10 (Z : State) (ob : Addr) (B : Nat → Addr) (K : Nat → ClassId) (l0 : List Value) (l1 : List Value) (l2 : List Value) (l3 : List Value) (l4 : List Value) (l5 : List Value) (l6 : List Value) (l7 : List Value) (l8 : List Value) (l9 : List Value) (l10 : List Value) (h0 : Heap) (n0 : Nat) (v : Option Value) (h : Heap) (L : List Loc) : Prop := v = none ∧ Fr n0 L ∧ n0 ≤ h.size ∧ NB Z h ob B K l0 l1 l2 l3 l4 l5 l6 l7 l8 l9 l10 [(.int (1 : Int32)), (.int (0 : Int32))] [(.int (0 : Int32)), (.int (1 : Int32))] (1 : Int32)
set_option maxRecDepth 65536 in
set_option maxHeartbeats 40000000 in
theorem lst10 (l : Launch) (Z : State) (a0 : Array Value) (hw : ∀ d ∈ tables_1, d.before a0 Z = true) (ws : List Jvm.Cond) (ob : Addr) (B : Nat → Addr) (K : Nat → ClassId) (l0 : List Value) (l1 : List Value) (l2 : List Value) (l3 : List Value) (l4 : List Value) (l5 : List Value) (l6 : List Value) (l7 : List Value) (l8 : List Value) (l9 : List Value) (l10 : List Value) (h0 : Heap) (n0 : Nat) (Z0 : n0 ≤ h0.size) (D : Dis ob B) (gob : n0 ≤ ob) (G : ∀ i, i < 13 → n0 ≤ B i) (NB0 : NB Z h0 ob B K l0 l1 l2 l3 l4 l5 l6 l7 l8 l9 l10 [(.int (0 : Int32)), (.int (0 : Int32))] [(.int (0 : Int32)), (.int (0 : Int32))] (0 : Int32)) :
    Met l (⟨"com/example/istra/istra/engine/NodeModel", "list", "(I)V"⟩ : MethodName) prog_40_method_4_code 3 none ws (rm 0 0 0 0) #[(.ref ob), (.int (1 : Int32))] Z h0 (Q_lst10 Z ob B K l0 l1 l2 l3 l4 l5 l6 l7 l8 l9 l10 h0 n0) := by
  refine MetFree.of_bodySF (plainFor_of_name pn_com_2fexample_2fistra_2fistra_2fengine_2fNodeModel) hisR ?_
  intro p e s m args below meth c s₁ Bd hml0 hP hK
  obtain ⟨rfl, hZ, hh⟩ := hP
  have hx := Bd.exec
  have hby := Bd.bytes
  have hml : c.maxLocals = 3 := hml0
  have hown : s.vm.findClass "com/example/istra/istra/engine/NodeModel" = some m.cls := findClass_of_methodNamed Bd.named
  have hnm := (name_of_methodNamed Bd.named Bd.method).1
  have X0 : Stand p l e (rm 0 0 0 0) s m #[(.ref ob), (.int (1 : Int32))] below meth c s₁ [] 0 0 := Stand.of_body Bd
  have e0 : s₁.heap = h0 := by rw [← hh, Bd.state]; rfl
  have N0 := Fr.nil n0
  have hww := fun (i : Nat) (c : Jvm.Cond) (h : tables_1[i]? = some c) => hw c (List.mem_of_getElem? h)
  have k0 : Rt p e below s₁ (mkF m 0 #[sr ob, si 1, un] []) s₁ m #[(.ref ob), (.int (1 : Int32))] 3 := fun t k => castTop (ef_5_RI m ob (1 : Int32)) k
  have H : ∀ {pc r}, decode prog_40_method_4_code pc = r → decode c.code pc = r := fun d => hb hby d
  have k101 := f_alN X0 hx k0 (H d5_0) rfl
  have k102 := f_dup X0 hx k101 (H d5_1) rfl
  obtain ⟨T103, X103, e103, k104⟩ := gFs X0 hx hZ hown (hww 43 _ rfl) e0 (nq14 NB0) k102 (H d5_2)
  have k105 := f_dupX1 X103 hx k104 (H d5_5) rfl rfl
  have k106 := f_ic X103 hx k105 (H d5_6) (v := 1) rfl
  have k107 := f_iadd X103 hx k106 (H d5_7) (r := 1) (by decide)
  obtain ⟨T108, h108, X108, e108, W108, st108⟩ := putF X103 hx hZ hown (host := "") (Or.inl (hww 43 _ rfl)) Via.refl e103 (nq14 NB0) (nq0 NB0) (Or.inl (hww 44 _ rfl)) (hww 1 _ rfl) (ty := .int) (by decide) rfl rfl (g := (mkF m 8 #[sr ob, si 1, un] [vI 1, vR ob, vI 0])) rfl rfl (H d5_8)
  have F109 := (nq14 NB0).same W108
  have Z110 : n0 ≤ h108.size := Nat.le_trans Z0 (Nat.le_of_eq W108.size.symm)
  have N111 := Fr.snoc X108 N0 gob
  have NB112 := nb_wc hw D NB0 W108
  have k113 : Rt p e below T108 (mkF m 11 #[sr ob, si 1, un] [vI 0]) s₁ m #[(.ref ob), (.int (1 : Int32))] 3 := fun t k => k107 t (st108 t k)
  have k114 := f_isN X108 hx k113 (H d5_11) (l' := #[sr ob, si 1, si 0]) rfl
  have k115 := f_ilN X108 hx k114 (H d5_12) rfl
  have k116 := f_ifY X108 hx k115 (H d5_13) (pc' := 48) ((if0 _ _).trans (flt (by decide)).2.2.2) (by decide)
  have k117 := f_alN X108 hx k116 (H d5_48) rfl
  obtain ⟨T118, X118, e118, k119⟩ := gFs X108 hx hZ hown (hww 34 _ rfl) e108 (nq12 NB112) k117 (H d5_49)
  have k120 := f_ilN X118 hx k119 (H d5_52) rfl
  have k121 := f_ilN X118 hx k120 (H d5_53) rfl
  obtain ⟨T122, h122, L122, X122, e122, W122, V122, N122, Z122, k122⟩ := f_ist X118 hx hZ e118 (nq29 NB112) N111 (G 11 (by decide)) Z110 k121 (H d5_54) (by decide) 0 rfl (lt_b rfl)
  have NB123 := nb_w11 D NB112 W122 V122
  have k124 := f_alN X122 hx k122 (H d5_55) rfl
  obtain ⟨T125, X125, e125, k126⟩ := gFs X122 hx hZ hown (hww 36 _ rfl) e122 (nq13 NB123) k124 (H d5_56)
  have k127 := f_ilN X125 hx k126 (H d5_59) rfl
  have k128 := f_ic X125 hx k127 (H d5_60) (v := 1) rfl
  obtain ⟨T129, h129, L129, X129, e129, W129, V129, N129, Z129, k129⟩ := f_bst X125 hx hZ e125 (nq30 NB123) N122 (G 12 (by decide)) Z122 k128 (H d5_61) (by decide) 1 rfl (lt_b rfl) (v' := 1) rfl
  have NB130 := nb_w12 D NB123 W129 V129
  obtain ⟨fs, hr, hrun, hended, hW, hsame⟩ := X129.leave (v := none) (fun _ => rfl)
  refine ⟨_, _, k129 _ (X129.returnOut hx Bd.returns (H d5_62) hr), hrun, hended, _, _, rfl, ?_, ⟨_, rfl⟩, hW, hsame.mono (by decide) (by decide)⟩
  show Q_lst10 Z ob B K l0 l1 l2 l3 l4 l5 l6 l7 l8 l9 l10 h0 n0 _ T129.heap _
  rw [e129]
  exact ⟨rfl, N129, Z129, NB130⟩
def Q_wnt100 (Z : State) (ob : Addr) (B : Nat → Addr) (K : Nat → ClassId) (l1 : List Value) (l2 : List Value) (l3 : List Value) (l4 : List Value) (l5 : List Value) (l6 : List Value) (l7 : List Value) (l8 : List Value) (l9 : List Value) (l10 : List Value) (x0 : UInt64) (x1 : UInt64) (x2 : UInt64) (x3 : UInt64) (u1 : UInt64) (h0 : Heap) (n0 : Nat) (v : Option Value) (h : Heap) (L : List Loc) : Prop := v = none ∧ Fr n0 L ∧ n0 ≤ h.size ∧ NB Z h ob B K [(.double x0), (.double x1), (.double u1), (.double x3)] l1 l2 l3 l4 l5 l6 l7 l8 l9 l10 [(.int (1 : Int32)), (.int (0 : Int32))] [(.int (0 : Int32)), (.int (1 : Int32))] (1 : Int32)
set_option maxRecDepth 65536 in
set_option maxHeartbeats 40000000 in
theorem wnt100 (l : Launch) (Z : State) (a0 : Array Value) (hw : ∀ d ∈ tables_1, d.before a0 Z = true) (ws : List Jvm.Cond) (ob : Addr) (B : Nat → Addr) (K : Nat → ClassId) (l1 : List Value) (l2 : List Value) (l3 : List Value) (l4 : List Value) (l5 : List Value) (l6 : List Value) (l7 : List Value) (l8 : List Value) (l9 : List Value) (l10 : List Value) (x0 : UInt64) (x1 : UInt64) (x2 : UInt64) (x3 : UInt64) (u1 : UInt64) (h0 : Heap) (n0 : Nat) (Z0 : n0 ≤ h0.size) (D : Dis ob B) (gob : n0 ≤ ob) (G : ∀ i, i < 13 → n0 ≤ B i) (NB0 : NB Z h0 ob B K [(.double x0), (.double x1), (.double x2), (.double x3)] l1 l2 l3 l4 l5 l6 l7 l8 l9 l10 [(.int (0 : Int32)), (.int (0 : Int32))] [(.int (0 : Int32)), (.int (0 : Int32))] (0 : Int32)) :
    Met l (⟨"com/example/istra/istra/engine/NodeModel", "want", "(IID)V"⟩ : MethodName) prog_40_method_3_code 5 none ws (rm 1 0 0 14) #[(.ref ob), (.int (1 : Int32)), (.int (0 : Int32)), (.double u1)] Z h0 (Q_wnt100 Z ob B K l1 l2 l3 l4 l5 l6 l7 l8 l9 l10 x0 x1 x2 x3 u1 h0 n0) := by
  refine MetFree.of_bodySF (plainFor_of_name pn_com_2fexample_2fistra_2fistra_2fengine_2fNodeModel) hisR ?_
  intro p e s m args below meth c s₁ Bd hml0 hP hK
  obtain ⟨rfl, hZ, hh⟩ := hP
  have hx := Bd.exec
  have hby := Bd.bytes
  have hml : c.maxLocals = 5 := hml0
  have hown : s.vm.findClass "com/example/istra/istra/engine/NodeModel" = some m.cls := findClass_of_methodNamed Bd.named
  have hnm := (name_of_methodNamed Bd.named Bd.method).1
  have X0 : Stand p l e (rm 1 0 0 14) s m #[(.ref ob), (.int (1 : Int32)), (.int (0 : Int32)), (.double u1)] below meth c s₁ [] 0 0 := Stand.of_body Bd
  have e0 : s₁.heap = h0 := by rw [← hh, Bd.state]; rfl
  have N0 := Fr.nil n0
  have hww := fun (i : Nat) (c : Jvm.Cond) (h : tables_1[i]? = some c) => hw c (List.mem_of_getElem? h)
  have k0 : Rt p e below s₁ (mkF m 0 #[sr ob, si 1, si 0, sd u1, se] []) s₁ m #[(.ref ob), (.int (1 : Int32)), (.int (0 : Int32)), (.double u1)] 5 := fun t k => castTop (ef_4_RIID m ob (1 : Int32) (0 : Int32) u1) k
  have H : ∀ {pc r}, decode prog_40_method_3_code pc = r → decode c.code pc = r := fun d => hb hby d
  have k101 := f_alN X0 hx k0 (H d4_0) rfl
  obtain ⟨T102, X102, e102, k103⟩ := gFs X0 hx hZ hown (hww 10 _ rfl) e0 (nq1 NB0) k101 (H d4_1)
  have k104 := f_ilN X102 hx k103 (H d4_4) rfl
  have k105 := f_alN X102 hx k104 (H d4_5) rfl
  obtain ⟨T106, X106, e106, k107⟩ := gFs X102 hx hZ hown (hww 47 _ rfl) e102 (nq16 NB0) k105 (H d4_6)
  have k108 := f_imul X106 hx k107 (H d4_9) (r := 2) (by decide)
  have k109 := f_ilN X106 hx k108 (H d4_10) rfl
  have k110 := f_iadd X106 hx k109 (H d4_11) (r := 2) (by decide)
  have k111 := f_dlN X106 hx k110 (H d4_12) rfl
  obtain ⟨T112, h112, L112, X112, e112, W112, V112, N112, Z112, k112⟩ := f_dst X106 hx hZ e106 (nq18 NB0) N0 (G 0 (by decide)) Z0 k111 (H d4_13) (by decide) 2 rfl (lt_b rfl)
  have NB113 := nb_w0 D NB0 W112 V112
  have k114 := f_alN X112 hx k112 (H d4_14) rfl
  obtain ⟨T115, X115, e115, k116⟩ := gFs X112 hx hZ hown (hww 36 _ rfl) e112 (nq13 NB113) k114 (H d4_15)
  have k117 := f_ilN X115 hx k116 (H d4_18) rfl
  have k118 := f_bal X115 hx hZ e115 (nq30 NB113) k117 (H d4_19) (v := 0) (by decide) rfl
  have k119 := f_ifN X115 hx k118 (H d4_20) ((if0 _ _).trans (teq (by decide)).2)
  have k120 := f_alN X115 hx k119 (H d4_23) rfl
  have k121 := f_ilN X115 hx k120 (H d4_24) rfl
  obtain ⟨cq122, q122, q122'⟩ := (nq0 NB113).cell
  obtain ⟨_, _, ⟨T122, L122, k122, n122⟩, -, X122, ⟨Lc122, hQ122, l122, y122, z122⟩, st122⟩ := X115.privateBack hx (y := (⟨"com/example/istra/istra/engine/NodeModel", "list", "(I)V"⟩ : MethodName)) hown (mvT hZ (hww 57 _ rfl)) (mvT hZ (hww 58 _ rfl)) (own_selP (mvT hZ (hww 41 _ rfl)) rfl (Cond.privateMethod_at (mvP hZ (hww 59 _ rfl) (args := #[]))) (mvT hZ (hww 58 _ rfl)) (by decide)) (Cond.privateMethod_at (mvP hZ (hww 59 _ rfl) (args := #[]))) (mvT hZ (hww 60 _ rfl)) (by decide) (backOf (W := 0) (lst10 l Z a0 hw [] ob B K [(.double x0), (.double x1), (.double u1), (.double x3)] l1 l2 l3 l4 l5 l6 l7 l8 l9 l10 h112 n0 Z112 D gob G NB113) hZ (hww 60 _ rfl) (hww 2 _ rfl) (by decide) (by decide)) (g := (mkF m 25 #[sr ob, si 1, si 0, sd u1, se] [vI 1, vR ob])) rfl (by rw [hml]; rfl) (Steps.refl _) (a := ob) (by rw [e115]; exact q122) q122' (argsL := [(.int (1 : Int32))]) (rest := []) (lenOf pd__28I_29V rfl) rfl (by show 2 * 0 + _ ≤ _; exact Nat.le_of_eq rfl) (H d4_25) (fun _ _ => ⟨rfl, e115, (by decide : 0 + 0 ≤ _), (by decide : 0 + 0 ≤ _)⟩)
  dsimp only [Pt.U, Pt.locs, Pt.cells, Pt.slots] at X122 l122 y122 z122 st122 hQ122
  subst l122 y122 z122
  obtain ⟨h122, e122⟩ : ∃ h', T122.heap = h' := ⟨_, rfl⟩
  rw [e122] at hQ122
  obtain ⟨rfl, N122q, Z122, NB122⟩ := hQ122
  have N123 := Fr.app N112 N122q
  have k124 : Rt p e below T122 (mkF m 28 #[sr ob, si 1, si 0, sd u1, se] []) s₁ m #[(.ref ob), (.int (1 : Int32)), (.int (0 : Int32)), (.double u1)] 5 := fun t k => k121 t (st122.trans k)
  obtain ⟨fs, hr, hrun, hended, hW, hsame⟩ := X122.leave (v := none) (fun _ => rfl)
  refine ⟨_, _, k124 _ (X122.returnOut hx Bd.returns (H d4_28) hr), hrun, hended, _, _, rfl, ?_, ⟨_, rfl⟩, hW, hsame.mono (by decide) (by decide)⟩
  show Q_wnt100 Z ob B K l1 l2 l3 l4 l5 l6 l7 l8 l9 l10 x0 x1 x2 x3 u1 h0 n0 _ T122.heap _
  rw [e122]
  exact ⟨rfl, N123, Z122, NB122⟩
def Q_wnt101 (Z : State) (ob : Addr) (B : Nat → Addr) (K : Nat → ClassId) (l1 : List Value) (l2 : List Value) (l3 : List Value) (l4 : List Value) (l5 : List Value) (l6 : List Value) (l7 : List Value) (l8 : List Value) (l9 : List Value) (l10 : List Value) (x0 : UInt64) (x1 : UInt64) (x2 : UInt64) (x3 : UInt64) (u1 : UInt64) (h0 : Heap) (n0 : Nat) (v : Option Value) (h : Heap) (L : List Loc) : Prop := v = none ∧ Fr n0 L ∧ n0 ≤ h.size ∧ NB Z h ob B K [(.double x0), (.double x1), (.double x2), (.double u1)] l1 l2 l3 l4 l5 l6 l7 l8 l9 l10 [(.int (1 : Int32)), (.int (0 : Int32))] [(.int (0 : Int32)), (.int (1 : Int32))] (1 : Int32)
set_option maxRecDepth 65536 in
set_option maxHeartbeats 40000000 in
theorem wnt101 (l : Launch) (Z : State) (a0 : Array Value) (hw : ∀ d ∈ tables_1, d.before a0 Z = true) (ws : List Jvm.Cond) (ob : Addr) (B : Nat → Addr) (K : Nat → ClassId) (l1 : List Value) (l2 : List Value) (l3 : List Value) (l4 : List Value) (l5 : List Value) (l6 : List Value) (l7 : List Value) (l8 : List Value) (l9 : List Value) (l10 : List Value) (x0 : UInt64) (x1 : UInt64) (x2 : UInt64) (x3 : UInt64) (u1 : UInt64) (h0 : Heap) (n0 : Nat) (Z0 : n0 ≤ h0.size) (D : Dis ob B) (gob : n0 ≤ ob) (G : ∀ i, i < 13 → n0 ≤ B i) (NB0 : NB Z h0 ob B K [(.double x0), (.double x1), (.double x2), (.double x3)] l1 l2 l3 l4 l5 l6 l7 l8 l9 l10 [(.int (0 : Int32)), (.int (0 : Int32))] [(.int (0 : Int32)), (.int (0 : Int32))] (0 : Int32)) :
    Met l (⟨"com/example/istra/istra/engine/NodeModel", "want", "(IID)V"⟩ : MethodName) prog_40_method_3_code 5 none ws (rm 1 0 0 14) #[(.ref ob), (.int (1 : Int32)), (.int (1 : Int32)), (.double u1)] Z h0 (Q_wnt101 Z ob B K l1 l2 l3 l4 l5 l6 l7 l8 l9 l10 x0 x1 x2 x3 u1 h0 n0) := by
  refine MetFree.of_bodySF (plainFor_of_name pn_com_2fexample_2fistra_2fistra_2fengine_2fNodeModel) hisR ?_
  intro p e s m args below meth c s₁ Bd hml0 hP hK
  obtain ⟨rfl, hZ, hh⟩ := hP
  have hx := Bd.exec
  have hby := Bd.bytes
  have hml : c.maxLocals = 5 := hml0
  have hown : s.vm.findClass "com/example/istra/istra/engine/NodeModel" = some m.cls := findClass_of_methodNamed Bd.named
  have hnm := (name_of_methodNamed Bd.named Bd.method).1
  have X0 : Stand p l e (rm 1 0 0 14) s m #[(.ref ob), (.int (1 : Int32)), (.int (1 : Int32)), (.double u1)] below meth c s₁ [] 0 0 := Stand.of_body Bd
  have e0 : s₁.heap = h0 := by rw [← hh, Bd.state]; rfl
  have N0 := Fr.nil n0
  have hww := fun (i : Nat) (c : Jvm.Cond) (h : tables_1[i]? = some c) => hw c (List.mem_of_getElem? h)
  have k0 : Rt p e below s₁ (mkF m 0 #[sr ob, si 1, si 1, sd u1, se] []) s₁ m #[(.ref ob), (.int (1 : Int32)), (.int (1 : Int32)), (.double u1)] 5 := fun t k => castTop (ef_4_RIID m ob (1 : Int32) (1 : Int32) u1) k
  have H : ∀ {pc r}, decode prog_40_method_3_code pc = r → decode c.code pc = r := fun d => hb hby d
  have k101 := f_alN X0 hx k0 (H d4_0) rfl
  obtain ⟨T102, X102, e102, k103⟩ := gFs X0 hx hZ hown (hww 10 _ rfl) e0 (nq1 NB0) k101 (H d4_1)
  have k104 := f_ilN X102 hx k103 (H d4_4) rfl
  have k105 := f_alN X102 hx k104 (H d4_5) rfl
  obtain ⟨T106, X106, e106, k107⟩ := gFs X102 hx hZ hown (hww 47 _ rfl) e102 (nq16 NB0) k105 (H d4_6)
  have k108 := f_imul X106 hx k107 (H d4_9) (r := 2) (by decide)
  have k109 := f_ilN X106 hx k108 (H d4_10) rfl
  have k110 := f_iadd X106 hx k109 (H d4_11) (r := 3) (by decide)
  have k111 := f_dlN X106 hx k110 (H d4_12) rfl
  obtain ⟨T112, h112, L112, X112, e112, W112, V112, N112, Z112, k112⟩ := f_dst X106 hx hZ e106 (nq18 NB0) N0 (G 0 (by decide)) Z0 k111 (H d4_13) (by decide) 3 rfl (lt_b rfl)
  have NB113 := nb_w0 D NB0 W112 V112
  have k114 := f_alN X112 hx k112 (H d4_14) rfl
  obtain ⟨T115, X115, e115, k116⟩ := gFs X112 hx hZ hown (hww 36 _ rfl) e112 (nq13 NB113) k114 (H d4_15)
  have k117 := f_ilN X115 hx k116 (H d4_18) rfl
  have k118 := f_bal X115 hx hZ e115 (nq30 NB113) k117 (H d4_19) (v := 0) (by decide) rfl
  have k119 := f_ifN X115 hx k118 (H d4_20) ((if0 _ _).trans (teq (by decide)).2)
  have k120 := f_alN X115 hx k119 (H d4_23) rfl
  have k121 := f_ilN X115 hx k120 (H d4_24) rfl
  obtain ⟨cq122, q122, q122'⟩ := (nq0 NB113).cell
  obtain ⟨_, _, ⟨T122, L122, k122, n122⟩, -, X122, ⟨Lc122, hQ122, l122, y122, z122⟩, st122⟩ := X115.privateBack hx (y := (⟨"com/example/istra/istra/engine/NodeModel", "list", "(I)V"⟩ : MethodName)) hown (mvT hZ (hww 57 _ rfl)) (mvT hZ (hww 58 _ rfl)) (own_selP (mvT hZ (hww 41 _ rfl)) rfl (Cond.privateMethod_at (mvP hZ (hww 59 _ rfl) (args := #[]))) (mvT hZ (hww 58 _ rfl)) (by decide)) (Cond.privateMethod_at (mvP hZ (hww 59 _ rfl) (args := #[]))) (mvT hZ (hww 60 _ rfl)) (by decide) (backOf (W := 0) (lst10 l Z a0 hw [] ob B K [(.double x0), (.double x1), (.double x2), (.double u1)] l1 l2 l3 l4 l5 l6 l7 l8 l9 l10 h112 n0 Z112 D gob G NB113) hZ (hww 60 _ rfl) (hww 2 _ rfl) (by decide) (by decide)) (g := (mkF m 25 #[sr ob, si 1, si 1, sd u1, se] [vI 1, vR ob])) rfl (by rw [hml]; rfl) (Steps.refl _) (a := ob) (by rw [e115]; exact q122) q122' (argsL := [(.int (1 : Int32))]) (rest := []) (lenOf pd__28I_29V rfl) rfl (by show 2 * 0 + _ ≤ _; exact Nat.le_of_eq rfl) (H d4_25) (fun _ _ => ⟨rfl, e115, (by decide : 0 + 0 ≤ _), (by decide : 0 + 0 ≤ _)⟩)
  dsimp only [Pt.U, Pt.locs, Pt.cells, Pt.slots] at X122 l122 y122 z122 st122 hQ122
  subst l122 y122 z122
  obtain ⟨h122, e122⟩ : ∃ h', T122.heap = h' := ⟨_, rfl⟩
  rw [e122] at hQ122
  obtain ⟨rfl, N122q, Z122, NB122⟩ := hQ122
  have N123 := Fr.app N112 N122q
  have k124 : Rt p e below T122 (mkF m 28 #[sr ob, si 1, si 1, sd u1, se] []) s₁ m #[(.ref ob), (.int (1 : Int32)), (.int (1 : Int32)), (.double u1)] 5 := fun t k => k121 t (st122.trans k)
  obtain ⟨fs, hr, hrun, hended, hW, hsame⟩ := X122.leave (v := none) (fun _ => rfl)
  refine ⟨_, _, k124 _ (X122.returnOut hx Bd.returns (H d4_28) hr), hrun, hended, _, _, rfl, ?_, ⟨_, rfl⟩, hW, hsame.mono (by decide) (by decide)⟩
  show Q_wnt101 Z ob B K l1 l2 l3 l4 l5 l6 l7 l8 l9 l10 x0 x1 x2 x3 u1 h0 n0 _ T122.heap _
  rw [e122]
  exact ⟨rfl, N123, Z122, NB122⟩
theorem d5_16 : decode prog_40_method_4_code 16 = .ok (.aload_n 0, 1) := by decide +kernel
theorem d5_17 : decode prog_40_method_4_code 17 = .ok (.getfield 44, 3) := by decide +kernel
theorem d5_20 : decode prog_40_method_4_code 20 = .ok (.iload_n 2, 1) := by decide +kernel
theorem d5_21 : decode prog_40_method_4_code 21 = .ok (.iconst 1, 1) := by decide +kernel
theorem d5_22 : decode prog_40_method_4_code 22 = .ok (.isub, 1) := by decide +kernel
theorem d5_23 : decode prog_40_method_4_code 23 = .ok (.iaload, 1) := by decide +kernel
theorem d5_24 : decode prog_40_method_4_code 24 = .ok (.iload_n 1, 1) := by decide +kernel
theorem d5_25 : decode prog_40_method_4_code 25 = .ok (.if_icmp .le 23, 3) := by decide +kernel
def Q_lst11 (Z : State) (ob : Addr) (B : Nat → Addr) (K : Nat → ClassId) (l0 : List Value) (l1 : List Value) (l2 : List Value) (l3 : List Value) (l4 : List Value) (l5 : List Value) (l6 : List Value) (l7 : List Value) (l8 : List Value) (l9 : List Value) (l10 : List Value) (h0 : Heap) (n0 : Nat) (v : Option Value) (h : Heap) (L : List Loc) : Prop := v = none ∧ Fr n0 L ∧ n0 ≤ h.size ∧ NB Z h ob B K l0 l1 l2 l3 l4 l5 l6 l7 l8 l9 l10 [(.int (0 : Int32)), (.int (1 : Int32))] [(.int (1 : Int32)), (.int (1 : Int32))] (2 : Int32)
set_option maxRecDepth 65536 in
set_option maxHeartbeats 40000000 in
theorem lst11 (l : Launch) (Z : State) (a0 : Array Value) (hw : ∀ d ∈ tables_1, d.before a0 Z = true) (ws : List Jvm.Cond) (ob : Addr) (B : Nat → Addr) (K : Nat → ClassId) (l0 : List Value) (l1 : List Value) (l2 : List Value) (l3 : List Value) (l4 : List Value) (l5 : List Value) (l6 : List Value) (l7 : List Value) (l8 : List Value) (l9 : List Value) (l10 : List Value) (h0 : Heap) (n0 : Nat) (Z0 : n0 ≤ h0.size) (D : Dis ob B) (gob : n0 ≤ ob) (G : ∀ i, i < 13 → n0 ≤ B i) (NB0 : NB Z h0 ob B K l0 l1 l2 l3 l4 l5 l6 l7 l8 l9 l10 [(.int (0 : Int32)), (.int (0 : Int32))] [(.int (1 : Int32)), (.int (0 : Int32))] (1 : Int32)) :
    Met l (⟨"com/example/istra/istra/engine/NodeModel", "list", "(I)V"⟩ : MethodName) prog_40_method_4_code 3 none ws (rm 0 0 0 0) #[(.ref ob), (.int (1 : Int32))] Z h0 (Q_lst11 Z ob B K l0 l1 l2 l3 l4 l5 l6 l7 l8 l9 l10 h0 n0) := by
  refine MetFree.of_bodySF (plainFor_of_name pn_com_2fexample_2fistra_2fistra_2fengine_2fNodeModel) hisR ?_
  intro p e s m args below meth c s₁ Bd hml0 hP hK
  obtain ⟨rfl, hZ, hh⟩ := hP
  have hx := Bd.exec
  have hby := Bd.bytes
  have hml : c.maxLocals = 3 := hml0
  have hown : s.vm.findClass "com/example/istra/istra/engine/NodeModel" = some m.cls := findClass_of_methodNamed Bd.named
  have hnm := (name_of_methodNamed Bd.named Bd.method).1
  have X0 : Stand p l e (rm 0 0 0 0) s m #[(.ref ob), (.int (1 : Int32))] below meth c s₁ [] 0 0 := Stand.of_body Bd
  have e0 : s₁.heap = h0 := by rw [← hh, Bd.state]; rfl
  have N0 := Fr.nil n0
  have hww := fun (i : Nat) (c : Jvm.Cond) (h : tables_1[i]? = some c) => hw c (List.mem_of_getElem? h)
  have k0 : Rt p e below s₁ (mkF m 0 #[sr ob, si 1, un] []) s₁ m #[(.ref ob), (.int (1 : Int32))] 3 := fun t k => castTop (ef_5_RI m ob (1 : Int32)) k
  have H : ∀ {pc r}, decode prog_40_method_4_code pc = r → decode c.code pc = r := fun d => hb hby d
  have k101 := f_alN X0 hx k0 (H d5_0) rfl
  have k102 := f_dup X0 hx k101 (H d5_1) rfl
  obtain ⟨T103, X103, e103, k104⟩ := gFs X0 hx hZ hown (hww 43 _ rfl) e0 (nq14 NB0) k102 (H d5_2)
  have k105 := f_dupX1 X103 hx k104 (H d5_5) rfl rfl
  have k106 := f_ic X103 hx k105 (H d5_6) (v := 1) rfl
  have k107 := f_iadd X103 hx k106 (H d5_7) (r := 2) (by decide)
  obtain ⟨T108, h108, X108, e108, W108, st108⟩ := putF X103 hx hZ hown (host := "") (Or.inl (hww 43 _ rfl)) Via.refl e103 (nq14 NB0) (nq0 NB0) (Or.inl (hww 44 _ rfl)) (hww 1 _ rfl) (ty := .int) (by decide) rfl rfl (g := (mkF m 8 #[sr ob, si 1, un] [vI 2, vR ob, vI 1])) rfl rfl (H d5_8)
  have F109 := (nq14 NB0).same W108
  have Z110 : n0 ≤ h108.size := Nat.le_trans Z0 (Nat.le_of_eq W108.size.symm)
  have N111 := Fr.snoc X108 N0 gob
  have NB112 := nb_wc hw D NB0 W108
  have k113 : Rt p e below T108 (mkF m 11 #[sr ob, si 1, un] [vI 1]) s₁ m #[(.ref ob), (.int (1 : Int32))] 3 := fun t k => k107 t (st108 t k)
  have k114 := f_isN X108 hx k113 (H d5_11) (l' := #[sr ob, si 1, si 1]) rfl
  have k115 := f_ilN X108 hx k114 (H d5_12) rfl
  have k116 := f_ifN X108 hx k115 (H d5_13) ((if0 _ _).trans (tlt (by decide)).2.2.2)
  have k117 := f_alN X108 hx k116 (H d5_16) rfl
  obtain ⟨T118, X118, e118, k119⟩ := gFs X108 hx hZ hown (hww 34 _ rfl) e108 (nq12 NB112) k117 (H d5_17)
  have k120 := f_ilN X118 hx k119 (H d5_20) rfl
  have k121 := f_ic X118 hx k120 (H d5_21) (v := 1) rfl
  have k122 := f_isub X118 hx k121 (H d5_22) (r := 0) (by decide)
  have k123 := f_ial X118 hx hZ e118 (nq29 NB112) k122 (H d5_23) (v := 0) (by decide) rfl
  have k124 := f_ilN X118 hx k123 (H d5_24) rfl
  have k125 := f_icY X118 hx k124 (H d5_25) (pc' := 48) (flt (by decide)).2.2.2 (by decide)
  have k126 := f_alN X118 hx k125 (H d5_48) rfl
  obtain ⟨T127, X127, e127, k128⟩ := gFs X118 hx hZ hown (hww 34 _ rfl) e118 (nq12 NB112) k126 (H d5_49)
  have k129 := f_ilN X127 hx k128 (H d5_52) rfl
  have k130 := f_ilN X127 hx k129 (H d5_53) rfl
  obtain ⟨T131, h131, L131, X131, e131, W131, V131, N131, Z131, k131⟩ := f_ist X127 hx hZ e127 (nq29 NB112) N111 (G 11 (by decide)) Z110 k130 (H d5_54) (by decide) 1 rfl (lt_b rfl)
  have NB132 := nb_w11 D NB112 W131 V131
  have k133 := f_alN X131 hx k131 (H d5_55) rfl
  obtain ⟨T134, X134, e134, k135⟩ := gFs X131 hx hZ hown (hww 36 _ rfl) e131 (nq13 NB132) k133 (H d5_56)
  have k136 := f_ilN X134 hx k135 (H d5_59) rfl
  have k137 := f_ic X134 hx k136 (H d5_60) (v := 1) rfl
  obtain ⟨T138, h138, L138, X138, e138, W138, V138, N138, Z138, k138⟩ := f_bst X134 hx hZ e134 (nq30 NB132) N131 (G 12 (by decide)) Z131 k137 (H d5_61) (by decide) 1 rfl (lt_b rfl) (v' := 1) rfl
  have NB139 := nb_w12 D NB132 W138 V138
  obtain ⟨fs, hr, hrun, hended, hW, hsame⟩ := X138.leave (v := none) (fun _ => rfl)
  refine ⟨_, _, k138 _ (X138.returnOut hx Bd.returns (H d5_62) hr), hrun, hended, _, _, rfl, ?_, ⟨_, rfl⟩, hW, hsame.mono (by decide) (by decide)⟩
  show Q_lst11 Z ob B K l0 l1 l2 l3 l4 l5 l6 l7 l8 l9 l10 h0 n0 _ T138.heap _
  rw [e138]
  exact ⟨rfl, N138, Z138, NB139⟩
def Q_wnt110 (Z : State) (ob : Addr) (B : Nat → Addr) (K : Nat → ClassId) (l1 : List Value) (l2 : List Value) (l3 : List Value) (l4 : List Value) (l5 : List Value) (l6 : List Value) (l7 : List Value) (l8 : List Value) (l9 : List Value) (l10 : List Value) (x0 : UInt64) (x1 : UInt64) (x2 : UInt64) (x3 : UInt64) (u1 : UInt64) (h0 : Heap) (n0 : Nat) (v : Option Value) (h : Heap) (L : List Loc) : Prop := v = none ∧ Fr n0 L ∧ n0 ≤ h.size ∧ NB Z h ob B K [(.double x0), (.double x1), (.double u1), (.double x3)] l1 l2 l3 l4 l5 l6 l7 l8 l9 l10 [(.int (0 : Int32)), (.int (1 : Int32))] [(.int (1 : Int32)), (.int (1 : Int32))] (2 : Int32)
set_option maxRecDepth 65536 in
set_option maxHeartbeats 40000000 in
theorem wnt110 (l : Launch) (Z : State) (a0 : Array Value) (hw : ∀ d ∈ tables_1, d.before a0 Z = true) (ws : List Jvm.Cond) (ob : Addr) (B : Nat → Addr) (K : Nat → ClassId) (l1 : List Value) (l2 : List Value) (l3 : List Value) (l4 : List Value) (l5 : List Value) (l6 : List Value) (l7 : List Value) (l8 : List Value) (l9 : List Value) (l10 : List Value) (x0 : UInt64) (x1 : UInt64) (x2 : UInt64) (x3 : UInt64) (u1 : UInt64) (h0 : Heap) (n0 : Nat) (Z0 : n0 ≤ h0.size) (D : Dis ob B) (gob : n0 ≤ ob) (G : ∀ i, i < 13 → n0 ≤ B i) (NB0 : NB Z h0 ob B K [(.double x0), (.double x1), (.double x2), (.double x3)] l1 l2 l3 l4 l5 l6 l7 l8 l9 l10 [(.int (0 : Int32)), (.int (0 : Int32))] [(.int (1 : Int32)), (.int (0 : Int32))] (1 : Int32)) :
    Met l (⟨"com/example/istra/istra/engine/NodeModel", "want", "(IID)V"⟩ : MethodName) prog_40_method_3_code 5 none ws (rm 1 0 0 14) #[(.ref ob), (.int (1 : Int32)), (.int (0 : Int32)), (.double u1)] Z h0 (Q_wnt110 Z ob B K l1 l2 l3 l4 l5 l6 l7 l8 l9 l10 x0 x1 x2 x3 u1 h0 n0) := by
  refine MetFree.of_bodySF (plainFor_of_name pn_com_2fexample_2fistra_2fistra_2fengine_2fNodeModel) hisR ?_
  intro p e s m args below meth c s₁ Bd hml0 hP hK
  obtain ⟨rfl, hZ, hh⟩ := hP
  have hx := Bd.exec
  have hby := Bd.bytes
  have hml : c.maxLocals = 5 := hml0
  have hown : s.vm.findClass "com/example/istra/istra/engine/NodeModel" = some m.cls := findClass_of_methodNamed Bd.named
  have hnm := (name_of_methodNamed Bd.named Bd.method).1
  have X0 : Stand p l e (rm 1 0 0 14) s m #[(.ref ob), (.int (1 : Int32)), (.int (0 : Int32)), (.double u1)] below meth c s₁ [] 0 0 := Stand.of_body Bd
  have e0 : s₁.heap = h0 := by rw [← hh, Bd.state]; rfl
  have N0 := Fr.nil n0
  have hww := fun (i : Nat) (c : Jvm.Cond) (h : tables_1[i]? = some c) => hw c (List.mem_of_getElem? h)
  have k0 : Rt p e below s₁ (mkF m 0 #[sr ob, si 1, si 0, sd u1, se] []) s₁ m #[(.ref ob), (.int (1 : Int32)), (.int (0 : Int32)), (.double u1)] 5 := fun t k => castTop (ef_4_RIID m ob (1 : Int32) (0 : Int32) u1) k
  have H : ∀ {pc r}, decode prog_40_method_3_code pc = r → decode c.code pc = r := fun d => hb hby d
  have k101 := f_alN X0 hx k0 (H d4_0) rfl
  obtain ⟨T102, X102, e102, k103⟩ := gFs X0 hx hZ hown (hww 10 _ rfl) e0 (nq1 NB0) k101 (H d4_1)
  have k104 := f_ilN X102 hx k103 (H d4_4) rfl
  have k105 := f_alN X102 hx k104 (H d4_5) rfl
  obtain ⟨T106, X106, e106, k107⟩ := gFs X102 hx hZ hown (hww 47 _ rfl) e102 (nq16 NB0) k105 (H d4_6)
  have k108 := f_imul X106 hx k107 (H d4_9) (r := 2) (by decide)
  have k109 := f_ilN X106 hx k108 (H d4_10) rfl
  have k110 := f_iadd X106 hx k109 (H d4_11) (r := 2) (by decide)
  have k111 := f_dlN X106 hx k110 (H d4_12) rfl
  obtain ⟨T112, h112, L112, X112, e112, W112, V112, N112, Z112, k112⟩ := f_dst X106 hx hZ e106 (nq18 NB0) N0 (G 0 (by decide)) Z0 k111 (H d4_13) (by decide) 2 rfl (lt_b rfl)
  have NB113 := nb_w0 D NB0 W112 V112
  have k114 := f_alN X112 hx k112 (H d4_14) rfl
  obtain ⟨T115, X115, e115, k116⟩ := gFs X112 hx hZ hown (hww 36 _ rfl) e112 (nq13 NB113) k114 (H d4_15)
  have k117 := f_ilN X115 hx k116 (H d4_18) rfl
  have k118 := f_bal X115 hx hZ e115 (nq30 NB113) k117 (H d4_19) (v := 0) (by decide) rfl
  have k119 := f_ifN X115 hx k118 (H d4_20) ((if0 _ _).trans (teq (by decide)).2)
  have k120 := f_alN X115 hx k119 (H d4_23) rfl
  have k121 := f_ilN X115 hx k120 (H d4_24) rfl
  obtain ⟨cq122, q122, q122'⟩ := (nq0 NB113).cell
  obtain ⟨_, _, ⟨T122, L122, k122, n122⟩, -, X122, ⟨Lc122, hQ122, l122, y122, z122⟩, st122⟩ := X115.privateBack hx (y := (⟨"com/example/istra/istra/engine/NodeModel", "list", "(I)V"⟩ : MethodName)) hown (mvT hZ (hww 57 _ rfl)) (mvT hZ (hww 58 _ rfl)) (own_selP (mvT hZ (hww 41 _ rfl)) rfl (Cond.privateMethod_at (mvP hZ (hww 59 _ rfl) (args := #[]))) (mvT hZ (hww 58 _ rfl)) (by decide)) (Cond.privateMethod_at (mvP hZ (hww 59 _ rfl) (args := #[]))) (mvT hZ (hww 60 _ rfl)) (by decide) (backOf (W := 0) (lst11 l Z a0 hw [] ob B K [(.double x0), (.double x1), (.double u1), (.double x3)] l1 l2 l3 l4 l5 l6 l7 l8 l9 l10 h112 n0 Z112 D gob G NB113) hZ (hww 60 _ rfl) (hww 2 _ rfl) (by decide) (by decide)) (g := (mkF m 25 #[sr ob, si 1, si 0, sd u1, se] [vI 1, vR ob])) rfl (by rw [hml]; rfl) (Steps.refl _) (a := ob) (by rw [e115]; exact q122) q122' (argsL := [(.int (1 : Int32))]) (rest := []) (lenOf pd__28I_29V rfl) rfl (by show 2 * 0 + _ ≤ _; exact Nat.le_of_eq rfl) (H d4_25) (fun _ _ => ⟨rfl, e115, (by decide : 0 + 0 ≤ _), (by decide : 0 + 0 ≤ _)⟩)
  dsimp only [Pt.U, Pt.locs, Pt.cells, Pt.slots] at X122 l122 y122 z122 st122 hQ122
  subst l122 y122 z122
  obtain ⟨h122, e122⟩ : ∃ h', T122.heap = h' := ⟨_, rfl⟩
  rw [e122] at hQ122
  obtain ⟨rfl, N122q, Z122, NB122⟩ := hQ122
  have N123 := Fr.app N112 N122q
  have k124 : Rt p e below T122 (mkF m 28 #[sr ob, si 1, si 0, sd u1, se] []) s₁ m #[(.ref ob), (.int (1 : Int32)), (.int (0 : Int32)), (.double u1)] 5 := fun t k => k121 t (st122.trans k)
  obtain ⟨fs, hr, hrun, hended, hW, hsame⟩ := X122.leave (v := none) (fun _ => rfl)
  refine ⟨_, _, k124 _ (X122.returnOut hx Bd.returns (H d4_28) hr), hrun, hended, _, _, rfl, ?_, ⟨_, rfl⟩, hW, hsame.mono (by decide) (by decide)⟩
  show Q_wnt110 Z ob B K l1 l2 l3 l4 l5 l6 l7 l8 l9 l10 x0 x1 x2 x3 u1 h0 n0 _ T122.heap _
  rw [e122]
  exact ⟨rfl, N123, Z122, NB122⟩
def Q_wnt111 (Z : State) (ob : Addr) (B : Nat → Addr) (K : Nat → ClassId) (l1 : List Value) (l2 : List Value) (l3 : List Value) (l4 : List Value) (l5 : List Value) (l6 : List Value) (l7 : List Value) (l8 : List Value) (l9 : List Value) (l10 : List Value) (x0 : UInt64) (x1 : UInt64) (x2 : UInt64) (x3 : UInt64) (u1 : UInt64) (h0 : Heap) (n0 : Nat) (v : Option Value) (h : Heap) (L : List Loc) : Prop := v = none ∧ Fr n0 L ∧ n0 ≤ h.size ∧ NB Z h ob B K [(.double x0), (.double x1), (.double x2), (.double u1)] l1 l2 l3 l4 l5 l6 l7 l8 l9 l10 [(.int (0 : Int32)), (.int (1 : Int32))] [(.int (1 : Int32)), (.int (1 : Int32))] (2 : Int32)
set_option maxRecDepth 65536 in
set_option maxHeartbeats 40000000 in
theorem wnt111 (l : Launch) (Z : State) (a0 : Array Value) (hw : ∀ d ∈ tables_1, d.before a0 Z = true) (ws : List Jvm.Cond) (ob : Addr) (B : Nat → Addr) (K : Nat → ClassId) (l1 : List Value) (l2 : List Value) (l3 : List Value) (l4 : List Value) (l5 : List Value) (l6 : List Value) (l7 : List Value) (l8 : List Value) (l9 : List Value) (l10 : List Value) (x0 : UInt64) (x1 : UInt64) (x2 : UInt64) (x3 : UInt64) (u1 : UInt64) (h0 : Heap) (n0 : Nat) (Z0 : n0 ≤ h0.size) (D : Dis ob B) (gob : n0 ≤ ob) (G : ∀ i, i < 13 → n0 ≤ B i) (NB0 : NB Z h0 ob B K [(.double x0), (.double x1), (.double x2), (.double x3)] l1 l2 l3 l4 l5 l6 l7 l8 l9 l10 [(.int (0 : Int32)), (.int (0 : Int32))] [(.int (1 : Int32)), (.int (0 : Int32))] (1 : Int32)) :
    Met l (⟨"com/example/istra/istra/engine/NodeModel", "want", "(IID)V"⟩ : MethodName) prog_40_method_3_code 5 none ws (rm 1 0 0 14) #[(.ref ob), (.int (1 : Int32)), (.int (1 : Int32)), (.double u1)] Z h0 (Q_wnt111 Z ob B K l1 l2 l3 l4 l5 l6 l7 l8 l9 l10 x0 x1 x2 x3 u1 h0 n0) := by
  refine MetFree.of_bodySF (plainFor_of_name pn_com_2fexample_2fistra_2fistra_2fengine_2fNodeModel) hisR ?_
  intro p e s m args below meth c s₁ Bd hml0 hP hK
  obtain ⟨rfl, hZ, hh⟩ := hP
  have hx := Bd.exec
  have hby := Bd.bytes
  have hml : c.maxLocals = 5 := hml0
  have hown : s.vm.findClass "com/example/istra/istra/engine/NodeModel" = some m.cls := findClass_of_methodNamed Bd.named
  have hnm := (name_of_methodNamed Bd.named Bd.method).1
  have X0 : Stand p l e (rm 1 0 0 14) s m #[(.ref ob), (.int (1 : Int32)), (.int (1 : Int32)), (.double u1)] below meth c s₁ [] 0 0 := Stand.of_body Bd
  have e0 : s₁.heap = h0 := by rw [← hh, Bd.state]; rfl
  have N0 := Fr.nil n0
  have hww := fun (i : Nat) (c : Jvm.Cond) (h : tables_1[i]? = some c) => hw c (List.mem_of_getElem? h)
  have k0 : Rt p e below s₁ (mkF m 0 #[sr ob, si 1, si 1, sd u1, se] []) s₁ m #[(.ref ob), (.int (1 : Int32)), (.int (1 : Int32)), (.double u1)] 5 := fun t k => castTop (ef_4_RIID m ob (1 : Int32) (1 : Int32) u1) k
  have H : ∀ {pc r}, decode prog_40_method_3_code pc = r → decode c.code pc = r := fun d => hb hby d
  have k101 := f_alN X0 hx k0 (H d4_0) rfl
  obtain ⟨T102, X102, e102, k103⟩ := gFs X0 hx hZ hown (hww 10 _ rfl) e0 (nq1 NB0) k101 (H d4_1)
  have k104 := f_ilN X102 hx k103 (H d4_4) rfl
  have k105 := f_alN X102 hx k104 (H d4_5) rfl
  obtain ⟨T106, X106, e106, k107⟩ := gFs X102 hx hZ hown (hww 47 _ rfl) e102 (nq16 NB0) k105 (H d4_6)
  have k108 := f_imul X106 hx k107 (H d4_9) (r := 2) (by decide)
  have k109 := f_ilN X106 hx k108 (H d4_10) rfl
  have k110 := f_iadd X106 hx k109 (H d4_11) (r := 3) (by decide)
  have k111 := f_dlN X106 hx k110 (H d4_12) rfl
  obtain ⟨T112, h112, L112, X112, e112, W112, V112, N112, Z112, k112⟩ := f_dst X106 hx hZ e106 (nq18 NB0) N0 (G 0 (by decide)) Z0 k111 (H d4_13) (by decide) 3 rfl (lt_b rfl)
  have NB113 := nb_w0 D NB0 W112 V112
  have k114 := f_alN X112 hx k112 (H d4_14) rfl
  obtain ⟨T115, X115, e115, k116⟩ := gFs X112 hx hZ hown (hww 36 _ rfl) e112 (nq13 NB113) k114 (H d4_15)
  have k117 := f_ilN X115 hx k116 (H d4_18) rfl
  have k118 := f_bal X115 hx hZ e115 (nq30 NB113) k117 (H d4_19) (v := 0) (by decide) rfl
  have k119 := f_ifN X115 hx k118 (H d4_20) ((if0 _ _).trans (teq (by decide)).2)
  have k120 := f_alN X115 hx k119 (H d4_23) rfl
  have k121 := f_ilN X115 hx k120 (H d4_24) rfl
  obtain ⟨cq122, q122, q122'⟩ := (nq0 NB113).cell
  obtain ⟨_, _, ⟨T122, L122, k122, n122⟩, -, X122, ⟨Lc122, hQ122, l122, y122, z122⟩, st122⟩ := X115.privateBack hx (y := (⟨"com/example/istra/istra/engine/NodeModel", "list", "(I)V"⟩ : MethodName)) hown (mvT hZ (hww 57 _ rfl)) (mvT hZ (hww 58 _ rfl)) (own_selP (mvT hZ (hww 41 _ rfl)) rfl (Cond.privateMethod_at (mvP hZ (hww 59 _ rfl) (args := #[]))) (mvT hZ (hww 58 _ rfl)) (by decide)) (Cond.privateMethod_at (mvP hZ (hww 59 _ rfl) (args := #[]))) (mvT hZ (hww 60 _ rfl)) (by decide) (backOf (W := 0) (lst11 l Z a0 hw [] ob B K [(.double x0), (.double x1), (.double x2), (.double u1)] l1 l2 l3 l4 l5 l6 l7 l8 l9 l10 h112 n0 Z112 D gob G NB113) hZ (hww 60 _ rfl) (hww 2 _ rfl) (by decide) (by decide)) (g := (mkF m 25 #[sr ob, si 1, si 1, sd u1, se] [vI 1, vR ob])) rfl (by rw [hml]; rfl) (Steps.refl _) (a := ob) (by rw [e115]; exact q122) q122' (argsL := [(.int (1 : Int32))]) (rest := []) (lenOf pd__28I_29V rfl) rfl (by show 2 * 0 + _ ≤ _; exact Nat.le_of_eq rfl) (H d4_25) (fun _ _ => ⟨rfl, e115, (by decide : 0 + 0 ≤ _), (by decide : 0 + 0 ≤ _)⟩)
  dsimp only [Pt.U, Pt.locs, Pt.cells, Pt.slots] at X122 l122 y122 z122 st122 hQ122
  subst l122 y122 z122
  obtain ⟨h122, e122⟩ : ∃ h', T122.heap = h' := ⟨_, rfl⟩
  rw [e122] at hQ122
  obtain ⟨rfl, N122q, Z122, NB122⟩ := hQ122
  have N123 := Fr.app N112 N122q
  have k124 : Rt p e below T122 (mkF m 28 #[sr ob, si 1, si 1, sd u1, se] []) s₁ m #[(.ref ob), (.int (1 : Int32)), (.int (1 : Int32)), (.double u1)] 5 := fun t k => k121 t (st122.trans k)
  obtain ⟨fs, hr, hrun, hended, hW, hsame⟩ := X122.leave (v := none) (fun _ => rfl)
  refine ⟨_, _, k124 _ (X122.returnOut hx Bd.returns (H d4_28) hr), hrun, hended, _, _, rfl, ?_, ⟨_, rfl⟩, hW, hsame.mono (by decide) (by decide)⟩
  show Q_wnt111 Z ob B K l1 l2 l3 l4 l5 l6 l7 l8 l9 l10 x0 x1 x2 x3 u1 h0 n0 _ T122.heap _
  rw [e122]
  exact ⟨rfl, N123, Z122, NB122⟩
theorem ef_6_R (m : MethodId) (x0 : Addr) : entryFrame m #[(.ref x0)] 6 = mkF m 0 #[.val (.ref x0), .unset, .unset, .unset, .unset, .unset] [] := by first | (simp [entryFrame, mkF, argsToLocals, Value.category]; done) | rfl
theorem d6_0 : decode prog_40_method_11_code 0 = .ok (.aload_n 0, 1) := by decide +kernel
theorem d6_1 : decode prog_40_method_11_code 1 = .ok (.getfield 64, 3) := by decide +kernel
theorem d6_4 : decode prog_40_method_11_code 4 = .ok (.iconst 1, 1) := by decide +kernel
theorem d6_5 : decode prog_40_method_11_code 5 = .ok (.if_icmp .ne 8, 3) := by decide +kernel
theorem d6_13 : decode prog_40_method_11_code 13 = .ok (.aload_n 0, 1) := by decide +kernel
theorem d6_14 : decode prog_40_method_11_code 14 = .ok (.getfield 19, 3) := by decide +kernel
theorem d6_17 : decode prog_40_method_11_code 17 = .ok (.iconst 0, 1) := by decide +kernel
theorem d6_18 : decode prog_40_method_11_code 18 = .ok (.aload_n 0, 1) := by decide +kernel
theorem d6_19 : decode prog_40_method_11_code 19 = .ok (.getfield 22, 3) := by decide +kernel
theorem d6_22 : decode prog_40_method_11_code 22 = .ok (.iconst 0, 1) := by decide +kernel
theorem d6_23 : decode prog_40_method_11_code 23 = .ok (.aload_n 0, 1) := by decide +kernel
theorem d6_24 : decode prog_40_method_11_code 24 = .ok (.getfield 55, 3) := by decide +kernel
theorem d6_27 : decode prog_40_method_11_code 27 = .ok (.invokestatic 85, 3) := by decide +kernel
theorem d6_30 : decode prog_40_method_11_code 30 = .ok (.iconst 0, 1) := by decide +kernel
theorem d6_31 : decode prog_40_method_11_code 31 = .ok (.istore_n 1, 1) := by decide +kernel
theorem d6_32 : decode prog_40_method_11_code 32 = .ok (.iconst 0, 1) := by decide +kernel
theorem d6_33 : decode prog_40_method_11_code 33 = .ok (.istore_n 2, 1) := by decide +kernel
theorem d6_34 : decode prog_40_method_11_code 34 = .ok (.iload_n 2, 1) := by decide +kernel
theorem d6_35 : decode prog_40_method_11_code 35 = .ok (.aload_n 0, 1) := by decide +kernel
theorem d6_36 : decode prog_40_method_11_code 36 = .ok (.getfield 51, 3) := by decide +kernel
theorem d6_39 : decode prog_40_method_11_code 39 = .ok (.if_icmp .ge 93, 3) := by decide +kernel
theorem d6_42 : decode prog_40_method_11_code 42 = .ok (.aload_n 0, 1) := by decide +kernel
theorem d6_43 : decode prog_40_method_11_code 43 = .ok (.getfield 44, 3) := by decide +kernel
theorem d6_46 : decode prog_40_method_11_code 46 = .ok (.iload_n 2, 1) := by decide +kernel
theorem d6_47 : decode prog_40_method_11_code 47 = .ok (.iaload, 1) := by decide +kernel
theorem d6_48 : decode prog_40_method_11_code 48 = .ok (.istore_n 3, 1) := by decide +kernel
theorem d6_49 : decode prog_40_method_11_code 49 = .ok (.aload_n 0, 1) := by decide +kernel
theorem d6_50 : decode prog_40_method_11_code 50 = .ok (.getfield 7, 3) := by decide +kernel
theorem d6_53 : decode prog_40_method_11_code 53 = .ok (.iload_n 3, 1) := by decide +kernel
theorem d6_54 : decode prog_40_method_11_code 54 = .ok (.aload_n 0, 1) := by decide +kernel
theorem d6_55 : decode prog_40_method_11_code 55 = .ok (.getfield 55, 3) := by decide +kernel
theorem d6_58 : decode prog_40_method_11_code 58 = .ok (.imul, 1) := by decide +kernel
theorem d6_59 : decode prog_40_method_11_code 59 = .ok (.aload_n 0, 1) := by decide +kernel
theorem d6_60 : decode prog_40_method_11_code 60 = .ok (.getfield 16, 3) := by decide +kernel
theorem d6_63 : decode prog_40_method_11_code 63 = .ok (.iload_n 3, 1) := by decide +kernel
theorem d6_64 : decode prog_40_method_11_code 64 = .ok (.aload_n 0, 1) := by decide +kernel
theorem d6_65 : decode prog_40_method_11_code 65 = .ok (.getfield 55, 3) := by decide +kernel
theorem d6_68 : decode prog_40_method_11_code 68 = .ok (.imul, 1) := by decide +kernel
theorem d6_69 : decode prog_40_method_11_code 69 = .ok (.aload_n 0, 1) := by decide +kernel
theorem d6_70 : decode prog_40_method_11_code 70 = .ok (.getfield 55, 3) := by decide +kernel
theorem d6_73 : decode prog_40_method_11_code 73 = .ok (.invokestatic 85, 3) := by decide +kernel
theorem d6_76 : decode prog_40_method_11_code 76 = .ok (.aload_n 0, 1) := by decide +kernel
theorem d6_77 : decode prog_40_method_11_code 77 = .ok (.getfield 13, 3) := by decide +kernel
theorem d6_80 : decode prog_40_method_11_code 80 = .ok (.iload_n 3, 1) := by decide +kernel
theorem d6_81 : decode prog_40_method_11_code 81 = .ok (.aload_n 0, 1) := by decide +kernel
theorem d6_82 : decode prog_40_method_11_code 82 = .ok (.getfield 55, 3) := by decide +kernel
theorem d6_85 : decode prog_40_method_11_code 85 = .ok (.imul, 1) := by decide +kernel
theorem d6_86 : decode prog_40_method_11_code 86 = .ok (.iload_n 3, 1) := by decide +kernel
theorem d6_87 : decode prog_40_method_11_code 87 = .ok (.iconst 1, 1) := by decide +kernel
theorem d6_88 : decode prog_40_method_11_code 88 = .ok (.iadd, 1) := by decide +kernel
theorem d6_89 : decode prog_40_method_11_code 89 = .ok (.aload_n 0, 1) := by decide +kernel
theorem d6_90 : decode prog_40_method_11_code 90 = .ok (.getfield 55, 3) := by decide +kernel
theorem d6_93 : decode prog_40_method_11_code 93 = .ok (.imul, 1) := by decide +kernel
theorem d6_94 : decode prog_40_method_11_code 94 = .ok (.dconst 0, 1) := by decide +kernel
theorem d6_95 : decode prog_40_method_11_code 95 = .ok (.invokestatic 58, 3) := by decide +kernel
theorem pd__28_5bDIID_29V : parseMethodDescriptor "([DIID)V" = some ⟨[(.array .double), .int, .int, .double], none⟩ := by decide +kernel
theorem d6_98 : decode prog_40_method_11_code 98 = .ok (.aload_n 0, 1) := by decide +kernel
theorem d6_99 : decode prog_40_method_11_code 99 = .ok (.getfield 38, 3) := by decide +kernel
theorem d6_102 : decode prog_40_method_11_code 102 = .ok (.iload_n 3, 1) := by decide +kernel
theorem d6_103 : decode prog_40_method_11_code 103 = .ok (.aload_n 0, 1) := by decide +kernel
theorem d6_104 : decode prog_40_method_11_code 104 = .ok (.iload_n 3, 1) := by decide +kernel
theorem d6_105 : decode prog_40_method_11_code 105 = .ok (.invokevirtual 91, 3) := by decide +kernel
theorem pd__28I_29Z : parseMethodDescriptor "(I)Z" = some ⟨[.int], some .boolean⟩ := by decide +kernel
theorem d6_108 : decode prog_40_method_11_code 108 = .ok (.bastore, 1) := by decide +kernel
theorem d6_109 : decode prog_40_method_11_code 109 = .ok (.iload_n 1, 1) := by decide +kernel
theorem d6_110 : decode prog_40_method_11_code 110 = .ok (.aload_n 0, 1) := by decide +kernel
theorem d6_111 : decode prog_40_method_11_code 111 = .ok (.getfield 38, 3) := by decide +kernel
theorem d6_114 : decode prog_40_method_11_code 114 = .ok (.iload_n 3, 1) := by decide +kernel
theorem d6_115 : decode prog_40_method_11_code 115 = .ok (.baload, 1) := by decide +kernel
theorem d6_116 : decode prog_40_method_11_code 116 = .ok (.ifCond .ne 7, 3) := by decide +kernel
theorem d6_119 : decode prog_40_method_11_code 119 = .ok (.iconst 1, 1) := by decide +kernel
theorem d6_120 : decode prog_40_method_11_code 120 = .ok (.goto 4, 3) := by decide +kernel
theorem d6_123 : decode prog_40_method_11_code 123 = .ok (.iconst 0, 1) := by decide +kernel
theorem d6_124 : decode prog_40_method_11_code 124 = .ok (.ior, 1) := by decide +kernel
theorem d6_125 : decode prog_40_method_11_code 125 = .ok (.istore_n 1, 1) := by decide +kernel
theorem d6_126 : decode prog_40_method_11_code 126 = .ok (.iinc 2 1, 3) := by decide +kernel
theorem d6_129 : decode prog_40_method_11_code 129 = .ok (.goto (-95), 3) := by decide +kernel
theorem d6_132 : decode prog_40_method_11_code 132 = .ok (.iconst 0, 1) := by decide +kernel
theorem d6_133 : decode prog_40_method_11_code 133 = .ok (.istore_n 2, 1) := by decide +kernel
theorem d6_134 : decode prog_40_method_11_code 134 = .ok (.iload_n 2, 1) := by decide +kernel
theorem d6_135 : decode prog_40_method_11_code 135 = .ok (.aload_n 0, 1) := by decide +kernel
theorem d6_136 : decode prog_40_method_11_code 136 = .ok (.getfield 64, 3) := by decide +kernel
theorem d6_139 : decode prog_40_method_11_code 139 = .ok (.if_icmp .ge 380, 3) := by decide +kernel
theorem d6_142 : decode prog_40_method_11_code 142 = .ok (.iload_n 1, 1) := by decide +kernel
theorem d6_143 : decode prog_40_method_11_code 143 = .ok (.ifCond .eq 376, 3) := by decide +kernel
theorem d6_519 : decode prog_40_method_11_code 519 = .ok (.return_, 1) := by decide +kernel
theorem d6_146 : decode prog_40_method_11_code 146 = .ok (.iconst 0, 1) := by decide +kernel
theorem d6_147 : decode prog_40_method_11_code 147 = .ok (.istore_n 3, 1) := by decide +kernel
theorem d6_148 : decode prog_40_method_11_code 148 = .ok (.iconst 0, 1) := by decide +kernel
theorem d6_149 : decode prog_40_method_11_code 149 = .ok (.istore 4, 2) := by decide +kernel
theorem d6_151 : decode prog_40_method_11_code 151 = .ok (.iload 4, 2) := by decide +kernel
theorem d6_153 : decode prog_40_method_11_code 153 = .ok (.aload_n 0, 1) := by decide +kernel
theorem d6_154 : decode prog_40_method_11_code 154 = .ok (.getfield 55, 3) := by decide +kernel
theorem d6_157 : decode prog_40_method_11_code 157 = .ok (.if_icmp .ge 160, 3) := by decide +kernel
theorem d6_160 : decode prog_40_method_11_code 160 = .ok (.aload_n 0, 1) := by decide +kernel
theorem d6_161 : decode prog_40_method_11_code 161 = .ok (.getfield 25, 3) := by decide +kernel
theorem d6_164 : decode prog_40_method_11_code 164 = .ok (.iload 4, 2) := by decide +kernel
theorem d6_166 : decode prog_40_method_11_code 166 = .ok (.dconst 0, 1) := by decide +kernel
theorem d6_167 : decode prog_40_method_11_code 167 = .ok (.dastore, 1) := by decide +kernel
theorem d6_168 : decode prog_40_method_11_code 168 = .ok (.iconst 0, 1) := by decide +kernel
theorem d6_169 : decode prog_40_method_11_code 169 = .ok (.istore 5, 2) := by decide +kernel
theorem d6_171 : decode prog_40_method_11_code 171 = .ok (.iload 5, 2) := by decide +kernel
theorem d6_173 : decode prog_40_method_11_code 173 = .ok (.aload_n 0, 1) := by decide +kernel
theorem d6_174 : decode prog_40_method_11_code 174 = .ok (.getfield 51, 3) := by decide +kernel
theorem d6_177 : decode prog_40_method_11_code 177 = .ok (.if_icmp .ge 54, 3) := by decide +kernel
theorem d6_180 : decode prog_40_method_11_code 180 = .ok (.aload_n 0, 1) := by decide +kernel
theorem d6_181 : decode prog_40_method_11_code 181 = .ok (.getfield 38, 3) := by decide +kernel
theorem d6_184 : decode prog_40_method_11_code 184 = .ok (.aload_n 0, 1) := by decide +kernel
theorem d6_185 : decode prog_40_method_11_code 185 = .ok (.getfield 44, 3) := by decide +kernel
theorem d6_188 : decode prog_40_method_11_code 188 = .ok (.iload 5, 2) := by decide +kernel
theorem d6_190 : decode prog_40_method_11_code 190 = .ok (.iaload, 1) := by decide +kernel
theorem d6_191 : decode prog_40_method_11_code 191 = .ok (.baload, 1) := by decide +kernel
theorem d6_192 : decode prog_40_method_11_code 192 = .ok (.ifCond .ne 33, 3) := by decide +kernel
theorem d6_195 : decode prog_40_method_11_code 195 = .ok (.aload_n 0, 1) := by decide +kernel
theorem d6_196 : decode prog_40_method_11_code 196 = .ok (.getfield 25, 3) := by decide +kernel
theorem d6_199 : decode prog_40_method_11_code 199 = .ok (.iload 4, 2) := by decide +kernel
theorem d6_201 : decode prog_40_method_11_code 201 = .ok (.dup2, 1) := by decide +kernel
theorem d6_202 : decode prog_40_method_11_code 202 = .ok (.daload, 1) := by decide +kernel
theorem d6_203 : decode prog_40_method_11_code 203 = .ok (.aload_n 0, 1) := by decide +kernel
theorem d6_204 : decode prog_40_method_11_code 204 = .ok (.getfield 16, 3) := by decide +kernel
theorem d6_207 : decode prog_40_method_11_code 207 = .ok (.aload_n 0, 1) := by decide +kernel
theorem d6_208 : decode prog_40_method_11_code 208 = .ok (.getfield 44, 3) := by decide +kernel
theorem d6_211 : decode prog_40_method_11_code 211 = .ok (.iload 5, 2) := by decide +kernel
theorem d6_213 : decode prog_40_method_11_code 213 = .ok (.iaload, 1) := by decide +kernel
theorem d6_214 : decode prog_40_method_11_code 214 = .ok (.aload_n 0, 1) := by decide +kernel
theorem d6_215 : decode prog_40_method_11_code 215 = .ok (.getfield 55, 3) := by decide +kernel
theorem d6_218 : decode prog_40_method_11_code 218 = .ok (.imul, 1) := by decide +kernel
theorem d6_219 : decode prog_40_method_11_code 219 = .ok (.iload 4, 2) := by decide +kernel
theorem d6_221 : decode prog_40_method_11_code 221 = .ok (.iadd, 1) := by decide +kernel
theorem d6_222 : decode prog_40_method_11_code 222 = .ok (.daload, 1) := by decide +kernel
theorem d6_223 : decode prog_40_method_11_code 223 = .ok (.dadd, 1) := by decide +kernel
theorem d6_224 : decode prog_40_method_11_code 224 = .ok (.dastore, 1) := by decide +kernel
theorem d6_225 : decode prog_40_method_11_code 225 = .ok (.iinc 5 1, 3) := by decide +kernel
theorem d6_228 : decode prog_40_method_11_code 228 = .ok (.goto (-57), 3) := by decide +kernel
theorem d6_231 : decode prog_40_method_11_code 231 = .ok (.aload_n 0, 1) := by decide +kernel
theorem d6_232 : decode prog_40_method_11_code 232 = .ok (.getfield 28, 3) := by decide +kernel
theorem d6_235 : decode prog_40_method_11_code 235 = .ok (.iload 4, 2) := by decide +kernel
theorem d6_237 : decode prog_40_method_11_code 237 = .ok (.aload_n 0, 1) := by decide +kernel
theorem d6_238 : decode prog_40_method_11_code 238 = .ok (.getfield 25, 3) := by decide +kernel
theorem d6_241 : decode prog_40_method_11_code 241 = .ok (.iload 4, 2) := by decide +kernel
theorem d6_243 : decode prog_40_method_11_code 243 = .ok (.daload, 1) := by decide +kernel
theorem d6_244 : decode prog_40_method_11_code 244 = .ok (.aload_n 0, 1) := by decide +kernel
theorem d6_245 : decode prog_40_method_11_code 245 = .ok (.getfield 22, 3) := by decide +kernel
theorem d6_248 : decode prog_40_method_11_code 248 = .ok (.iload 4, 2) := by decide +kernel
theorem d6_250 : decode prog_40_method_11_code 250 = .ok (.daload, 1) := by decide +kernel
theorem d6_251 : decode prog_40_method_11_code 251 = .ok (.dcmp .l, 1) := by decide +kernel
theorem d6_252 : decode prog_40_method_11_code 252 = .ok (.ifCond .le 21, 3) := by decide +kernel
theorem d6_255 : decode prog_40_method_11_code 255 = .ok (.aload_n 0, 1) := by decide +kernel
theorem d6_256 : decode prog_40_method_11_code 256 = .ok (.getfield 22, 3) := by decide +kernel
theorem d6_259 : decode prog_40_method_11_code 259 = .ok (.iload 4, 2) := by decide +kernel
theorem d6_261 : decode prog_40_method_11_code 261 = .ok (.daload, 1) := by decide +kernel
theorem d6_262 : decode prog_40_method_11_code 262 = .ok (.aload_n 0, 1) := by decide +kernel
theorem d6_263 : decode prog_40_method_11_code 263 = .ok (.getfield 25, 3) := by decide +kernel
theorem d6_266 : decode prog_40_method_11_code 266 = .ok (.iload 4, 2) := by decide +kernel
theorem d6_268 : decode prog_40_method_11_code 268 = .ok (.daload, 1) := by decide +kernel
theorem d6_269 : decode prog_40_method_11_code 269 = .ok (.ddiv, 1) := by decide +kernel
theorem d6_270 : decode prog_40_method_11_code 270 = .ok (.goto 4, 3) := by decide +kernel
theorem d6_273 : decode prog_40_method_11_code 273 = .ok (.dconst 1, 1) := by decide +kernel
theorem d6_274 : decode prog_40_method_11_code 274 = .ok (.dastore, 1) := by decide +kernel
theorem d6_275 : decode prog_40_method_11_code 275 = .ok (.iload_n 3, 1) := by decide +kernel
theorem d6_276 : decode prog_40_method_11_code 276 = .ok (.aload_n 0, 1) := by decide +kernel
theorem d6_277 : decode prog_40_method_11_code 277 = .ok (.getfield 28, 3) := by decide +kernel
theorem d6_280 : decode prog_40_method_11_code 280 = .ok (.iload 4, 2) := by decide +kernel
theorem d6_282 : decode prog_40_method_11_code 282 = .ok (.daload, 1) := by decide +kernel
theorem d6_283 : decode prog_40_method_11_code 283 = .ok (.dconst 1, 1) := by decide +kernel
theorem d6_284 : decode prog_40_method_11_code 284 = .ok (.dcmp .g, 1) := by decide +kernel
theorem d6_285 : decode prog_40_method_11_code 285 = .ok (.ifCond .ge 7, 3) := by decide +kernel
theorem d6_288 : decode prog_40_method_11_code 288 = .ok (.iconst 1, 1) := by decide +kernel
theorem d6_289 : decode prog_40_method_11_code 289 = .ok (.goto 4, 3) := by decide +kernel
theorem d6_292 : decode prog_40_method_11_code 292 = .ok (.iconst 0, 1) := by decide +kernel
theorem d6_293 : decode prog_40_method_11_code 293 = .ok (.ior, 1) := by decide +kernel
theorem d6_294 : decode prog_40_method_11_code 294 = .ok (.istore_n 3, 1) := by decide +kernel
theorem d6_295 : decode prog_40_method_11_code 295 = .ok (.aload_n 0, 1) := by decide +kernel
theorem d6_296 : decode prog_40_method_11_code 296 = .ok (.getfield 31, 3) := by decide +kernel
theorem d6_299 : decode prog_40_method_11_code 299 = .ok (.iload 4, 2) := by decide +kernel
theorem d6_301 : decode prog_40_method_11_code 301 = .ok (.dconst 0, 1) := by decide +kernel
theorem d6_302 : decode prog_40_method_11_code 302 = .ok (.dastore, 1) := by decide +kernel
theorem d6_303 : decode prog_40_method_11_code 303 = .ok (.aload_n 0, 1) := by decide +kernel
theorem d6_304 : decode prog_40_method_11_code 304 = .ok (.getfield 34, 3) := by decide +kernel
theorem d6_307 : decode prog_40_method_11_code 307 = .ok (.iload 4, 2) := by decide +kernel
theorem d6_309 : decode prog_40_method_11_code 309 = .ok (.iconst 0, 1) := by decide +kernel
theorem d6_310 : decode prog_40_method_11_code 310 = .ok (.bastore, 1) := by decide +kernel
theorem d6_311 : decode prog_40_method_11_code 311 = .ok (.iinc 4 1, 3) := by decide +kernel
theorem d6_314 : decode prog_40_method_11_code 314 = .ok (.goto (-163), 3) := by decide +kernel
theorem d6_317 : decode prog_40_method_11_code 317 = .ok (.iconst 0, 1) := by decide +kernel
theorem d6_318 : decode prog_40_method_11_code 318 = .ok (.istore_n 1, 1) := by decide +kernel
theorem d6_319 : decode prog_40_method_11_code 319 = .ok (.iconst 0, 1) := by decide +kernel
theorem d6_320 : decode prog_40_method_11_code 320 = .ok (.istore 4, 2) := by decide +kernel
theorem d6_322 : decode prog_40_method_11_code 322 = .ok (.iload 4, 2) := by decide +kernel
theorem d6_324 : decode prog_40_method_11_code 324 = .ok (.aload_n 0, 1) := by decide +kernel
theorem d6_325 : decode prog_40_method_11_code 325 = .ok (.getfield 51, 3) := by decide +kernel
theorem d6_328 : decode prog_40_method_11_code 328 = .ok (.if_icmp .ge 35, 3) := by decide +kernel
theorem d6_331 : decode prog_40_method_11_code 331 = .ok (.aload_n 0, 1) := by decide +kernel
theorem d6_332 : decode prog_40_method_11_code 332 = .ok (.getfield 38, 3) := by decide +kernel
theorem d6_335 : decode prog_40_method_11_code 335 = .ok (.aload_n 0, 1) := by decide +kernel
theorem d6_336 : decode prog_40_method_11_code 336 = .ok (.getfield 44, 3) := by decide +kernel
theorem d6_339 : decode prog_40_method_11_code 339 = .ok (.iload 4, 2) := by decide +kernel
theorem d6_341 : decode prog_40_method_11_code 341 = .ok (.iaload, 1) := by decide +kernel
theorem d6_342 : decode prog_40_method_11_code 342 = .ok (.baload, 1) := by decide +kernel
theorem d6_343 : decode prog_40_method_11_code 343 = .ok (.ifCond .ne 14, 3) := by decide +kernel
theorem d6_346 : decode prog_40_method_11_code 346 = .ok (.aload_n 0, 1) := by decide +kernel
theorem d6_347 : decode prog_40_method_11_code 347 = .ok (.aload_n 0, 1) := by decide +kernel
theorem d6_348 : decode prog_40_method_11_code 348 = .ok (.getfield 44, 3) := by decide +kernel
theorem d6_351 : decode prog_40_method_11_code 351 = .ok (.iload 4, 2) := by decide +kernel
theorem d6_353 : decode prog_40_method_11_code 353 = .ok (.iaload, 1) := by decide +kernel
theorem d6_354 : decode prog_40_method_11_code 354 = .ok (.invokevirtual 94, 3) := by decide +kernel
theorem d6_357 : decode prog_40_method_11_code 357 = .ok (.iinc 4 1, 3) := by decide +kernel
theorem d6_360 : decode prog_40_method_11_code 360 = .ok (.goto (-38), 3) := by decide +kernel
theorem d6_363 : decode prog_40_method_11_code 363 = .ok (.iload_n 3, 1) := by decide +kernel
theorem d6_364 : decode prog_40_method_11_code 364 = .ok (.ifCond .eq 149, 3) := by decide +kernel
theorem d6_513 : decode prog_40_method_11_code 513 = .ok (.iinc 2 1, 3) := by decide +kernel
theorem d6_516 : decode prog_40_method_11_code 516 = .ok (.goto (-382), 3) := by decide +kernel
theorem d6_367 : decode prog_40_method_11_code 367 = .ok (.iconst 0, 1) := by decide +kernel
theorem d6_368 : decode prog_40_method_11_code 368 = .ok (.istore 4, 2) := by decide +kernel
theorem d6_370 : decode prog_40_method_11_code 370 = .ok (.iload 4, 2) := by decide +kernel
theorem d6_372 : decode prog_40_method_11_code 372 = .ok (.aload_n 0, 1) := by decide +kernel
theorem d6_373 : decode prog_40_method_11_code 373 = .ok (.getfield 55, 3) := by decide +kernel
theorem d6_376 : decode prog_40_method_11_code 376 = .ok (.if_icmp .ge 61, 3) := by decide +kernel
theorem d6_379 : decode prog_40_method_11_code 379 = .ok (.aload_n 0, 1) := by decide +kernel
theorem d6_380 : decode prog_40_method_11_code 380 = .ok (.getfield 22, 3) := by decide +kernel
theorem d6_383 : decode prog_40_method_11_code 383 = .ok (.iload 4, 2) := by decide +kernel
theorem d6_385 : decode prog_40_method_11_code 385 = .ok (.aload_n 0, 1) := by decide +kernel
theorem d6_386 : decode prog_40_method_11_code 386 = .ok (.getfield 28, 3) := by decide +kernel
theorem d6_389 : decode prog_40_method_11_code 389 = .ok (.iload 4, 2) := by decide +kernel
theorem d6_391 : decode prog_40_method_11_code 391 = .ok (.daload, 1) := by decide +kernel
theorem d6_392 : decode prog_40_method_11_code 392 = .ok (.dconst 1, 1) := by decide +kernel
theorem d6_393 : decode prog_40_method_11_code 393 = .ok (.dcmp .g, 1) := by decide +kernel
theorem d6_394 : decode prog_40_method_11_code 394 = .ok (.ifCond .ge 17, 3) := by decide +kernel
theorem d6_397 : decode prog_40_method_11_code 397 = .ok (.aload_n 0, 1) := by decide +kernel
theorem d6_398 : decode prog_40_method_11_code 398 = .ok (.getfield 34, 3) := by decide +kernel
theorem d6_401 : decode prog_40_method_11_code 401 = .ok (.iload 4, 2) := by decide +kernel
theorem d6_403 : decode prog_40_method_11_code 403 = .ok (.baload, 1) := by decide +kernel
theorem d6_404 : decode prog_40_method_11_code 404 = .ok (.ifCond .ne 7, 3) := by decide +kernel
theorem d6_407 : decode prog_40_method_11_code 407 = .ok (.dconst 0, 1) := by decide +kernel
theorem d6_408 : decode prog_40_method_11_code 408 = .ok (.goto 22, 3) := by decide +kernel
theorem d6_411 : decode prog_40_method_11_code 411 = .ok (.dconst 0, 1) := by decide +kernel
theorem d6_412 : decode prog_40_method_11_code 412 = .ok (.aload_n 0, 1) := by decide +kernel
theorem d6_413 : decode prog_40_method_11_code 413 = .ok (.getfield 22, 3) := by decide +kernel
theorem d6_416 : decode prog_40_method_11_code 416 = .ok (.iload 4, 2) := by decide +kernel
theorem d6_418 : decode prog_40_method_11_code 418 = .ok (.daload, 1) := by decide +kernel
theorem d6_419 : decode prog_40_method_11_code 419 = .ok (.aload_n 0, 1) := by decide +kernel
theorem d6_420 : decode prog_40_method_11_code 420 = .ok (.getfield 31, 3) := by decide +kernel
theorem d6_423 : decode prog_40_method_11_code 423 = .ok (.iload 4, 2) := by decide +kernel
theorem d6_425 : decode prog_40_method_11_code 425 = .ok (.daload, 1) := by decide +kernel
theorem d6_426 : decode prog_40_method_11_code 426 = .ok (.dsub, 1) := by decide +kernel
theorem d6_427 : decode prog_40_method_11_code 427 = .ok (.invokestatic 97, 3) := by decide +kernel
theorem pd__28DD_29D : parseMethodDescriptor "(DD)D" = some ⟨[.double, .double], some .double⟩ := by decide +kernel
theorem d6_430 : decode prog_40_method_11_code 430 = .ok (.dastore, 1) := by decide +kernel
theorem d6_431 : decode prog_40_method_11_code 431 = .ok (.iinc 4 1, 3) := by decide +kernel
theorem d6_434 : decode prog_40_method_11_code 434 = .ok (.goto (-64), 3) := by decide +kernel
theorem d6_437 : decode prog_40_method_11_code 437 = .ok (.iconst 0, 1) := by decide +kernel
theorem d6_438 : decode prog_40_method_11_code 438 = .ok (.istore 4, 2) := by decide +kernel
theorem d6_440 : decode prog_40_method_11_code 440 = .ok (.iload 4, 2) := by decide +kernel
theorem d6_442 : decode prog_40_method_11_code 442 = .ok (.aload_n 0, 1) := by decide +kernel
theorem d6_443 : decode prog_40_method_11_code 443 = .ok (.getfield 51, 3) := by decide +kernel
theorem d6_446 : decode prog_40_method_11_code 446 = .ok (.if_icmp .ge 67, 3) := by decide +kernel
theorem d6_449 : decode prog_40_method_11_code 449 = .ok (.aload_n 0, 1) := by decide +kernel
theorem d6_450 : decode prog_40_method_11_code 450 = .ok (.getfield 44, 3) := by decide +kernel
theorem d6_453 : decode prog_40_method_11_code 453 = .ok (.iload 4, 2) := by decide +kernel
theorem d6_455 : decode prog_40_method_11_code 455 = .ok (.iaload, 1) := by decide +kernel
theorem d6_456 : decode prog_40_method_11_code 456 = .ok (.istore 5, 2) := by decide +kernel
theorem d6_458 : decode prog_40_method_11_code 458 = .ok (.aload_n 0, 1) := by decide +kernel
theorem d6_459 : decode prog_40_method_11_code 459 = .ok (.getfield 38, 3) := by decide +kernel
theorem d6_462 : decode prog_40_method_11_code 462 = .ok (.iload 5, 2) := by decide +kernel
theorem d6_464 : decode prog_40_method_11_code 464 = .ok (.aload_n 0, 1) := by decide +kernel
theorem d6_465 : decode prog_40_method_11_code 465 = .ok (.getfield 38, 3) := by decide +kernel
theorem d6_468 : decode prog_40_method_11_code 468 = .ok (.iload 5, 2) := by decide +kernel
theorem d6_470 : decode prog_40_method_11_code 470 = .ok (.baload, 1) := by decide +kernel
theorem d6_471 : decode prog_40_method_11_code 471 = .ok (.ifCond .ne 12, 3) := by decide +kernel
theorem d6_474 : decode prog_40_method_11_code 474 = .ok (.aload_n 0, 1) := by decide +kernel
theorem d6_475 : decode prog_40_method_11_code 475 = .ok (.iload 5, 2) := by decide +kernel
theorem d6_477 : decode prog_40_method_11_code 477 = .ok (.invokevirtual 91, 3) := by decide +kernel
theorem d6_480 : decode prog_40_method_11_code 480 = .ok (.ifCond .eq 7, 3) := by decide +kernel
theorem d6_483 : decode prog_40_method_11_code 483 = .ok (.iconst 1, 1) := by decide +kernel
theorem d6_484 : decode prog_40_method_11_code 484 = .ok (.goto 4, 3) := by decide +kernel
theorem d6_488 : decode prog_40_method_11_code 488 = .ok (.bastore, 1) := by decide +kernel
theorem d6_489 : decode prog_40_method_11_code 489 = .ok (.iload_n 1, 1) := by decide +kernel
theorem d6_490 : decode prog_40_method_11_code 490 = .ok (.aload_n 0, 1) := by decide +kernel
theorem d6_491 : decode prog_40_method_11_code 491 = .ok (.getfield 38, 3) := by decide +kernel
theorem d6_494 : decode prog_40_method_11_code 494 = .ok (.iload 5, 2) := by decide +kernel
theorem d6_496 : decode prog_40_method_11_code 496 = .ok (.baload, 1) := by decide +kernel
theorem d6_497 : decode prog_40_method_11_code 497 = .ok (.ifCond .ne 7, 3) := by decide +kernel
theorem d6_504 : decode prog_40_method_11_code 504 = .ok (.iconst 0, 1) := by decide +kernel
theorem d6_505 : decode prog_40_method_11_code 505 = .ok (.ior, 1) := by decide +kernel
theorem d6_506 : decode prog_40_method_11_code 506 = .ok (.istore_n 1, 1) := by decide +kernel
theorem d6_507 : decode prog_40_method_11_code 507 = .ok (.iinc 4 1, 3) := by decide +kernel
theorem d6_510 : decode prog_40_method_11_code 510 = .ok (.goto (-70), 3) := by decide +kernel
def Q_shr2 (Z : State) (ob : Addr) (B : Nat → Addr) (K : Nat → ClassId) (x0 : UInt64) (x1 : UInt64) (x2 : UInt64) (x3 : UInt64) (s0 : UInt64) (s1 : UInt64) (h0 : Heap) (n0 : Nat) (v : Option Value) (h : Heap) (L : List Loc) : Prop := ∃ (m0 m1 m2 m3 : UInt64) (l2 l4 l5 l6 l7 l8 l9 : List Value), v = none ∧ Fr n0 L ∧ n0 ≤ h.size ∧ NB Z h ob B K [(.double x0), (.double x1), (.double x2), (.double x3)] [(.double m0), (.double m1), (.double m2), (.double m3)] l2 [(.double s0), (.double s1)] l4 l5 l6 l7 l8 l9 [(.int (0 : Int32)), (.int (0 : Int32)), (.int (0 : Int32)), (.int (0 : Int32))] [(.int (0 : Int32)), (.int (1 : Int32))] [(.int (1 : Int32)), (.int (1 : Int32))] (2 : Int32) ∧ own_mq m0 m1 m2 m3
set_option maxRecDepth 65536 in
set_option maxHeartbeats 40000000 in
theorem shr2 (l : Launch) (Z : State) (a0 : Array Value) (hw : ∀ d ∈ tables_1, d.before a0 Z = true) (ws : List Jvm.Cond) (ob : Addr) (B : Nat → Addr) (K : Nat → ClassId) (x0 : UInt64) (x1 : UInt64) (x2 : UInt64) (x3 : UInt64) (s0 : UInt64) (s1 : UInt64) (h0 : Heap) (n0 : Nat) (Z0 : n0 ≤ h0.size) (D : Dis ob B) (gob : n0 ≤ ob) (G : ∀ i, i < 13 → n0 ≤ B i) (NB0 : NB Z h0 ob B K [(.double x0), (.double x1), (.double x2), (.double x3)] [(.double (0 : UInt64)), (.double (0 : UInt64)), (.double (0 : UInt64)), (.double (0 : UInt64))] [(.double (0 : UInt64)), (.double (0 : UInt64)), (.double (0 : UInt64)), (.double (0 : UInt64))] [(.double s0), (.double s1)] [(.double (0 : UInt64)), (.double (0 : UInt64))] [(.double (0 : UInt64)), (.double (0 : UInt64))] [(.double (0 : UInt64)), (.double (0 : UInt64))] [(.double (0 : UInt64)), (.double (0 : UInt64))] [(.int (0 : Int32)), (.int (0 : Int32))] [(.int (0 : Int32)), (.int (0 : Int32))] [(.int (0 : Int32)), (.int (0 : Int32)), (.int (0 : Int32)), (.int (0 : Int32))] [(.int (0 : Int32)), (.int (1 : Int32))] [(.int (1 : Int32)), (.int (1 : Int32))] (2 : Int32)) (hd0 : own_dem x0 x1) (hd1 : own_dem x2 x3) (hs0 : SupQ s0) (hs1 : SupQ s1) :
    Met l (⟨"com/example/istra/istra/engine/NodeModel", "share", "()V"⟩ : MethodName) prog_40_method_11_code 6 none ws (rm 2 0 0 38) #[(.ref ob)] Z h0 (Q_shr2 Z ob B K x0 x1 x2 x3 s0 s1 h0 n0) := by
  refine MetFree.of_bodySF (plainFor_of_name pn_com_2fexample_2fistra_2fistra_2fengine_2fNodeModel) hisR ?_
  intro p e s m args below meth c s₁ Bd hml0 hP hK
  obtain ⟨rfl, hZ, hh⟩ := hP
  have hx := Bd.exec
  have hby := Bd.bytes
  have hml : c.maxLocals = 6 := hml0
  have hown : s.vm.findClass "com/example/istra/istra/engine/NodeModel" = some m.cls := findClass_of_methodNamed Bd.named
  have hnm := (name_of_methodNamed Bd.named Bd.method).1
  have X0 : Stand p l e (rm 2 0 0 38) s m #[(.ref ob)] below meth c s₁ [] 0 0 := Stand.of_body Bd
  have e0 : s₁.heap = h0 := by rw [← hh, Bd.state]; rfl
  have N0 := Fr.nil n0
  have hww := fun (i : Nat) (c : Jvm.Cond) (h : tables_1[i]? = some c) => hw c (List.mem_of_getElem? h)
  have k0 : Rt p e below s₁ (mkF m 0 #[sr ob, un, un, un, un, un] []) s₁ m #[(.ref ob)] 6 := fun t k => castTop (ef_6_R m ob) k
  have H : ∀ {pc r}, decode prog_40_method_11_code pc = r → decode c.code pc = r := fun d => hb hby d
  have k101 := f_alN X0 hx k0 (H d6_0) rfl
  obtain ⟨T102, X102, e102, k103⟩ := gFs X0 hx hZ hown (hww 45 _ rfl) e0 (nq15 NB0) k101 (H d6_1)
  have k104 := f_ic X102 hx k103 (H d6_4) (v := 1) rfl
  have k105 := f_icY X102 hx k104 (H d6_5) (pc' := 13) (feq (by decide)).2 (by decide)
  have k106 := f_alN X102 hx k105 (H d6_13) rfl
  obtain ⟨T107, X107, e107, k108⟩ := gFs X102 hx hZ hown (hww 16 _ rfl) e102 (nq4 NB0) k106 (H d6_14)
  have k109 := f_ic X107 hx k108 (H d6_17) (v := 0) rfl
  have k110 := f_alN X107 hx k109 (H d6_18) rfl
  obtain ⟨T111, X111, e111, k112⟩ := gFs X107 hx hZ hown (hww 18 _ rfl) e107 (nq5 NB0) k110 (H d6_19)
  have k113 := f_ic X111 hx k112 (H d6_22) (v := 0) rfl
  have k114 := f_alN X111 hx k113 (H d6_23) rfl
  obtain ⟨T115, X115, e115, k116⟩ := gFs X111 hx hZ hown (hww 47 _ rfl) e111 (nq16 NB0) k114 (H d6_24)
  obtain ⟨T117, h117, Lc117, X117, e117, N117, K117, Vc117, st117⟩ := cpA X115 hx hZ hown (hww 66 _ rfl) (hww 69 _ rfl) (hww 67 _ rfl) (hww 68 _ rfl) e115 (nq21 NB0) (nq22 NB0) (Or.inl ⟨rfl, rfl⟩) (sp := (0 : Int32)) (dp := (0 : Int32)) (nn := (2 : Int32)) (us := [(.double s0), (.double s1)]) (by decide) (by decide) (by decide) (by decide) (by decide) rfl (Nat.le_of_ble_eq_true rfl) N0 (G 4 (by decide)) (g := (mkF m 27 #[sr ob, un, un, un, un, un] [vI 2, vI 0, vR (B 4), vI 0, vR (B 3)])) rfl (by rw [hml]; rfl) rfl (H d6_27) (by decide) (W := 0) (by show 2 * 0 + _ ≤ _; exact Nat.le_of_eq rfl) (by decide)
  have V118 : Arv Z h117 (B 4) (K 4) .double (2 : Int32) [(.double s0), (.double s1)] (.double (0 : UInt64)) := Vc117
  have Z119 : n0 ≤ h117.size := Nat.le_trans Z0 K117.1
  have NB120 := nb_k4 D NB0 K117 V118
  have k121 : Rt p e below T117 (mkF m 30 #[sr ob, un, un, un, un, un] []) s₁ m #[(.ref ob)] 6 := fun t k => k116 t (st117 t k)
  have k122 := f_ic X117 hx k121 (H d6_30) (v := 0) rfl
  have k123 := f_isN X117 hx k122 (H d6_31) (l' := #[sr ob, si 0, un, un, un, un]) rfl
  have k124 := f_ic X117 hx k123 (H d6_32) (v := 0) rfl
  have k125 := f_isN X117 hx k124 (H d6_33) (l' := #[sr ob, si 0, si 0, un, un, un]) rfl
  have k126 := f_ilN X117 hx k125 (H d6_34) rfl
  have k127 := f_alN X117 hx k126 (H d6_35) rfl
  obtain ⟨T128, X128, e128, k129⟩ := gFs X117 hx hZ hown (hww 43 _ rfl) e117 (nq14 NB120) k127 (H d6_36)
  have k130 := f_icN X128 hx k129 (H d6_39) (tlt (by decide)).2.1
  have k131 := f_alN X128 hx k130 (H d6_42) rfl
  obtain ⟨T132, X132, e132, k133⟩ := gFs X128 hx hZ hown (hww 34 _ rfl) e128 (nq12 NB120) k131 (H d6_43)
  have k134 := f_ilN X132 hx k133 (H d6_46) rfl
  have k135 := f_ial X132 hx hZ e132 (nq29 NB120) k134 (H d6_47) (v := 0) (by decide) rfl
  have k136 := f_isN X132 hx k135 (H d6_48) (l' := #[sr ob, si 0, si 0, si 0, un, un]) rfl
  have k137 := f_alN X132 hx k136 (H d6_49) rfl
  obtain ⟨T138, X138, e138, k139⟩ := gFs X132 hx hZ hown (hww 10 _ rfl) e132 (nq1 NB120) k137 (H d6_50)
  have k140 := f_ilN X138 hx k139 (H d6_53) rfl
  have k141 := f_alN X138 hx k140 (H d6_54) rfl
  obtain ⟨T142, X142, e142, k143⟩ := gFs X138 hx hZ hown (hww 47 _ rfl) e138 (nq16 NB120) k141 (H d6_55)
  have k144 := f_imul X142 hx k143 (H d6_58) (r := 0) (by decide)
  have k145 := f_alN X142 hx k144 (H d6_59) rfl
  obtain ⟨T146, X146, e146, k147⟩ := gFs X142 hx hZ hown (hww 14 _ rfl) e142 (nq3 NB120) k145 (H d6_60)
  have k148 := f_ilN X146 hx k147 (H d6_63) rfl
  have k149 := f_alN X146 hx k148 (H d6_64) rfl
  obtain ⟨T150, X150, e150, k151⟩ := gFs X146 hx hZ hown (hww 47 _ rfl) e146 (nq16 NB120) k149 (H d6_65)
  have k152 := f_imul X150 hx k151 (H d6_68) (r := 0) (by decide)
  have k153 := f_alN X150 hx k152 (H d6_69) rfl
  obtain ⟨T154, X154, e154, k155⟩ := gFs X150 hx hZ hown (hww 47 _ rfl) e150 (nq16 NB120) k153 (H d6_70)
  obtain ⟨T156, h156, Lc156, X156, e156, N156, K156, Vc156, st156⟩ := cpA X154 hx hZ hown (hww 66 _ rfl) (hww 69 _ rfl) (hww 67 _ rfl) (hww 68 _ rfl) e154 (nq18 NB120) (nq20 NB120) (Or.inl ⟨rfl, rfl⟩) (sp := (0 : Int32)) (dp := (0 : Int32)) (nn := (2 : Int32)) (us := [(.double x0), (.double x1)]) (by decide) (by decide) (by decide) (by decide) (by decide) rfl (Nat.le_of_ble_eq_true rfl) N117 (G 2 (by decide)) (g := (mkF m 73 #[sr ob, si 0, si 0, si 0, un, un] [vI 2, vI 0, vR (B 2), vI 0, vR (B 0)])) rfl (by rw [hml]; rfl) rfl (H d6_73) (by decide) (W := 0) (by show 2 * 0 + _ ≤ _; exact Nat.le_of_eq rfl) (by decide)
  have V157 : Arv Z h156 (B 2) (K 2) .double (4 : Int32) [(.double x0), (.double x1), (.double (0 : UInt64)), (.double (0 : UInt64))] (.double (0 : UInt64)) := Vc156
  have Z158 : n0 ≤ h156.size := Nat.le_trans Z119 K156.1
  have NB159 := nb_k2 D NB120 K156 V157
  have k160 : Rt p e below T156 (mkF m 76 #[sr ob, si 0, si 0, si 0, un, un] []) s₁ m #[(.ref ob)] 6 := fun t k => k155 t (st156 t k)
  have k161 := f_alN X156 hx k160 (H d6_76) rfl
  obtain ⟨T162, X162, e162, k163⟩ := gFs X156 hx hZ hown (hww 12 _ rfl) e156 (nq2 NB159) k161 (H d6_77)
  have k164 := f_ilN X162 hx k163 (H d6_80) rfl
  have k165 := f_alN X162 hx k164 (H d6_81) rfl
  obtain ⟨T166, X166, e166, k167⟩ := gFs X162 hx hZ hown (hww 47 _ rfl) e162 (nq16 NB159) k165 (H d6_82)
  have k168 := f_imul X166 hx k167 (H d6_85) (r := 0) (by decide)
  have k169 := f_ilN X166 hx k168 (H d6_86) rfl
  have k170 := f_ic X166 hx k169 (H d6_87) (v := 1) rfl
  have k171 := f_iadd X166 hx k170 (H d6_88) (r := 1) (by decide)
  have k172 := f_alN X166 hx k171 (H d6_89) rfl
  obtain ⟨T173, X173, e173, k174⟩ := gFs X166 hx hZ hown (hww 47 _ rfl) e166 (nq16 NB159) k172 (H d6_90)
  have k175 := f_imul X173 hx k174 (H d6_93) (r := 2) (by decide)
  have k176 := f_d0 X173 hx k175 (H d6_94)
  obtain ⟨_, _, ⟨T177, L177, k177, n177⟩, -, X177, ⟨Lc177, hQ177, l177, y177, z177⟩, st177⟩ := Jvm.LawKit.callS X173 hx (y := (⟨"java/util/Arrays", "fill", "([DIID)V"⟩ : MethodName)) hown (mvT hZ (hww 70 _ rfl)) (mvT hZ (hww 71 _ rfl)) (mvT hZ (hww 72 _ rfl)) (mvT hZ (hww 73 _ rfl)) (by decide) (backOf (W := 0) (fil0 l Z a0 hw [] (B 1) (K 1) (0 : UInt64) (0 : UInt64) (0 : UInt64) (0 : UInt64) h156 n0 Z158 (nq19 NB159) (G 1 (by decide))) hZ (hww 73 _ rfl) (hww 72 _ rfl) (by decide) (by decide)) (g := (mkF m 95 #[sr ob, si 0, si 0, si 0, un, un] [vD 0, vI 2, vI 0, vR (B 1)])) rfl (by rw [hml]; rfl) (argsL := [(.ref (B 1)), (.int (0 : Int32)), (.int (2 : Int32)), (.double (0 : UInt64))]) (rest := []) (lenOf pd__28_5bDIID_29V rfl) rfl (by show 2 * 0 + _ ≤ _; exact Nat.le_of_eq rfl) (H d6_95) (fun _ _ => ⟨rfl, e173, (by decide : 0 + 0 ≤ _), (by decide : 0 + 0 ≤ _)⟩)
  dsimp only [Pt.U, Pt.locs, Pt.cells, Pt.slots] at X177 l177 y177 z177 st177 hQ177
  subst l177 y177 z177
  obtain ⟨h177, e177⟩ : ∃ h', T177.heap = h' := ⟨_, rfl⟩
  rw [e177] at hQ177
  obtain ⟨rfl, N177q, Kp177, V177⟩ := hQ177
  have N178 := Fr.app N156 N177q
  have k179 : Rt p e below T177 (mkF m 98 #[sr ob, si 0, si 0, si 0, un, un] []) s₁ m #[(.ref ob)] 6 := fun t k => k176 t (st177 t k)
  have Z180 : n0 ≤ h177.size := Nat.le_trans Z158 Kp177.1
  have NB181 := nb_k1 D NB159 Kp177 V177
  have k182 := f_alN X177 hx k179 (H d6_98) rfl
  obtain ⟨T183, X183, e183, k184⟩ := gFs X177 hx hZ hown (hww 29 _ rfl) e177 (nq10 NB181) k182 (H d6_99)
  have k185 := f_ilN X183 hx k184 (H d6_102) rfl
  have k186 := f_alN X183 hx k185 (H d6_103) rfl
  have k187 := f_ilN X183 hx k186 (H d6_104) rfl
  obtain ⟨cq188, q188, q188'⟩ := (nq0 NB181).cell
  obtain ⟨_, _, ⟨T188, L188, k188, n188⟩, -, X188, ⟨Lc188, hQ188, l188, y188, z188⟩, st188⟩ := X183.privateBack hx (y := (⟨"com/example/istra/istra/engine/NodeModel", "finished", "(I)Z"⟩ : MethodName)) hown (mvT hZ (hww 77 _ rfl)) (mvT hZ (hww 78 _ rfl)) (own_selP (mvT hZ (hww 41 _ rfl)) rfl (Cond.privateMethod_at (mvP hZ (hww 79 _ rfl) (args := #[]))) (mvT hZ (hww 78 _ rfl)) (by decide)) (Cond.privateMethod_at (mvP hZ (hww 79 _ rfl) (args := #[]))) (mvT hZ (hww 80 _ rfl)) (by decide) (backOf (W := 2) (fin0 l Z a0 hw [] ob B K [(.double x0), (.double x1), (.double x2), (.double x3)] [(.double (0 : UInt64)), (.double (0 : UInt64)), (.double (0 : UInt64)), (.double (0 : UInt64))] [(.double s0), (.double s1)] [(.double (0 : UInt64)), (.double (0 : UInt64))] [(.double (0 : UInt64)), (.double (0 : UInt64))] [(.double (0 : UInt64)), (.double (0 : UInt64))] [(.int (0 : Int32)), (.int (0 : Int32))] [(.int (0 : Int32)), (.int (0 : Int32))] [(.int (0 : Int32)), (.int (1 : Int32))] [(.int (1 : Int32)), (.int (1 : Int32))] (2 : Int32) x0 x1 (0 : UInt64) (0 : UInt64) s0 s1 h177 n0 Z180 D NB181) hZ (hww 80 _ rfl) (hww 2 _ rfl) (by decide) (by decide)) (g := (mkF m 105 #[sr ob, si 0, si 0, si 0, un, un] [vI 0, vR ob, vI 0, vR (B 9)])) rfl (by rw [hml]; rfl) (Steps.refl _) (a := ob) (by rw [e183]; exact q188) q188' (argsL := [(.int (0 : Int32))]) (rest := [(.int (0 : Int32)), (.ref (B 9))]) (lenOf pd__28I_29Z rfl) rfl (by show 2 * 0 + _ ≤ _; exact Nat.le_of_eq rfl) (H d6_105) (fun _ _ => ⟨rfl, e183, (by decide : 0 + 0 ≤ _), (by decide : 0 + 0 ≤ _)⟩)
  dsimp only [Pt.U, Pt.locs, Pt.cells, Pt.slots] at X188 l188 y188 z188 st188 hQ188
  subst l188 y188 z188
  obtain ⟨h188, e188⟩ : ∃ h', T188.heap = h' := ⟨_, rfl⟩
  rw [e188] at hQ188
  obtain ⟨f188, rfl, N188q, hh188, fp188⟩ := hQ188
  have N189 := Fr.app N178 N188q
  have k190 : Rt p e below T188 (mkF m 108 #[sr ob, si 0, si 0, si 0, un, un] [vI f188, vI 0, vR (B 9)]) s₁ m #[(.ref ob)] 6 := fun t k => k187 t (st188.trans k)
  have ee188 : T188.heap = h177 := e188.trans hh188
  obtain ⟨T191, h191, L191, X191, e191, W191, V191, N191, Z191, k191⟩ := f_bst X188 hx hZ ee188 (nq27 NB181) N189 (G 9 (by decide)) Z180 k190 (H d6_108) (by decide) 0 rfl (lt_b rfl) (v' := f188) (own_nar1 fp188.1)
  have NB192 := nb_w9 D NB181 W191 V191
  have k193 := f_ilN X191 hx k191 (H d6_109) rfl
  have k194 := f_alN X191 hx k193 (H d6_110) rfl
  obtain ⟨T195, X195, e195, k196⟩ := gFs X191 hx hZ hown (hww 29 _ rfl) e191 (nq10 NB192) k194 (H d6_111)
  have k197 := f_ilN X195 hx k196 (H d6_114) rfl
  have k198 := f_bal X195 hx hZ e195 (nq27 NB192) k197 (H d6_115) (v := f188) (by decide) rfl
  obtain ⟨i200, hi200⟩ : ∃ z : Int32, z = (if f188 = (0 : Int32) then (1 : Int32) else (0 : Int32)) := ⟨_, rfl⟩
  have k201 : Rt p e below T195 (mkF m 124 #[sr ob, si 0, si 0, si 0, un, un] [vI i200, vI 0]) s₁ m #[(.ref ob)] 6 := fun t k => k198 t (by
    by_cases c199 : f188 = (0 : Int32)
    · rw [if_pos c199] at hi200
      show Sp p e below T195 (mkF m 116 #[sr ob, si 0, si 0, si 0, un, un] [vI f188, vI 0]) _
      refine XS.ifNo X195.here hx rfl (hb hby d6_116) rfl ((if0 _ _).trans (teq c199).2) ?_
      refine XS.iconst X195.here hx rfl (hb hby d6_119) ?_
      refine XS.goto X195.here hx rfl (pc0 := 120) (pc' := 124) rfl (hb hby d6_120) (by decide) (by decide) ?_
      show Sp p e below T195 (mkF m 124 #[sr ob, si 0, si 0, si 0, un, un] [vI 1, vI 0]) _
      exact castTop (by rw [hi200]) k
    · rw [if_neg c199] at hi200
      show Sp p e below T195 (mkF m 116 #[sr ob, si 0, si 0, si 0, un, un] [vI f188, vI 0]) _
      refine XS.ifYes X195.here hx rfl (pc0 := 116) (pc' := 123) rfl (hb hby d6_116) rfl ((if0 _ _).trans (feq c199).2) (by decide) (by decide) ?_
      refine XS.iconst X195.here hx rfl (hb hby d6_123) ?_
      show Sp p e below T195 (mkF m 124 #[sr ob, si 0, si 0, si 0, un, un] [vI 0, vI 0]) _
      exact castTop (by rw [hi200]) k)
  have k202 := f_ior X195 hx k201 (H d6_124) rfl
  have k203 := f_isN X195 hx k202 (H d6_125) (l' := #[sr ob, si ((0 : Int32) ||| i200), si 0, si 0, un, un]) rfl
  have k204 := f_inc X195 hx k203 (H d6_126) rfl (l' := #[sr ob, si ((0 : Int32) ||| i200), si 1, si 0, un, un]) rfl
  have k205 := f_go X195 hx k204 (H d6_129) (pc' := 34) (by decide)
  have k206 := f_ilN X195 hx k205 (H d6_34) rfl
  have k207 := f_alN X195 hx k206 (H d6_35) rfl
  obtain ⟨T208, X208, e208, k209⟩ := gFs X195 hx hZ hown (hww 43 _ rfl) e195 (nq14 NB192) k207 (H d6_36)
  have k210 := f_icN X208 hx k209 (H d6_39) (tlt (by decide)).2.1
  have k211 := f_alN X208 hx k210 (H d6_42) rfl
  obtain ⟨T212, X212, e212, k213⟩ := gFs X208 hx hZ hown (hww 34 _ rfl) e208 (nq12 NB192) k211 (H d6_43)
  have k214 := f_ilN X212 hx k213 (H d6_46) rfl
  have k215 := f_ial X212 hx hZ e212 (nq29 NB192) k214 (H d6_47) (v := 1) (by decide) rfl
  have k216 := f_isN X212 hx k215 (H d6_48) (l' := #[sr ob, si ((0 : Int32) ||| i200), si 1, si 1, un, un]) rfl
  have k217 := f_alN X212 hx k216 (H d6_49) rfl
  obtain ⟨T218, X218, e218, k219⟩ := gFs X212 hx hZ hown (hww 10 _ rfl) e212 (nq1 NB192) k217 (H d6_50)
  have k220 := f_ilN X218 hx k219 (H d6_53) rfl
  have k221 := f_alN X218 hx k220 (H d6_54) rfl
  obtain ⟨T222, X222, e222, k223⟩ := gFs X218 hx hZ hown (hww 47 _ rfl) e218 (nq16 NB192) k221 (H d6_55)
  have k224 := f_imul X222 hx k223 (H d6_58) (r := 2) (by decide)
  have k225 := f_alN X222 hx k224 (H d6_59) rfl
  obtain ⟨T226, X226, e226, k227⟩ := gFs X222 hx hZ hown (hww 14 _ rfl) e222 (nq3 NB192) k225 (H d6_60)
  have k228 := f_ilN X226 hx k227 (H d6_63) rfl
  have k229 := f_alN X226 hx k228 (H d6_64) rfl
  obtain ⟨T230, X230, e230, k231⟩ := gFs X226 hx hZ hown (hww 47 _ rfl) e226 (nq16 NB192) k229 (H d6_65)
  have k232 := f_imul X230 hx k231 (H d6_68) (r := 2) (by decide)
  have k233 := f_alN X230 hx k232 (H d6_69) rfl
  obtain ⟨T234, X234, e234, k235⟩ := gFs X230 hx hZ hown (hww 47 _ rfl) e230 (nq16 NB192) k233 (H d6_70)
  obtain ⟨T236, h236, Lc236, X236, e236, N236, K236, Vc236, st236⟩ := cpA X234 hx hZ hown (hww 66 _ rfl) (hww 69 _ rfl) (hww 67 _ rfl) (hww 68 _ rfl) e234 (nq18 NB192) (nq20 NB192) (Or.inl ⟨rfl, rfl⟩) (sp := (2 : Int32)) (dp := (2 : Int32)) (nn := (2 : Int32)) (us := [(.double x2), (.double x3)]) (by decide) (by decide) (by decide) (by decide) (by decide) rfl (Nat.le_of_ble_eq_true rfl) N191 (G 2 (by decide)) (g := (mkF m 73 #[sr ob, si ((0 : Int32) ||| i200), si 1, si 1, un, un] [vI 2, vI 2, vR (B 2), vI 2, vR (B 0)])) rfl (by rw [hml]; rfl) rfl (H d6_73) (by decide) (W := 0) (by show 2 * 0 + _ ≤ _; exact Nat.le_of_eq rfl) (by decide)
  have V237 : Arv Z h236 (B 2) (K 2) .double (4 : Int32) [(.double x0), (.double x1), (.double x2), (.double x3)] (.double (0 : UInt64)) := Vc236
  have Z238 : n0 ≤ h236.size := Nat.le_trans Z191 K236.1
  have NB239 := nb_k2 D NB192 K236 V237
  have k240 : Rt p e below T236 (mkF m 76 #[sr ob, si ((0 : Int32) ||| i200), si 1, si 1, un, un] []) s₁ m #[(.ref ob)] 6 := fun t k => k235 t (st236 t k)
  have k241 := f_alN X236 hx k240 (H d6_76) rfl
  obtain ⟨T242, X242, e242, k243⟩ := gFs X236 hx hZ hown (hww 12 _ rfl) e236 (nq2 NB239) k241 (H d6_77)
  have k244 := f_ilN X242 hx k243 (H d6_80) rfl
  have k245 := f_alN X242 hx k244 (H d6_81) rfl
  obtain ⟨T246, X246, e246, k247⟩ := gFs X242 hx hZ hown (hww 47 _ rfl) e242 (nq16 NB239) k245 (H d6_82)
  have k248 := f_imul X246 hx k247 (H d6_85) (r := 2) (by decide)
  have k249 := f_ilN X246 hx k248 (H d6_86) rfl
  have k250 := f_ic X246 hx k249 (H d6_87) (v := 1) rfl
  have k251 := f_iadd X246 hx k250 (H d6_88) (r := 2) (by decide)
  have k252 := f_alN X246 hx k251 (H d6_89) rfl
  obtain ⟨T253, X253, e253, k254⟩ := gFs X246 hx hZ hown (hww 47 _ rfl) e246 (nq16 NB239) k252 (H d6_90)
  have k255 := f_imul X253 hx k254 (H d6_93) (r := 4) (by decide)
  have k256 := f_d0 X253 hx k255 (H d6_94)
  obtain ⟨_, _, ⟨T257, L257, k257, n257⟩, -, X257, ⟨Lc257, hQ257, l257, y257, z257⟩, st257⟩ := Jvm.LawKit.callS X253 hx (y := (⟨"java/util/Arrays", "fill", "([DIID)V"⟩ : MethodName)) hown (mvT hZ (hww 70 _ rfl)) (mvT hZ (hww 71 _ rfl)) (mvT hZ (hww 72 _ rfl)) (mvT hZ (hww 73 _ rfl)) (by decide) (backOf (W := 0) (fil1 l Z a0 hw [] (B 1) (K 1) (0 : UInt64) (0 : UInt64) (0 : UInt64) (0 : UInt64) h236 n0 Z238 (nq19 NB239) (G 1 (by decide))) hZ (hww 73 _ rfl) (hww 72 _ rfl) (by decide) (by decide)) (g := (mkF m 95 #[sr ob, si ((0 : Int32) ||| i200), si 1, si 1, un, un] [vD 0, vI 4, vI 2, vR (B 1)])) rfl (by rw [hml]; rfl) (argsL := [(.ref (B 1)), (.int (2 : Int32)), (.int (4 : Int32)), (.double (0 : UInt64))]) (rest := []) (lenOf pd__28_5bDIID_29V rfl) rfl (by show 2 * 0 + _ ≤ _; exact Nat.le_of_eq rfl) (H d6_95) (fun _ _ => ⟨rfl, e253, (by decide : 0 + 0 ≤ _), (by decide : 0 + 0 ≤ _)⟩)
  dsimp only [Pt.U, Pt.locs, Pt.cells, Pt.slots] at X257 l257 y257 z257 st257 hQ257
  subst l257 y257 z257
  obtain ⟨h257, e257⟩ : ∃ h', T257.heap = h' := ⟨_, rfl⟩
  rw [e257] at hQ257
  obtain ⟨rfl, N257q, Kp257, V257⟩ := hQ257
  have N258 := Fr.app N236 N257q
  have k259 : Rt p e below T257 (mkF m 98 #[sr ob, si ((0 : Int32) ||| i200), si 1, si 1, un, un] []) s₁ m #[(.ref ob)] 6 := fun t k => k256 t (st257 t k)
  have Z260 : n0 ≤ h257.size := Nat.le_trans Z238 Kp257.1
  have NB261 := nb_k1 D NB239 Kp257 V257
  have k262 := f_alN X257 hx k259 (H d6_98) rfl
  obtain ⟨T263, X263, e263, k264⟩ := gFs X257 hx hZ hown (hww 29 _ rfl) e257 (nq10 NB261) k262 (H d6_99)
  have k265 := f_ilN X263 hx k264 (H d6_102) rfl
  have k266 := f_alN X263 hx k265 (H d6_103) rfl
  have k267 := f_ilN X263 hx k266 (H d6_104) rfl
  obtain ⟨cq268, q268, q268'⟩ := (nq0 NB261).cell
  obtain ⟨_, _, ⟨T268, L268, k268, n268⟩, -, X268, ⟨Lc268, hQ268, l268, y268, z268⟩, st268⟩ := X263.privateBack hx (y := (⟨"com/example/istra/istra/engine/NodeModel", "finished", "(I)Z"⟩ : MethodName)) hown (mvT hZ (hww 77 _ rfl)) (mvT hZ (hww 78 _ rfl)) (own_selP (mvT hZ (hww 41 _ rfl)) rfl (Cond.privateMethod_at (mvP hZ (hww 79 _ rfl) (args := #[]))) (mvT hZ (hww 78 _ rfl)) (by decide)) (Cond.privateMethod_at (mvP hZ (hww 79 _ rfl) (args := #[]))) (mvT hZ (hww 80 _ rfl)) (by decide) (backOf (W := 2) (fin1 l Z a0 hw [] ob B K [(.double x0), (.double x1), (.double x2), (.double x3)] [(.double (0 : UInt64)), (.double (0 : UInt64)), (.double (0 : UInt64)), (.double (0 : UInt64))] [(.double s0), (.double s1)] [(.double (0 : UInt64)), (.double (0 : UInt64))] [(.double (0 : UInt64)), (.double (0 : UInt64))] [(.double (0 : UInt64)), (.double (0 : UInt64))] [(.int (0 : Int32)), (.int (0 : Int32))] [(.int f188), (.int (0 : Int32))] [(.int (0 : Int32)), (.int (1 : Int32))] [(.int (1 : Int32)), (.int (1 : Int32))] (2 : Int32) x0 x1 x2 x3 s0 s1 h257 n0 Z260 D NB261) hZ (hww 80 _ rfl) (hww 2 _ rfl) (by decide) (by decide)) (g := (mkF m 105 #[sr ob, si ((0 : Int32) ||| i200), si 1, si 1, un, un] [vI 1, vR ob, vI 1, vR (B 9)])) rfl (by rw [hml]; rfl) (Steps.refl _) (a := ob) (by rw [e263]; exact q268) q268' (argsL := [(.int (1 : Int32))]) (rest := [(.int (1 : Int32)), (.ref (B 9))]) (lenOf pd__28I_29Z rfl) rfl (by show 2 * 0 + _ ≤ _; exact Nat.le_of_eq rfl) (H d6_105) (fun _ _ => ⟨rfl, e263, (by decide : 0 + 0 ≤ _), (by decide : 0 + 0 ≤ _)⟩)
  dsimp only [Pt.U, Pt.locs, Pt.cells, Pt.slots] at X268 l268 y268 z268 st268 hQ268
  subst l268 y268 z268
  obtain ⟨h268, e268⟩ : ∃ h', T268.heap = h' := ⟨_, rfl⟩
  rw [e268] at hQ268
  obtain ⟨f268, rfl, N268q, hh268, fp268⟩ := hQ268
  have N269 := Fr.app N258 N268q
  have k270 : Rt p e below T268 (mkF m 108 #[sr ob, si ((0 : Int32) ||| i200), si 1, si 1, un, un] [vI f268, vI 1, vR (B 9)]) s₁ m #[(.ref ob)] 6 := fun t k => k267 t (st268.trans k)
  have ee268 : T268.heap = h257 := e268.trans hh268
  obtain ⟨T271, h271, L271, X271, e271, W271, V271, N271, Z271, k271⟩ := f_bst X268 hx hZ ee268 (nq27 NB261) N269 (G 9 (by decide)) Z260 k270 (H d6_108) (by decide) 1 rfl (lt_b rfl) (v' := f268) (own_nar1 fp268.1)
  have NB272 := nb_w9 D NB261 W271 V271
  have k273 := f_ilN X271 hx k271 (H d6_109) rfl
  have k274 := f_alN X271 hx k273 (H d6_110) rfl
  obtain ⟨T275, X275, e275, k276⟩ := gFs X271 hx hZ hown (hww 29 _ rfl) e271 (nq10 NB272) k274 (H d6_111)
  have k277 := f_ilN X275 hx k276 (H d6_114) rfl
  have k278 := f_bal X275 hx hZ e275 (nq27 NB272) k277 (H d6_115) (v := f268) (by decide) rfl
  obtain ⟨i280, hi280⟩ : ∃ z : Int32, z = (if f268 = (0 : Int32) then (1 : Int32) else (0 : Int32)) := ⟨_, rfl⟩
  have k281 : Rt p e below T275 (mkF m 124 #[sr ob, si ((0 : Int32) ||| i200), si 1, si 1, un, un] [vI i280, vI ((0 : Int32) ||| i200)]) s₁ m #[(.ref ob)] 6 := fun t k => k278 t (by
    by_cases c279 : f268 = (0 : Int32)
    · rw [if_pos c279] at hi280
      show Sp p e below T275 (mkF m 116 #[sr ob, si ((0 : Int32) ||| i200), si 1, si 1, un, un] [vI f268, vI ((0 : Int32) ||| i200)]) _
      refine XS.ifNo X275.here hx rfl (hb hby d6_116) rfl ((if0 _ _).trans (teq c279).2) ?_
      refine XS.iconst X275.here hx rfl (hb hby d6_119) ?_
      refine XS.goto X275.here hx rfl (pc0 := 120) (pc' := 124) rfl (hb hby d6_120) (by decide) (by decide) ?_
      show Sp p e below T275 (mkF m 124 #[sr ob, si ((0 : Int32) ||| i200), si 1, si 1, un, un] [vI 1, vI ((0 : Int32) ||| i200)]) _
      exact castTop (by rw [hi280]) k
    · rw [if_neg c279] at hi280
      show Sp p e below T275 (mkF m 116 #[sr ob, si ((0 : Int32) ||| i200), si 1, si 1, un, un] [vI f268, vI ((0 : Int32) ||| i200)]) _
      refine XS.ifYes X275.here hx rfl (pc0 := 116) (pc' := 123) rfl (hb hby d6_116) rfl ((if0 _ _).trans (feq c279).2) (by decide) (by decide) ?_
      refine XS.iconst X275.here hx rfl (hb hby d6_123) ?_
      show Sp p e below T275 (mkF m 124 #[sr ob, si ((0 : Int32) ||| i200), si 1, si 1, un, un] [vI 0, vI ((0 : Int32) ||| i200)]) _
      exact castTop (by rw [hi280]) k)
  have k282 := f_ior X275 hx k281 (H d6_124) rfl
  have k283 := f_isN X275 hx k282 (H d6_125) (l' := #[sr ob, si (((0 : Int32) ||| i200) ||| i280), si 1, si 1, un, un]) rfl
  have k284 := f_inc X275 hx k283 (H d6_126) rfl (l' := #[sr ob, si (((0 : Int32) ||| i200) ||| i280), si 2, si 1, un, un]) rfl
  have k285 := f_go X275 hx k284 (H d6_129) (pc' := 34) (by decide)
  have k286 := f_ilN X275 hx k285 (H d6_34) rfl
  have k287 := f_alN X275 hx k286 (H d6_35) rfl
  obtain ⟨T288, X288, e288, k289⟩ := gFs X275 hx hZ hown (hww 43 _ rfl) e275 (nq14 NB272) k287 (H d6_36)
  have k290 := f_icY X288 hx k289 (H d6_39) (pc' := 132) (flt (by decide)).2.1 (by decide)
  have k291 := f_ic X288 hx k290 (H d6_132) (v := 0) rfl
  have k292 := f_isN X288 hx k291 (H d6_133) (l' := #[sr ob, si (((0 : Int32) ||| i200) ||| i280), si 0, si 1, un, un]) rfl
  have k293 := f_ilN X288 hx k292 (H d6_134) rfl
  have k294 := f_alN X288 hx k293 (H d6_135) rfl
  obtain ⟨T295, X295, e295, k296⟩ := gFs X288 hx hZ hown (hww 45 _ rfl) e288 (nq15 NB272) k294 (H d6_136)
  have k297 := f_icN X295 hx k296 (H d6_139) (tlt (by decide)).2.1
  have k298 := f_ilN X295 hx k297 (H d6_142) rfl
  by_cases qo : (((0 : Int32) ||| i200) ||| i280) = (0 : Int32)
  · have k299 := f_ifY X295 hx k298 (H d6_143) (pc' := 519) ((if0 _ _).trans (teq qo).1) (by decide)
    obtain ⟨fs, hr, hrun, hended, hW, hsame⟩ := X295.leave (v := none) (fun _ => rfl)
    refine ⟨_, _, k299 _ (X295.returnOut hx Bd.returns (H d6_519) hr), hrun, hended, _, _, rfl, ?_, ⟨_, rfl⟩, hW, hsame.mono (by decide) (by decide)⟩
    show Q_shr2 Z ob B K x0 x1 x2 x3 s0 s1 h0 n0 _ T295.heap _
    rw [e295]
    exact ⟨(0 : UInt64), (0 : UInt64), (0 : UInt64), (0 : UInt64), _, _, _, _, _, _, _, rfl, N271, Z271, NB272, own_mq0⟩
  · have k300 := f_ifN X295 hx k298 (H d6_143) ((if0 _ _).trans (feq qo).1)
    have k301 := f_ic X295 hx k300 (H d6_146) (v := 0) rfl
    have k302 := f_isN X295 hx k301 (H d6_147) (l' := #[sr ob, si (((0 : Int32) ||| i200) ||| i280), si 0, si 0, un, un]) rfl
    have k303 := f_ic X295 hx k302 (H d6_148) (v := 0) rfl
    have k304 := f_is X295 hx k303 (H d6_149) (l' := #[sr ob, si (((0 : Int32) ||| i200) ||| i280), si 0, si 0, si 0, un]) rfl
    have k305 := f_il X295 hx k304 (H d6_151) rfl
    have k306 := f_alN X295 hx k305 (H d6_153) rfl
    obtain ⟨T307, X307, e307, k308⟩ := gFs X295 hx hZ hown (hww 47 _ rfl) e295 (nq16 NB272) k306 (H d6_154)
    have k309 := f_icN X307 hx k308 (H d6_157) (tlt (by decide)).2.1
    have k310 := f_alN X307 hx k309 (H d6_160) rfl
    obtain ⟨T311, X311, e311, k312⟩ := gFs X307 hx hZ hown (hww 20 _ rfl) e307 (nq6 NB272) k310 (H d6_161)
    have k313 := f_il X311 hx k312 (H d6_164) rfl
    have k314 := f_d0 X311 hx k313 (H d6_166)
    obtain ⟨T315, h315, L315, X315, e315, W315, V315, N315, Z315, k315⟩ := f_dst X311 hx hZ e311 (nq23 NB272) N271 (G 5 (by decide)) Z271 k314 (H d6_167) (by decide) 0 rfl (lt_b rfl)
    have NB316 := nb_w5 D NB272 W315 V315
    have k317 := f_ic X315 hx k315 (H d6_168) (v := 0) rfl
    have k318 := f_is X315 hx k317 (H d6_169) (l' := #[sr ob, si (((0 : Int32) ||| i200) ||| i280), si 0, si 0, si 0, si 0]) rfl
    have k319 := f_il X315 hx k318 (H d6_171) rfl
    have k320 := f_alN X315 hx k319 (H d6_173) rfl
    obtain ⟨T321, X321, e321, k322⟩ := gFs X315 hx hZ hown (hww 43 _ rfl) e315 (nq14 NB316) k320 (H d6_174)
    have k323 := f_icN X321 hx k322 (H d6_177) (tlt (by decide)).2.1
    have k324 := f_alN X321 hx k323 (H d6_180) rfl
    obtain ⟨T325, X325, e325, k326⟩ := gFs X321 hx hZ hown (hww 29 _ rfl) e321 (nq10 NB316) k324 (H d6_181)
    have k327 := f_alN X325 hx k326 (H d6_184) rfl
    obtain ⟨T328, X328, e328, k329⟩ := gFs X325 hx hZ hown (hww 34 _ rfl) e325 (nq12 NB316) k327 (H d6_185)
    have k330 := f_il X328 hx k329 (H d6_188) rfl
    have k331 := f_ial X328 hx hZ e328 (nq29 NB316) k330 (H d6_190) (v := 0) (by decide) rfl
    have k332 := f_bal X328 hx hZ e328 (nq27 NB316) k331 (H d6_191) (v := f188) (by decide) rfl
    obtain ⟨T333, h333, Ls333, wd00, X333, e333, N333, Zq333, F360, hwd00, kq333⟩ : ∃ (T333 : State) (h333 : Heap) (Ls333 : List Loc) (wd00 : UInt64), Stand p l e (rm 2 0 0 38) s m #[(.ref ob)] below meth c T333 Ls333 0 0 ∧ T333.heap = h333 ∧ Fr n0 Ls333 ∧ n0 ≤ h333.size ∧ NB Z h333 ob B K [(.double x0), (.double x1), (.double x2), (.double x3)] [(.double (0 : UInt64)), (.double (0 : UInt64)), (.double (0 : UInt64)), (.double (0 : UInt64))] [(.double x0), (.double x1), (.double x2), (.double x3)] [(.double s0), (.double s1)] [(.double s0), (.double s1)] [(.double wd00), (.double (0 : UInt64))] [(.double (0 : UInt64)), (.double (0 : UInt64))] [(.double (0 : UInt64)), (.double (0 : UInt64))] [(.int (0 : Int32)), (.int (0 : Int32))] [(.int f188), (.int f268)] [(.int (0 : Int32)), (.int (0 : Int32)), (.int (0 : Int32)), (.int (0 : Int32))] [(.int (0 : Int32)), (.int (1 : Int32))] [(.int (1 : Int32)), (.int (1 : Int32))] (2 : Int32) ∧ (Dq 255 wd00) ∧ (Rt p e below T333 (mkF m 225 #[sr ob, si (((0 : Int32) ||| i200) ||| i280), si 0, si 0, si 0, si 0] []) s₁ m #[(.ref ob)] 6) := by
      by_cases qf : f188 = (0 : Int32)
      · have k334 := f_ifN X328 hx k332 (H d6_192) ((if0 _ _).trans (teq qf).2)
        have k335 := f_alN X328 hx k334 (H d6_195) rfl
        obtain ⟨T336, X336, e336, k337⟩ := gFs X328 hx hZ hown (hww 20 _ rfl) e328 (nq6 NB316) k335 (H d6_196)
        have k338 := f_il X336 hx k337 (H d6_199) rfl
        have k339 := f_dup2 X336 hx k338 (H d6_201) rfl rfl
        have k340 := f_dal X336 hx hZ e336 (nq23 NB316) k339 (H d6_202) (v := 0) (by decide) rfl
        have k341 := f_alN X336 hx k340 (H d6_203) rfl
        obtain ⟨T342, X342, e342, k343⟩ := gFs X336 hx hZ hown (hww 14 _ rfl) e336 (nq3 NB316) k341 (H d6_204)
        have k344 := f_alN X342 hx k343 (H d6_207) rfl
        obtain ⟨T345, X345, e345, k346⟩ := gFs X342 hx hZ hown (hww 34 _ rfl) e342 (nq12 NB316) k344 (H d6_208)
        have k347 := f_il X345 hx k346 (H d6_211) rfl
        have k348 := f_ial X345 hx hZ e345 (nq29 NB316) k347 (H d6_213) (v := 0) (by decide) rfl
        have k349 := f_alN X345 hx k348 (H d6_214) rfl
        obtain ⟨T350, X350, e350, k351⟩ := gFs X345 hx hZ hown (hww 47 _ rfl) e345 (nq16 NB316) k349 (H d6_215)
        have k352 := f_imul X350 hx k351 (H d6_218) (r := 0) (by decide)
        have k353 := f_il X350 hx k352 (H d6_219) rfl
        have k354 := f_iadd X350 hx k353 (H d6_221) (r := 0) (by decide)
        have k355 := f_dal X350 hx hZ e350 (nq20 NB316) k354 (H d6_222) (v := x0) (by decide) rfl
        have k356 := f_dadd X350 hx k355 (H d6_223) ((Dq.add (P := 255) (dq0 (N := 0) (by decide)) hd0.1 (by decide)).nn)
        obtain ⟨T357, h357, L357, X357, e357, W357, V357, N357, Z357, k357⟩ := f_dst X350 hx hZ e350 (nq23 NB316) N315 (G 5 (by decide)) Z315 k356 (H d6_224) (by decide) 0 rfl (lt_b rfl)
        have NB358 := nb_w5 D NB316 W357 V357
        exact ⟨T357, h357, _, (FP.dadd (0 : UInt64) x0), X357, e357, N357, Z357, NB358, (Dq.add (dq0 (N := 0) (by decide)) hd0.1 (by decide)), k357⟩
      · have k359 := f_ifY X328 hx k332 (H d6_192) (pc' := 225) ((if0 _ _).trans (feq qf).2) (by decide)
        exact ⟨T328, h315, _, (0 : UInt64), X328, e328, N315, Z315, NB316, (Dq.mono (dq0 (N := 0) (by decide)) (by decide)), k359⟩
    have k361 := f_inc X333 hx kq333 (H d6_225) rfl (l' := #[sr ob, si (((0 : Int32) ||| i200) ||| i280), si 0, si 0, si 0, si 1]) rfl
    have k362 := f_go X333 hx k361 (H d6_228) (pc' := 171) (by decide)
    have k363 := f_il X333 hx k362 (H d6_171) rfl
    have k364 := f_alN X333 hx k363 (H d6_173) rfl
    obtain ⟨T365, X365, e365, k366⟩ := gFs X333 hx hZ hown (hww 43 _ rfl) e333 (nq14 F360) k364 (H d6_174)
    have k367 := f_icN X365 hx k366 (H d6_177) (tlt (by decide)).2.1
    have k368 := f_alN X365 hx k367 (H d6_180) rfl
    obtain ⟨T369, X369, e369, k370⟩ := gFs X365 hx hZ hown (hww 29 _ rfl) e365 (nq10 F360) k368 (H d6_181)
    have k371 := f_alN X369 hx k370 (H d6_184) rfl
    obtain ⟨T372, X372, e372, k373⟩ := gFs X369 hx hZ hown (hww 34 _ rfl) e369 (nq12 F360) k371 (H d6_185)
    have k374 := f_il X372 hx k373 (H d6_188) rfl
    have k375 := f_ial X372 hx hZ e372 (nq29 F360) k374 (H d6_190) (v := 1) (by decide) rfl
    have k376 := f_bal X372 hx hZ e372 (nq27 F360) k375 (H d6_191) (v := f268) (by decide) rfl
    obtain ⟨T377, h377, Ls377, wd10, X377, e377, N377, Zq377, F404, hwd10, kq377⟩ : ∃ (T377 : State) (h377 : Heap) (Ls377 : List Loc) (wd10 : UInt64), Stand p l e (rm 2 0 0 38) s m #[(.ref ob)] below meth c T377 Ls377 0 0 ∧ T377.heap = h377 ∧ Fr n0 Ls377 ∧ n0 ≤ h377.size ∧ NB Z h377 ob B K [(.double x0), (.double x1), (.double x2), (.double x3)] [(.double (0 : UInt64)), (.double (0 : UInt64)), (.double (0 : UInt64)), (.double (0 : UInt64))] [(.double x0), (.double x1), (.double x2), (.double x3)] [(.double s0), (.double s1)] [(.double s0), (.double s1)] [(.double wd10), (.double (0 : UInt64))] [(.double (0 : UInt64)), (.double (0 : UInt64))] [(.double (0 : UInt64)), (.double (0 : UInt64))] [(.int (0 : Int32)), (.int (0 : Int32))] [(.int f188), (.int f268)] [(.int (0 : Int32)), (.int (0 : Int32)), (.int (0 : Int32)), (.int (0 : Int32))] [(.int (0 : Int32)), (.int (1 : Int32))] [(.int (1 : Int32)), (.int (1 : Int32))] (2 : Int32) ∧ (Dq 510 wd10) ∧ (Rt p e below T377 (mkF m 225 #[sr ob, si (((0 : Int32) ||| i200) ||| i280), si 0, si 0, si 0, si 1] []) s₁ m #[(.ref ob)] 6) := by
      by_cases qf : f268 = (0 : Int32)
      · have k378 := f_ifN X372 hx k376 (H d6_192) ((if0 _ _).trans (teq qf).2)
        have k379 := f_alN X372 hx k378 (H d6_195) rfl
        obtain ⟨T380, X380, e380, k381⟩ := gFs X372 hx hZ hown (hww 20 _ rfl) e372 (nq6 F360) k379 (H d6_196)
        have k382 := f_il X380 hx k381 (H d6_199) rfl
        have k383 := f_dup2 X380 hx k382 (H d6_201) rfl rfl
        have k384 := f_dal X380 hx hZ e380 (nq23 F360) k383 (H d6_202) (v := wd00) (by decide) rfl
        have k385 := f_alN X380 hx k384 (H d6_203) rfl
        obtain ⟨T386, X386, e386, k387⟩ := gFs X380 hx hZ hown (hww 14 _ rfl) e380 (nq3 F360) k385 (H d6_204)
        have k388 := f_alN X386 hx k387 (H d6_207) rfl
        obtain ⟨T389, X389, e389, k390⟩ := gFs X386 hx hZ hown (hww 34 _ rfl) e386 (nq12 F360) k388 (H d6_208)
        have k391 := f_il X389 hx k390 (H d6_211) rfl
        have k392 := f_ial X389 hx hZ e389 (nq29 F360) k391 (H d6_213) (v := 1) (by decide) rfl
        have k393 := f_alN X389 hx k392 (H d6_214) rfl
        obtain ⟨T394, X394, e394, k395⟩ := gFs X389 hx hZ hown (hww 47 _ rfl) e389 (nq16 F360) k393 (H d6_215)
        have k396 := f_imul X394 hx k395 (H d6_218) (r := 2) (by decide)
        have k397 := f_il X394 hx k396 (H d6_219) rfl
        have k398 := f_iadd X394 hx k397 (H d6_221) (r := 2) (by decide)
        have k399 := f_dal X394 hx hZ e394 (nq20 F360) k398 (H d6_222) (v := x2) (by decide) rfl
        have k400 := f_dadd X394 hx k399 (H d6_223) ((Dq.add (P := 510) hwd00 hd1.1 (by decide)).nn)
        obtain ⟨T401, h401, L401, X401, e401, W401, V401, N401, Z401, k401⟩ := f_dst X394 hx hZ e394 (nq23 F360) N333 (G 5 (by decide)) Zq333 k400 (H d6_224) (by decide) 0 rfl (lt_b rfl)
        have NB402 := nb_w5 D F360 W401 V401
        exact ⟨T401, h401, _, (FP.dadd wd00 x2), X401, e401, N401, Z401, NB402, (Dq.add hwd00 hd1.1 (by decide)), k401⟩
      · have k403 := f_ifY X372 hx k376 (H d6_192) (pc' := 225) ((if0 _ _).trans (feq qf).2) (by decide)
        exact ⟨T372, h333, _, wd00, X372, e372, N333, Zq333, F360, (Dq.mono hwd00 (by decide)), k403⟩
    have k405 := f_inc X377 hx kq377 (H d6_225) rfl (l' := #[sr ob, si (((0 : Int32) ||| i200) ||| i280), si 0, si 0, si 0, si 2]) rfl
    have k406 := f_go X377 hx k405 (H d6_228) (pc' := 171) (by decide)
    have k407 := f_il X377 hx k406 (H d6_171) rfl
    have k408 := f_alN X377 hx k407 (H d6_173) rfl
    obtain ⟨T409, X409, e409, k410⟩ := gFs X377 hx hZ hown (hww 43 _ rfl) e377 (nq14 F404) k408 (H d6_174)
    have k411 := f_icY X409 hx k410 (H d6_177) (pc' := 231) (flt (by decide)).2.1 (by decide)
    have k412 := f_alN X409 hx k411 (H d6_231) rfl
    obtain ⟨T413, X413, e413, k414⟩ := gFs X409 hx hZ hown (hww 22 _ rfl) e409 (nq7 F404) k412 (H d6_232)
    have k415 := f_il X413 hx k414 (H d6_235) rfl
    have k416 := f_alN X413 hx k415 (H d6_237) rfl
    obtain ⟨T417, X417, e417, k418⟩ := gFs X413 hx hZ hown (hww 20 _ rfl) e413 (nq6 F404) k416 (H d6_238)
    have k419 := f_il X417 hx k418 (H d6_241) rfl
    have k420 := f_dal X417 hx hZ e417 (nq23 F404) k419 (H d6_243) (v := wd10) (by decide) rfl
    have k421 := f_alN X417 hx k420 (H d6_244) rfl
    obtain ⟨T422, X422, e422, k423⟩ := gFs X417 hx hZ hown (hww 18 _ rfl) e417 (nq5 F404) k421 (H d6_245)
    have k424 := f_il X422 hx k423 (H d6_248) rfl
    have k425 := f_dal X422 hx hZ e422 (nq22 F404) k424 (H d6_250) (v := s0) (by decide) rfl
    have k426 := f_dc X422 hx k425 (H d6_251)
    obtain ⟨T427, h427, Ls427, fc0, X427, e427, N427, Zq427, F443, hfc0, kq427⟩ : ∃ (T427 : State) (h427 : Heap) (Ls427 : List Loc) (fc0 : UInt64), Stand p l e (rm 2 0 0 38) s m #[(.ref ob)] below meth c T427 Ls427 0 0 ∧ T427.heap = h427 ∧ Fr n0 Ls427 ∧ n0 ≤ h427.size ∧ NB Z h427 ob B K [(.double x0), (.double x1), (.double x2), (.double x3)] [(.double (0 : UInt64)), (.double (0 : UInt64)), (.double (0 : UInt64)), (.double (0 : UInt64))] [(.double x0), (.double x1), (.double x2), (.double x3)] [(.double s0), (.double s1)] [(.double s0), (.double s1)] [(.double wd10), (.double (0 : UInt64))] [(.double (0 : UInt64)), (.double (0 : UInt64))] [(.double (0 : UInt64)), (.double (0 : UInt64))] [(.int (0 : Int32)), (.int (0 : Int32))] [(.int f188), (.int f268)] [(.int (0 : Int32)), (.int (0 : Int32)), (.int (0 : Int32)), (.int (0 : Int32))] [(.int (0 : Int32)), (.int (1 : Int32))] [(.int (1 : Int32)), (.int (1 : Int32))] (2 : Int32) ∧ ((0 : Int32) < cmpValue (FP.dcmp wd10 s0) .l ∧ fc0 = FP.ddiv s0 wd10 ∨ ¬ ((0 : Int32) < cmpValue (FP.dcmp wd10 s0) .l) ∧ fc0 = (4607182418800017408 : UInt64)) ∧ (Rt p e below T427 (mkF m 274 #[sr ob, si (((0 : Int32) ||| i200) ||| i280), si 0, si 0, si 0, si 2] [vD fc0, vI 0, vR (B 6)]) s₁ m #[(.ref ob)] 6) := by
      by_cases qg : (0 : Int32) < cmpValue (FP.dcmp wd10 s0) .l
      · have k428 := f_ifN X422 hx k426 (H d6_252) ((if0 _ _).trans (tlt qg).2.2.2)
        have k429 := f_alN X422 hx k428 (H d6_255) rfl
        obtain ⟨T430, X430, e430, k431⟩ := gFs X422 hx hZ hown (hww 18 _ rfl) e422 (nq5 F404) k429 (H d6_256)
        have k432 := f_il X430 hx k431 (H d6_259) rfl
        have k433 := f_dal X430 hx hZ e430 (nq22 F404) k432 (H d6_261) (v := s0) (by decide) rfl
        have k434 := f_alN X430 hx k433 (H d6_262) rfl
        obtain ⟨T435, X435, e435, k436⟩ := gFs X430 hx hZ hown (hww 20 _ rfl) e430 (nq6 F404) k434 (H d6_263)
        have k437 := f_il X435 hx k436 (H d6_266) rfl
        have k438 := f_dal X435 hx hZ e435 (nq23 F404) k437 (H d6_268) (v := wd10) (by decide) rfl
        have k439 := f_ddiv X435 hx k438 (H d6_269) (own_divnn hs0 (Dq.mono hwd10 (by decide)) qg)
        have k440 := f_go X435 hx k439 (H d6_270) (pc' := 274) (by decide)
        exact ⟨T435, h377, _, (FP.ddiv s0 wd10), X435, e435, N377, Zq377, F404, (Or.inl ⟨qg, rfl⟩), k440⟩
      · have k441 := f_ifY X422 hx k426 (H d6_252) (pc' := 273) ((if0 _ _).trans (flt qg).2.2.2) (by decide)
        have k442 := f_d1 X422 hx k441 (H d6_273)
        exact ⟨T422, h377, _, (4607182418800017408 : UInt64), X422, e422, N377, Zq377, F404, (Or.inr ⟨qg, rfl⟩), k442⟩
    have jfc0 := own_frac hs0 (Dq.mono hwd10 (by decide)) hfc0
    obtain ⟨T444, h444, L444, X444, e444, W444, V444, N444, Z444, k444⟩ := f_dst X427 hx hZ e427 (nq24 F443) N427 (G 6 (by decide)) Zq427 kq427 (H d6_274) (by decide) 0 rfl (lt_b rfl)
    have NB445 := nb_w6 D F443 W444 V444
    have k446 := f_ilN X444 hx k444 (H d6_275) rfl
    have k447 := f_alN X444 hx k446 (H d6_276) rfl
    obtain ⟨T448, X448, e448, k449⟩ := gFs X444 hx hZ hown (hww 22 _ rfl) e444 (nq7 NB445) k447 (H d6_277)
    have k450 := f_il X448 hx k449 (H d6_280) rfl
    have k451 := f_dal X448 hx hZ e448 (nq24 NB445) k450 (H d6_282) (v := fc0) (by decide) rfl
    have k452 := f_d1 X448 hx k451 (H d6_283)
    have k453 := f_dc X448 hx k452 (H d6_284)
    obtain ⟨i455, hi455⟩ : ∃ z : Int32, z = (if (cmpValue (FP.dcmp fc0 (4607182418800017408 : UInt64)) .g) < (0 : Int32) then (1 : Int32) else (0 : Int32)) := ⟨_, rfl⟩
    have k456 : Rt p e below T448 (mkF m 293 #[sr ob, si (((0 : Int32) ||| i200) ||| i280), si 0, si 0, si 0, si 2] [vI i455, vI 0]) s₁ m #[(.ref ob)] 6 := fun t k => k453 t (by
      by_cases c454 : (cmpValue (FP.dcmp fc0 (4607182418800017408 : UInt64)) .g) < (0 : Int32)
      · rw [if_pos c454] at hi455
        show Sp p e below T448 (mkF m 285 #[sr ob, si (((0 : Int32) ||| i200) ||| i280), si 0, si 0, si 0, si 2] [vI (cmpValue (FP.dcmp fc0 (4607182418800017408 : UInt64)) .g), vI 0]) _
        refine XS.ifNo X448.here hx rfl (hb hby d6_285) rfl ((if0 _ _).trans (tlt c454).2.1) ?_
        refine XS.iconst X448.here hx rfl (hb hby d6_288) ?_
        refine XS.goto X448.here hx rfl (pc0 := 289) (pc' := 293) rfl (hb hby d6_289) (by decide) (by decide) ?_
        show Sp p e below T448 (mkF m 293 #[sr ob, si (((0 : Int32) ||| i200) ||| i280), si 0, si 0, si 0, si 2] [vI 1, vI 0]) _
        exact castTop (by rw [hi455]) k
      · rw [if_neg c454] at hi455
        show Sp p e below T448 (mkF m 285 #[sr ob, si (((0 : Int32) ||| i200) ||| i280), si 0, si 0, si 0, si 2] [vI (cmpValue (FP.dcmp fc0 (4607182418800017408 : UInt64)) .g), vI 0]) _
        refine XS.ifYes X448.here hx rfl (pc0 := 285) (pc' := 292) rfl (hb hby d6_285) rfl ((if0 _ _).trans (flt c454).2.1) (by decide) (by decide) ?_
        refine XS.iconst X448.here hx rfl (hb hby d6_292) ?_
        show Sp p e below T448 (mkF m 293 #[sr ob, si (((0 : Int32) ||| i200) ||| i280), si 0, si 0, si 0, si 2] [vI 0, vI 0]) _
        exact castTop (by rw [hi455]) k)
    have k457 := f_ior X448 hx k456 (H d6_293) rfl
    have k458 := f_isN X448 hx k457 (H d6_294) (l' := #[sr ob, si (((0 : Int32) ||| i200) ||| i280), si 0, si ((0 : Int32) ||| i455), si 0, si 2]) rfl
    have k459 := f_alN X448 hx k458 (H d6_295) rfl
    obtain ⟨T460, X460, e460, k461⟩ := gFs X448 hx hZ hown (hww 24 _ rfl) e448 (nq8 NB445) k459 (H d6_296)
    have k462 := f_il X460 hx k461 (H d6_299) rfl
    have k463 := f_d0 X460 hx k462 (H d6_301)
    obtain ⟨T464, h464, L464, X464, e464, W464, V464, N464, Z464, k464⟩ := f_dst X460 hx hZ e460 (nq25 NB445) N444 (G 7 (by decide)) Z444 k463 (H d6_302) (by decide) 0 rfl (lt_b rfl)
    have NB465 := nb_w7 D NB445 W464 V464
    have k466 := f_alN X464 hx k464 (H d6_303) rfl
    obtain ⟨T467, X467, e467, k468⟩ := gFs X464 hx hZ hown (hww 27 _ rfl) e464 (nq9 NB465) k466 (H d6_304)
    have k469 := f_il X467 hx k468 (H d6_307) rfl
    have k470 := f_ic X467 hx k469 (H d6_309) (v := 0) rfl
    obtain ⟨T471, h471, L471, X471, e471, W471, V471, N471, Z471, k471⟩ := f_bst X467 hx hZ e467 (nq26 NB465) N464 (G 8 (by decide)) Z464 k470 (H d6_310) (by decide) 0 rfl (lt_b rfl) (v' := 0) rfl
    have NB472 := nb_w8 D NB465 W471 V471
    have k473 := f_inc X471 hx k471 (H d6_311) rfl (l' := #[sr ob, si (((0 : Int32) ||| i200) ||| i280), si 0, si ((0 : Int32) ||| i455), si 1, si 2]) rfl
    have k474 := f_go X471 hx k473 (H d6_314) (pc' := 151) (by decide)
    have k475 := f_il X471 hx k474 (H d6_151) rfl
    have k476 := f_alN X471 hx k475 (H d6_153) rfl
    obtain ⟨T477, X477, e477, k478⟩ := gFs X471 hx hZ hown (hww 47 _ rfl) e471 (nq16 NB472) k476 (H d6_154)
    have k479 := f_icN X477 hx k478 (H d6_157) (tlt (by decide)).2.1
    have k480 := f_alN X477 hx k479 (H d6_160) rfl
    obtain ⟨T481, X481, e481, k482⟩ := gFs X477 hx hZ hown (hww 20 _ rfl) e477 (nq6 NB472) k480 (H d6_161)
    have k483 := f_il X481 hx k482 (H d6_164) rfl
    have k484 := f_d0 X481 hx k483 (H d6_166)
    obtain ⟨T485, h485, L485, X485, e485, W485, V485, N485, Z485, k485⟩ := f_dst X481 hx hZ e481 (nq23 NB472) N471 (G 5 (by decide)) Z471 k484 (H d6_167) (by decide) 1 rfl (lt_b rfl)
    have NB486 := nb_w5 D NB472 W485 V485
    have k487 := f_ic X485 hx k485 (H d6_168) (v := 0) rfl
    have k488 := f_is X485 hx k487 (H d6_169) (l' := #[sr ob, si (((0 : Int32) ||| i200) ||| i280), si 0, si ((0 : Int32) ||| i455), si 1, si 0]) rfl
    have k489 := f_il X485 hx k488 (H d6_171) rfl
    have k490 := f_alN X485 hx k489 (H d6_173) rfl
    obtain ⟨T491, X491, e491, k492⟩ := gFs X485 hx hZ hown (hww 43 _ rfl) e485 (nq14 NB486) k490 (H d6_174)
    have k493 := f_icN X491 hx k492 (H d6_177) (tlt (by decide)).2.1
    have k494 := f_alN X491 hx k493 (H d6_180) rfl
    obtain ⟨T495, X495, e495, k496⟩ := gFs X491 hx hZ hown (hww 29 _ rfl) e491 (nq10 NB486) k494 (H d6_181)
    have k497 := f_alN X495 hx k496 (H d6_184) rfl
    obtain ⟨T498, X498, e498, k499⟩ := gFs X495 hx hZ hown (hww 34 _ rfl) e495 (nq12 NB486) k497 (H d6_185)
    have k500 := f_il X498 hx k499 (H d6_188) rfl
    have k501 := f_ial X498 hx hZ e498 (nq29 NB486) k500 (H d6_190) (v := 0) (by decide) rfl
    have k502 := f_bal X498 hx hZ e498 (nq27 NB486) k501 (H d6_191) (v := f188) (by decide) rfl
    obtain ⟨T503, h503, Ls503, wd01, X503, e503, N503, Zq503, F530, hwd01, kq503⟩ : ∃ (T503 : State) (h503 : Heap) (Ls503 : List Loc) (wd01 : UInt64), Stand p l e (rm 2 0 0 38) s m #[(.ref ob)] below meth c T503 Ls503 0 0 ∧ T503.heap = h503 ∧ Fr n0 Ls503 ∧ n0 ≤ h503.size ∧ NB Z h503 ob B K [(.double x0), (.double x1), (.double x2), (.double x3)] [(.double (0 : UInt64)), (.double (0 : UInt64)), (.double (0 : UInt64)), (.double (0 : UInt64))] [(.double x0), (.double x1), (.double x2), (.double x3)] [(.double s0), (.double s1)] [(.double s0), (.double s1)] [(.double wd10), (.double wd01)] [(.double fc0), (.double (0 : UInt64))] [(.double (0 : UInt64)), (.double (0 : UInt64))] [(.int (0 : Int32)), (.int (0 : Int32))] [(.int f188), (.int f268)] [(.int (0 : Int32)), (.int (0 : Int32)), (.int (0 : Int32)), (.int (0 : Int32))] [(.int (0 : Int32)), (.int (1 : Int32))] [(.int (1 : Int32)), (.int (1 : Int32))] (2 : Int32) ∧ (Dq 255 wd01) ∧ (Rt p e below T503 (mkF m 225 #[sr ob, si (((0 : Int32) ||| i200) ||| i280), si 0, si ((0 : Int32) ||| i455), si 1, si 0] []) s₁ m #[(.ref ob)] 6) := by
      by_cases qf : f188 = (0 : Int32)
      · have k504 := f_ifN X498 hx k502 (H d6_192) ((if0 _ _).trans (teq qf).2)
        have k505 := f_alN X498 hx k504 (H d6_195) rfl
        obtain ⟨T506, X506, e506, k507⟩ := gFs X498 hx hZ hown (hww 20 _ rfl) e498 (nq6 NB486) k505 (H d6_196)
        have k508 := f_il X506 hx k507 (H d6_199) rfl
        have k509 := f_dup2 X506 hx k508 (H d6_201) rfl rfl
        have k510 := f_dal X506 hx hZ e506 (nq23 NB486) k509 (H d6_202) (v := 0) (by decide) rfl
        have k511 := f_alN X506 hx k510 (H d6_203) rfl
        obtain ⟨T512, X512, e512, k513⟩ := gFs X506 hx hZ hown (hww 14 _ rfl) e506 (nq3 NB486) k511 (H d6_204)
        have k514 := f_alN X512 hx k513 (H d6_207) rfl
        obtain ⟨T515, X515, e515, k516⟩ := gFs X512 hx hZ hown (hww 34 _ rfl) e512 (nq12 NB486) k514 (H d6_208)
        have k517 := f_il X515 hx k516 (H d6_211) rfl
        have k518 := f_ial X515 hx hZ e515 (nq29 NB486) k517 (H d6_213) (v := 0) (by decide) rfl
        have k519 := f_alN X515 hx k518 (H d6_214) rfl
        obtain ⟨T520, X520, e520, k521⟩ := gFs X515 hx hZ hown (hww 47 _ rfl) e515 (nq16 NB486) k519 (H d6_215)
        have k522 := f_imul X520 hx k521 (H d6_218) (r := 0) (by decide)
        have k523 := f_il X520 hx k522 (H d6_219) rfl
        have k524 := f_iadd X520 hx k523 (H d6_221) (r := 1) (by decide)
        have k525 := f_dal X520 hx hZ e520 (nq20 NB486) k524 (H d6_222) (v := x1) (by decide) rfl
        have k526 := f_dadd X520 hx k525 (H d6_223) ((Dq.add (P := 255) (dq0 (N := 0) (by decide)) hd0.2.1 (by decide)).nn)
        obtain ⟨T527, h527, L527, X527, e527, W527, V527, N527, Z527, k527⟩ := f_dst X520 hx hZ e520 (nq23 NB486) N485 (G 5 (by decide)) Z485 k526 (H d6_224) (by decide) 1 rfl (lt_b rfl)
        have NB528 := nb_w5 D NB486 W527 V527
        exact ⟨T527, h527, _, (FP.dadd (0 : UInt64) x1), X527, e527, N527, Z527, NB528, (Dq.add (dq0 (N := 0) (by decide)) hd0.2.1 (by decide)), k527⟩
      · have k529 := f_ifY X498 hx k502 (H d6_192) (pc' := 225) ((if0 _ _).trans (feq qf).2) (by decide)
        exact ⟨T498, h485, _, (0 : UInt64), X498, e498, N485, Z485, NB486, (Dq.mono (dq0 (N := 0) (by decide)) (by decide)), k529⟩
    have k531 := f_inc X503 hx kq503 (H d6_225) rfl (l' := #[sr ob, si (((0 : Int32) ||| i200) ||| i280), si 0, si ((0 : Int32) ||| i455), si 1, si 1]) rfl
    have k532 := f_go X503 hx k531 (H d6_228) (pc' := 171) (by decide)
    have k533 := f_il X503 hx k532 (H d6_171) rfl
    have k534 := f_alN X503 hx k533 (H d6_173) rfl
    obtain ⟨T535, X535, e535, k536⟩ := gFs X503 hx hZ hown (hww 43 _ rfl) e503 (nq14 F530) k534 (H d6_174)
    have k537 := f_icN X535 hx k536 (H d6_177) (tlt (by decide)).2.1
    have k538 := f_alN X535 hx k537 (H d6_180) rfl
    obtain ⟨T539, X539, e539, k540⟩ := gFs X535 hx hZ hown (hww 29 _ rfl) e535 (nq10 F530) k538 (H d6_181)
    have k541 := f_alN X539 hx k540 (H d6_184) rfl
    obtain ⟨T542, X542, e542, k543⟩ := gFs X539 hx hZ hown (hww 34 _ rfl) e539 (nq12 F530) k541 (H d6_185)
    have k544 := f_il X542 hx k543 (H d6_188) rfl
    have k545 := f_ial X542 hx hZ e542 (nq29 F530) k544 (H d6_190) (v := 1) (by decide) rfl
    have k546 := f_bal X542 hx hZ e542 (nq27 F530) k545 (H d6_191) (v := f268) (by decide) rfl
    obtain ⟨T547, h547, Ls547, wd11, X547, e547, N547, Zq547, F574, hwd11, kq547⟩ : ∃ (T547 : State) (h547 : Heap) (Ls547 : List Loc) (wd11 : UInt64), Stand p l e (rm 2 0 0 38) s m #[(.ref ob)] below meth c T547 Ls547 0 0 ∧ T547.heap = h547 ∧ Fr n0 Ls547 ∧ n0 ≤ h547.size ∧ NB Z h547 ob B K [(.double x0), (.double x1), (.double x2), (.double x3)] [(.double (0 : UInt64)), (.double (0 : UInt64)), (.double (0 : UInt64)), (.double (0 : UInt64))] [(.double x0), (.double x1), (.double x2), (.double x3)] [(.double s0), (.double s1)] [(.double s0), (.double s1)] [(.double wd10), (.double wd11)] [(.double fc0), (.double (0 : UInt64))] [(.double (0 : UInt64)), (.double (0 : UInt64))] [(.int (0 : Int32)), (.int (0 : Int32))] [(.int f188), (.int f268)] [(.int (0 : Int32)), (.int (0 : Int32)), (.int (0 : Int32)), (.int (0 : Int32))] [(.int (0 : Int32)), (.int (1 : Int32))] [(.int (1 : Int32)), (.int (1 : Int32))] (2 : Int32) ∧ (Dq 510 wd11) ∧ (Rt p e below T547 (mkF m 225 #[sr ob, si (((0 : Int32) ||| i200) ||| i280), si 0, si ((0 : Int32) ||| i455), si 1, si 1] []) s₁ m #[(.ref ob)] 6) := by
      by_cases qf : f268 = (0 : Int32)
      · have k548 := f_ifN X542 hx k546 (H d6_192) ((if0 _ _).trans (teq qf).2)
        have k549 := f_alN X542 hx k548 (H d6_195) rfl
        obtain ⟨T550, X550, e550, k551⟩ := gFs X542 hx hZ hown (hww 20 _ rfl) e542 (nq6 F530) k549 (H d6_196)
        have k552 := f_il X550 hx k551 (H d6_199) rfl
        have k553 := f_dup2 X550 hx k552 (H d6_201) rfl rfl
        have k554 := f_dal X550 hx hZ e550 (nq23 F530) k553 (H d6_202) (v := wd01) (by decide) rfl
        have k555 := f_alN X550 hx k554 (H d6_203) rfl
        obtain ⟨T556, X556, e556, k557⟩ := gFs X550 hx hZ hown (hww 14 _ rfl) e550 (nq3 F530) k555 (H d6_204)
        have k558 := f_alN X556 hx k557 (H d6_207) rfl
        obtain ⟨T559, X559, e559, k560⟩ := gFs X556 hx hZ hown (hww 34 _ rfl) e556 (nq12 F530) k558 (H d6_208)
        have k561 := f_il X559 hx k560 (H d6_211) rfl
        have k562 := f_ial X559 hx hZ e559 (nq29 F530) k561 (H d6_213) (v := 1) (by decide) rfl
        have k563 := f_alN X559 hx k562 (H d6_214) rfl
        obtain ⟨T564, X564, e564, k565⟩ := gFs X559 hx hZ hown (hww 47 _ rfl) e559 (nq16 F530) k563 (H d6_215)
        have k566 := f_imul X564 hx k565 (H d6_218) (r := 2) (by decide)
        have k567 := f_il X564 hx k566 (H d6_219) rfl
        have k568 := f_iadd X564 hx k567 (H d6_221) (r := 3) (by decide)
        have k569 := f_dal X564 hx hZ e564 (nq20 F530) k568 (H d6_222) (v := x3) (by decide) rfl
        have k570 := f_dadd X564 hx k569 (H d6_223) ((Dq.add (P := 510) hwd01 hd1.2.1 (by decide)).nn)
        obtain ⟨T571, h571, L571, X571, e571, W571, V571, N571, Z571, k571⟩ := f_dst X564 hx hZ e564 (nq23 F530) N503 (G 5 (by decide)) Zq503 k570 (H d6_224) (by decide) 1 rfl (lt_b rfl)
        have NB572 := nb_w5 D F530 W571 V571
        exact ⟨T571, h571, _, (FP.dadd wd01 x3), X571, e571, N571, Z571, NB572, (Dq.add hwd01 hd1.2.1 (by decide)), k571⟩
      · have k573 := f_ifY X542 hx k546 (H d6_192) (pc' := 225) ((if0 _ _).trans (feq qf).2) (by decide)
        exact ⟨T542, h503, _, wd01, X542, e542, N503, Zq503, F530, (Dq.mono hwd01 (by decide)), k573⟩
    have k575 := f_inc X547 hx kq547 (H d6_225) rfl (l' := #[sr ob, si (((0 : Int32) ||| i200) ||| i280), si 0, si ((0 : Int32) ||| i455), si 1, si 2]) rfl
    have k576 := f_go X547 hx k575 (H d6_228) (pc' := 171) (by decide)
    have k577 := f_il X547 hx k576 (H d6_171) rfl
    have k578 := f_alN X547 hx k577 (H d6_173) rfl
    obtain ⟨T579, X579, e579, k580⟩ := gFs X547 hx hZ hown (hww 43 _ rfl) e547 (nq14 F574) k578 (H d6_174)
    have k581 := f_icY X579 hx k580 (H d6_177) (pc' := 231) (flt (by decide)).2.1 (by decide)
    have k582 := f_alN X579 hx k581 (H d6_231) rfl
    obtain ⟨T583, X583, e583, k584⟩ := gFs X579 hx hZ hown (hww 22 _ rfl) e579 (nq7 F574) k582 (H d6_232)
    have k585 := f_il X583 hx k584 (H d6_235) rfl
    have k586 := f_alN X583 hx k585 (H d6_237) rfl
    obtain ⟨T587, X587, e587, k588⟩ := gFs X583 hx hZ hown (hww 20 _ rfl) e583 (nq6 F574) k586 (H d6_238)
    have k589 := f_il X587 hx k588 (H d6_241) rfl
    have k590 := f_dal X587 hx hZ e587 (nq23 F574) k589 (H d6_243) (v := wd11) (by decide) rfl
    have k591 := f_alN X587 hx k590 (H d6_244) rfl
    obtain ⟨T592, X592, e592, k593⟩ := gFs X587 hx hZ hown (hww 18 _ rfl) e587 (nq5 F574) k591 (H d6_245)
    have k594 := f_il X592 hx k593 (H d6_248) rfl
    have k595 := f_dal X592 hx hZ e592 (nq22 F574) k594 (H d6_250) (v := s1) (by decide) rfl
    have k596 := f_dc X592 hx k595 (H d6_251)
    obtain ⟨T597, h597, Ls597, fc1, X597, e597, N597, Zq597, F613, hfc1, kq597⟩ : ∃ (T597 : State) (h597 : Heap) (Ls597 : List Loc) (fc1 : UInt64), Stand p l e (rm 2 0 0 38) s m #[(.ref ob)] below meth c T597 Ls597 0 0 ∧ T597.heap = h597 ∧ Fr n0 Ls597 ∧ n0 ≤ h597.size ∧ NB Z h597 ob B K [(.double x0), (.double x1), (.double x2), (.double x3)] [(.double (0 : UInt64)), (.double (0 : UInt64)), (.double (0 : UInt64)), (.double (0 : UInt64))] [(.double x0), (.double x1), (.double x2), (.double x3)] [(.double s0), (.double s1)] [(.double s0), (.double s1)] [(.double wd10), (.double wd11)] [(.double fc0), (.double (0 : UInt64))] [(.double (0 : UInt64)), (.double (0 : UInt64))] [(.int (0 : Int32)), (.int (0 : Int32))] [(.int f188), (.int f268)] [(.int (0 : Int32)), (.int (0 : Int32)), (.int (0 : Int32)), (.int (0 : Int32))] [(.int (0 : Int32)), (.int (1 : Int32))] [(.int (1 : Int32)), (.int (1 : Int32))] (2 : Int32) ∧ ((0 : Int32) < cmpValue (FP.dcmp wd11 s1) .l ∧ fc1 = FP.ddiv s1 wd11 ∨ ¬ ((0 : Int32) < cmpValue (FP.dcmp wd11 s1) .l) ∧ fc1 = (4607182418800017408 : UInt64)) ∧ (Rt p e below T597 (mkF m 274 #[sr ob, si (((0 : Int32) ||| i200) ||| i280), si 0, si ((0 : Int32) ||| i455), si 1, si 2] [vD fc1, vI 1, vR (B 6)]) s₁ m #[(.ref ob)] 6) := by
      by_cases qg : (0 : Int32) < cmpValue (FP.dcmp wd11 s1) .l
      · have k598 := f_ifN X592 hx k596 (H d6_252) ((if0 _ _).trans (tlt qg).2.2.2)
        have k599 := f_alN X592 hx k598 (H d6_255) rfl
        obtain ⟨T600, X600, e600, k601⟩ := gFs X592 hx hZ hown (hww 18 _ rfl) e592 (nq5 F574) k599 (H d6_256)
        have k602 := f_il X600 hx k601 (H d6_259) rfl
        have k603 := f_dal X600 hx hZ e600 (nq22 F574) k602 (H d6_261) (v := s1) (by decide) rfl
        have k604 := f_alN X600 hx k603 (H d6_262) rfl
        obtain ⟨T605, X605, e605, k606⟩ := gFs X600 hx hZ hown (hww 20 _ rfl) e600 (nq6 F574) k604 (H d6_263)
        have k607 := f_il X605 hx k606 (H d6_266) rfl
        have k608 := f_dal X605 hx hZ e605 (nq23 F574) k607 (H d6_268) (v := wd11) (by decide) rfl
        have k609 := f_ddiv X605 hx k608 (H d6_269) (own_divnn hs1 (Dq.mono hwd11 (by decide)) qg)
        have k610 := f_go X605 hx k609 (H d6_270) (pc' := 274) (by decide)
        exact ⟨T605, h547, _, (FP.ddiv s1 wd11), X605, e605, N547, Zq547, F574, (Or.inl ⟨qg, rfl⟩), k610⟩
      · have k611 := f_ifY X592 hx k596 (H d6_252) (pc' := 273) ((if0 _ _).trans (flt qg).2.2.2) (by decide)
        have k612 := f_d1 X592 hx k611 (H d6_273)
        exact ⟨T592, h547, _, (4607182418800017408 : UInt64), X592, e592, N547, Zq547, F574, (Or.inr ⟨qg, rfl⟩), k612⟩
    have jfc1 := own_frac hs1 (Dq.mono hwd11 (by decide)) hfc1
    obtain ⟨T614, h614, L614, X614, e614, W614, V614, N614, Z614, k614⟩ := f_dst X597 hx hZ e597 (nq24 F613) N597 (G 6 (by decide)) Zq597 kq597 (H d6_274) (by decide) 1 rfl (lt_b rfl)
    have NB615 := nb_w6 D F613 W614 V614
    have k616 := f_ilN X614 hx k614 (H d6_275) rfl
    have k617 := f_alN X614 hx k616 (H d6_276) rfl
    obtain ⟨T618, X618, e618, k619⟩ := gFs X614 hx hZ hown (hww 22 _ rfl) e614 (nq7 NB615) k617 (H d6_277)
    have k620 := f_il X618 hx k619 (H d6_280) rfl
    have k621 := f_dal X618 hx hZ e618 (nq24 NB615) k620 (H d6_282) (v := fc1) (by decide) rfl
    have k622 := f_d1 X618 hx k621 (H d6_283)
    have k623 := f_dc X618 hx k622 (H d6_284)
    obtain ⟨i625, hi625⟩ : ∃ z : Int32, z = (if (cmpValue (FP.dcmp fc1 (4607182418800017408 : UInt64)) .g) < (0 : Int32) then (1 : Int32) else (0 : Int32)) := ⟨_, rfl⟩
    have k626 : Rt p e below T618 (mkF m 293 #[sr ob, si (((0 : Int32) ||| i200) ||| i280), si 0, si ((0 : Int32) ||| i455), si 1, si 2] [vI i625, vI ((0 : Int32) ||| i455)]) s₁ m #[(.ref ob)] 6 := fun t k => k623 t (by
      by_cases c624 : (cmpValue (FP.dcmp fc1 (4607182418800017408 : UInt64)) .g) < (0 : Int32)
      · rw [if_pos c624] at hi625
        show Sp p e below T618 (mkF m 285 #[sr ob, si (((0 : Int32) ||| i200) ||| i280), si 0, si ((0 : Int32) ||| i455), si 1, si 2] [vI (cmpValue (FP.dcmp fc1 (4607182418800017408 : UInt64)) .g), vI ((0 : Int32) ||| i455)]) _
        refine XS.ifNo X618.here hx rfl (hb hby d6_285) rfl ((if0 _ _).trans (tlt c624).2.1) ?_
        refine XS.iconst X618.here hx rfl (hb hby d6_288) ?_
        refine XS.goto X618.here hx rfl (pc0 := 289) (pc' := 293) rfl (hb hby d6_289) (by decide) (by decide) ?_
        show Sp p e below T618 (mkF m 293 #[sr ob, si (((0 : Int32) ||| i200) ||| i280), si 0, si ((0 : Int32) ||| i455), si 1, si 2] [vI 1, vI ((0 : Int32) ||| i455)]) _
        exact castTop (by rw [hi625]) k
      · rw [if_neg c624] at hi625
        show Sp p e below T618 (mkF m 285 #[sr ob, si (((0 : Int32) ||| i200) ||| i280), si 0, si ((0 : Int32) ||| i455), si 1, si 2] [vI (cmpValue (FP.dcmp fc1 (4607182418800017408 : UInt64)) .g), vI ((0 : Int32) ||| i455)]) _
        refine XS.ifYes X618.here hx rfl (pc0 := 285) (pc' := 292) rfl (hb hby d6_285) rfl ((if0 _ _).trans (flt c624).2.1) (by decide) (by decide) ?_
        refine XS.iconst X618.here hx rfl (hb hby d6_292) ?_
        show Sp p e below T618 (mkF m 293 #[sr ob, si (((0 : Int32) ||| i200) ||| i280), si 0, si ((0 : Int32) ||| i455), si 1, si 2] [vI 0, vI ((0 : Int32) ||| i455)]) _
        exact castTop (by rw [hi625]) k)
    have k627 := f_ior X618 hx k626 (H d6_293) rfl
    have k628 := f_isN X618 hx k627 (H d6_294) (l' := #[sr ob, si (((0 : Int32) ||| i200) ||| i280), si 0, si (((0 : Int32) ||| i455) ||| i625), si 1, si 2]) rfl
    have k629 := f_alN X618 hx k628 (H d6_295) rfl
    obtain ⟨T630, X630, e630, k631⟩ := gFs X618 hx hZ hown (hww 24 _ rfl) e618 (nq8 NB615) k629 (H d6_296)
    have k632 := f_il X630 hx k631 (H d6_299) rfl
    have k633 := f_d0 X630 hx k632 (H d6_301)
    obtain ⟨T634, h634, L634, X634, e634, W634, V634, N634, Z634, k634⟩ := f_dst X630 hx hZ e630 (nq25 NB615) N614 (G 7 (by decide)) Z614 k633 (H d6_302) (by decide) 1 rfl (lt_b rfl)
    have NB635 := nb_w7 D NB615 W634 V634
    have k636 := f_alN X634 hx k634 (H d6_303) rfl
    obtain ⟨T637, X637, e637, k638⟩ := gFs X634 hx hZ hown (hww 27 _ rfl) e634 (nq9 NB635) k636 (H d6_304)
    have k639 := f_il X637 hx k638 (H d6_307) rfl
    have k640 := f_ic X637 hx k639 (H d6_309) (v := 0) rfl
    obtain ⟨T641, h641, L641, X641, e641, W641, V641, N641, Z641, k641⟩ := f_bst X637 hx hZ e637 (nq26 NB635) N634 (G 8 (by decide)) Z634 k640 (H d6_310) (by decide) 1 rfl (lt_b rfl) (v' := 0) rfl
    have NB642 := nb_w8 D NB635 W641 V641
    have k643 := f_inc X641 hx k641 (H d6_311) rfl (l' := #[sr ob, si (((0 : Int32) ||| i200) ||| i280), si 0, si (((0 : Int32) ||| i455) ||| i625), si 2, si 2]) rfl
    have k644 := f_go X641 hx k643 (H d6_314) (pc' := 151) (by decide)
    have k645 := f_il X641 hx k644 (H d6_151) rfl
    have k646 := f_alN X641 hx k645 (H d6_153) rfl
    obtain ⟨T647, X647, e647, k648⟩ := gFs X641 hx hZ hown (hww 47 _ rfl) e641 (nq16 NB642) k646 (H d6_154)
    have k649 := f_icY X647 hx k648 (H d6_157) (pc' := 317) (flt (by decide)).2.1 (by decide)
    have k650 := f_ic X647 hx k649 (H d6_317) (v := 0) rfl
    have k651 := f_isN X647 hx k650 (H d6_318) (l' := #[sr ob, si 0, si 0, si (((0 : Int32) ||| i455) ||| i625), si 2, si 2]) rfl
    have k652 := f_ic X647 hx k651 (H d6_319) (v := 0) rfl
    have k653 := f_is X647 hx k652 (H d6_320) (l' := #[sr ob, si 0, si 0, si (((0 : Int32) ||| i455) ||| i625), si 0, si 2]) rfl
    have k654 := f_il X647 hx k653 (H d6_322) rfl
    have k655 := f_alN X647 hx k654 (H d6_324) rfl
    obtain ⟨T656, X656, e656, k657⟩ := gFs X647 hx hZ hown (hww 43 _ rfl) e647 (nq14 NB642) k655 (H d6_325)
    have k658 := f_icN X656 hx k657 (H d6_328) (tlt (by decide)).2.1
    have k659 := f_alN X656 hx k658 (H d6_331) rfl
    obtain ⟨T660, X660, e660, k661⟩ := gFs X656 hx hZ hown (hww 29 _ rfl) e656 (nq10 NB642) k659 (H d6_332)
    have k662 := f_alN X660 hx k661 (H d6_335) rfl
    obtain ⟨T663, X663, e663, k664⟩ := gFs X660 hx hZ hown (hww 34 _ rfl) e660 (nq12 NB642) k662 (H d6_336)
    have k665 := f_il X663 hx k664 (H d6_339) rfl
    have k666 := f_ial X663 hx hZ e663 (nq29 NB642) k665 (H d6_341) (v := 0) (by decide) rfl
    have k667 := f_bal X663 hx hZ e663 (nq27 NB642) k666 (H d6_342) (v := f188) (by decide) rfl
    obtain ⟨T668, h668, Ls668, ma0, mb0, ya0, yb0, ga0, gb0, za0, zb0, X668, e668, N668, Zq668, F689, mk0, kq668⟩ : ∃ (T668 : State) (h668 : Heap) (Ls668 : List Loc) (ma0 : UInt64) (mb0 : UInt64) (ya0 : UInt64) (yb0 : UInt64) (ga0 : UInt64) (gb0 : UInt64) (za0 : Int32) (zb0 : Int32), Stand p l e (rm 2 0 0 38) s m #[(.ref ob)] below meth c T668 Ls668 0 0 ∧ T668.heap = h668 ∧ Fr n0 Ls668 ∧ n0 ≤ h668.size ∧ NB Z h668 ob B K [(.double x0), (.double x1), (.double x2), (.double x3)] [(.double ma0), (.double mb0), (.double (0 : UInt64)), (.double (0 : UInt64))] [(.double ya0), (.double yb0), (.double x2), (.double x3)] [(.double s0), (.double s1)] [(.double s0), (.double s1)] [(.double wd10), (.double wd11)] [(.double fc0), (.double fc1)] [(.double ga0), (.double gb0)] [(.int za0), (.int zb0)] [(.int f188), (.int f268)] [(.int (0 : Int32)), (.int (0 : Int32)), (.int (0 : Int32)), (.int (0 : Int32))] [(.int (0 : Int32)), (.int (1 : Int32))] [(.int (1 : Int32)), (.int (1 : Int32))] (2 : Int32) ∧ (MvOk s0 s1 fc0 fc1 255 f188 ma0 mb0 ya0 yb0 ga0 gb0 za0 zb0) ∧ (Rt p e below T668 (mkF m 357 #[sr ob, si 0, si 0, si (((0 : Int32) ||| i455) ||| i625), si 0, si 2] []) s₁ m #[(.ref ob)] 6) := by
      by_cases qf : f188 = (0 : Int32)
      · have k669 := f_ifN X663 hx k667 (H d6_343) ((if0 _ _).trans (teq qf).2)
        rcases own_act hd0 fp188 qf with qa | qa
        · have k670 := f_alN X663 hx k669 (H d6_346) rfl
          have k671 := f_alN X663 hx k670 (H d6_347) rfl
          obtain ⟨T672, X672, e672, k673⟩ := gFs X663 hx hZ hown (hww 34 _ rfl) e663 (nq12 NB642) k671 (H d6_348)
          have k674 := f_il X672 hx k673 (H d6_351) rfl
          have k675 := f_ial X672 hx hZ e672 (nq29 NB642) k674 (H d6_353) (v := 0) (by decide) rfl
          have co := (own_cutok hd0.1 hs0 (Dq.mono hwd10 (by decide)))
          obtain ⟨cq676, q676, q676'⟩ := (nq0 NB642).cell
          obtain ⟨_, _, ⟨T676, L676, k676, n676⟩, -, X676, ⟨Lc676, hQ676, l676, y676, z676⟩, st676⟩ := X672.privateBack hx (y := (⟨"com/example/istra/istra/engine/NodeModel", "move", "(I)V"⟩ : MethodName)) hown (mvT hZ (hww 81 _ rfl)) (mvT hZ (hww 82 _ rfl)) (own_selP (mvT hZ (hww 41 _ rfl)) rfl (Cond.privateMethod_at (mvP hZ (hww 83 _ rfl) (args := #[]))) (mvT hZ (hww 82 _ rfl)) (by decide)) (Cond.privateMethod_at (mvP hZ (hww 83 _ rfl) (args := #[]))) (mvT hZ (hww 84 _ rfl)) (by decide) (backOf (W := 0) (move00 l Z a0 hw [] ob B K [(.double x0), (.double x1), (.double x2), (.double x3)] [(.double s0), (.double s1)] [(.int f188), (.int f268)] [(.int (0 : Int32)), (.int (0 : Int32)), (.int (0 : Int32)), (.int (0 : Int32))] [(.int (0 : Int32)), (.int (1 : Int32))] [(.int (1 : Int32)), (.int (1 : Int32))] (2 : Int32) (0 : UInt64) (0 : UInt64) (0 : UInt64) (0 : UInt64) x0 x1 x2 x3 s0 s1 wd10 wd11 fc0 fc1 (0 : UInt64) (0 : UInt64) (0 : Int32) (0 : Int32) h641 n0 Z641 D NB642 G qa.1 qa.2 co.1 (nn_of (no_fin (own_add0 co.2.1))) (nn_of (dsub_out (no_fin hd0.1.fin) co.2.1)) (nn_of (dadd_out (no_of (gv0 s0).1) co.2.1)) jfc0.1) hZ (hww 84 _ rfl) (hww 2 _ rfl) (by decide) (by decide)) (g := (mkF m 354 #[sr ob, si 0, si 0, si (((0 : Int32) ||| i455) ||| i625), si 0, si 2] [vI 0, vR ob])) rfl (by rw [hml]; rfl) (Steps.refl _) (a := ob) (by rw [e672]; exact q676) q676' (argsL := [(.int (0 : Int32))]) (rest := []) (lenOf pd__28I_29V rfl) rfl (by show 2 * 0 + _ ≤ _; exact Nat.le_of_eq rfl) (H d6_354) (fun _ _ => ⟨rfl, e672, (by decide : 0 + 0 ≤ _), (by decide : 0 + 0 ≤ _)⟩)
          dsimp only [Pt.U, Pt.locs, Pt.cells, Pt.slots] at X676 l676 y676 z676 st676 hQ676
          subst l676 y676 z676
          obtain ⟨h676, e676⟩ : ∃ h', T676.heap = h' := ⟨_, rfl⟩
          rw [e676] at hQ676
          obtain ⟨zq676, rfl, N676q, Kp676, NB676, hz676⟩ := hQ676
          have N677 := Fr.app N641 N676q
          have k678 : Rt p e below T676 (mkF m 357 #[sr ob, si 0, si 0, si (((0 : Int32) ||| i455) ||| i625), si 0, si 2] []) s₁ m #[(.ref ob)] 6 := fun t k => k675 t (st676.trans k)
          have Z676 : n0 ≤ h676.size := Nat.le_trans Z641 Kp676.1
          exact ⟨T676, h676, _, (FP.dadd (0 : UInt64) (own_cut x0 s0 wd10)), (0 : UInt64), (FP.dsub x0 (own_cut x0 s0 wd10)), x1, (FP.dadd (0 : UInt64) (own_cut x0 s0 wd10)), (0 : UInt64), zq676, (0 : Int32), X676, e676, N677, Z676, NB676, (mv_0 hd0 hs0 hs1 (Dq.mono hwd10 (by decide)) (Dq.mono hwd11 (by decide)) jfc0 jfc1 (gv0 s0) (gv0 s1) (fun _ => rfl) (fun _ => rfl) qa.2 hz676 (by decide) (by decide)), k678⟩
        · have k679 := f_alN X663 hx k669 (H d6_346) rfl
          have k680 := f_alN X663 hx k679 (H d6_347) rfl
          obtain ⟨T681, X681, e681, k682⟩ := gFs X663 hx hZ hown (hww 34 _ rfl) e663 (nq12 NB642) k680 (H d6_348)
          have k683 := f_il X681 hx k682 (H d6_351) rfl
          have k684 := f_ial X681 hx hZ e681 (nq29 NB642) k683 (H d6_353) (v := 0) (by decide) rfl
          have co := (own_cutok hd0.2.1 hs1 (Dq.mono hwd11 (by decide)))
          obtain ⟨cq685, q685, q685'⟩ := (nq0 NB642).cell
          obtain ⟨_, _, ⟨T685, L685, k685, n685⟩, -, X685, ⟨Lc685, hQ685, l685, y685, z685⟩, st685⟩ := X681.privateBack hx (y := (⟨"com/example/istra/istra/engine/NodeModel", "move", "(I)V"⟩ : MethodName)) hown (mvT hZ (hww 81 _ rfl)) (mvT hZ (hww 82 _ rfl)) (own_selP (mvT hZ (hww 41 _ rfl)) rfl (Cond.privateMethod_at (mvP hZ (hww 83 _ rfl) (args := #[]))) (mvT hZ (hww 82 _ rfl)) (by decide)) (Cond.privateMethod_at (mvP hZ (hww 83 _ rfl) (args := #[]))) (mvT hZ (hww 84 _ rfl)) (by decide) (backOf (W := 0) (move01 l Z a0 hw [] ob B K [(.double x0), (.double x1), (.double x2), (.double x3)] [(.double s0), (.double s1)] [(.int f188), (.int f268)] [(.int (0 : Int32)), (.int (0 : Int32)), (.int (0 : Int32)), (.int (0 : Int32))] [(.int (0 : Int32)), (.int (1 : Int32))] [(.int (1 : Int32)), (.int (1 : Int32))] (2 : Int32) (0 : UInt64) (0 : UInt64) (0 : UInt64) (0 : UInt64) x0 x1 x2 x3 s0 s1 wd10 wd11 fc0 fc1 (0 : UInt64) (0 : UInt64) (0 : Int32) (0 : Int32) h641 n0 Z641 D NB642 G qa.1 qa.2 co.1 (nn_of (no_fin (own_add0 co.2.1))) (nn_of (dsub_out (no_fin hd0.2.1.fin) co.2.1)) (nn_of (dadd_out (no_of (gv0 s1).1) co.2.1)) jfc1.1) hZ (hww 84 _ rfl) (hww 2 _ rfl) (by decide) (by decide)) (g := (mkF m 354 #[sr ob, si 0, si 0, si (((0 : Int32) ||| i455) ||| i625), si 0, si 2] [vI 0, vR ob])) rfl (by rw [hml]; rfl) (Steps.refl _) (a := ob) (by rw [e681]; exact q685) q685' (argsL := [(.int (0 : Int32))]) (rest := []) (lenOf pd__28I_29V rfl) rfl (by show 2 * 0 + _ ≤ _; exact Nat.le_of_eq rfl) (H d6_354) (fun _ _ => ⟨rfl, e681, (by decide : 0 + 0 ≤ _), (by decide : 0 + 0 ≤ _)⟩)
          dsimp only [Pt.U, Pt.locs, Pt.cells, Pt.slots] at X685 l685 y685 z685 st685 hQ685
          subst l685 y685 z685
          obtain ⟨h685, e685⟩ : ∃ h', T685.heap = h' := ⟨_, rfl⟩
          rw [e685] at hQ685
          obtain ⟨zq685, rfl, N685q, Kp685, NB685, hz685⟩ := hQ685
          have N686 := Fr.app N641 N685q
          have k687 : Rt p e below T685 (mkF m 357 #[sr ob, si 0, si 0, si (((0 : Int32) ||| i455) ||| i625), si 0, si 2] []) s₁ m #[(.ref ob)] 6 := fun t k => k684 t (st685.trans k)
          have Z685 : n0 ≤ h685.size := Nat.le_trans Z641 Kp685.1
          exact ⟨T685, h685, _, (0 : UInt64), (FP.dadd (0 : UInt64) (own_cut x1 s1 wd11)), x0, (FP.dsub x1 (own_cut x1 s1 wd11)), (0 : UInt64), (FP.dadd (0 : UInt64) (own_cut x1 s1 wd11)), (0 : Int32), zq685, X685, e685, N686, Z685, NB685, (mv_1 hd0 hs0 hs1 (Dq.mono hwd10 (by decide)) (Dq.mono hwd11 (by decide)) jfc0 jfc1 (gv0 s0) (gv0 s1) (fun _ => rfl) (fun _ => rfl) qa.2 hz685 (by decide) (by decide)), k687⟩
      · have k688 := f_ifY X663 hx k667 (H d6_343) (pc' := 357) ((if0 _ _).trans (feq qf).2) (by decide)
        exact ⟨T663, h641, _, (0 : UInt64), (0 : UInt64), x0, x1, (0 : UInt64), (0 : UInt64), (0 : Int32), (0 : Int32), X663, e663, N641, Z641, NB642, (mv_s qf (gv0 s0) (gv0 s1) (fun _ => rfl) (fun _ => rfl) (by decide)), k688⟩
    have k690 := f_inc X668 hx kq668 (H d6_357) rfl (l' := #[sr ob, si 0, si 0, si (((0 : Int32) ||| i455) ||| i625), si 1, si 2]) rfl
    have k691 := f_go X668 hx k690 (H d6_360) (pc' := 322) (by decide)
    have k692 := f_il X668 hx k691 (H d6_322) rfl
    have k693 := f_alN X668 hx k692 (H d6_324) rfl
    obtain ⟨T694, X694, e694, k695⟩ := gFs X668 hx hZ hown (hww 43 _ rfl) e668 (nq14 F689) k693 (H d6_325)
    have k696 := f_icN X694 hx k695 (H d6_328) (tlt (by decide)).2.1
    have k697 := f_alN X694 hx k696 (H d6_331) rfl
    obtain ⟨T698, X698, e698, k699⟩ := gFs X694 hx hZ hown (hww 29 _ rfl) e694 (nq10 F689) k697 (H d6_332)
    have k700 := f_alN X698 hx k699 (H d6_335) rfl
    obtain ⟨T701, X701, e701, k702⟩ := gFs X698 hx hZ hown (hww 34 _ rfl) e698 (nq12 F689) k700 (H d6_336)
    have k703 := f_il X701 hx k702 (H d6_339) rfl
    have k704 := f_ial X701 hx hZ e701 (nq29 F689) k703 (H d6_341) (v := 1) (by decide) rfl
    have k705 := f_bal X701 hx hZ e701 (nq27 F689) k704 (H d6_342) (v := f268) (by decide) rfl
    obtain ⟨T706, h706, Ls706, ma1, mb1, ya1, yb1, ga1, gb1, za1, zb1, X706, e706, N706, Zq706, F727, mk1, kq706⟩ : ∃ (T706 : State) (h706 : Heap) (Ls706 : List Loc) (ma1 : UInt64) (mb1 : UInt64) (ya1 : UInt64) (yb1 : UInt64) (ga1 : UInt64) (gb1 : UInt64) (za1 : Int32) (zb1 : Int32), Stand p l e (rm 2 0 0 38) s m #[(.ref ob)] below meth c T706 Ls706 0 0 ∧ T706.heap = h706 ∧ Fr n0 Ls706 ∧ n0 ≤ h706.size ∧ NB Z h706 ob B K [(.double x0), (.double x1), (.double x2), (.double x3)] [(.double ma0), (.double mb0), (.double ma1), (.double mb1)] [(.double ya0), (.double yb0), (.double ya1), (.double yb1)] [(.double s0), (.double s1)] [(.double s0), (.double s1)] [(.double wd10), (.double wd11)] [(.double fc0), (.double fc1)] [(.double ga1), (.double gb1)] [(.int za1), (.int zb1)] [(.int f188), (.int f268)] [(.int (0 : Int32)), (.int (0 : Int32)), (.int (0 : Int32)), (.int (0 : Int32))] [(.int (0 : Int32)), (.int (1 : Int32))] [(.int (1 : Int32)), (.int (1 : Int32))] (2 : Int32) ∧ (MvOk s0 s1 fc0 fc1 510 f268 ma1 mb1 ya1 yb1 ga1 gb1 za1 zb1) ∧ (Rt p e below T706 (mkF m 357 #[sr ob, si 0, si 0, si (((0 : Int32) ||| i455) ||| i625), si 1, si 2] []) s₁ m #[(.ref ob)] 6) := by
      by_cases qf : f268 = (0 : Int32)
      · have k707 := f_ifN X701 hx k705 (H d6_343) ((if0 _ _).trans (teq qf).2)
        rcases own_act hd1 fp268 qf with qa | qa
        · have k708 := f_alN X701 hx k707 (H d6_346) rfl
          have k709 := f_alN X701 hx k708 (H d6_347) rfl
          obtain ⟨T710, X710, e710, k711⟩ := gFs X701 hx hZ hown (hww 34 _ rfl) e701 (nq12 F689) k709 (H d6_348)
          have k712 := f_il X710 hx k711 (H d6_351) rfl
          have k713 := f_ial X710 hx hZ e710 (nq29 F689) k712 (H d6_353) (v := 1) (by decide) rfl
          have co := (own_cutok hd1.1 hs0 (Dq.mono hwd10 (by decide)))
          obtain ⟨cq714, q714, q714'⟩ := (nq0 F689).cell
          obtain ⟨_, _, ⟨T714, L714, k714, n714⟩, -, X714, ⟨Lc714, hQ714, l714, y714, z714⟩, st714⟩ := X710.privateBack hx (y := (⟨"com/example/istra/istra/engine/NodeModel", "move", "(I)V"⟩ : MethodName)) hown (mvT hZ (hww 81 _ rfl)) (mvT hZ (hww 82 _ rfl)) (own_selP (mvT hZ (hww 41 _ rfl)) rfl (Cond.privateMethod_at (mvP hZ (hww 83 _ rfl) (args := #[]))) (mvT hZ (hww 82 _ rfl)) (by decide)) (Cond.privateMethod_at (mvP hZ (hww 83 _ rfl) (args := #[]))) (mvT hZ (hww 84 _ rfl)) (by decide) (backOf (W := 0) (move10 l Z a0 hw [] ob B K [(.double x0), (.double x1), (.double x2), (.double x3)] [(.double s0), (.double s1)] [(.int f188), (.int f268)] [(.int (0 : Int32)), (.int (0 : Int32)), (.int (0 : Int32)), (.int (0 : Int32))] [(.int (0 : Int32)), (.int (1 : Int32))] [(.int (1 : Int32)), (.int (1 : Int32))] (2 : Int32) ma0 mb0 (0 : UInt64) (0 : UInt64) ya0 yb0 x2 x3 s0 s1 wd10 wd11 fc0 fc1 ga0 gb0 za0 zb0 h668 n0 Zq668 D F689 G qa.1 qa.2 co.1 (nn_of (no_fin (own_add0 co.2.1))) (nn_of (dsub_out (no_fin hd1.1.fin) co.2.1)) (nn_of (dadd_out (no_of mk0.2.2.2.1.1) co.2.1)) jfc0.1) hZ (hww 84 _ rfl) (hww 2 _ rfl) (by decide) (by decide)) (g := (mkF m 354 #[sr ob, si 0, si 0, si (((0 : Int32) ||| i455) ||| i625), si 1, si 2] [vI 1, vR ob])) rfl (by rw [hml]; rfl) (Steps.refl _) (a := ob) (by rw [e710]; exact q714) q714' (argsL := [(.int (1 : Int32))]) (rest := []) (lenOf pd__28I_29V rfl) rfl (by show 2 * 0 + _ ≤ _; exact Nat.le_of_eq rfl) (H d6_354) (fun _ _ => ⟨rfl, e710, (by decide : 0 + 0 ≤ _), (by decide : 0 + 0 ≤ _)⟩)
          dsimp only [Pt.U, Pt.locs, Pt.cells, Pt.slots] at X714 l714 y714 z714 st714 hQ714
          subst l714 y714 z714
          obtain ⟨h714, e714⟩ : ∃ h', T714.heap = h' := ⟨_, rfl⟩
          rw [e714] at hQ714
          obtain ⟨zq714, rfl, N714q, Kp714, NB714, hz714⟩ := hQ714
          have N715 := Fr.app N668 N714q
          have k716 : Rt p e below T714 (mkF m 357 #[sr ob, si 0, si 0, si (((0 : Int32) ||| i455) ||| i625), si 1, si 2] []) s₁ m #[(.ref ob)] 6 := fun t k => k713 t (st714.trans k)
          have Z714 : n0 ≤ h714.size := Nat.le_trans Zq668 Kp714.1
          exact ⟨T714, h714, _, (FP.dadd (0 : UInt64) (own_cut x2 s0 wd10)), (0 : UInt64), (FP.dsub x2 (own_cut x2 s0 wd10)), x3, (FP.dadd ga0 (own_cut x2 s0 wd10)), gb0, zq714, zb0, X714, e714, N715, Z714, NB714, (mv_0 hd1 hs0 hs1 (Dq.mono hwd10 (by decide)) (Dq.mono hwd11 (by decide)) jfc0 jfc1 mk0.2.2.2.1 mk0.2.2.2.2.1 mk0.2.2.2.2.2.1 mk0.2.2.2.2.2.2 qa.2 hz714 (by decide) (by decide)), k716⟩
        · have k717 := f_alN X701 hx k707 (H d6_346) rfl
          have k718 := f_alN X701 hx k717 (H d6_347) rfl
          obtain ⟨T719, X719, e719, k720⟩ := gFs X701 hx hZ hown (hww 34 _ rfl) e701 (nq12 F689) k718 (H d6_348)
          have k721 := f_il X719 hx k720 (H d6_351) rfl
          have k722 := f_ial X719 hx hZ e719 (nq29 F689) k721 (H d6_353) (v := 1) (by decide) rfl
          have co := (own_cutok hd1.2.1 hs1 (Dq.mono hwd11 (by decide)))
          obtain ⟨cq723, q723, q723'⟩ := (nq0 F689).cell
          obtain ⟨_, _, ⟨T723, L723, k723, n723⟩, -, X723, ⟨Lc723, hQ723, l723, y723, z723⟩, st723⟩ := X719.privateBack hx (y := (⟨"com/example/istra/istra/engine/NodeModel", "move", "(I)V"⟩ : MethodName)) hown (mvT hZ (hww 81 _ rfl)) (mvT hZ (hww 82 _ rfl)) (own_selP (mvT hZ (hww 41 _ rfl)) rfl (Cond.privateMethod_at (mvP hZ (hww 83 _ rfl) (args := #[]))) (mvT hZ (hww 82 _ rfl)) (by decide)) (Cond.privateMethod_at (mvP hZ (hww 83 _ rfl) (args := #[]))) (mvT hZ (hww 84 _ rfl)) (by decide) (backOf (W := 0) (move11 l Z a0 hw [] ob B K [(.double x0), (.double x1), (.double x2), (.double x3)] [(.double s0), (.double s1)] [(.int f188), (.int f268)] [(.int (0 : Int32)), (.int (0 : Int32)), (.int (0 : Int32)), (.int (0 : Int32))] [(.int (0 : Int32)), (.int (1 : Int32))] [(.int (1 : Int32)), (.int (1 : Int32))] (2 : Int32) ma0 mb0 (0 : UInt64) (0 : UInt64) ya0 yb0 x2 x3 s0 s1 wd10 wd11 fc0 fc1 ga0 gb0 za0 zb0 h668 n0 Zq668 D F689 G qa.1 qa.2 co.1 (nn_of (no_fin (own_add0 co.2.1))) (nn_of (dsub_out (no_fin hd1.2.1.fin) co.2.1)) (nn_of (dadd_out (no_of mk0.2.2.2.2.1.1) co.2.1)) jfc1.1) hZ (hww 84 _ rfl) (hww 2 _ rfl) (by decide) (by decide)) (g := (mkF m 354 #[sr ob, si 0, si 0, si (((0 : Int32) ||| i455) ||| i625), si 1, si 2] [vI 1, vR ob])) rfl (by rw [hml]; rfl) (Steps.refl _) (a := ob) (by rw [e719]; exact q723) q723' (argsL := [(.int (1 : Int32))]) (rest := []) (lenOf pd__28I_29V rfl) rfl (by show 2 * 0 + _ ≤ _; exact Nat.le_of_eq rfl) (H d6_354) (fun _ _ => ⟨rfl, e719, (by decide : 0 + 0 ≤ _), (by decide : 0 + 0 ≤ _)⟩)
          dsimp only [Pt.U, Pt.locs, Pt.cells, Pt.slots] at X723 l723 y723 z723 st723 hQ723
          subst l723 y723 z723
          obtain ⟨h723, e723⟩ : ∃ h', T723.heap = h' := ⟨_, rfl⟩
          rw [e723] at hQ723
          obtain ⟨zq723, rfl, N723q, Kp723, NB723, hz723⟩ := hQ723
          have N724 := Fr.app N668 N723q
          have k725 : Rt p e below T723 (mkF m 357 #[sr ob, si 0, si 0, si (((0 : Int32) ||| i455) ||| i625), si 1, si 2] []) s₁ m #[(.ref ob)] 6 := fun t k => k722 t (st723.trans k)
          have Z723 : n0 ≤ h723.size := Nat.le_trans Zq668 Kp723.1
          exact ⟨T723, h723, _, (0 : UInt64), (FP.dadd (0 : UInt64) (own_cut x3 s1 wd11)), x2, (FP.dsub x3 (own_cut x3 s1 wd11)), ga0, (FP.dadd gb0 (own_cut x3 s1 wd11)), za0, zq723, X723, e723, N724, Z723, NB723, (mv_1 hd1 hs0 hs1 (Dq.mono hwd10 (by decide)) (Dq.mono hwd11 (by decide)) jfc0 jfc1 mk0.2.2.2.1 mk0.2.2.2.2.1 mk0.2.2.2.2.2.1 mk0.2.2.2.2.2.2 qa.2 hz723 (by decide) (by decide)), k725⟩
      · have k726 := f_ifY X701 hx k705 (H d6_343) (pc' := 357) ((if0 _ _).trans (feq qf).2) (by decide)
        exact ⟨T701, h668, _, (0 : UInt64), (0 : UInt64), x2, x3, ga0, gb0, za0, zb0, X701, e701, N668, Zq668, F689, (mv_s qf mk0.2.2.2.1 mk0.2.2.2.2.1 mk0.2.2.2.2.2.1 mk0.2.2.2.2.2.2 (by decide)), k726⟩
    have k728 := f_inc X706 hx kq706 (H d6_357) rfl (l' := #[sr ob, si 0, si 0, si (((0 : Int32) ||| i455) ||| i625), si 2, si 2]) rfl
    have k729 := f_go X706 hx k728 (H d6_360) (pc' := 322) (by decide)
    have k730 := f_il X706 hx k729 (H d6_322) rfl
    have k731 := f_alN X706 hx k730 (H d6_324) rfl
    obtain ⟨T732, X732, e732, k733⟩ := gFs X706 hx hZ hown (hww 43 _ rfl) e706 (nq14 F727) k731 (H d6_325)
    have k734 := f_icY X732 hx k733 (H d6_328) (pc' := 363) (flt (by decide)).2.1 (by decide)
    have k735 := f_ilN X732 hx k734 (H d6_363) rfl
    by_cases qc : (((0 : Int32) ||| i455) ||| i625) = (0 : Int32)
    · have k736 := f_ifY X732 hx k735 (H d6_364) (pc' := 513) ((if0 _ _).trans (teq qc).1) (by decide)
      have k737 := f_inc X732 hx k736 (H d6_513) rfl (l' := #[sr ob, si 0, si 1, si (((0 : Int32) ||| i455) ||| i625), si 2, si 2]) rfl
      have k738 := f_go X732 hx k737 (H d6_516) (pc' := 134) (by decide)
      have k739 := f_ilN X732 hx k738 (H d6_134) rfl
      have k740 := f_alN X732 hx k739 (H d6_135) rfl
      obtain ⟨T741, X741, e741, k742⟩ := gFs X732 hx hZ hown (hww 45 _ rfl) e732 (nq15 F727) k740 (H d6_136)
      have k743 := f_icN X741 hx k742 (H d6_139) (tlt (by decide)).2.1
      have k744 := f_ilN X741 hx k743 (H d6_142) rfl
      have k745 := f_ifY X741 hx k744 (H d6_143) (pc' := 519) ((if0 _ _).trans (teq (by decide)).1) (by decide)
      obtain ⟨fs, hr, hrun, hended, hW, hsame⟩ := X741.leave (v := none) (fun _ => rfl)
      refine ⟨_, _, k745 _ (X741.returnOut hx Bd.returns (H d6_519) hr), hrun, hended, _, _, rfl, ?_, ⟨_, rfl⟩, hW, hsame.mono (by decide) (by decide)⟩
      show Q_shr2 Z ob B K x0 x1 x2 x3 s0 s1 h0 n0 _ T741.heap _
      rw [e741]
      exact ⟨ma0, mb0, ma1, mb1, _, _, _, _, _, _, _, rfl, N706, Zq706, F727, ⟨mk0.1, mk0.2.1, mk1.1, mk1.2.1⟩⟩
    · have k746 := f_ifN X732 hx k735 (H d6_364) ((if0 _ _).trans (feq qc).1)
      have k747 := f_ic X732 hx k746 (H d6_367) (v := 0) rfl
      have k748 := f_is X732 hx k747 (H d6_368) (l' := #[sr ob, si 0, si 0, si (((0 : Int32) ||| i455) ||| i625), si 0, si 2]) rfl
      have k749 := f_il X732 hx k748 (H d6_370) rfl
      have k750 := f_alN X732 hx k749 (H d6_372) rfl
      obtain ⟨T751, X751, e751, k752⟩ := gFs X732 hx hZ hown (hww 47 _ rfl) e732 (nq16 F727) k750 (H d6_373)
      have k753 := f_icN X751 hx k752 (H d6_376) (tlt (by decide)).2.1
      have k754 := f_alN X751 hx k753 (H d6_379) rfl
      obtain ⟨T755, X755, e755, k756⟩ := gFs X751 hx hZ hown (hww 18 _ rfl) e751 (nq5 F727) k754 (H d6_380)
      have k757 := f_il X755 hx k756 (H d6_383) rfl
      have k758 := f_alN X755 hx k757 (H d6_385) rfl
      obtain ⟨T759, X759, e759, k760⟩ := gFs X755 hx hZ hown (hww 22 _ rfl) e755 (nq7 F727) k758 (H d6_386)
      have k761 := f_il X759 hx k760 (H d6_389) rfl
      have k762 := f_dal X759 hx hZ e759 (nq24 F727) k761 (H d6_391) (v := fc0) (by decide) rfl
      have k763 := f_d1 X759 hx k762 (H d6_392)
      have k764 := f_dc X759 hx k763 (H d6_393)
      obtain ⟨T765, h765, Ls765, rm0, X765, e765, N765, Zq765, F790, hrm0, kq765⟩ : ∃ (T765 : State) (h765 : Heap) (Ls765 : List Loc) (rm0 : UInt64), Stand p l e (rm 2 0 0 38) s m #[(.ref ob)] below meth c T765 Ls765 0 0 ∧ T765.heap = h765 ∧ Fr n0 Ls765 ∧ n0 ≤ h765.size ∧ NB Z h765 ob B K [(.double x0), (.double x1), (.double x2), (.double x3)] [(.double ma0), (.double mb0), (.double ma1), (.double mb1)] [(.double ya0), (.double yb0), (.double ya1), (.double yb1)] [(.double s0), (.double s1)] [(.double s0), (.double s1)] [(.double wd10), (.double wd11)] [(.double fc0), (.double fc1)] [(.double ga1), (.double gb1)] [(.int za1), (.int zb1)] [(.int f188), (.int f268)] [(.int (0 : Int32)), (.int (0 : Int32)), (.int (0 : Int32)), (.int (0 : Int32))] [(.int (0 : Int32)), (.int (1 : Int32))] [(.int (1 : Int32)), (.int (1 : Int32))] (2 : Int32) ∧ (cmpValue (FP.dcmp fc0 (4607182418800017408 : UInt64)) .g < (0 : Int32) → rm0 = (0 : UInt64)) ∧ (Rt p e below T765 (mkF m 430 #[sr ob, si 0, si 0, si (((0 : Int32) ||| i455) ||| i625), si 0, si 2] [vD rm0, vI 0, vR (B 4)]) s₁ m #[(.ref ob)] 6) := by
        by_cases ql : cmpValue (FP.dcmp fc0 (4607182418800017408 : UInt64)) .g < (0 : Int32)
        · have k766 := f_ifN X759 hx k764 (H d6_394) ((if0 _ _).trans (tlt ql).2.1)
          have k767 := f_alN X759 hx k766 (H d6_397) rfl
          obtain ⟨T768, X768, e768, k769⟩ := gFs X759 hx hZ hown (hww 27 _ rfl) e759 (nq9 F727) k767 (H d6_398)
          have k770 := f_il X768 hx k769 (H d6_401) rfl
          have k771 := f_bal X768 hx hZ e768 (nq26 F727) k770 (H d6_403) (v := za1) (by decide) rfl
          have k772 := f_ifN X768 hx k771 (H d6_404) ((if0 _ _).trans (teq (mk1.2.2.2.2.2.1 ql)).2)
          have k773 := f_d0 X768 hx k772 (H d6_407)
          have k774 := f_go X768 hx k773 (H d6_408) (pc' := 430) (by decide)
          exact ⟨T768, h706, _, (0 : UInt64), X768, e768, N706, Zq706, F727, (fun _ => rfl), k774⟩
        · have k775 := f_ifY X759 hx k764 (H d6_394) (pc' := 411) ((if0 _ _).trans (flt ql).2.1) (by decide)
          have k776 := f_d0 X759 hx k775 (H d6_411)
          have k777 := f_alN X759 hx k776 (H d6_412) rfl
          obtain ⟨T778, X778, e778, k779⟩ := gFs X759 hx hZ hown (hww 18 _ rfl) e759 (nq5 F727) k777 (H d6_413)
          have k780 := f_il X778 hx k779 (H d6_416) rfl
          have k781 := f_dal X778 hx hZ e778 (nq22 F727) k780 (H d6_418) (v := s0) (by decide) rfl
          have k782 := f_alN X778 hx k781 (H d6_419) rfl
          obtain ⟨T783, X783, e783, k784⟩ := gFs X778 hx hZ hown (hww 24 _ rfl) e778 (nq8 F727) k782 (H d6_420)
          have k785 := f_il X783 hx k784 (H d6_423) rfl
          have k786 := f_dal X783 hx hZ e783 (nq25 F727) k785 (H d6_425) (v := ga1) (by decide) rfl
          have k787 := f_dsub X783 hx k786 (H d6_426) ((GvOk.sub hs0 mk1.2.2.2.1))
          obtain ⟨T788, X788, e788, st788⟩ := natS X783 hx hZ (y := Jvm.Free.Fl.Abs.maxDN) hown (hww 108 _ rfl) (hww 109 _ rfl) (hww 110 _ rfl) (hww 111 _ rfl) (by decide) e783 (W := 2) (F := fun a' => a' = #[(.double (0 : UInt64)), (.double (FP.dsub s0 ga1))] ∧ Jvm.Free.Fl.NoNaN64 (0 : UInt64) ∧ Jvm.Free.Fl.NoNaN64 (FP.dsub s0 ga1)) (fun hq => Jvm.Free.Fl.Abs.maxD_pays (0 : UInt64) (FP.dsub s0 ga1) hq (by decide) (by decide)) (g := (mkF m 427 #[sr ob, si 0, si 0, si (((0 : Int32) ||| i455) ||| i625), si 0, si 2] [vD (FP.dsub s0 ga1), vD 0, vI 0, vR (B 4)])) rfl (by rw [hml]; rfl) (argsL := [(.double (0 : UInt64)), (.double (FP.dsub s0 ga1))]) (rest := [(.int (0 : Int32)), (.ref (B 4))]) (lenOf pd__28DD_29D rfl) rfl (by show 2 * 0 + _ ≤ _; exact Nat.le_of_eq rfl) (H d6_427) (by decide) (by decide) ⟨rfl, (dy0 0).nn, (GvOk.sub hs0 mk1.2.2.2.1)⟩ (congrArg Value.double rfl)
          have k789 : Rt p e below T788 (mkF m 430 #[sr ob, si 0, si 0, si (((0 : Int32) ||| i455) ||| i625), si 0, si 2] [vD (Native.java_lang_Math.nans.pick64 true (0 : UInt64) (FP.dsub s0 ga1)), vI 0, vR (B 4)]) s₁ m #[(.ref ob)] 6 := fun t k => k787 t (st788 t k)
          exact ⟨T788, h706, _, (Native.java_lang_Math.nans.pick64 true (0 : UInt64) (FP.dsub s0 ga1)), X788, e788, N706, Zq706, F727, (fun q => absurd q ql), k789⟩
      obtain ⟨T791, h791, L791, X791, e791, W791, V791, N791, Z791, k791⟩ := f_dst X765 hx hZ e765 (nq22 F790) N765 (G 4 (by decide)) Zq765 kq765 (H d6_430) (by decide) 0 rfl (lt_b rfl)
      have NB792 := nb_w4 D F790 W791 V791
      have k793 := f_inc X791 hx k791 (H d6_431) rfl (l' := #[sr ob, si 0, si 0, si (((0 : Int32) ||| i455) ||| i625), si 1, si 2]) rfl
      have k794 := f_go X791 hx k793 (H d6_434) (pc' := 370) (by decide)
      have k795 := f_il X791 hx k794 (H d6_370) rfl
      have k796 := f_alN X791 hx k795 (H d6_372) rfl
      obtain ⟨T797, X797, e797, k798⟩ := gFs X791 hx hZ hown (hww 47 _ rfl) e791 (nq16 NB792) k796 (H d6_373)
      have k799 := f_icN X797 hx k798 (H d6_376) (tlt (by decide)).2.1
      have k800 := f_alN X797 hx k799 (H d6_379) rfl
      obtain ⟨T801, X801, e801, k802⟩ := gFs X797 hx hZ hown (hww 18 _ rfl) e797 (nq5 NB792) k800 (H d6_380)
      have k803 := f_il X801 hx k802 (H d6_383) rfl
      have k804 := f_alN X801 hx k803 (H d6_385) rfl
      obtain ⟨T805, X805, e805, k806⟩ := gFs X801 hx hZ hown (hww 22 _ rfl) e801 (nq7 NB792) k804 (H d6_386)
      have k807 := f_il X805 hx k806 (H d6_389) rfl
      have k808 := f_dal X805 hx hZ e805 (nq24 NB792) k807 (H d6_391) (v := fc1) (by decide) rfl
      have k809 := f_d1 X805 hx k808 (H d6_392)
      have k810 := f_dc X805 hx k809 (H d6_393)
      obtain ⟨T811, h811, Ls811, rm1, X811, e811, N811, Zq811, F836, hrm1, kq811⟩ : ∃ (T811 : State) (h811 : Heap) (Ls811 : List Loc) (rm1 : UInt64), Stand p l e (rm 2 0 0 38) s m #[(.ref ob)] below meth c T811 Ls811 0 0 ∧ T811.heap = h811 ∧ Fr n0 Ls811 ∧ n0 ≤ h811.size ∧ NB Z h811 ob B K [(.double x0), (.double x1), (.double x2), (.double x3)] [(.double ma0), (.double mb0), (.double ma1), (.double mb1)] [(.double ya0), (.double yb0), (.double ya1), (.double yb1)] [(.double s0), (.double s1)] [(.double rm0), (.double s1)] [(.double wd10), (.double wd11)] [(.double fc0), (.double fc1)] [(.double ga1), (.double gb1)] [(.int za1), (.int zb1)] [(.int f188), (.int f268)] [(.int (0 : Int32)), (.int (0 : Int32)), (.int (0 : Int32)), (.int (0 : Int32))] [(.int (0 : Int32)), (.int (1 : Int32))] [(.int (1 : Int32)), (.int (1 : Int32))] (2 : Int32) ∧ (cmpValue (FP.dcmp fc1 (4607182418800017408 : UInt64)) .g < (0 : Int32) → rm1 = (0 : UInt64)) ∧ (Rt p e below T811 (mkF m 430 #[sr ob, si 0, si 0, si (((0 : Int32) ||| i455) ||| i625), si 1, si 2] [vD rm1, vI 1, vR (B 4)]) s₁ m #[(.ref ob)] 6) := by
        by_cases ql : cmpValue (FP.dcmp fc1 (4607182418800017408 : UInt64)) .g < (0 : Int32)
        · have k812 := f_ifN X805 hx k810 (H d6_394) ((if0 _ _).trans (tlt ql).2.1)
          have k813 := f_alN X805 hx k812 (H d6_397) rfl
          obtain ⟨T814, X814, e814, k815⟩ := gFs X805 hx hZ hown (hww 27 _ rfl) e805 (nq9 NB792) k813 (H d6_398)
          have k816 := f_il X814 hx k815 (H d6_401) rfl
          have k817 := f_bal X814 hx hZ e814 (nq26 NB792) k816 (H d6_403) (v := zb1) (by decide) rfl
          have k818 := f_ifN X814 hx k817 (H d6_404) ((if0 _ _).trans (teq (mk1.2.2.2.2.2.2 ql)).2)
          have k819 := f_d0 X814 hx k818 (H d6_407)
          have k820 := f_go X814 hx k819 (H d6_408) (pc' := 430) (by decide)
          exact ⟨T814, h791, _, (0 : UInt64), X814, e814, N791, Z791, NB792, (fun _ => rfl), k820⟩
        · have k821 := f_ifY X805 hx k810 (H d6_394) (pc' := 411) ((if0 _ _).trans (flt ql).2.1) (by decide)
          have k822 := f_d0 X805 hx k821 (H d6_411)
          have k823 := f_alN X805 hx k822 (H d6_412) rfl
          obtain ⟨T824, X824, e824, k825⟩ := gFs X805 hx hZ hown (hww 18 _ rfl) e805 (nq5 NB792) k823 (H d6_413)
          have k826 := f_il X824 hx k825 (H d6_416) rfl
          have k827 := f_dal X824 hx hZ e824 (nq22 NB792) k826 (H d6_418) (v := s1) (by decide) rfl
          have k828 := f_alN X824 hx k827 (H d6_419) rfl
          obtain ⟨T829, X829, e829, k830⟩ := gFs X824 hx hZ hown (hww 24 _ rfl) e824 (nq8 NB792) k828 (H d6_420)
          have k831 := f_il X829 hx k830 (H d6_423) rfl
          have k832 := f_dal X829 hx hZ e829 (nq25 NB792) k831 (H d6_425) (v := gb1) (by decide) rfl
          have k833 := f_dsub X829 hx k832 (H d6_426) ((GvOk.sub hs1 mk1.2.2.2.2.1))
          obtain ⟨T834, X834, e834, st834⟩ := natS X829 hx hZ (y := Jvm.Free.Fl.Abs.maxDN) hown (hww 108 _ rfl) (hww 109 _ rfl) (hww 110 _ rfl) (hww 111 _ rfl) (by decide) e829 (W := 2) (F := fun a' => a' = #[(.double (0 : UInt64)), (.double (FP.dsub s1 gb1))] ∧ Jvm.Free.Fl.NoNaN64 (0 : UInt64) ∧ Jvm.Free.Fl.NoNaN64 (FP.dsub s1 gb1)) (fun hq => Jvm.Free.Fl.Abs.maxD_pays (0 : UInt64) (FP.dsub s1 gb1) hq (by decide) (by decide)) (g := (mkF m 427 #[sr ob, si 0, si 0, si (((0 : Int32) ||| i455) ||| i625), si 1, si 2] [vD (FP.dsub s1 gb1), vD 0, vI 1, vR (B 4)])) rfl (by rw [hml]; rfl) (argsL := [(.double (0 : UInt64)), (.double (FP.dsub s1 gb1))]) (rest := [(.int (1 : Int32)), (.ref (B 4))]) (lenOf pd__28DD_29D rfl) rfl (by show 2 * 0 + _ ≤ _; exact Nat.le_of_eq rfl) (H d6_427) (by decide) (by decide) ⟨rfl, (dy0 0).nn, (GvOk.sub hs1 mk1.2.2.2.2.1)⟩ (congrArg Value.double rfl)
          have k835 : Rt p e below T834 (mkF m 430 #[sr ob, si 0, si 0, si (((0 : Int32) ||| i455) ||| i625), si 1, si 2] [vD (Native.java_lang_Math.nans.pick64 true (0 : UInt64) (FP.dsub s1 gb1)), vI 1, vR (B 4)]) s₁ m #[(.ref ob)] 6 := fun t k => k833 t (st834 t k)
          exact ⟨T834, h791, _, (Native.java_lang_Math.nans.pick64 true (0 : UInt64) (FP.dsub s1 gb1)), X834, e834, N791, Z791, NB792, (fun q => absurd q ql), k835⟩
      obtain ⟨T837, h837, L837, X837, e837, W837, V837, N837, Z837, k837⟩ := f_dst X811 hx hZ e811 (nq22 F836) N811 (G 4 (by decide)) Zq811 kq811 (H d6_430) (by decide) 1 rfl (lt_b rfl)
      have NB838 := nb_w4 D F836 W837 V837
      have k839 := f_inc X837 hx k837 (H d6_431) rfl (l' := #[sr ob, si 0, si 0, si (((0 : Int32) ||| i455) ||| i625), si 2, si 2]) rfl
      have k840 := f_go X837 hx k839 (H d6_434) (pc' := 370) (by decide)
      have k841 := f_il X837 hx k840 (H d6_370) rfl
      have k842 := f_alN X837 hx k841 (H d6_372) rfl
      obtain ⟨T843, X843, e843, k844⟩ := gFs X837 hx hZ hown (hww 47 _ rfl) e837 (nq16 NB838) k842 (H d6_373)
      have k845 := f_icY X843 hx k844 (H d6_376) (pc' := 437) (flt (by decide)).2.1 (by decide)
      have k846 := f_ic X843 hx k845 (H d6_437) (v := 0) rfl
      have k847 := f_is X843 hx k846 (H d6_438) (l' := #[sr ob, si 0, si 0, si (((0 : Int32) ||| i455) ||| i625), si 0, si 2]) rfl
      have k848 := f_il X843 hx k847 (H d6_440) rfl
      have k849 := f_alN X843 hx k848 (H d6_442) rfl
      obtain ⟨T850, X850, e850, k851⟩ := gFs X843 hx hZ hown (hww 43 _ rfl) e843 (nq14 NB838) k849 (H d6_443)
      have k852 := f_icN X850 hx k851 (H d6_446) (tlt (by decide)).2.1
      have k853 := f_alN X850 hx k852 (H d6_449) rfl
      obtain ⟨T854, X854, e854, k855⟩ := gFs X850 hx hZ hown (hww 34 _ rfl) e850 (nq12 NB838) k853 (H d6_450)
      have k856 := f_il X854 hx k855 (H d6_453) rfl
      have k857 := f_ial X854 hx hZ e854 (nq29 NB838) k856 (H d6_455) (v := 0) (by decide) rfl
      have k858 := f_is X854 hx k857 (H d6_456) (l' := #[sr ob, si 0, si 0, si (((0 : Int32) ||| i455) ||| i625), si 0, si 0]) rfl
      have k859 := f_alN X854 hx k858 (H d6_458) rfl
      obtain ⟨T860, X860, e860, k861⟩ := gFs X854 hx hZ hown (hww 29 _ rfl) e854 (nq10 NB838) k859 (H d6_459)
      have k862 := f_il X860 hx k861 (H d6_462) rfl
      have k863 := f_alN X860 hx k862 (H d6_464) rfl
      obtain ⟨T864, X864, e864, k865⟩ := gFs X860 hx hZ hown (hww 29 _ rfl) e860 (nq10 NB838) k863 (H d6_465)
      have k866 := f_il X864 hx k865 (H d6_468) rfl
      have k867 := f_bal X864 hx hZ e864 (nq27 NB838) k866 (H d6_470) (v := f188) (by decide) rfl
      obtain ⟨T868, h868, Ls868, X868, e868, N868, Zq868, F881, kq868⟩ : ∃ (T868 : State) (h868 : Heap) (Ls868 : List Loc), Stand p l e (rm 2 0 0 38) s m #[(.ref ob)] below meth c T868 Ls868 0 0 ∧ T868.heap = h868 ∧ Fr n0 Ls868 ∧ n0 ≤ h868.size ∧ NB Z h868 ob B K [(.double x0), (.double x1), (.double x2), (.double x3)] [(.double ma0), (.double mb0), (.double ma1), (.double mb1)] [(.double ya0), (.double yb0), (.double ya1), (.double yb1)] [(.double s0), (.double s1)] [(.double rm0), (.double rm1)] [(.double wd10), (.double wd11)] [(.double fc0), (.double fc1)] [(.double ga1), (.double gb1)] [(.int za1), (.int zb1)] [(.int f188), (.int f268)] [(.int (0 : Int32)), (.int (0 : Int32)), (.int (0 : Int32)), (.int (0 : Int32))] [(.int (0 : Int32)), (.int (1 : Int32))] [(.int (1 : Int32)), (.int (1 : Int32))] (2 : Int32) ∧ (Rt p e below T868 (mkF m 488 #[sr ob, si 0, si 0, si (((0 : Int32) ||| i455) ||| i625), si 0, si 0] [vI 1, vI 0, vR (B 9)]) s₁ m #[(.ref ob)] 6) := by
        by_cases qf : f188 = (0 : Int32)
        · have k869 := f_ifN X864 hx k867 (H d6_471) ((if0 _ _).trans (teq qf).2)
          have k870 := f_alN X864 hx k869 (H d6_474) rfl
          have k871 := f_il X864 hx k870 (H d6_475) rfl
          obtain ⟨cq872, q872, q872'⟩ := (nq0 NB838).cell
          obtain ⟨_, _, ⟨T872, L872, k872, n872⟩, -, X872, ⟨Lc872, hQ872, l872, y872, z872⟩, st872⟩ := X864.privateBack hx (y := (⟨"com/example/istra/istra/engine/NodeModel", "finished", "(I)Z"⟩ : MethodName)) hown (mvT hZ (hww 77 _ rfl)) (mvT hZ (hww 78 _ rfl)) (own_selP (mvT hZ (hww 41 _ rfl)) rfl (Cond.privateMethod_at (mvP hZ (hww 79 _ rfl) (args := #[]))) (mvT hZ (hww 78 _ rfl)) (by decide)) (Cond.privateMethod_at (mvP hZ (hww 79 _ rfl) (args := #[]))) (mvT hZ (hww 80 _ rfl)) (by decide) (backOf (W := 2) (fin0 l Z a0 hw [] ob B K [(.double x0), (.double x1), (.double x2), (.double x3)] [(.double ma0), (.double mb0), (.double ma1), (.double mb1)] [(.double s0), (.double s1)] [(.double wd10), (.double wd11)] [(.double fc0), (.double fc1)] [(.double ga1), (.double gb1)] [(.int za1), (.int zb1)] [(.int f188), (.int f268)] [(.int (0 : Int32)), (.int (1 : Int32))] [(.int (1 : Int32)), (.int (1 : Int32))] (2 : Int32) ya0 yb0 ya1 yb1 rm0 rm1 h837 n0 Z837 D NB838) hZ (hww 80 _ rfl) (hww 2 _ rfl) (by decide) (by decide)) (g := (mkF m 477 #[sr ob, si 0, si 0, si (((0 : Int32) ||| i455) ||| i625), si 0, si 0] [vI 0, vR ob, vI 0, vR (B 9)])) rfl (by rw [hml]; rfl) (Steps.refl _) (a := ob) (by rw [e864]; exact q872) q872' (argsL := [(.int (0 : Int32))]) (rest := [(.int (0 : Int32)), (.ref (B 9))]) (lenOf pd__28I_29Z rfl) rfl (by show 2 * 0 + _ ≤ _; exact Nat.le_of_eq rfl) (H d6_477) (fun _ _ => ⟨rfl, e864, (by decide : 0 + 0 ≤ _), (by decide : 0 + 0 ≤ _)⟩)
          dsimp only [Pt.U, Pt.locs, Pt.cells, Pt.slots] at X872 l872 y872 z872 st872 hQ872
          subst l872 y872 z872
          obtain ⟨h872, e872⟩ : ∃ h', T872.heap = h' := ⟨_, rfl⟩
          rw [e872] at hQ872
          obtain ⟨f872, rfl, N872q, hh872, fp872⟩ := hQ872
          have N873 := Fr.app N837 N872q
          have k874 : Rt p e below T872 (mkF m 480 #[sr ob, si 0, si 0, si (((0 : Int32) ||| i455) ||| i625), si 0, si 0] [vI f872, vI 0, vR (B 9)]) s₁ m #[(.ref ob)] 6 := fun t k => k871 t (st872.trans k)
          have ee872 : T872.heap = h837 := e872.trans hh872
          have k875 := f_ifN X872 hx k874 (H d6_480) ((if0 _ _).trans (feq (own_fin2 fp872 (own_rm hrm0 (mk0.2.2.1 qf).1) (own_rm hrm1 (mk0.2.2.1 qf).2))).1)
          have k876 := f_ic X872 hx k875 (H d6_483) (v := 1) rfl
          have k877 := f_go X872 hx k876 (H d6_484) (pc' := 488) (by decide)
          exact ⟨T872, h837, _, X872, ee872, N873, Z837, NB838, k877⟩
        · have k878 := f_ifY X864 hx k867 (H d6_471) (pc' := 483) ((if0 _ _).trans (feq qf).2) (by decide)
          have k879 := f_ic X864 hx k878 (H d6_483) (v := 1) rfl
          have k880 := f_go X864 hx k879 (H d6_484) (pc' := 488) (by decide)
          exact ⟨T864, h837, _, X864, e864, N837, Z837, NB838, k880⟩
      obtain ⟨T882, h882, L882, X882, e882, W882, V882, N882, Z882, k882⟩ := f_bst X868 hx hZ e868 (nq27 F881) N868 (G 9 (by decide)) Zq868 kq868 (H d6_488) (by decide) 0 rfl (lt_b rfl) (v' := 1) rfl
      have NB883 := nb_w9 D F881 W882 V882
      have k884 := f_ilN X882 hx k882 (H d6_489) rfl
      have k885 := f_alN X882 hx k884 (H d6_490) rfl
      obtain ⟨T886, X886, e886, k887⟩ := gFs X882 hx hZ hown (hww 29 _ rfl) e882 (nq10 NB883) k885 (H d6_491)
      have k888 := f_il X886 hx k887 (H d6_494) rfl
      have k889 := f_bal X886 hx hZ e886 (nq27 NB883) k888 (H d6_496) (v := 1) (by decide) rfl
      have k890 := f_ifY X886 hx k889 (H d6_497) (pc' := 504) ((if0 _ _).trans (feq (by decide)).2) (by decide)
      have k891 := f_ic X886 hx k890 (H d6_504) (v := 0) rfl
      have k892 := f_ior X886 hx k891 (H d6_505) (r := 0) (by decide)
      have k893 := f_isN X886 hx k892 (H d6_506) (l' := #[sr ob, si 0, si 0, si (((0 : Int32) ||| i455) ||| i625), si 0, si 0]) rfl
      have k894 := f_inc X886 hx k893 (H d6_507) rfl (l' := #[sr ob, si 0, si 0, si (((0 : Int32) ||| i455) ||| i625), si 1, si 0]) rfl
      have k895 := f_go X886 hx k894 (H d6_510) (pc' := 440) (by decide)
      have k896 := f_il X886 hx k895 (H d6_440) rfl
      have k897 := f_alN X886 hx k896 (H d6_442) rfl
      obtain ⟨T898, X898, e898, k899⟩ := gFs X886 hx hZ hown (hww 43 _ rfl) e886 (nq14 NB883) k897 (H d6_443)
      have k900 := f_icN X898 hx k899 (H d6_446) (tlt (by decide)).2.1
      have k901 := f_alN X898 hx k900 (H d6_449) rfl
      obtain ⟨T902, X902, e902, k903⟩ := gFs X898 hx hZ hown (hww 34 _ rfl) e898 (nq12 NB883) k901 (H d6_450)
      have k904 := f_il X902 hx k903 (H d6_453) rfl
      have k905 := f_ial X902 hx hZ e902 (nq29 NB883) k904 (H d6_455) (v := 1) (by decide) rfl
      have k906 := f_is X902 hx k905 (H d6_456) (l' := #[sr ob, si 0, si 0, si (((0 : Int32) ||| i455) ||| i625), si 1, si 1]) rfl
      have k907 := f_alN X902 hx k906 (H d6_458) rfl
      obtain ⟨T908, X908, e908, k909⟩ := gFs X902 hx hZ hown (hww 29 _ rfl) e902 (nq10 NB883) k907 (H d6_459)
      have k910 := f_il X908 hx k909 (H d6_462) rfl
      have k911 := f_alN X908 hx k910 (H d6_464) rfl
      obtain ⟨T912, X912, e912, k913⟩ := gFs X908 hx hZ hown (hww 29 _ rfl) e908 (nq10 NB883) k911 (H d6_465)
      have k914 := f_il X912 hx k913 (H d6_468) rfl
      have k915 := f_bal X912 hx hZ e912 (nq27 NB883) k914 (H d6_470) (v := f268) (by decide) rfl
      obtain ⟨T916, h916, Ls916, X916, e916, N916, Zq916, F929, kq916⟩ : ∃ (T916 : State) (h916 : Heap) (Ls916 : List Loc), Stand p l e (rm 2 0 0 38) s m #[(.ref ob)] below meth c T916 Ls916 0 0 ∧ T916.heap = h916 ∧ Fr n0 Ls916 ∧ n0 ≤ h916.size ∧ NB Z h916 ob B K [(.double x0), (.double x1), (.double x2), (.double x3)] [(.double ma0), (.double mb0), (.double ma1), (.double mb1)] [(.double ya0), (.double yb0), (.double ya1), (.double yb1)] [(.double s0), (.double s1)] [(.double rm0), (.double rm1)] [(.double wd10), (.double wd11)] [(.double fc0), (.double fc1)] [(.double ga1), (.double gb1)] [(.int za1), (.int zb1)] [(.int (1 : Int32)), (.int f268)] [(.int (0 : Int32)), (.int (0 : Int32)), (.int (0 : Int32)), (.int (0 : Int32))] [(.int (0 : Int32)), (.int (1 : Int32))] [(.int (1 : Int32)), (.int (1 : Int32))] (2 : Int32) ∧ (Rt p e below T916 (mkF m 488 #[sr ob, si 0, si 0, si (((0 : Int32) ||| i455) ||| i625), si 1, si 1] [vI 1, vI 1, vR (B 9)]) s₁ m #[(.ref ob)] 6) := by
        by_cases qf : f268 = (0 : Int32)
        · have k917 := f_ifN X912 hx k915 (H d6_471) ((if0 _ _).trans (teq qf).2)
          have k918 := f_alN X912 hx k917 (H d6_474) rfl
          have k919 := f_il X912 hx k918 (H d6_475) rfl
          obtain ⟨cq920, q920, q920'⟩ := (nq0 NB883).cell
          obtain ⟨_, _, ⟨T920, L920, k920, n920⟩, -, X920, ⟨Lc920, hQ920, l920, y920, z920⟩, st920⟩ := X912.privateBack hx (y := (⟨"com/example/istra/istra/engine/NodeModel", "finished", "(I)Z"⟩ : MethodName)) hown (mvT hZ (hww 77 _ rfl)) (mvT hZ (hww 78 _ rfl)) (own_selP (mvT hZ (hww 41 _ rfl)) rfl (Cond.privateMethod_at (mvP hZ (hww 79 _ rfl) (args := #[]))) (mvT hZ (hww 78 _ rfl)) (by decide)) (Cond.privateMethod_at (mvP hZ (hww 79 _ rfl) (args := #[]))) (mvT hZ (hww 80 _ rfl)) (by decide) (backOf (W := 2) (fin1 l Z a0 hw [] ob B K [(.double x0), (.double x1), (.double x2), (.double x3)] [(.double ma0), (.double mb0), (.double ma1), (.double mb1)] [(.double s0), (.double s1)] [(.double wd10), (.double wd11)] [(.double fc0), (.double fc1)] [(.double ga1), (.double gb1)] [(.int za1), (.int zb1)] [(.int (1 : Int32)), (.int f268)] [(.int (0 : Int32)), (.int (1 : Int32))] [(.int (1 : Int32)), (.int (1 : Int32))] (2 : Int32) ya0 yb0 ya1 yb1 rm0 rm1 h882 n0 Z882 D NB883) hZ (hww 80 _ rfl) (hww 2 _ rfl) (by decide) (by decide)) (g := (mkF m 477 #[sr ob, si 0, si 0, si (((0 : Int32) ||| i455) ||| i625), si 1, si 1] [vI 1, vR ob, vI 1, vR (B 9)])) rfl (by rw [hml]; rfl) (Steps.refl _) (a := ob) (by rw [e912]; exact q920) q920' (argsL := [(.int (1 : Int32))]) (rest := [(.int (1 : Int32)), (.ref (B 9))]) (lenOf pd__28I_29Z rfl) rfl (by show 2 * 0 + _ ≤ _; exact Nat.le_of_eq rfl) (H d6_477) (fun _ _ => ⟨rfl, e912, (by decide : 0 + 0 ≤ _), (by decide : 0 + 0 ≤ _)⟩)
          dsimp only [Pt.U, Pt.locs, Pt.cells, Pt.slots] at X920 l920 y920 z920 st920 hQ920
          subst l920 y920 z920
          obtain ⟨h920, e920⟩ : ∃ h', T920.heap = h' := ⟨_, rfl⟩
          rw [e920] at hQ920
          obtain ⟨f920, rfl, N920q, hh920, fp920⟩ := hQ920
          have N921 := Fr.app N882 N920q
          have k922 : Rt p e below T920 (mkF m 480 #[sr ob, si 0, si 0, si (((0 : Int32) ||| i455) ||| i625), si 1, si 1] [vI f920, vI 1, vR (B 9)]) s₁ m #[(.ref ob)] 6 := fun t k => k919 t (st920.trans k)
          have ee920 : T920.heap = h882 := e920.trans hh920
          have k923 := f_ifN X920 hx k922 (H d6_480) ((if0 _ _).trans (feq (own_fin2 fp920 (own_rm hrm0 (mk1.2.2.1 qf).1) (own_rm hrm1 (mk1.2.2.1 qf).2))).1)
          have k924 := f_ic X920 hx k923 (H d6_483) (v := 1) rfl
          have k925 := f_go X920 hx k924 (H d6_484) (pc' := 488) (by decide)
          exact ⟨T920, h882, _, X920, ee920, N921, Z882, NB883, k925⟩
        · have k926 := f_ifY X912 hx k915 (H d6_471) (pc' := 483) ((if0 _ _).trans (feq qf).2) (by decide)
          have k927 := f_ic X912 hx k926 (H d6_483) (v := 1) rfl
          have k928 := f_go X912 hx k927 (H d6_484) (pc' := 488) (by decide)
          exact ⟨T912, h882, _, X912, e912, N882, Z882, NB883, k928⟩
      obtain ⟨T930, h930, L930, X930, e930, W930, V930, N930, Z930, k930⟩ := f_bst X916 hx hZ e916 (nq27 F929) N916 (G 9 (by decide)) Zq916 kq916 (H d6_488) (by decide) 1 rfl (lt_b rfl) (v' := 1) rfl
      have NB931 := nb_w9 D F929 W930 V930
      have k932 := f_ilN X930 hx k930 (H d6_489) rfl
      have k933 := f_alN X930 hx k932 (H d6_490) rfl
      obtain ⟨T934, X934, e934, k935⟩ := gFs X930 hx hZ hown (hww 29 _ rfl) e930 (nq10 NB931) k933 (H d6_491)
      have k936 := f_il X934 hx k935 (H d6_494) rfl
      have k937 := f_bal X934 hx hZ e934 (nq27 NB931) k936 (H d6_496) (v := 1) (by decide) rfl
      have k938 := f_ifY X934 hx k937 (H d6_497) (pc' := 504) ((if0 _ _).trans (feq (by decide)).2) (by decide)
      have k939 := f_ic X934 hx k938 (H d6_504) (v := 0) rfl
      have k940 := f_ior X934 hx k939 (H d6_505) (r := 0) (by decide)
      have k941 := f_isN X934 hx k940 (H d6_506) (l' := #[sr ob, si 0, si 0, si (((0 : Int32) ||| i455) ||| i625), si 1, si 1]) rfl
      have k942 := f_inc X934 hx k941 (H d6_507) rfl (l' := #[sr ob, si 0, si 0, si (((0 : Int32) ||| i455) ||| i625), si 2, si 1]) rfl
      have k943 := f_go X934 hx k942 (H d6_510) (pc' := 440) (by decide)
      have k944 := f_il X934 hx k943 (H d6_440) rfl
      have k945 := f_alN X934 hx k944 (H d6_442) rfl
      obtain ⟨T946, X946, e946, k947⟩ := gFs X934 hx hZ hown (hww 43 _ rfl) e934 (nq14 NB931) k945 (H d6_443)
      have k948 := f_icY X946 hx k947 (H d6_446) (pc' := 513) (flt (by decide)).2.1 (by decide)
      have k949 := f_inc X946 hx k948 (H d6_513) rfl (l' := #[sr ob, si 0, si 1, si (((0 : Int32) ||| i455) ||| i625), si 2, si 1]) rfl
      have k950 := f_go X946 hx k949 (H d6_516) (pc' := 134) (by decide)
      have k951 := f_ilN X946 hx k950 (H d6_134) rfl
      have k952 := f_alN X946 hx k951 (H d6_135) rfl
      obtain ⟨T953, X953, e953, k954⟩ := gFs X946 hx hZ hown (hww 45 _ rfl) e946 (nq15 NB931) k952 (H d6_136)
      have k955 := f_icN X953 hx k954 (H d6_139) (tlt (by decide)).2.1
      have k956 := f_ilN X953 hx k955 (H d6_142) rfl
      have k957 := f_ifY X953 hx k956 (H d6_143) (pc' := 519) ((if0 _ _).trans (teq (by decide)).1) (by decide)
      obtain ⟨fs, hr, hrun, hended, hW, hsame⟩ := X953.leave (v := none) (fun _ => rfl)
      refine ⟨_, _, k957 _ (X953.returnOut hx Bd.returns (H d6_519) hr), hrun, hended, _, _, rfl, ?_, ⟨_, rfl⟩, hW, hsame.mono (by decide) (by decide)⟩
      show Q_shr2 Z ob B K x0 x1 x2 x3 s0 s1 h0 n0 _ T953.heap _
      rw [e953]
      exact ⟨ma0, mb0, ma1, mb1, _, _, _, _, _, _, _, rfl, N930, Z930, NB931, ⟨mk0.1, mk0.2.1, mk1.1, mk1.2.1⟩⟩
def Q_shr1 (Z : State) (ob : Addr) (B : Nat → Addr) (K : Nat → ClassId) (x2 : UInt64) (x3 : UInt64) (s0 : UInt64) (s1 : UInt64) (h0 : Heap) (n0 : Nat) (v : Option Value) (h : Heap) (L : List Loc) : Prop := ∃ (m0 m1 m2 m3 : UInt64) (l2 l4 l5 l6 l7 l8 l9 : List Value), v = none ∧ Fr n0 L ∧ n0 ≤ h.size ∧ NB Z h ob B K [(.double (0 : UInt64)), (.double (0 : UInt64)), (.double x2), (.double x3)] [(.double m0), (.double m1), (.double m2), (.double m3)] l2 [(.double s0), (.double s1)] l4 l5 l6 l7 l8 l9 [(.int (0 : Int32)), (.int (0 : Int32)), (.int (0 : Int32)), (.int (0 : Int32))] [(.int (1 : Int32)), (.int (0 : Int32))] [(.int (0 : Int32)), (.int (1 : Int32))] (1 : Int32) ∧ own_mq m0 m1 m2 m3 ∧ m0 = (0 : UInt64) ∧ m1 = (0 : UInt64)
set_option maxRecDepth 65536 in
set_option maxHeartbeats 40000000 in
theorem shr1 (l : Launch) (Z : State) (a0 : Array Value) (hw : ∀ d ∈ tables_1, d.before a0 Z = true) (ws : List Jvm.Cond) (ob : Addr) (B : Nat → Addr) (K : Nat → ClassId) (x2 : UInt64) (x3 : UInt64) (s0 : UInt64) (s1 : UInt64) (h0 : Heap) (n0 : Nat) (Z0 : n0 ≤ h0.size) (D : Dis ob B) (gob : n0 ≤ ob) (G : ∀ i, i < 13 → n0 ≤ B i) (NB0 : NB Z h0 ob B K [(.double (0 : UInt64)), (.double (0 : UInt64)), (.double x2), (.double x3)] [(.double (0 : UInt64)), (.double (0 : UInt64)), (.double (0 : UInt64)), (.double (0 : UInt64))] [(.double (0 : UInt64)), (.double (0 : UInt64)), (.double (0 : UInt64)), (.double (0 : UInt64))] [(.double s0), (.double s1)] [(.double (0 : UInt64)), (.double (0 : UInt64))] [(.double (0 : UInt64)), (.double (0 : UInt64))] [(.double (0 : UInt64)), (.double (0 : UInt64))] [(.double (0 : UInt64)), (.double (0 : UInt64))] [(.int (0 : Int32)), (.int (0 : Int32))] [(.int (0 : Int32)), (.int (0 : Int32))] [(.int (0 : Int32)), (.int (0 : Int32)), (.int (0 : Int32)), (.int (0 : Int32))] [(.int (1 : Int32)), (.int (0 : Int32))] [(.int (0 : Int32)), (.int (1 : Int32))] (1 : Int32)) (hd1 : own_dem x2 x3) (hs0 : SupQ s0) (hs1 : SupQ s1) :
    Met l (⟨"com/example/istra/istra/engine/NodeModel", "share", "()V"⟩ : MethodName) prog_40_method_11_code 6 none ws (rm 2 0 0 38) #[(.ref ob)] Z h0 (Q_shr1 Z ob B K x2 x3 s0 s1 h0 n0) := by
  refine MetFree.of_bodySF (plainFor_of_name pn_com_2fexample_2fistra_2fistra_2fengine_2fNodeModel) hisR ?_
  intro p e s m args below meth c s₁ Bd hml0 hP hK
  obtain ⟨rfl, hZ, hh⟩ := hP
  have hx := Bd.exec
  have hby := Bd.bytes
  have hml : c.maxLocals = 6 := hml0
  have hown : s.vm.findClass "com/example/istra/istra/engine/NodeModel" = some m.cls := findClass_of_methodNamed Bd.named
  have hnm := (name_of_methodNamed Bd.named Bd.method).1
  have X0 : Stand p l e (rm 2 0 0 38) s m #[(.ref ob)] below meth c s₁ [] 0 0 := Stand.of_body Bd
  have e0 : s₁.heap = h0 := by rw [← hh, Bd.state]; rfl
  have N0 := Fr.nil n0
  have hww := fun (i : Nat) (c : Jvm.Cond) (h : tables_1[i]? = some c) => hw c (List.mem_of_getElem? h)
  have k0 : Rt p e below s₁ (mkF m 0 #[sr ob, un, un, un, un, un] []) s₁ m #[(.ref ob)] 6 := fun t k => castTop (ef_6_R m ob) k
  have H : ∀ {pc r}, decode prog_40_method_11_code pc = r → decode c.code pc = r := fun d => hb hby d
  have k101 := f_alN X0 hx k0 (H d6_0) rfl
  obtain ⟨T102, X102, e102, k103⟩ := gFs X0 hx hZ hown (hww 45 _ rfl) e0 (nq15 NB0) k101 (H d6_1)
  have k104 := f_ic X102 hx k103 (H d6_4) (v := 1) rfl
  have k105 := f_icY X102 hx k104 (H d6_5) (pc' := 13) (feq (by decide)).2 (by decide)
  have k106 := f_alN X102 hx k105 (H d6_13) rfl
  obtain ⟨T107, X107, e107, k108⟩ := gFs X102 hx hZ hown (hww 16 _ rfl) e102 (nq4 NB0) k106 (H d6_14)
  have k109 := f_ic X107 hx k108 (H d6_17) (v := 0) rfl
  have k110 := f_alN X107 hx k109 (H d6_18) rfl
  obtain ⟨T111, X111, e111, k112⟩ := gFs X107 hx hZ hown (hww 18 _ rfl) e107 (nq5 NB0) k110 (H d6_19)
  have k113 := f_ic X111 hx k112 (H d6_22) (v := 0) rfl
  have k114 := f_alN X111 hx k113 (H d6_23) rfl
  obtain ⟨T115, X115, e115, k116⟩ := gFs X111 hx hZ hown (hww 47 _ rfl) e111 (nq16 NB0) k114 (H d6_24)
  obtain ⟨T117, h117, Lc117, X117, e117, N117, K117, Vc117, st117⟩ := cpA X115 hx hZ hown (hww 66 _ rfl) (hww 69 _ rfl) (hww 67 _ rfl) (hww 68 _ rfl) e115 (nq21 NB0) (nq22 NB0) (Or.inl ⟨rfl, rfl⟩) (sp := (0 : Int32)) (dp := (0 : Int32)) (nn := (2 : Int32)) (us := [(.double s0), (.double s1)]) (by decide) (by decide) (by decide) (by decide) (by decide) rfl (Nat.le_of_ble_eq_true rfl) N0 (G 4 (by decide)) (g := (mkF m 27 #[sr ob, un, un, un, un, un] [vI 2, vI 0, vR (B 4), vI 0, vR (B 3)])) rfl (by rw [hml]; rfl) rfl (H d6_27) (by decide) (W := 0) (by show 2 * 0 + _ ≤ _; exact Nat.le_of_eq rfl) (by decide)
  have V118 : Arv Z h117 (B 4) (K 4) .double (2 : Int32) [(.double s0), (.double s1)] (.double (0 : UInt64)) := Vc117
  have Z119 : n0 ≤ h117.size := Nat.le_trans Z0 K117.1
  have NB120 := nb_k4 D NB0 K117 V118
  have k121 : Rt p e below T117 (mkF m 30 #[sr ob, un, un, un, un, un] []) s₁ m #[(.ref ob)] 6 := fun t k => k116 t (st117 t k)
  have k122 := f_ic X117 hx k121 (H d6_30) (v := 0) rfl
  have k123 := f_isN X117 hx k122 (H d6_31) (l' := #[sr ob, si 0, un, un, un, un]) rfl
  have k124 := f_ic X117 hx k123 (H d6_32) (v := 0) rfl
  have k125 := f_isN X117 hx k124 (H d6_33) (l' := #[sr ob, si 0, si 0, un, un, un]) rfl
  have k126 := f_ilN X117 hx k125 (H d6_34) rfl
  have k127 := f_alN X117 hx k126 (H d6_35) rfl
  obtain ⟨T128, X128, e128, k129⟩ := gFs X117 hx hZ hown (hww 43 _ rfl) e117 (nq14 NB120) k127 (H d6_36)
  have k130 := f_icN X128 hx k129 (H d6_39) (tlt (by decide)).2.1
  have k131 := f_alN X128 hx k130 (H d6_42) rfl
  obtain ⟨T132, X132, e132, k133⟩ := gFs X128 hx hZ hown (hww 34 _ rfl) e128 (nq12 NB120) k131 (H d6_43)
  have k134 := f_ilN X132 hx k133 (H d6_46) rfl
  have k135 := f_ial X132 hx hZ e132 (nq29 NB120) k134 (H d6_47) (v := 1) (by decide) rfl
  have k136 := f_isN X132 hx k135 (H d6_48) (l' := #[sr ob, si 0, si 0, si 1, un, un]) rfl
  have k137 := f_alN X132 hx k136 (H d6_49) rfl
  obtain ⟨T138, X138, e138, k139⟩ := gFs X132 hx hZ hown (hww 10 _ rfl) e132 (nq1 NB120) k137 (H d6_50)
  have k140 := f_ilN X138 hx k139 (H d6_53) rfl
  have k141 := f_alN X138 hx k140 (H d6_54) rfl
  obtain ⟨T142, X142, e142, k143⟩ := gFs X138 hx hZ hown (hww 47 _ rfl) e138 (nq16 NB120) k141 (H d6_55)
  have k144 := f_imul X142 hx k143 (H d6_58) (r := 2) (by decide)
  have k145 := f_alN X142 hx k144 (H d6_59) rfl
  obtain ⟨T146, X146, e146, k147⟩ := gFs X142 hx hZ hown (hww 14 _ rfl) e142 (nq3 NB120) k145 (H d6_60)
  have k148 := f_ilN X146 hx k147 (H d6_63) rfl
  have k149 := f_alN X146 hx k148 (H d6_64) rfl
  obtain ⟨T150, X150, e150, k151⟩ := gFs X146 hx hZ hown (hww 47 _ rfl) e146 (nq16 NB120) k149 (H d6_65)
  have k152 := f_imul X150 hx k151 (H d6_68) (r := 2) (by decide)
  have k153 := f_alN X150 hx k152 (H d6_69) rfl
  obtain ⟨T154, X154, e154, k155⟩ := gFs X150 hx hZ hown (hww 47 _ rfl) e150 (nq16 NB120) k153 (H d6_70)
  obtain ⟨T156, h156, Lc156, X156, e156, N156, K156, Vc156, st156⟩ := cpA X154 hx hZ hown (hww 66 _ rfl) (hww 69 _ rfl) (hww 67 _ rfl) (hww 68 _ rfl) e154 (nq18 NB120) (nq20 NB120) (Or.inl ⟨rfl, rfl⟩) (sp := (2 : Int32)) (dp := (2 : Int32)) (nn := (2 : Int32)) (us := [(.double x2), (.double x3)]) (by decide) (by decide) (by decide) (by decide) (by decide) rfl (Nat.le_of_ble_eq_true rfl) N117 (G 2 (by decide)) (g := (mkF m 73 #[sr ob, si 0, si 0, si 1, un, un] [vI 2, vI 2, vR (B 2), vI 2, vR (B 0)])) rfl (by rw [hml]; rfl) rfl (H d6_73) (by decide) (W := 0) (by show 2 * 0 + _ ≤ _; exact Nat.le_of_eq rfl) (by decide)
  have V157 : Arv Z h156 (B 2) (K 2) .double (4 : Int32) [(.double (0 : UInt64)), (.double (0 : UInt64)), (.double x2), (.double x3)] (.double (0 : UInt64)) := Vc156
  have Z158 : n0 ≤ h156.size := Nat.le_trans Z119 K156.1
  have NB159 := nb_k2 D NB120 K156 V157
  have k160 : Rt p e below T156 (mkF m 76 #[sr ob, si 0, si 0, si 1, un, un] []) s₁ m #[(.ref ob)] 6 := fun t k => k155 t (st156 t k)
  have k161 := f_alN X156 hx k160 (H d6_76) rfl
  obtain ⟨T162, X162, e162, k163⟩ := gFs X156 hx hZ hown (hww 12 _ rfl) e156 (nq2 NB159) k161 (H d6_77)
  have k164 := f_ilN X162 hx k163 (H d6_80) rfl
  have k165 := f_alN X162 hx k164 (H d6_81) rfl
  obtain ⟨T166, X166, e166, k167⟩ := gFs X162 hx hZ hown (hww 47 _ rfl) e162 (nq16 NB159) k165 (H d6_82)
  have k168 := f_imul X166 hx k167 (H d6_85) (r := 2) (by decide)
  have k169 := f_ilN X166 hx k168 (H d6_86) rfl
  have k170 := f_ic X166 hx k169 (H d6_87) (v := 1) rfl
  have k171 := f_iadd X166 hx k170 (H d6_88) (r := 2) (by decide)
  have k172 := f_alN X166 hx k171 (H d6_89) rfl
  obtain ⟨T173, X173, e173, k174⟩ := gFs X166 hx hZ hown (hww 47 _ rfl) e166 (nq16 NB159) k172 (H d6_90)
  have k175 := f_imul X173 hx k174 (H d6_93) (r := 4) (by decide)
  have k176 := f_d0 X173 hx k175 (H d6_94)
  obtain ⟨_, _, ⟨T177, L177, k177, n177⟩, -, X177, ⟨Lc177, hQ177, l177, y177, z177⟩, st177⟩ := Jvm.LawKit.callS X173 hx (y := (⟨"java/util/Arrays", "fill", "([DIID)V"⟩ : MethodName)) hown (mvT hZ (hww 70 _ rfl)) (mvT hZ (hww 71 _ rfl)) (mvT hZ (hww 72 _ rfl)) (mvT hZ (hww 73 _ rfl)) (by decide) (backOf (W := 0) (fil1 l Z a0 hw [] (B 1) (K 1) (0 : UInt64) (0 : UInt64) (0 : UInt64) (0 : UInt64) h156 n0 Z158 (nq19 NB159) (G 1 (by decide))) hZ (hww 73 _ rfl) (hww 72 _ rfl) (by decide) (by decide)) (g := (mkF m 95 #[sr ob, si 0, si 0, si 1, un, un] [vD 0, vI 4, vI 2, vR (B 1)])) rfl (by rw [hml]; rfl) (argsL := [(.ref (B 1)), (.int (2 : Int32)), (.int (4 : Int32)), (.double (0 : UInt64))]) (rest := []) (lenOf pd__28_5bDIID_29V rfl) rfl (by show 2 * 0 + _ ≤ _; exact Nat.le_of_eq rfl) (H d6_95) (fun _ _ => ⟨rfl, e173, (by decide : 0 + 0 ≤ _), (by decide : 0 + 0 ≤ _)⟩)
  dsimp only [Pt.U, Pt.locs, Pt.cells, Pt.slots] at X177 l177 y177 z177 st177 hQ177
  subst l177 y177 z177
  obtain ⟨h177, e177⟩ : ∃ h', T177.heap = h' := ⟨_, rfl⟩
  rw [e177] at hQ177
  obtain ⟨rfl, N177q, Kp177, V177⟩ := hQ177
  have N178 := Fr.app N156 N177q
  have k179 : Rt p e below T177 (mkF m 98 #[sr ob, si 0, si 0, si 1, un, un] []) s₁ m #[(.ref ob)] 6 := fun t k => k176 t (st177 t k)
  have Z180 : n0 ≤ h177.size := Nat.le_trans Z158 Kp177.1
  have NB181 := nb_k1 D NB159 Kp177 V177
  have k182 := f_alN X177 hx k179 (H d6_98) rfl
  obtain ⟨T183, X183, e183, k184⟩ := gFs X177 hx hZ hown (hww 29 _ rfl) e177 (nq10 NB181) k182 (H d6_99)
  have k185 := f_ilN X183 hx k184 (H d6_102) rfl
  have k186 := f_alN X183 hx k185 (H d6_103) rfl
  have k187 := f_ilN X183 hx k186 (H d6_104) rfl
  obtain ⟨cq188, q188, q188'⟩ := (nq0 NB181).cell
  obtain ⟨_, _, ⟨T188, L188, k188, n188⟩, -, X188, ⟨Lc188, hQ188, l188, y188, z188⟩, st188⟩ := X183.privateBack hx (y := (⟨"com/example/istra/istra/engine/NodeModel", "finished", "(I)Z"⟩ : MethodName)) hown (mvT hZ (hww 77 _ rfl)) (mvT hZ (hww 78 _ rfl)) (own_selP (mvT hZ (hww 41 _ rfl)) rfl (Cond.privateMethod_at (mvP hZ (hww 79 _ rfl) (args := #[]))) (mvT hZ (hww 78 _ rfl)) (by decide)) (Cond.privateMethod_at (mvP hZ (hww 79 _ rfl) (args := #[]))) (mvT hZ (hww 80 _ rfl)) (by decide) (backOf (W := 2) (fin1 l Z a0 hw [] ob B K [(.double (0 : UInt64)), (.double (0 : UInt64)), (.double x2), (.double x3)] [(.double (0 : UInt64)), (.double (0 : UInt64)), (.double (0 : UInt64)), (.double (0 : UInt64))] [(.double s0), (.double s1)] [(.double (0 : UInt64)), (.double (0 : UInt64))] [(.double (0 : UInt64)), (.double (0 : UInt64))] [(.double (0 : UInt64)), (.double (0 : UInt64))] [(.int (0 : Int32)), (.int (0 : Int32))] [(.int (0 : Int32)), (.int (0 : Int32))] [(.int (1 : Int32)), (.int (0 : Int32))] [(.int (0 : Int32)), (.int (1 : Int32))] (1 : Int32) (0 : UInt64) (0 : UInt64) x2 x3 s0 s1 h177 n0 Z180 D NB181) hZ (hww 80 _ rfl) (hww 2 _ rfl) (by decide) (by decide)) (g := (mkF m 105 #[sr ob, si 0, si 0, si 1, un, un] [vI 1, vR ob, vI 1, vR (B 9)])) rfl (by rw [hml]; rfl) (Steps.refl _) (a := ob) (by rw [e183]; exact q188) q188' (argsL := [(.int (1 : Int32))]) (rest := [(.int (1 : Int32)), (.ref (B 9))]) (lenOf pd__28I_29Z rfl) rfl (by show 2 * 0 + _ ≤ _; exact Nat.le_of_eq rfl) (H d6_105) (fun _ _ => ⟨rfl, e183, (by decide : 0 + 0 ≤ _), (by decide : 0 + 0 ≤ _)⟩)
  dsimp only [Pt.U, Pt.locs, Pt.cells, Pt.slots] at X188 l188 y188 z188 st188 hQ188
  subst l188 y188 z188
  obtain ⟨h188, e188⟩ : ∃ h', T188.heap = h' := ⟨_, rfl⟩
  rw [e188] at hQ188
  obtain ⟨f188, rfl, N188q, hh188, fp188⟩ := hQ188
  have N189 := Fr.app N178 N188q
  have k190 : Rt p e below T188 (mkF m 108 #[sr ob, si 0, si 0, si 1, un, un] [vI f188, vI 1, vR (B 9)]) s₁ m #[(.ref ob)] 6 := fun t k => k187 t (st188.trans k)
  have ee188 : T188.heap = h177 := e188.trans hh188
  obtain ⟨T191, h191, L191, X191, e191, W191, V191, N191, Z191, k191⟩ := f_bst X188 hx hZ ee188 (nq27 NB181) N189 (G 9 (by decide)) Z180 k190 (H d6_108) (by decide) 1 rfl (lt_b rfl) (v' := f188) (own_nar1 fp188.1)
  have NB192 := nb_w9 D NB181 W191 V191
  have k193 := f_ilN X191 hx k191 (H d6_109) rfl
  have k194 := f_alN X191 hx k193 (H d6_110) rfl
  obtain ⟨T195, X195, e195, k196⟩ := gFs X191 hx hZ hown (hww 29 _ rfl) e191 (nq10 NB192) k194 (H d6_111)
  have k197 := f_ilN X195 hx k196 (H d6_114) rfl
  have k198 := f_bal X195 hx hZ e195 (nq27 NB192) k197 (H d6_115) (v := f188) (by decide) rfl
  obtain ⟨i200, hi200⟩ : ∃ z : Int32, z = (if f188 = (0 : Int32) then (1 : Int32) else (0 : Int32)) := ⟨_, rfl⟩
  have k201 : Rt p e below T195 (mkF m 124 #[sr ob, si 0, si 0, si 1, un, un] [vI i200, vI 0]) s₁ m #[(.ref ob)] 6 := fun t k => k198 t (by
    by_cases c199 : f188 = (0 : Int32)
    · rw [if_pos c199] at hi200
      show Sp p e below T195 (mkF m 116 #[sr ob, si 0, si 0, si 1, un, un] [vI f188, vI 0]) _
      refine XS.ifNo X195.here hx rfl (hb hby d6_116) rfl ((if0 _ _).trans (teq c199).2) ?_
      refine XS.iconst X195.here hx rfl (hb hby d6_119) ?_
      refine XS.goto X195.here hx rfl (pc0 := 120) (pc' := 124) rfl (hb hby d6_120) (by decide) (by decide) ?_
      show Sp p e below T195 (mkF m 124 #[sr ob, si 0, si 0, si 1, un, un] [vI 1, vI 0]) _
      exact castTop (by rw [hi200]) k
    · rw [if_neg c199] at hi200
      show Sp p e below T195 (mkF m 116 #[sr ob, si 0, si 0, si 1, un, un] [vI f188, vI 0]) _
      refine XS.ifYes X195.here hx rfl (pc0 := 116) (pc' := 123) rfl (hb hby d6_116) rfl ((if0 _ _).trans (feq c199).2) (by decide) (by decide) ?_
      refine XS.iconst X195.here hx rfl (hb hby d6_123) ?_
      show Sp p e below T195 (mkF m 124 #[sr ob, si 0, si 0, si 1, un, un] [vI 0, vI 0]) _
      exact castTop (by rw [hi200]) k)
  have k202 := f_ior X195 hx k201 (H d6_124) rfl
  have k203 := f_isN X195 hx k202 (H d6_125) (l' := #[sr ob, si ((0 : Int32) ||| i200), si 0, si 1, un, un]) rfl
  have k204 := f_inc X195 hx k203 (H d6_126) rfl (l' := #[sr ob, si ((0 : Int32) ||| i200), si 1, si 1, un, un]) rfl
  have k205 := f_go X195 hx k204 (H d6_129) (pc' := 34) (by decide)
  have k206 := f_ilN X195 hx k205 (H d6_34) rfl
  have k207 := f_alN X195 hx k206 (H d6_35) rfl
  obtain ⟨T208, X208, e208, k209⟩ := gFs X195 hx hZ hown (hww 43 _ rfl) e195 (nq14 NB192) k207 (H d6_36)
  have k210 := f_icY X208 hx k209 (H d6_39) (pc' := 132) (flt (by decide)).2.1 (by decide)
  have k211 := f_ic X208 hx k210 (H d6_132) (v := 0) rfl
  have k212 := f_isN X208 hx k211 (H d6_133) (l' := #[sr ob, si ((0 : Int32) ||| i200), si 0, si 1, un, un]) rfl
  have k213 := f_ilN X208 hx k212 (H d6_134) rfl
  have k214 := f_alN X208 hx k213 (H d6_135) rfl
  obtain ⟨T215, X215, e215, k216⟩ := gFs X208 hx hZ hown (hww 45 _ rfl) e208 (nq15 NB192) k214 (H d6_136)
  have k217 := f_icN X215 hx k216 (H d6_139) (tlt (by decide)).2.1
  have k218 := f_ilN X215 hx k217 (H d6_142) rfl
  by_cases qo : ((0 : Int32) ||| i200) = (0 : Int32)
  · have k219 := f_ifY X215 hx k218 (H d6_143) (pc' := 519) ((if0 _ _).trans (teq qo).1) (by decide)
    obtain ⟨fs, hr, hrun, hended, hW, hsame⟩ := X215.leave (v := none) (fun _ => rfl)
    refine ⟨_, _, k219 _ (X215.returnOut hx Bd.returns (H d6_519) hr), hrun, hended, _, _, rfl, ?_, ⟨_, rfl⟩, hW, hsame.mono (by decide) (by decide)⟩
    show Q_shr1 Z ob B K x2 x3 s0 s1 h0 n0 _ T215.heap _
    rw [e215]
    exact ⟨(0 : UInt64), (0 : UInt64), (0 : UInt64), (0 : UInt64), _, _, _, _, _, _, _, rfl, N191, Z191, NB192, own_mq0, rfl, rfl⟩
  · have k220 := f_ifN X215 hx k218 (H d6_143) ((if0 _ _).trans (feq qo).1)
    have k221 := f_ic X215 hx k220 (H d6_146) (v := 0) rfl
    have k222 := f_isN X215 hx k221 (H d6_147) (l' := #[sr ob, si ((0 : Int32) ||| i200), si 0, si 0, un, un]) rfl
    have k223 := f_ic X215 hx k222 (H d6_148) (v := 0) rfl
    have k224 := f_is X215 hx k223 (H d6_149) (l' := #[sr ob, si ((0 : Int32) ||| i200), si 0, si 0, si 0, un]) rfl
    have k225 := f_il X215 hx k224 (H d6_151) rfl
    have k226 := f_alN X215 hx k225 (H d6_153) rfl
    obtain ⟨T227, X227, e227, k228⟩ := gFs X215 hx hZ hown (hww 47 _ rfl) e215 (nq16 NB192) k226 (H d6_154)
    have k229 := f_icN X227 hx k228 (H d6_157) (tlt (by decide)).2.1
    have k230 := f_alN X227 hx k229 (H d6_160) rfl
    obtain ⟨T231, X231, e231, k232⟩ := gFs X227 hx hZ hown (hww 20 _ rfl) e227 (nq6 NB192) k230 (H d6_161)
    have k233 := f_il X231 hx k232 (H d6_164) rfl
    have k234 := f_d0 X231 hx k233 (H d6_166)
    obtain ⟨T235, h235, L235, X235, e235, W235, V235, N235, Z235, k235⟩ := f_dst X231 hx hZ e231 (nq23 NB192) N191 (G 5 (by decide)) Z191 k234 (H d6_167) (by decide) 0 rfl (lt_b rfl)
    have NB236 := nb_w5 D NB192 W235 V235
    have k237 := f_ic X235 hx k235 (H d6_168) (v := 0) rfl
    have k238 := f_is X235 hx k237 (H d6_169) (l' := #[sr ob, si ((0 : Int32) ||| i200), si 0, si 0, si 0, si 0]) rfl
    have k239 := f_il X235 hx k238 (H d6_171) rfl
    have k240 := f_alN X235 hx k239 (H d6_173) rfl
    obtain ⟨T241, X241, e241, k242⟩ := gFs X235 hx hZ hown (hww 43 _ rfl) e235 (nq14 NB236) k240 (H d6_174)
    have k243 := f_icN X241 hx k242 (H d6_177) (tlt (by decide)).2.1
    have k244 := f_alN X241 hx k243 (H d6_180) rfl
    obtain ⟨T245, X245, e245, k246⟩ := gFs X241 hx hZ hown (hww 29 _ rfl) e241 (nq10 NB236) k244 (H d6_181)
    have k247 := f_alN X245 hx k246 (H d6_184) rfl
    obtain ⟨T248, X248, e248, k249⟩ := gFs X245 hx hZ hown (hww 34 _ rfl) e245 (nq12 NB236) k247 (H d6_185)
    have k250 := f_il X248 hx k249 (H d6_188) rfl
    have k251 := f_ial X248 hx hZ e248 (nq29 NB236) k250 (H d6_190) (v := 1) (by decide) rfl
    have k252 := f_bal X248 hx hZ e248 (nq27 NB236) k251 (H d6_191) (v := f188) (by decide) rfl
    obtain ⟨T253, h253, Ls253, wd10, X253, e253, N253, Zq253, F280, hwd10, kq253⟩ : ∃ (T253 : State) (h253 : Heap) (Ls253 : List Loc) (wd10 : UInt64), Stand p l e (rm 2 0 0 38) s m #[(.ref ob)] below meth c T253 Ls253 0 0 ∧ T253.heap = h253 ∧ Fr n0 Ls253 ∧ n0 ≤ h253.size ∧ NB Z h253 ob B K [(.double (0 : UInt64)), (.double (0 : UInt64)), (.double x2), (.double x3)] [(.double (0 : UInt64)), (.double (0 : UInt64)), (.double (0 : UInt64)), (.double (0 : UInt64))] [(.double (0 : UInt64)), (.double (0 : UInt64)), (.double x2), (.double x3)] [(.double s0), (.double s1)] [(.double s0), (.double s1)] [(.double wd10), (.double (0 : UInt64))] [(.double (0 : UInt64)), (.double (0 : UInt64))] [(.double (0 : UInt64)), (.double (0 : UInt64))] [(.int (0 : Int32)), (.int (0 : Int32))] [(.int (0 : Int32)), (.int f188)] [(.int (0 : Int32)), (.int (0 : Int32)), (.int (0 : Int32)), (.int (0 : Int32))] [(.int (1 : Int32)), (.int (0 : Int32))] [(.int (0 : Int32)), (.int (1 : Int32))] (1 : Int32) ∧ (Dq 255 wd10) ∧ (Rt p e below T253 (mkF m 225 #[sr ob, si ((0 : Int32) ||| i200), si 0, si 0, si 0, si 0] []) s₁ m #[(.ref ob)] 6) := by
      by_cases qf : f188 = (0 : Int32)
      · have k254 := f_ifN X248 hx k252 (H d6_192) ((if0 _ _).trans (teq qf).2)
        have k255 := f_alN X248 hx k254 (H d6_195) rfl
        obtain ⟨T256, X256, e256, k257⟩ := gFs X248 hx hZ hown (hww 20 _ rfl) e248 (nq6 NB236) k255 (H d6_196)
        have k258 := f_il X256 hx k257 (H d6_199) rfl
        have k259 := f_dup2 X256 hx k258 (H d6_201) rfl rfl
        have k260 := f_dal X256 hx hZ e256 (nq23 NB236) k259 (H d6_202) (v := 0) (by decide) rfl
        have k261 := f_alN X256 hx k260 (H d6_203) rfl
        obtain ⟨T262, X262, e262, k263⟩ := gFs X256 hx hZ hown (hww 14 _ rfl) e256 (nq3 NB236) k261 (H d6_204)
        have k264 := f_alN X262 hx k263 (H d6_207) rfl
        obtain ⟨T265, X265, e265, k266⟩ := gFs X262 hx hZ hown (hww 34 _ rfl) e262 (nq12 NB236) k264 (H d6_208)
        have k267 := f_il X265 hx k266 (H d6_211) rfl
        have k268 := f_ial X265 hx hZ e265 (nq29 NB236) k267 (H d6_213) (v := 1) (by decide) rfl
        have k269 := f_alN X265 hx k268 (H d6_214) rfl
        obtain ⟨T270, X270, e270, k271⟩ := gFs X265 hx hZ hown (hww 47 _ rfl) e265 (nq16 NB236) k269 (H d6_215)
        have k272 := f_imul X270 hx k271 (H d6_218) (r := 2) (by decide)
        have k273 := f_il X270 hx k272 (H d6_219) rfl
        have k274 := f_iadd X270 hx k273 (H d6_221) (r := 2) (by decide)
        have k275 := f_dal X270 hx hZ e270 (nq20 NB236) k274 (H d6_222) (v := x2) (by decide) rfl
        have k276 := f_dadd X270 hx k275 (H d6_223) ((Dq.add (P := 255) (dq0 (N := 0) (by decide)) hd1.1 (by decide)).nn)
        obtain ⟨T277, h277, L277, X277, e277, W277, V277, N277, Z277, k277⟩ := f_dst X270 hx hZ e270 (nq23 NB236) N235 (G 5 (by decide)) Z235 k276 (H d6_224) (by decide) 0 rfl (lt_b rfl)
        have NB278 := nb_w5 D NB236 W277 V277
        exact ⟨T277, h277, _, (FP.dadd (0 : UInt64) x2), X277, e277, N277, Z277, NB278, (Dq.add (dq0 (N := 0) (by decide)) hd1.1 (by decide)), k277⟩
      · have k279 := f_ifY X248 hx k252 (H d6_192) (pc' := 225) ((if0 _ _).trans (feq qf).2) (by decide)
        exact ⟨T248, h235, _, (0 : UInt64), X248, e248, N235, Z235, NB236, (Dq.mono (dq0 (N := 0) (by decide)) (by decide)), k279⟩
    have k281 := f_inc X253 hx kq253 (H d6_225) rfl (l' := #[sr ob, si ((0 : Int32) ||| i200), si 0, si 0, si 0, si 1]) rfl
    have k282 := f_go X253 hx k281 (H d6_228) (pc' := 171) (by decide)
    have k283 := f_il X253 hx k282 (H d6_171) rfl
    have k284 := f_alN X253 hx k283 (H d6_173) rfl
    obtain ⟨T285, X285, e285, k286⟩ := gFs X253 hx hZ hown (hww 43 _ rfl) e253 (nq14 F280) k284 (H d6_174)
    have k287 := f_icY X285 hx k286 (H d6_177) (pc' := 231) (flt (by decide)).2.1 (by decide)
    have k288 := f_alN X285 hx k287 (H d6_231) rfl
    obtain ⟨T289, X289, e289, k290⟩ := gFs X285 hx hZ hown (hww 22 _ rfl) e285 (nq7 F280) k288 (H d6_232)
    have k291 := f_il X289 hx k290 (H d6_235) rfl
    have k292 := f_alN X289 hx k291 (H d6_237) rfl
    obtain ⟨T293, X293, e293, k294⟩ := gFs X289 hx hZ hown (hww 20 _ rfl) e289 (nq6 F280) k292 (H d6_238)
    have k295 := f_il X293 hx k294 (H d6_241) rfl
    have k296 := f_dal X293 hx hZ e293 (nq23 F280) k295 (H d6_243) (v := wd10) (by decide) rfl
    have k297 := f_alN X293 hx k296 (H d6_244) rfl
    obtain ⟨T298, X298, e298, k299⟩ := gFs X293 hx hZ hown (hww 18 _ rfl) e293 (nq5 F280) k297 (H d6_245)
    have k300 := f_il X298 hx k299 (H d6_248) rfl
    have k301 := f_dal X298 hx hZ e298 (nq22 F280) k300 (H d6_250) (v := s0) (by decide) rfl
    have k302 := f_dc X298 hx k301 (H d6_251)
    obtain ⟨T303, h303, Ls303, fc0, X303, e303, N303, Zq303, F319, hfc0, kq303⟩ : ∃ (T303 : State) (h303 : Heap) (Ls303 : List Loc) (fc0 : UInt64), Stand p l e (rm 2 0 0 38) s m #[(.ref ob)] below meth c T303 Ls303 0 0 ∧ T303.heap = h303 ∧ Fr n0 Ls303 ∧ n0 ≤ h303.size ∧ NB Z h303 ob B K [(.double (0 : UInt64)), (.double (0 : UInt64)), (.double x2), (.double x3)] [(.double (0 : UInt64)), (.double (0 : UInt64)), (.double (0 : UInt64)), (.double (0 : UInt64))] [(.double (0 : UInt64)), (.double (0 : UInt64)), (.double x2), (.double x3)] [(.double s0), (.double s1)] [(.double s0), (.double s1)] [(.double wd10), (.double (0 : UInt64))] [(.double (0 : UInt64)), (.double (0 : UInt64))] [(.double (0 : UInt64)), (.double (0 : UInt64))] [(.int (0 : Int32)), (.int (0 : Int32))] [(.int (0 : Int32)), (.int f188)] [(.int (0 : Int32)), (.int (0 : Int32)), (.int (0 : Int32)), (.int (0 : Int32))] [(.int (1 : Int32)), (.int (0 : Int32))] [(.int (0 : Int32)), (.int (1 : Int32))] (1 : Int32) ∧ ((0 : Int32) < cmpValue (FP.dcmp wd10 s0) .l ∧ fc0 = FP.ddiv s0 wd10 ∨ ¬ ((0 : Int32) < cmpValue (FP.dcmp wd10 s0) .l) ∧ fc0 = (4607182418800017408 : UInt64)) ∧ (Rt p e below T303 (mkF m 274 #[sr ob, si ((0 : Int32) ||| i200), si 0, si 0, si 0, si 1] [vD fc0, vI 0, vR (B 6)]) s₁ m #[(.ref ob)] 6) := by
      by_cases qg : (0 : Int32) < cmpValue (FP.dcmp wd10 s0) .l
      · have k304 := f_ifN X298 hx k302 (H d6_252) ((if0 _ _).trans (tlt qg).2.2.2)
        have k305 := f_alN X298 hx k304 (H d6_255) rfl
        obtain ⟨T306, X306, e306, k307⟩ := gFs X298 hx hZ hown (hww 18 _ rfl) e298 (nq5 F280) k305 (H d6_256)
        have k308 := f_il X306 hx k307 (H d6_259) rfl
        have k309 := f_dal X306 hx hZ e306 (nq22 F280) k308 (H d6_261) (v := s0) (by decide) rfl
        have k310 := f_alN X306 hx k309 (H d6_262) rfl
        obtain ⟨T311, X311, e311, k312⟩ := gFs X306 hx hZ hown (hww 20 _ rfl) e306 (nq6 F280) k310 (H d6_263)
        have k313 := f_il X311 hx k312 (H d6_266) rfl
        have k314 := f_dal X311 hx hZ e311 (nq23 F280) k313 (H d6_268) (v := wd10) (by decide) rfl
        have k315 := f_ddiv X311 hx k314 (H d6_269) (own_divnn hs0 (Dq.mono hwd10 (by decide)) qg)
        have k316 := f_go X311 hx k315 (H d6_270) (pc' := 274) (by decide)
        exact ⟨T311, h253, _, (FP.ddiv s0 wd10), X311, e311, N253, Zq253, F280, (Or.inl ⟨qg, rfl⟩), k316⟩
      · have k317 := f_ifY X298 hx k302 (H d6_252) (pc' := 273) ((if0 _ _).trans (flt qg).2.2.2) (by decide)
        have k318 := f_d1 X298 hx k317 (H d6_273)
        exact ⟨T298, h253, _, (4607182418800017408 : UInt64), X298, e298, N253, Zq253, F280, (Or.inr ⟨qg, rfl⟩), k318⟩
    have jfc0 := own_frac hs0 (Dq.mono hwd10 (by decide)) hfc0
    obtain ⟨T320, h320, L320, X320, e320, W320, V320, N320, Z320, k320⟩ := f_dst X303 hx hZ e303 (nq24 F319) N303 (G 6 (by decide)) Zq303 kq303 (H d6_274) (by decide) 0 rfl (lt_b rfl)
    have NB321 := nb_w6 D F319 W320 V320
    have k322 := f_ilN X320 hx k320 (H d6_275) rfl
    have k323 := f_alN X320 hx k322 (H d6_276) rfl
    obtain ⟨T324, X324, e324, k325⟩ := gFs X320 hx hZ hown (hww 22 _ rfl) e320 (nq7 NB321) k323 (H d6_277)
    have k326 := f_il X324 hx k325 (H d6_280) rfl
    have k327 := f_dal X324 hx hZ e324 (nq24 NB321) k326 (H d6_282) (v := fc0) (by decide) rfl
    have k328 := f_d1 X324 hx k327 (H d6_283)
    have k329 := f_dc X324 hx k328 (H d6_284)
    obtain ⟨i331, hi331⟩ : ∃ z : Int32, z = (if (cmpValue (FP.dcmp fc0 (4607182418800017408 : UInt64)) .g) < (0 : Int32) then (1 : Int32) else (0 : Int32)) := ⟨_, rfl⟩
    have k332 : Rt p e below T324 (mkF m 293 #[sr ob, si ((0 : Int32) ||| i200), si 0, si 0, si 0, si 1] [vI i331, vI 0]) s₁ m #[(.ref ob)] 6 := fun t k => k329 t (by
      by_cases c330 : (cmpValue (FP.dcmp fc0 (4607182418800017408 : UInt64)) .g) < (0 : Int32)
      · rw [if_pos c330] at hi331
        show Sp p e below T324 (mkF m 285 #[sr ob, si ((0 : Int32) ||| i200), si 0, si 0, si 0, si 1] [vI (cmpValue (FP.dcmp fc0 (4607182418800017408 : UInt64)) .g), vI 0]) _
        refine XS.ifNo X324.here hx rfl (hb hby d6_285) rfl ((if0 _ _).trans (tlt c330).2.1) ?_
        refine XS.iconst X324.here hx rfl (hb hby d6_288) ?_
        refine XS.goto X324.here hx rfl (pc0 := 289) (pc' := 293) rfl (hb hby d6_289) (by decide) (by decide) ?_
        show Sp p e below T324 (mkF m 293 #[sr ob, si ((0 : Int32) ||| i200), si 0, si 0, si 0, si 1] [vI 1, vI 0]) _
        exact castTop (by rw [hi331]) k
      · rw [if_neg c330] at hi331
        show Sp p e below T324 (mkF m 285 #[sr ob, si ((0 : Int32) ||| i200), si 0, si 0, si 0, si 1] [vI (cmpValue (FP.dcmp fc0 (4607182418800017408 : UInt64)) .g), vI 0]) _
        refine XS.ifYes X324.here hx rfl (pc0 := 285) (pc' := 292) rfl (hb hby d6_285) rfl ((if0 _ _).trans (flt c330).2.1) (by decide) (by decide) ?_
        refine XS.iconst X324.here hx rfl (hb hby d6_292) ?_
        show Sp p e below T324 (mkF m 293 #[sr ob, si ((0 : Int32) ||| i200), si 0, si 0, si 0, si 1] [vI 0, vI 0]) _
        exact castTop (by rw [hi331]) k)
    have k333 := f_ior X324 hx k332 (H d6_293) rfl
    have k334 := f_isN X324 hx k333 (H d6_294) (l' := #[sr ob, si ((0 : Int32) ||| i200), si 0, si ((0 : Int32) ||| i331), si 0, si 1]) rfl
    have k335 := f_alN X324 hx k334 (H d6_295) rfl
    obtain ⟨T336, X336, e336, k337⟩ := gFs X324 hx hZ hown (hww 24 _ rfl) e324 (nq8 NB321) k335 (H d6_296)
    have k338 := f_il X336 hx k337 (H d6_299) rfl
    have k339 := f_d0 X336 hx k338 (H d6_301)
    obtain ⟨T340, h340, L340, X340, e340, W340, V340, N340, Z340, k340⟩ := f_dst X336 hx hZ e336 (nq25 NB321) N320 (G 7 (by decide)) Z320 k339 (H d6_302) (by decide) 0 rfl (lt_b rfl)
    have NB341 := nb_w7 D NB321 W340 V340
    have k342 := f_alN X340 hx k340 (H d6_303) rfl
    obtain ⟨T343, X343, e343, k344⟩ := gFs X340 hx hZ hown (hww 27 _ rfl) e340 (nq9 NB341) k342 (H d6_304)
    have k345 := f_il X343 hx k344 (H d6_307) rfl
    have k346 := f_ic X343 hx k345 (H d6_309) (v := 0) rfl
    obtain ⟨T347, h347, L347, X347, e347, W347, V347, N347, Z347, k347⟩ := f_bst X343 hx hZ e343 (nq26 NB341) N340 (G 8 (by decide)) Z340 k346 (H d6_310) (by decide) 0 rfl (lt_b rfl) (v' := 0) rfl
    have NB348 := nb_w8 D NB341 W347 V347
    have k349 := f_inc X347 hx k347 (H d6_311) rfl (l' := #[sr ob, si ((0 : Int32) ||| i200), si 0, si ((0 : Int32) ||| i331), si 1, si 1]) rfl
    have k350 := f_go X347 hx k349 (H d6_314) (pc' := 151) (by decide)
    have k351 := f_il X347 hx k350 (H d6_151) rfl
    have k352 := f_alN X347 hx k351 (H d6_153) rfl
    obtain ⟨T353, X353, e353, k354⟩ := gFs X347 hx hZ hown (hww 47 _ rfl) e347 (nq16 NB348) k352 (H d6_154)
    have k355 := f_icN X353 hx k354 (H d6_157) (tlt (by decide)).2.1
    have k356 := f_alN X353 hx k355 (H d6_160) rfl
    obtain ⟨T357, X357, e357, k358⟩ := gFs X353 hx hZ hown (hww 20 _ rfl) e353 (nq6 NB348) k356 (H d6_161)
    have k359 := f_il X357 hx k358 (H d6_164) rfl
    have k360 := f_d0 X357 hx k359 (H d6_166)
    obtain ⟨T361, h361, L361, X361, e361, W361, V361, N361, Z361, k361⟩ := f_dst X357 hx hZ e357 (nq23 NB348) N347 (G 5 (by decide)) Z347 k360 (H d6_167) (by decide) 1 rfl (lt_b rfl)
    have NB362 := nb_w5 D NB348 W361 V361
    have k363 := f_ic X361 hx k361 (H d6_168) (v := 0) rfl
    have k364 := f_is X361 hx k363 (H d6_169) (l' := #[sr ob, si ((0 : Int32) ||| i200), si 0, si ((0 : Int32) ||| i331), si 1, si 0]) rfl
    have k365 := f_il X361 hx k364 (H d6_171) rfl
    have k366 := f_alN X361 hx k365 (H d6_173) rfl
    obtain ⟨T367, X367, e367, k368⟩ := gFs X361 hx hZ hown (hww 43 _ rfl) e361 (nq14 NB362) k366 (H d6_174)
    have k369 := f_icN X367 hx k368 (H d6_177) (tlt (by decide)).2.1
    have k370 := f_alN X367 hx k369 (H d6_180) rfl
    obtain ⟨T371, X371, e371, k372⟩ := gFs X367 hx hZ hown (hww 29 _ rfl) e367 (nq10 NB362) k370 (H d6_181)
    have k373 := f_alN X371 hx k372 (H d6_184) rfl
    obtain ⟨T374, X374, e374, k375⟩ := gFs X371 hx hZ hown (hww 34 _ rfl) e371 (nq12 NB362) k373 (H d6_185)
    have k376 := f_il X374 hx k375 (H d6_188) rfl
    have k377 := f_ial X374 hx hZ e374 (nq29 NB362) k376 (H d6_190) (v := 1) (by decide) rfl
    have k378 := f_bal X374 hx hZ e374 (nq27 NB362) k377 (H d6_191) (v := f188) (by decide) rfl
    obtain ⟨T379, h379, Ls379, wd11, X379, e379, N379, Zq379, F406, hwd11, kq379⟩ : ∃ (T379 : State) (h379 : Heap) (Ls379 : List Loc) (wd11 : UInt64), Stand p l e (rm 2 0 0 38) s m #[(.ref ob)] below meth c T379 Ls379 0 0 ∧ T379.heap = h379 ∧ Fr n0 Ls379 ∧ n0 ≤ h379.size ∧ NB Z h379 ob B K [(.double (0 : UInt64)), (.double (0 : UInt64)), (.double x2), (.double x3)] [(.double (0 : UInt64)), (.double (0 : UInt64)), (.double (0 : UInt64)), (.double (0 : UInt64))] [(.double (0 : UInt64)), (.double (0 : UInt64)), (.double x2), (.double x3)] [(.double s0), (.double s1)] [(.double s0), (.double s1)] [(.double wd10), (.double wd11)] [(.double fc0), (.double (0 : UInt64))] [(.double (0 : UInt64)), (.double (0 : UInt64))] [(.int (0 : Int32)), (.int (0 : Int32))] [(.int (0 : Int32)), (.int f188)] [(.int (0 : Int32)), (.int (0 : Int32)), (.int (0 : Int32)), (.int (0 : Int32))] [(.int (1 : Int32)), (.int (0 : Int32))] [(.int (0 : Int32)), (.int (1 : Int32))] (1 : Int32) ∧ (Dq 255 wd11) ∧ (Rt p e below T379 (mkF m 225 #[sr ob, si ((0 : Int32) ||| i200), si 0, si ((0 : Int32) ||| i331), si 1, si 0] []) s₁ m #[(.ref ob)] 6) := by
      by_cases qf : f188 = (0 : Int32)
      · have k380 := f_ifN X374 hx k378 (H d6_192) ((if0 _ _).trans (teq qf).2)
        have k381 := f_alN X374 hx k380 (H d6_195) rfl
        obtain ⟨T382, X382, e382, k383⟩ := gFs X374 hx hZ hown (hww 20 _ rfl) e374 (nq6 NB362) k381 (H d6_196)
        have k384 := f_il X382 hx k383 (H d6_199) rfl
        have k385 := f_dup2 X382 hx k384 (H d6_201) rfl rfl
        have k386 := f_dal X382 hx hZ e382 (nq23 NB362) k385 (H d6_202) (v := 0) (by decide) rfl
        have k387 := f_alN X382 hx k386 (H d6_203) rfl
        obtain ⟨T388, X388, e388, k389⟩ := gFs X382 hx hZ hown (hww 14 _ rfl) e382 (nq3 NB362) k387 (H d6_204)
        have k390 := f_alN X388 hx k389 (H d6_207) rfl
        obtain ⟨T391, X391, e391, k392⟩ := gFs X388 hx hZ hown (hww 34 _ rfl) e388 (nq12 NB362) k390 (H d6_208)
        have k393 := f_il X391 hx k392 (H d6_211) rfl
        have k394 := f_ial X391 hx hZ e391 (nq29 NB362) k393 (H d6_213) (v := 1) (by decide) rfl
        have k395 := f_alN X391 hx k394 (H d6_214) rfl
        obtain ⟨T396, X396, e396, k397⟩ := gFs X391 hx hZ hown (hww 47 _ rfl) e391 (nq16 NB362) k395 (H d6_215)
        have k398 := f_imul X396 hx k397 (H d6_218) (r := 2) (by decide)
        have k399 := f_il X396 hx k398 (H d6_219) rfl
        have k400 := f_iadd X396 hx k399 (H d6_221) (r := 3) (by decide)
        have k401 := f_dal X396 hx hZ e396 (nq20 NB362) k400 (H d6_222) (v := x3) (by decide) rfl
        have k402 := f_dadd X396 hx k401 (H d6_223) ((Dq.add (P := 255) (dq0 (N := 0) (by decide)) hd1.2.1 (by decide)).nn)
        obtain ⟨T403, h403, L403, X403, e403, W403, V403, N403, Z403, k403⟩ := f_dst X396 hx hZ e396 (nq23 NB362) N361 (G 5 (by decide)) Z361 k402 (H d6_224) (by decide) 1 rfl (lt_b rfl)
        have NB404 := nb_w5 D NB362 W403 V403
        exact ⟨T403, h403, _, (FP.dadd (0 : UInt64) x3), X403, e403, N403, Z403, NB404, (Dq.add (dq0 (N := 0) (by decide)) hd1.2.1 (by decide)), k403⟩
      · have k405 := f_ifY X374 hx k378 (H d6_192) (pc' := 225) ((if0 _ _).trans (feq qf).2) (by decide)
        exact ⟨T374, h361, _, (0 : UInt64), X374, e374, N361, Z361, NB362, (Dq.mono (dq0 (N := 0) (by decide)) (by decide)), k405⟩
    have k407 := f_inc X379 hx kq379 (H d6_225) rfl (l' := #[sr ob, si ((0 : Int32) ||| i200), si 0, si ((0 : Int32) ||| i331), si 1, si 1]) rfl
    have k408 := f_go X379 hx k407 (H d6_228) (pc' := 171) (by decide)
    have k409 := f_il X379 hx k408 (H d6_171) rfl
    have k410 := f_alN X379 hx k409 (H d6_173) rfl
    obtain ⟨T411, X411, e411, k412⟩ := gFs X379 hx hZ hown (hww 43 _ rfl) e379 (nq14 F406) k410 (H d6_174)
    have k413 := f_icY X411 hx k412 (H d6_177) (pc' := 231) (flt (by decide)).2.1 (by decide)
    have k414 := f_alN X411 hx k413 (H d6_231) rfl
    obtain ⟨T415, X415, e415, k416⟩ := gFs X411 hx hZ hown (hww 22 _ rfl) e411 (nq7 F406) k414 (H d6_232)
    have k417 := f_il X415 hx k416 (H d6_235) rfl
    have k418 := f_alN X415 hx k417 (H d6_237) rfl
    obtain ⟨T419, X419, e419, k420⟩ := gFs X415 hx hZ hown (hww 20 _ rfl) e415 (nq6 F406) k418 (H d6_238)
    have k421 := f_il X419 hx k420 (H d6_241) rfl
    have k422 := f_dal X419 hx hZ e419 (nq23 F406) k421 (H d6_243) (v := wd11) (by decide) rfl
    have k423 := f_alN X419 hx k422 (H d6_244) rfl
    obtain ⟨T424, X424, e424, k425⟩ := gFs X419 hx hZ hown (hww 18 _ rfl) e419 (nq5 F406) k423 (H d6_245)
    have k426 := f_il X424 hx k425 (H d6_248) rfl
    have k427 := f_dal X424 hx hZ e424 (nq22 F406) k426 (H d6_250) (v := s1) (by decide) rfl
    have k428 := f_dc X424 hx k427 (H d6_251)
    obtain ⟨T429, h429, Ls429, fc1, X429, e429, N429, Zq429, F445, hfc1, kq429⟩ : ∃ (T429 : State) (h429 : Heap) (Ls429 : List Loc) (fc1 : UInt64), Stand p l e (rm 2 0 0 38) s m #[(.ref ob)] below meth c T429 Ls429 0 0 ∧ T429.heap = h429 ∧ Fr n0 Ls429 ∧ n0 ≤ h429.size ∧ NB Z h429 ob B K [(.double (0 : UInt64)), (.double (0 : UInt64)), (.double x2), (.double x3)] [(.double (0 : UInt64)), (.double (0 : UInt64)), (.double (0 : UInt64)), (.double (0 : UInt64))] [(.double (0 : UInt64)), (.double (0 : UInt64)), (.double x2), (.double x3)] [(.double s0), (.double s1)] [(.double s0), (.double s1)] [(.double wd10), (.double wd11)] [(.double fc0), (.double (0 : UInt64))] [(.double (0 : UInt64)), (.double (0 : UInt64))] [(.int (0 : Int32)), (.int (0 : Int32))] [(.int (0 : Int32)), (.int f188)] [(.int (0 : Int32)), (.int (0 : Int32)), (.int (0 : Int32)), (.int (0 : Int32))] [(.int (1 : Int32)), (.int (0 : Int32))] [(.int (0 : Int32)), (.int (1 : Int32))] (1 : Int32) ∧ ((0 : Int32) < cmpValue (FP.dcmp wd11 s1) .l ∧ fc1 = FP.ddiv s1 wd11 ∨ ¬ ((0 : Int32) < cmpValue (FP.dcmp wd11 s1) .l) ∧ fc1 = (4607182418800017408 : UInt64)) ∧ (Rt p e below T429 (mkF m 274 #[sr ob, si ((0 : Int32) ||| i200), si 0, si ((0 : Int32) ||| i331), si 1, si 1] [vD fc1, vI 1, vR (B 6)]) s₁ m #[(.ref ob)] 6) := by
      by_cases qg : (0 : Int32) < cmpValue (FP.dcmp wd11 s1) .l
      · have k430 := f_ifN X424 hx k428 (H d6_252) ((if0 _ _).trans (tlt qg).2.2.2)
        have k431 := f_alN X424 hx k430 (H d6_255) rfl
        obtain ⟨T432, X432, e432, k433⟩ := gFs X424 hx hZ hown (hww 18 _ rfl) e424 (nq5 F406) k431 (H d6_256)
        have k434 := f_il X432 hx k433 (H d6_259) rfl
        have k435 := f_dal X432 hx hZ e432 (nq22 F406) k434 (H d6_261) (v := s1) (by decide) rfl
        have k436 := f_alN X432 hx k435 (H d6_262) rfl
        obtain ⟨T437, X437, e437, k438⟩ := gFs X432 hx hZ hown (hww 20 _ rfl) e432 (nq6 F406) k436 (H d6_263)
        have k439 := f_il X437 hx k438 (H d6_266) rfl
        have k440 := f_dal X437 hx hZ e437 (nq23 F406) k439 (H d6_268) (v := wd11) (by decide) rfl
        have k441 := f_ddiv X437 hx k440 (H d6_269) (own_divnn hs1 (Dq.mono hwd11 (by decide)) qg)
        have k442 := f_go X437 hx k441 (H d6_270) (pc' := 274) (by decide)
        exact ⟨T437, h379, _, (FP.ddiv s1 wd11), X437, e437, N379, Zq379, F406, (Or.inl ⟨qg, rfl⟩), k442⟩
      · have k443 := f_ifY X424 hx k428 (H d6_252) (pc' := 273) ((if0 _ _).trans (flt qg).2.2.2) (by decide)
        have k444 := f_d1 X424 hx k443 (H d6_273)
        exact ⟨T424, h379, _, (4607182418800017408 : UInt64), X424, e424, N379, Zq379, F406, (Or.inr ⟨qg, rfl⟩), k444⟩
    have jfc1 := own_frac hs1 (Dq.mono hwd11 (by decide)) hfc1
    obtain ⟨T446, h446, L446, X446, e446, W446, V446, N446, Z446, k446⟩ := f_dst X429 hx hZ e429 (nq24 F445) N429 (G 6 (by decide)) Zq429 kq429 (H d6_274) (by decide) 1 rfl (lt_b rfl)
    have NB447 := nb_w6 D F445 W446 V446
    have k448 := f_ilN X446 hx k446 (H d6_275) rfl
    have k449 := f_alN X446 hx k448 (H d6_276) rfl
    obtain ⟨T450, X450, e450, k451⟩ := gFs X446 hx hZ hown (hww 22 _ rfl) e446 (nq7 NB447) k449 (H d6_277)
    have k452 := f_il X450 hx k451 (H d6_280) rfl
    have k453 := f_dal X450 hx hZ e450 (nq24 NB447) k452 (H d6_282) (v := fc1) (by decide) rfl
    have k454 := f_d1 X450 hx k453 (H d6_283)
    have k455 := f_dc X450 hx k454 (H d6_284)
    obtain ⟨i457, hi457⟩ : ∃ z : Int32, z = (if (cmpValue (FP.dcmp fc1 (4607182418800017408 : UInt64)) .g) < (0 : Int32) then (1 : Int32) else (0 : Int32)) := ⟨_, rfl⟩
    have k458 : Rt p e below T450 (mkF m 293 #[sr ob, si ((0 : Int32) ||| i200), si 0, si ((0 : Int32) ||| i331), si 1, si 1] [vI i457, vI ((0 : Int32) ||| i331)]) s₁ m #[(.ref ob)] 6 := fun t k => k455 t (by
      by_cases c456 : (cmpValue (FP.dcmp fc1 (4607182418800017408 : UInt64)) .g) < (0 : Int32)
      · rw [if_pos c456] at hi457
        show Sp p e below T450 (mkF m 285 #[sr ob, si ((0 : Int32) ||| i200), si 0, si ((0 : Int32) ||| i331), si 1, si 1] [vI (cmpValue (FP.dcmp fc1 (4607182418800017408 : UInt64)) .g), vI ((0 : Int32) ||| i331)]) _
        refine XS.ifNo X450.here hx rfl (hb hby d6_285) rfl ((if0 _ _).trans (tlt c456).2.1) ?_
        refine XS.iconst X450.here hx rfl (hb hby d6_288) ?_
        refine XS.goto X450.here hx rfl (pc0 := 289) (pc' := 293) rfl (hb hby d6_289) (by decide) (by decide) ?_
        show Sp p e below T450 (mkF m 293 #[sr ob, si ((0 : Int32) ||| i200), si 0, si ((0 : Int32) ||| i331), si 1, si 1] [vI 1, vI ((0 : Int32) ||| i331)]) _
        exact castTop (by rw [hi457]) k
      · rw [if_neg c456] at hi457
        show Sp p e below T450 (mkF m 285 #[sr ob, si ((0 : Int32) ||| i200), si 0, si ((0 : Int32) ||| i331), si 1, si 1] [vI (cmpValue (FP.dcmp fc1 (4607182418800017408 : UInt64)) .g), vI ((0 : Int32) ||| i331)]) _
        refine XS.ifYes X450.here hx rfl (pc0 := 285) (pc' := 292) rfl (hb hby d6_285) rfl ((if0 _ _).trans (flt c456).2.1) (by decide) (by decide) ?_
        refine XS.iconst X450.here hx rfl (hb hby d6_292) ?_
        show Sp p e below T450 (mkF m 293 #[sr ob, si ((0 : Int32) ||| i200), si 0, si ((0 : Int32) ||| i331), si 1, si 1] [vI 0, vI ((0 : Int32) ||| i331)]) _
        exact castTop (by rw [hi457]) k)
    have k459 := f_ior X450 hx k458 (H d6_293) rfl
    have k460 := f_isN X450 hx k459 (H d6_294) (l' := #[sr ob, si ((0 : Int32) ||| i200), si 0, si (((0 : Int32) ||| i331) ||| i457), si 1, si 1]) rfl
    have k461 := f_alN X450 hx k460 (H d6_295) rfl
    obtain ⟨T462, X462, e462, k463⟩ := gFs X450 hx hZ hown (hww 24 _ rfl) e450 (nq8 NB447) k461 (H d6_296)
    have k464 := f_il X462 hx k463 (H d6_299) rfl
    have k465 := f_d0 X462 hx k464 (H d6_301)
    obtain ⟨T466, h466, L466, X466, e466, W466, V466, N466, Z466, k466⟩ := f_dst X462 hx hZ e462 (nq25 NB447) N446 (G 7 (by decide)) Z446 k465 (H d6_302) (by decide) 1 rfl (lt_b rfl)
    have NB467 := nb_w7 D NB447 W466 V466
    have k468 := f_alN X466 hx k466 (H d6_303) rfl
    obtain ⟨T469, X469, e469, k470⟩ := gFs X466 hx hZ hown (hww 27 _ rfl) e466 (nq9 NB467) k468 (H d6_304)
    have k471 := f_il X469 hx k470 (H d6_307) rfl
    have k472 := f_ic X469 hx k471 (H d6_309) (v := 0) rfl
    obtain ⟨T473, h473, L473, X473, e473, W473, V473, N473, Z473, k473⟩ := f_bst X469 hx hZ e469 (nq26 NB467) N466 (G 8 (by decide)) Z466 k472 (H d6_310) (by decide) 1 rfl (lt_b rfl) (v' := 0) rfl
    have NB474 := nb_w8 D NB467 W473 V473
    have k475 := f_inc X473 hx k473 (H d6_311) rfl (l' := #[sr ob, si ((0 : Int32) ||| i200), si 0, si (((0 : Int32) ||| i331) ||| i457), si 2, si 1]) rfl
    have k476 := f_go X473 hx k475 (H d6_314) (pc' := 151) (by decide)
    have k477 := f_il X473 hx k476 (H d6_151) rfl
    have k478 := f_alN X473 hx k477 (H d6_153) rfl
    obtain ⟨T479, X479, e479, k480⟩ := gFs X473 hx hZ hown (hww 47 _ rfl) e473 (nq16 NB474) k478 (H d6_154)
    have k481 := f_icY X479 hx k480 (H d6_157) (pc' := 317) (flt (by decide)).2.1 (by decide)
    have k482 := f_ic X479 hx k481 (H d6_317) (v := 0) rfl
    have k483 := f_isN X479 hx k482 (H d6_318) (l' := #[sr ob, si 0, si 0, si (((0 : Int32) ||| i331) ||| i457), si 2, si 1]) rfl
    have k484 := f_ic X479 hx k483 (H d6_319) (v := 0) rfl
    have k485 := f_is X479 hx k484 (H d6_320) (l' := #[sr ob, si 0, si 0, si (((0 : Int32) ||| i331) ||| i457), si 0, si 1]) rfl
    have k486 := f_il X479 hx k485 (H d6_322) rfl
    have k487 := f_alN X479 hx k486 (H d6_324) rfl
    obtain ⟨T488, X488, e488, k489⟩ := gFs X479 hx hZ hown (hww 43 _ rfl) e479 (nq14 NB474) k487 (H d6_325)
    have k490 := f_icN X488 hx k489 (H d6_328) (tlt (by decide)).2.1
    have k491 := f_alN X488 hx k490 (H d6_331) rfl
    obtain ⟨T492, X492, e492, k493⟩ := gFs X488 hx hZ hown (hww 29 _ rfl) e488 (nq10 NB474) k491 (H d6_332)
    have k494 := f_alN X492 hx k493 (H d6_335) rfl
    obtain ⟨T495, X495, e495, k496⟩ := gFs X492 hx hZ hown (hww 34 _ rfl) e492 (nq12 NB474) k494 (H d6_336)
    have k497 := f_il X495 hx k496 (H d6_339) rfl
    have k498 := f_ial X495 hx hZ e495 (nq29 NB474) k497 (H d6_341) (v := 1) (by decide) rfl
    have k499 := f_bal X495 hx hZ e495 (nq27 NB474) k498 (H d6_342) (v := f188) (by decide) rfl
    obtain ⟨T500, h500, Ls500, ma1, mb1, ya1, yb1, ga1, gb1, za1, zb1, X500, e500, N500, Zq500, F521, mk1, kq500⟩ : ∃ (T500 : State) (h500 : Heap) (Ls500 : List Loc) (ma1 : UInt64) (mb1 : UInt64) (ya1 : UInt64) (yb1 : UInt64) (ga1 : UInt64) (gb1 : UInt64) (za1 : Int32) (zb1 : Int32), Stand p l e (rm 2 0 0 38) s m #[(.ref ob)] below meth c T500 Ls500 0 0 ∧ T500.heap = h500 ∧ Fr n0 Ls500 ∧ n0 ≤ h500.size ∧ NB Z h500 ob B K [(.double (0 : UInt64)), (.double (0 : UInt64)), (.double x2), (.double x3)] [(.double (0 : UInt64)), (.double (0 : UInt64)), (.double ma1), (.double mb1)] [(.double (0 : UInt64)), (.double (0 : UInt64)), (.double ya1), (.double yb1)] [(.double s0), (.double s1)] [(.double s0), (.double s1)] [(.double wd10), (.double wd11)] [(.double fc0), (.double fc1)] [(.double ga1), (.double gb1)] [(.int za1), (.int zb1)] [(.int (0 : Int32)), (.int f188)] [(.int (0 : Int32)), (.int (0 : Int32)), (.int (0 : Int32)), (.int (0 : Int32))] [(.int (1 : Int32)), (.int (0 : Int32))] [(.int (0 : Int32)), (.int (1 : Int32))] (1 : Int32) ∧ (MvOk s0 s1 fc0 fc1 255 f188 ma1 mb1 ya1 yb1 ga1 gb1 za1 zb1) ∧ (Rt p e below T500 (mkF m 357 #[sr ob, si 0, si 0, si (((0 : Int32) ||| i331) ||| i457), si 0, si 1] []) s₁ m #[(.ref ob)] 6) := by
      by_cases qf : f188 = (0 : Int32)
      · have k501 := f_ifN X495 hx k499 (H d6_343) ((if0 _ _).trans (teq qf).2)
        rcases own_act hd1 fp188 qf with qa | qa
        · have k502 := f_alN X495 hx k501 (H d6_346) rfl
          have k503 := f_alN X495 hx k502 (H d6_347) rfl
          obtain ⟨T504, X504, e504, k505⟩ := gFs X495 hx hZ hown (hww 34 _ rfl) e495 (nq12 NB474) k503 (H d6_348)
          have k506 := f_il X504 hx k505 (H d6_351) rfl
          have k507 := f_ial X504 hx hZ e504 (nq29 NB474) k506 (H d6_353) (v := 1) (by decide) rfl
          have co := (own_cutok hd1.1 hs0 (Dq.mono hwd10 (by decide)))
          obtain ⟨cq508, q508, q508'⟩ := (nq0 NB474).cell
          obtain ⟨_, _, ⟨T508, L508, k508, n508⟩, -, X508, ⟨Lc508, hQ508, l508, y508, z508⟩, st508⟩ := X504.privateBack hx (y := (⟨"com/example/istra/istra/engine/NodeModel", "move", "(I)V"⟩ : MethodName)) hown (mvT hZ (hww 81 _ rfl)) (mvT hZ (hww 82 _ rfl)) (own_selP (mvT hZ (hww 41 _ rfl)) rfl (Cond.privateMethod_at (mvP hZ (hww 83 _ rfl) (args := #[]))) (mvT hZ (hww 82 _ rfl)) (by decide)) (Cond.privateMethod_at (mvP hZ (hww 83 _ rfl) (args := #[]))) (mvT hZ (hww 84 _ rfl)) (by decide) (backOf (W := 0) (move10 l Z a0 hw [] ob B K [(.double (0 : UInt64)), (.double (0 : UInt64)), (.double x2), (.double x3)] [(.double s0), (.double s1)] [(.int (0 : Int32)), (.int f188)] [(.int (0 : Int32)), (.int (0 : Int32)), (.int (0 : Int32)), (.int (0 : Int32))] [(.int (1 : Int32)), (.int (0 : Int32))] [(.int (0 : Int32)), (.int (1 : Int32))] (1 : Int32) (0 : UInt64) (0 : UInt64) (0 : UInt64) (0 : UInt64) (0 : UInt64) (0 : UInt64) x2 x3 s0 s1 wd10 wd11 fc0 fc1 (0 : UInt64) (0 : UInt64) (0 : Int32) (0 : Int32) h473 n0 Z473 D NB474 G qa.1 qa.2 co.1 (nn_of (no_fin (own_add0 co.2.1))) (nn_of (dsub_out (no_fin hd1.1.fin) co.2.1)) (nn_of (dadd_out (no_of (gv0 s0).1) co.2.1)) jfc0.1) hZ (hww 84 _ rfl) (hww 2 _ rfl) (by decide) (by decide)) (g := (mkF m 354 #[sr ob, si 0, si 0, si (((0 : Int32) ||| i331) ||| i457), si 0, si 1] [vI 1, vR ob])) rfl (by rw [hml]; rfl) (Steps.refl _) (a := ob) (by rw [e504]; exact q508) q508' (argsL := [(.int (1 : Int32))]) (rest := []) (lenOf pd__28I_29V rfl) rfl (by show 2 * 0 + _ ≤ _; exact Nat.le_of_eq rfl) (H d6_354) (fun _ _ => ⟨rfl, e504, (by decide : 0 + 0 ≤ _), (by decide : 0 + 0 ≤ _)⟩)
          dsimp only [Pt.U, Pt.locs, Pt.cells, Pt.slots] at X508 l508 y508 z508 st508 hQ508
          subst l508 y508 z508
          obtain ⟨h508, e508⟩ : ∃ h', T508.heap = h' := ⟨_, rfl⟩
          rw [e508] at hQ508
          obtain ⟨zq508, rfl, N508q, Kp508, NB508, hz508⟩ := hQ508
          have N509 := Fr.app N473 N508q
          have k510 : Rt p e below T508 (mkF m 357 #[sr ob, si 0, si 0, si (((0 : Int32) ||| i331) ||| i457), si 0, si 1] []) s₁ m #[(.ref ob)] 6 := fun t k => k507 t (st508.trans k)
          have Z508 : n0 ≤ h508.size := Nat.le_trans Z473 Kp508.1
          exact ⟨T508, h508, _, (FP.dadd (0 : UInt64) (own_cut x2 s0 wd10)), (0 : UInt64), (FP.dsub x2 (own_cut x2 s0 wd10)), x3, (FP.dadd (0 : UInt64) (own_cut x2 s0 wd10)), (0 : UInt64), zq508, (0 : Int32), X508, e508, N509, Z508, NB508, (mv_0 hd1 hs0 hs1 (Dq.mono hwd10 (by decide)) (Dq.mono hwd11 (by decide)) jfc0 jfc1 (gv0 s0) (gv0 s1) (fun _ => rfl) (fun _ => rfl) qa.2 hz508 (by decide) (by decide)), k510⟩
        · have k511 := f_alN X495 hx k501 (H d6_346) rfl
          have k512 := f_alN X495 hx k511 (H d6_347) rfl
          obtain ⟨T513, X513, e513, k514⟩ := gFs X495 hx hZ hown (hww 34 _ rfl) e495 (nq12 NB474) k512 (H d6_348)
          have k515 := f_il X513 hx k514 (H d6_351) rfl
          have k516 := f_ial X513 hx hZ e513 (nq29 NB474) k515 (H d6_353) (v := 1) (by decide) rfl
          have co := (own_cutok hd1.2.1 hs1 (Dq.mono hwd11 (by decide)))
          obtain ⟨cq517, q517, q517'⟩ := (nq0 NB474).cell
          obtain ⟨_, _, ⟨T517, L517, k517, n517⟩, -, X517, ⟨Lc517, hQ517, l517, y517, z517⟩, st517⟩ := X513.privateBack hx (y := (⟨"com/example/istra/istra/engine/NodeModel", "move", "(I)V"⟩ : MethodName)) hown (mvT hZ (hww 81 _ rfl)) (mvT hZ (hww 82 _ rfl)) (own_selP (mvT hZ (hww 41 _ rfl)) rfl (Cond.privateMethod_at (mvP hZ (hww 83 _ rfl) (args := #[]))) (mvT hZ (hww 82 _ rfl)) (by decide)) (Cond.privateMethod_at (mvP hZ (hww 83 _ rfl) (args := #[]))) (mvT hZ (hww 84 _ rfl)) (by decide) (backOf (W := 0) (move11 l Z a0 hw [] ob B K [(.double (0 : UInt64)), (.double (0 : UInt64)), (.double x2), (.double x3)] [(.double s0), (.double s1)] [(.int (0 : Int32)), (.int f188)] [(.int (0 : Int32)), (.int (0 : Int32)), (.int (0 : Int32)), (.int (0 : Int32))] [(.int (1 : Int32)), (.int (0 : Int32))] [(.int (0 : Int32)), (.int (1 : Int32))] (1 : Int32) (0 : UInt64) (0 : UInt64) (0 : UInt64) (0 : UInt64) (0 : UInt64) (0 : UInt64) x2 x3 s0 s1 wd10 wd11 fc0 fc1 (0 : UInt64) (0 : UInt64) (0 : Int32) (0 : Int32) h473 n0 Z473 D NB474 G qa.1 qa.2 co.1 (nn_of (no_fin (own_add0 co.2.1))) (nn_of (dsub_out (no_fin hd1.2.1.fin) co.2.1)) (nn_of (dadd_out (no_of (gv0 s1).1) co.2.1)) jfc1.1) hZ (hww 84 _ rfl) (hww 2 _ rfl) (by decide) (by decide)) (g := (mkF m 354 #[sr ob, si 0, si 0, si (((0 : Int32) ||| i331) ||| i457), si 0, si 1] [vI 1, vR ob])) rfl (by rw [hml]; rfl) (Steps.refl _) (a := ob) (by rw [e513]; exact q517) q517' (argsL := [(.int (1 : Int32))]) (rest := []) (lenOf pd__28I_29V rfl) rfl (by show 2 * 0 + _ ≤ _; exact Nat.le_of_eq rfl) (H d6_354) (fun _ _ => ⟨rfl, e513, (by decide : 0 + 0 ≤ _), (by decide : 0 + 0 ≤ _)⟩)
          dsimp only [Pt.U, Pt.locs, Pt.cells, Pt.slots] at X517 l517 y517 z517 st517 hQ517
          subst l517 y517 z517
          obtain ⟨h517, e517⟩ : ∃ h', T517.heap = h' := ⟨_, rfl⟩
          rw [e517] at hQ517
          obtain ⟨zq517, rfl, N517q, Kp517, NB517, hz517⟩ := hQ517
          have N518 := Fr.app N473 N517q
          have k519 : Rt p e below T517 (mkF m 357 #[sr ob, si 0, si 0, si (((0 : Int32) ||| i331) ||| i457), si 0, si 1] []) s₁ m #[(.ref ob)] 6 := fun t k => k516 t (st517.trans k)
          have Z517 : n0 ≤ h517.size := Nat.le_trans Z473 Kp517.1
          exact ⟨T517, h517, _, (0 : UInt64), (FP.dadd (0 : UInt64) (own_cut x3 s1 wd11)), x2, (FP.dsub x3 (own_cut x3 s1 wd11)), (0 : UInt64), (FP.dadd (0 : UInt64) (own_cut x3 s1 wd11)), (0 : Int32), zq517, X517, e517, N518, Z517, NB517, (mv_1 hd1 hs0 hs1 (Dq.mono hwd10 (by decide)) (Dq.mono hwd11 (by decide)) jfc0 jfc1 (gv0 s0) (gv0 s1) (fun _ => rfl) (fun _ => rfl) qa.2 hz517 (by decide) (by decide)), k519⟩
      · have k520 := f_ifY X495 hx k499 (H d6_343) (pc' := 357) ((if0 _ _).trans (feq qf).2) (by decide)
        exact ⟨T495, h473, _, (0 : UInt64), (0 : UInt64), x2, x3, (0 : UInt64), (0 : UInt64), (0 : Int32), (0 : Int32), X495, e495, N473, Z473, NB474, (mv_s qf (gv0 s0) (gv0 s1) (fun _ => rfl) (fun _ => rfl) (by decide)), k520⟩
    have k522 := f_inc X500 hx kq500 (H d6_357) rfl (l' := #[sr ob, si 0, si 0, si (((0 : Int32) ||| i331) ||| i457), si 1, si 1]) rfl
    have k523 := f_go X500 hx k522 (H d6_360) (pc' := 322) (by decide)
    have k524 := f_il X500 hx k523 (H d6_322) rfl
    have k525 := f_alN X500 hx k524 (H d6_324) rfl
    obtain ⟨T526, X526, e526, k527⟩ := gFs X500 hx hZ hown (hww 43 _ rfl) e500 (nq14 F521) k525 (H d6_325)
    have k528 := f_icY X526 hx k527 (H d6_328) (pc' := 363) (flt (by decide)).2.1 (by decide)
    have k529 := f_ilN X526 hx k528 (H d6_363) rfl
    by_cases qc : (((0 : Int32) ||| i331) ||| i457) = (0 : Int32)
    · have k530 := f_ifY X526 hx k529 (H d6_364) (pc' := 513) ((if0 _ _).trans (teq qc).1) (by decide)
      have k531 := f_inc X526 hx k530 (H d6_513) rfl (l' := #[sr ob, si 0, si 1, si (((0 : Int32) ||| i331) ||| i457), si 1, si 1]) rfl
      have k532 := f_go X526 hx k531 (H d6_516) (pc' := 134) (by decide)
      have k533 := f_ilN X526 hx k532 (H d6_134) rfl
      have k534 := f_alN X526 hx k533 (H d6_135) rfl
      obtain ⟨T535, X535, e535, k536⟩ := gFs X526 hx hZ hown (hww 45 _ rfl) e526 (nq15 F521) k534 (H d6_136)
      have k537 := f_icN X535 hx k536 (H d6_139) (tlt (by decide)).2.1
      have k538 := f_ilN X535 hx k537 (H d6_142) rfl
      have k539 := f_ifY X535 hx k538 (H d6_143) (pc' := 519) ((if0 _ _).trans (teq (by decide)).1) (by decide)
      obtain ⟨fs, hr, hrun, hended, hW, hsame⟩ := X535.leave (v := none) (fun _ => rfl)
      refine ⟨_, _, k539 _ (X535.returnOut hx Bd.returns (H d6_519) hr), hrun, hended, _, _, rfl, ?_, ⟨_, rfl⟩, hW, hsame.mono (by decide) (by decide)⟩
      show Q_shr1 Z ob B K x2 x3 s0 s1 h0 n0 _ T535.heap _
      rw [e535]
      exact ⟨(0 : UInt64), (0 : UInt64), ma1, mb1, _, _, _, _, _, _, _, rfl, N500, Zq500, F521, ⟨(dy0 0).fin, (dy0 0).fin, mk1.1, mk1.2.1⟩, rfl, rfl⟩
    · have k540 := f_ifN X526 hx k529 (H d6_364) ((if0 _ _).trans (feq qc).1)
      have k541 := f_ic X526 hx k540 (H d6_367) (v := 0) rfl
      have k542 := f_is X526 hx k541 (H d6_368) (l' := #[sr ob, si 0, si 0, si (((0 : Int32) ||| i331) ||| i457), si 0, si 1]) rfl
      have k543 := f_il X526 hx k542 (H d6_370) rfl
      have k544 := f_alN X526 hx k543 (H d6_372) rfl
      obtain ⟨T545, X545, e545, k546⟩ := gFs X526 hx hZ hown (hww 47 _ rfl) e526 (nq16 F521) k544 (H d6_373)
      have k547 := f_icN X545 hx k546 (H d6_376) (tlt (by decide)).2.1
      have k548 := f_alN X545 hx k547 (H d6_379) rfl
      obtain ⟨T549, X549, e549, k550⟩ := gFs X545 hx hZ hown (hww 18 _ rfl) e545 (nq5 F521) k548 (H d6_380)
      have k551 := f_il X549 hx k550 (H d6_383) rfl
      have k552 := f_alN X549 hx k551 (H d6_385) rfl
      obtain ⟨T553, X553, e553, k554⟩ := gFs X549 hx hZ hown (hww 22 _ rfl) e549 (nq7 F521) k552 (H d6_386)
      have k555 := f_il X553 hx k554 (H d6_389) rfl
      have k556 := f_dal X553 hx hZ e553 (nq24 F521) k555 (H d6_391) (v := fc0) (by decide) rfl
      have k557 := f_d1 X553 hx k556 (H d6_392)
      have k558 := f_dc X553 hx k557 (H d6_393)
      obtain ⟨T559, h559, Ls559, rm0, X559, e559, N559, Zq559, F584, hrm0, kq559⟩ : ∃ (T559 : State) (h559 : Heap) (Ls559 : List Loc) (rm0 : UInt64), Stand p l e (rm 2 0 0 38) s m #[(.ref ob)] below meth c T559 Ls559 0 0 ∧ T559.heap = h559 ∧ Fr n0 Ls559 ∧ n0 ≤ h559.size ∧ NB Z h559 ob B K [(.double (0 : UInt64)), (.double (0 : UInt64)), (.double x2), (.double x3)] [(.double (0 : UInt64)), (.double (0 : UInt64)), (.double ma1), (.double mb1)] [(.double (0 : UInt64)), (.double (0 : UInt64)), (.double ya1), (.double yb1)] [(.double s0), (.double s1)] [(.double s0), (.double s1)] [(.double wd10), (.double wd11)] [(.double fc0), (.double fc1)] [(.double ga1), (.double gb1)] [(.int za1), (.int zb1)] [(.int (0 : Int32)), (.int f188)] [(.int (0 : Int32)), (.int (0 : Int32)), (.int (0 : Int32)), (.int (0 : Int32))] [(.int (1 : Int32)), (.int (0 : Int32))] [(.int (0 : Int32)), (.int (1 : Int32))] (1 : Int32) ∧ (cmpValue (FP.dcmp fc0 (4607182418800017408 : UInt64)) .g < (0 : Int32) → rm0 = (0 : UInt64)) ∧ (Rt p e below T559 (mkF m 430 #[sr ob, si 0, si 0, si (((0 : Int32) ||| i331) ||| i457), si 0, si 1] [vD rm0, vI 0, vR (B 4)]) s₁ m #[(.ref ob)] 6) := by
        by_cases ql : cmpValue (FP.dcmp fc0 (4607182418800017408 : UInt64)) .g < (0 : Int32)
        · have k560 := f_ifN X553 hx k558 (H d6_394) ((if0 _ _).trans (tlt ql).2.1)
          have k561 := f_alN X553 hx k560 (H d6_397) rfl
          obtain ⟨T562, X562, e562, k563⟩ := gFs X553 hx hZ hown (hww 27 _ rfl) e553 (nq9 F521) k561 (H d6_398)
          have k564 := f_il X562 hx k563 (H d6_401) rfl
          have k565 := f_bal X562 hx hZ e562 (nq26 F521) k564 (H d6_403) (v := za1) (by decide) rfl
          have k566 := f_ifN X562 hx k565 (H d6_404) ((if0 _ _).trans (teq (mk1.2.2.2.2.2.1 ql)).2)
          have k567 := f_d0 X562 hx k566 (H d6_407)
          have k568 := f_go X562 hx k567 (H d6_408) (pc' := 430) (by decide)
          exact ⟨T562, h500, _, (0 : UInt64), X562, e562, N500, Zq500, F521, (fun _ => rfl), k568⟩
        · have k569 := f_ifY X553 hx k558 (H d6_394) (pc' := 411) ((if0 _ _).trans (flt ql).2.1) (by decide)
          have k570 := f_d0 X553 hx k569 (H d6_411)
          have k571 := f_alN X553 hx k570 (H d6_412) rfl
          obtain ⟨T572, X572, e572, k573⟩ := gFs X553 hx hZ hown (hww 18 _ rfl) e553 (nq5 F521) k571 (H d6_413)
          have k574 := f_il X572 hx k573 (H d6_416) rfl
          have k575 := f_dal X572 hx hZ e572 (nq22 F521) k574 (H d6_418) (v := s0) (by decide) rfl
          have k576 := f_alN X572 hx k575 (H d6_419) rfl
          obtain ⟨T577, X577, e577, k578⟩ := gFs X572 hx hZ hown (hww 24 _ rfl) e572 (nq8 F521) k576 (H d6_420)
          have k579 := f_il X577 hx k578 (H d6_423) rfl
          have k580 := f_dal X577 hx hZ e577 (nq25 F521) k579 (H d6_425) (v := ga1) (by decide) rfl
          have k581 := f_dsub X577 hx k580 (H d6_426) ((GvOk.sub hs0 mk1.2.2.2.1))
          obtain ⟨T582, X582, e582, st582⟩ := natS X577 hx hZ (y := Jvm.Free.Fl.Abs.maxDN) hown (hww 108 _ rfl) (hww 109 _ rfl) (hww 110 _ rfl) (hww 111 _ rfl) (by decide) e577 (W := 2) (F := fun a' => a' = #[(.double (0 : UInt64)), (.double (FP.dsub s0 ga1))] ∧ Jvm.Free.Fl.NoNaN64 (0 : UInt64) ∧ Jvm.Free.Fl.NoNaN64 (FP.dsub s0 ga1)) (fun hq => Jvm.Free.Fl.Abs.maxD_pays (0 : UInt64) (FP.dsub s0 ga1) hq (by decide) (by decide)) (g := (mkF m 427 #[sr ob, si 0, si 0, si (((0 : Int32) ||| i331) ||| i457), si 0, si 1] [vD (FP.dsub s0 ga1), vD 0, vI 0, vR (B 4)])) rfl (by rw [hml]; rfl) (argsL := [(.double (0 : UInt64)), (.double (FP.dsub s0 ga1))]) (rest := [(.int (0 : Int32)), (.ref (B 4))]) (lenOf pd__28DD_29D rfl) rfl (by show 2 * 0 + _ ≤ _; exact Nat.le_of_eq rfl) (H d6_427) (by decide) (by decide) ⟨rfl, (dy0 0).nn, (GvOk.sub hs0 mk1.2.2.2.1)⟩ (congrArg Value.double rfl)
          have k583 : Rt p e below T582 (mkF m 430 #[sr ob, si 0, si 0, si (((0 : Int32) ||| i331) ||| i457), si 0, si 1] [vD (Native.java_lang_Math.nans.pick64 true (0 : UInt64) (FP.dsub s0 ga1)), vI 0, vR (B 4)]) s₁ m #[(.ref ob)] 6 := fun t k => k581 t (st582 t k)
          exact ⟨T582, h500, _, (Native.java_lang_Math.nans.pick64 true (0 : UInt64) (FP.dsub s0 ga1)), X582, e582, N500, Zq500, F521, (fun q => absurd q ql), k583⟩
      obtain ⟨T585, h585, L585, X585, e585, W585, V585, N585, Z585, k585⟩ := f_dst X559 hx hZ e559 (nq22 F584) N559 (G 4 (by decide)) Zq559 kq559 (H d6_430) (by decide) 0 rfl (lt_b rfl)
      have NB586 := nb_w4 D F584 W585 V585
      have k587 := f_inc X585 hx k585 (H d6_431) rfl (l' := #[sr ob, si 0, si 0, si (((0 : Int32) ||| i331) ||| i457), si 1, si 1]) rfl
      have k588 := f_go X585 hx k587 (H d6_434) (pc' := 370) (by decide)
      have k589 := f_il X585 hx k588 (H d6_370) rfl
      have k590 := f_alN X585 hx k589 (H d6_372) rfl
      obtain ⟨T591, X591, e591, k592⟩ := gFs X585 hx hZ hown (hww 47 _ rfl) e585 (nq16 NB586) k590 (H d6_373)
      have k593 := f_icN X591 hx k592 (H d6_376) (tlt (by decide)).2.1
      have k594 := f_alN X591 hx k593 (H d6_379) rfl
      obtain ⟨T595, X595, e595, k596⟩ := gFs X591 hx hZ hown (hww 18 _ rfl) e591 (nq5 NB586) k594 (H d6_380)
      have k597 := f_il X595 hx k596 (H d6_383) rfl
      have k598 := f_alN X595 hx k597 (H d6_385) rfl
      obtain ⟨T599, X599, e599, k600⟩ := gFs X595 hx hZ hown (hww 22 _ rfl) e595 (nq7 NB586) k598 (H d6_386)
      have k601 := f_il X599 hx k600 (H d6_389) rfl
      have k602 := f_dal X599 hx hZ e599 (nq24 NB586) k601 (H d6_391) (v := fc1) (by decide) rfl
      have k603 := f_d1 X599 hx k602 (H d6_392)
      have k604 := f_dc X599 hx k603 (H d6_393)
      obtain ⟨T605, h605, Ls605, rm1, X605, e605, N605, Zq605, F630, hrm1, kq605⟩ : ∃ (T605 : State) (h605 : Heap) (Ls605 : List Loc) (rm1 : UInt64), Stand p l e (rm 2 0 0 38) s m #[(.ref ob)] below meth c T605 Ls605 0 0 ∧ T605.heap = h605 ∧ Fr n0 Ls605 ∧ n0 ≤ h605.size ∧ NB Z h605 ob B K [(.double (0 : UInt64)), (.double (0 : UInt64)), (.double x2), (.double x3)] [(.double (0 : UInt64)), (.double (0 : UInt64)), (.double ma1), (.double mb1)] [(.double (0 : UInt64)), (.double (0 : UInt64)), (.double ya1), (.double yb1)] [(.double s0), (.double s1)] [(.double rm0), (.double s1)] [(.double wd10), (.double wd11)] [(.double fc0), (.double fc1)] [(.double ga1), (.double gb1)] [(.int za1), (.int zb1)] [(.int (0 : Int32)), (.int f188)] [(.int (0 : Int32)), (.int (0 : Int32)), (.int (0 : Int32)), (.int (0 : Int32))] [(.int (1 : Int32)), (.int (0 : Int32))] [(.int (0 : Int32)), (.int (1 : Int32))] (1 : Int32) ∧ (cmpValue (FP.dcmp fc1 (4607182418800017408 : UInt64)) .g < (0 : Int32) → rm1 = (0 : UInt64)) ∧ (Rt p e below T605 (mkF m 430 #[sr ob, si 0, si 0, si (((0 : Int32) ||| i331) ||| i457), si 1, si 1] [vD rm1, vI 1, vR (B 4)]) s₁ m #[(.ref ob)] 6) := by
        by_cases ql : cmpValue (FP.dcmp fc1 (4607182418800017408 : UInt64)) .g < (0 : Int32)
        · have k606 := f_ifN X599 hx k604 (H d6_394) ((if0 _ _).trans (tlt ql).2.1)
          have k607 := f_alN X599 hx k606 (H d6_397) rfl
          obtain ⟨T608, X608, e608, k609⟩ := gFs X599 hx hZ hown (hww 27 _ rfl) e599 (nq9 NB586) k607 (H d6_398)
          have k610 := f_il X608 hx k609 (H d6_401) rfl
          have k611 := f_bal X608 hx hZ e608 (nq26 NB586) k610 (H d6_403) (v := zb1) (by decide) rfl
          have k612 := f_ifN X608 hx k611 (H d6_404) ((if0 _ _).trans (teq (mk1.2.2.2.2.2.2 ql)).2)
          have k613 := f_d0 X608 hx k612 (H d6_407)
          have k614 := f_go X608 hx k613 (H d6_408) (pc' := 430) (by decide)
          exact ⟨T608, h585, _, (0 : UInt64), X608, e608, N585, Z585, NB586, (fun _ => rfl), k614⟩
        · have k615 := f_ifY X599 hx k604 (H d6_394) (pc' := 411) ((if0 _ _).trans (flt ql).2.1) (by decide)
          have k616 := f_d0 X599 hx k615 (H d6_411)
          have k617 := f_alN X599 hx k616 (H d6_412) rfl
          obtain ⟨T618, X618, e618, k619⟩ := gFs X599 hx hZ hown (hww 18 _ rfl) e599 (nq5 NB586) k617 (H d6_413)
          have k620 := f_il X618 hx k619 (H d6_416) rfl
          have k621 := f_dal X618 hx hZ e618 (nq22 NB586) k620 (H d6_418) (v := s1) (by decide) rfl
          have k622 := f_alN X618 hx k621 (H d6_419) rfl
          obtain ⟨T623, X623, e623, k624⟩ := gFs X618 hx hZ hown (hww 24 _ rfl) e618 (nq8 NB586) k622 (H d6_420)
          have k625 := f_il X623 hx k624 (H d6_423) rfl
          have k626 := f_dal X623 hx hZ e623 (nq25 NB586) k625 (H d6_425) (v := gb1) (by decide) rfl
          have k627 := f_dsub X623 hx k626 (H d6_426) ((GvOk.sub hs1 mk1.2.2.2.2.1))
          obtain ⟨T628, X628, e628, st628⟩ := natS X623 hx hZ (y := Jvm.Free.Fl.Abs.maxDN) hown (hww 108 _ rfl) (hww 109 _ rfl) (hww 110 _ rfl) (hww 111 _ rfl) (by decide) e623 (W := 2) (F := fun a' => a' = #[(.double (0 : UInt64)), (.double (FP.dsub s1 gb1))] ∧ Jvm.Free.Fl.NoNaN64 (0 : UInt64) ∧ Jvm.Free.Fl.NoNaN64 (FP.dsub s1 gb1)) (fun hq => Jvm.Free.Fl.Abs.maxD_pays (0 : UInt64) (FP.dsub s1 gb1) hq (by decide) (by decide)) (g := (mkF m 427 #[sr ob, si 0, si 0, si (((0 : Int32) ||| i331) ||| i457), si 1, si 1] [vD (FP.dsub s1 gb1), vD 0, vI 1, vR (B 4)])) rfl (by rw [hml]; rfl) (argsL := [(.double (0 : UInt64)), (.double (FP.dsub s1 gb1))]) (rest := [(.int (1 : Int32)), (.ref (B 4))]) (lenOf pd__28DD_29D rfl) rfl (by show 2 * 0 + _ ≤ _; exact Nat.le_of_eq rfl) (H d6_427) (by decide) (by decide) ⟨rfl, (dy0 0).nn, (GvOk.sub hs1 mk1.2.2.2.2.1)⟩ (congrArg Value.double rfl)
          have k629 : Rt p e below T628 (mkF m 430 #[sr ob, si 0, si 0, si (((0 : Int32) ||| i331) ||| i457), si 1, si 1] [vD (Native.java_lang_Math.nans.pick64 true (0 : UInt64) (FP.dsub s1 gb1)), vI 1, vR (B 4)]) s₁ m #[(.ref ob)] 6 := fun t k => k627 t (st628 t k)
          exact ⟨T628, h585, _, (Native.java_lang_Math.nans.pick64 true (0 : UInt64) (FP.dsub s1 gb1)), X628, e628, N585, Z585, NB586, (fun q => absurd q ql), k629⟩
      obtain ⟨T631, h631, L631, X631, e631, W631, V631, N631, Z631, k631⟩ := f_dst X605 hx hZ e605 (nq22 F630) N605 (G 4 (by decide)) Zq605 kq605 (H d6_430) (by decide) 1 rfl (lt_b rfl)
      have NB632 := nb_w4 D F630 W631 V631
      have k633 := f_inc X631 hx k631 (H d6_431) rfl (l' := #[sr ob, si 0, si 0, si (((0 : Int32) ||| i331) ||| i457), si 2, si 1]) rfl
      have k634 := f_go X631 hx k633 (H d6_434) (pc' := 370) (by decide)
      have k635 := f_il X631 hx k634 (H d6_370) rfl
      have k636 := f_alN X631 hx k635 (H d6_372) rfl
      obtain ⟨T637, X637, e637, k638⟩ := gFs X631 hx hZ hown (hww 47 _ rfl) e631 (nq16 NB632) k636 (H d6_373)
      have k639 := f_icY X637 hx k638 (H d6_376) (pc' := 437) (flt (by decide)).2.1 (by decide)
      have k640 := f_ic X637 hx k639 (H d6_437) (v := 0) rfl
      have k641 := f_is X637 hx k640 (H d6_438) (l' := #[sr ob, si 0, si 0, si (((0 : Int32) ||| i331) ||| i457), si 0, si 1]) rfl
      have k642 := f_il X637 hx k641 (H d6_440) rfl
      have k643 := f_alN X637 hx k642 (H d6_442) rfl
      obtain ⟨T644, X644, e644, k645⟩ := gFs X637 hx hZ hown (hww 43 _ rfl) e637 (nq14 NB632) k643 (H d6_443)
      have k646 := f_icN X644 hx k645 (H d6_446) (tlt (by decide)).2.1
      have k647 := f_alN X644 hx k646 (H d6_449) rfl
      obtain ⟨T648, X648, e648, k649⟩ := gFs X644 hx hZ hown (hww 34 _ rfl) e644 (nq12 NB632) k647 (H d6_450)
      have k650 := f_il X648 hx k649 (H d6_453) rfl
      have k651 := f_ial X648 hx hZ e648 (nq29 NB632) k650 (H d6_455) (v := 1) (by decide) rfl
      have k652 := f_is X648 hx k651 (H d6_456) (l' := #[sr ob, si 0, si 0, si (((0 : Int32) ||| i331) ||| i457), si 0, si 1]) rfl
      have k653 := f_alN X648 hx k652 (H d6_458) rfl
      obtain ⟨T654, X654, e654, k655⟩ := gFs X648 hx hZ hown (hww 29 _ rfl) e648 (nq10 NB632) k653 (H d6_459)
      have k656 := f_il X654 hx k655 (H d6_462) rfl
      have k657 := f_alN X654 hx k656 (H d6_464) rfl
      obtain ⟨T658, X658, e658, k659⟩ := gFs X654 hx hZ hown (hww 29 _ rfl) e654 (nq10 NB632) k657 (H d6_465)
      have k660 := f_il X658 hx k659 (H d6_468) rfl
      have k661 := f_bal X658 hx hZ e658 (nq27 NB632) k660 (H d6_470) (v := f188) (by decide) rfl
      obtain ⟨T662, h662, Ls662, X662, e662, N662, Zq662, F675, kq662⟩ : ∃ (T662 : State) (h662 : Heap) (Ls662 : List Loc), Stand p l e (rm 2 0 0 38) s m #[(.ref ob)] below meth c T662 Ls662 0 0 ∧ T662.heap = h662 ∧ Fr n0 Ls662 ∧ n0 ≤ h662.size ∧ NB Z h662 ob B K [(.double (0 : UInt64)), (.double (0 : UInt64)), (.double x2), (.double x3)] [(.double (0 : UInt64)), (.double (0 : UInt64)), (.double ma1), (.double mb1)] [(.double (0 : UInt64)), (.double (0 : UInt64)), (.double ya1), (.double yb1)] [(.double s0), (.double s1)] [(.double rm0), (.double rm1)] [(.double wd10), (.double wd11)] [(.double fc0), (.double fc1)] [(.double ga1), (.double gb1)] [(.int za1), (.int zb1)] [(.int (0 : Int32)), (.int f188)] [(.int (0 : Int32)), (.int (0 : Int32)), (.int (0 : Int32)), (.int (0 : Int32))] [(.int (1 : Int32)), (.int (0 : Int32))] [(.int (0 : Int32)), (.int (1 : Int32))] (1 : Int32) ∧ (Rt p e below T662 (mkF m 488 #[sr ob, si 0, si 0, si (((0 : Int32) ||| i331) ||| i457), si 0, si 1] [vI 1, vI 1, vR (B 9)]) s₁ m #[(.ref ob)] 6) := by
        by_cases qf : f188 = (0 : Int32)
        · have k663 := f_ifN X658 hx k661 (H d6_471) ((if0 _ _).trans (teq qf).2)
          have k664 := f_alN X658 hx k663 (H d6_474) rfl
          have k665 := f_il X658 hx k664 (H d6_475) rfl
          obtain ⟨cq666, q666, q666'⟩ := (nq0 NB632).cell
          obtain ⟨_, _, ⟨T666, L666, k666, n666⟩, -, X666, ⟨Lc666, hQ666, l666, y666, z666⟩, st666⟩ := X658.privateBack hx (y := (⟨"com/example/istra/istra/engine/NodeModel", "finished", "(I)Z"⟩ : MethodName)) hown (mvT hZ (hww 77 _ rfl)) (mvT hZ (hww 78 _ rfl)) (own_selP (mvT hZ (hww 41 _ rfl)) rfl (Cond.privateMethod_at (mvP hZ (hww 79 _ rfl) (args := #[]))) (mvT hZ (hww 78 _ rfl)) (by decide)) (Cond.privateMethod_at (mvP hZ (hww 79 _ rfl) (args := #[]))) (mvT hZ (hww 80 _ rfl)) (by decide) (backOf (W := 2) (fin1 l Z a0 hw [] ob B K [(.double (0 : UInt64)), (.double (0 : UInt64)), (.double x2), (.double x3)] [(.double (0 : UInt64)), (.double (0 : UInt64)), (.double ma1), (.double mb1)] [(.double s0), (.double s1)] [(.double wd10), (.double wd11)] [(.double fc0), (.double fc1)] [(.double ga1), (.double gb1)] [(.int za1), (.int zb1)] [(.int (0 : Int32)), (.int f188)] [(.int (1 : Int32)), (.int (0 : Int32))] [(.int (0 : Int32)), (.int (1 : Int32))] (1 : Int32) (0 : UInt64) (0 : UInt64) ya1 yb1 rm0 rm1 h631 n0 Z631 D NB632) hZ (hww 80 _ rfl) (hww 2 _ rfl) (by decide) (by decide)) (g := (mkF m 477 #[sr ob, si 0, si 0, si (((0 : Int32) ||| i331) ||| i457), si 0, si 1] [vI 1, vR ob, vI 1, vR (B 9)])) rfl (by rw [hml]; rfl) (Steps.refl _) (a := ob) (by rw [e658]; exact q666) q666' (argsL := [(.int (1 : Int32))]) (rest := [(.int (1 : Int32)), (.ref (B 9))]) (lenOf pd__28I_29Z rfl) rfl (by show 2 * 0 + _ ≤ _; exact Nat.le_of_eq rfl) (H d6_477) (fun _ _ => ⟨rfl, e658, (by decide : 0 + 0 ≤ _), (by decide : 0 + 0 ≤ _)⟩)
          dsimp only [Pt.U, Pt.locs, Pt.cells, Pt.slots] at X666 l666 y666 z666 st666 hQ666
          subst l666 y666 z666
          obtain ⟨h666, e666⟩ : ∃ h', T666.heap = h' := ⟨_, rfl⟩
          rw [e666] at hQ666
          obtain ⟨f666, rfl, N666q, hh666, fp666⟩ := hQ666
          have N667 := Fr.app N631 N666q
          have k668 : Rt p e below T666 (mkF m 480 #[sr ob, si 0, si 0, si (((0 : Int32) ||| i331) ||| i457), si 0, si 1] [vI f666, vI 1, vR (B 9)]) s₁ m #[(.ref ob)] 6 := fun t k => k665 t (st666.trans k)
          have ee666 : T666.heap = h631 := e666.trans hh666
          have k669 := f_ifN X666 hx k668 (H d6_480) ((if0 _ _).trans (feq (own_fin2 fp666 (own_rm hrm0 (mk1.2.2.1 qf).1) (own_rm hrm1 (mk1.2.2.1 qf).2))).1)
          have k670 := f_ic X666 hx k669 (H d6_483) (v := 1) rfl
          have k671 := f_go X666 hx k670 (H d6_484) (pc' := 488) (by decide)
          exact ⟨T666, h631, _, X666, ee666, N667, Z631, NB632, k671⟩
        · have k672 := f_ifY X658 hx k661 (H d6_471) (pc' := 483) ((if0 _ _).trans (feq qf).2) (by decide)
          have k673 := f_ic X658 hx k672 (H d6_483) (v := 1) rfl
          have k674 := f_go X658 hx k673 (H d6_484) (pc' := 488) (by decide)
          exact ⟨T658, h631, _, X658, e658, N631, Z631, NB632, k674⟩
      obtain ⟨T676, h676, L676, X676, e676, W676, V676, N676, Z676, k676⟩ := f_bst X662 hx hZ e662 (nq27 F675) N662 (G 9 (by decide)) Zq662 kq662 (H d6_488) (by decide) 1 rfl (lt_b rfl) (v' := 1) rfl
      have NB677 := nb_w9 D F675 W676 V676
      have k678 := f_ilN X676 hx k676 (H d6_489) rfl
      have k679 := f_alN X676 hx k678 (H d6_490) rfl
      obtain ⟨T680, X680, e680, k681⟩ := gFs X676 hx hZ hown (hww 29 _ rfl) e676 (nq10 NB677) k679 (H d6_491)
      have k682 := f_il X680 hx k681 (H d6_494) rfl
      have k683 := f_bal X680 hx hZ e680 (nq27 NB677) k682 (H d6_496) (v := 1) (by decide) rfl
      have k684 := f_ifY X680 hx k683 (H d6_497) (pc' := 504) ((if0 _ _).trans (feq (by decide)).2) (by decide)
      have k685 := f_ic X680 hx k684 (H d6_504) (v := 0) rfl
      have k686 := f_ior X680 hx k685 (H d6_505) (r := 0) (by decide)
      have k687 := f_isN X680 hx k686 (H d6_506) (l' := #[sr ob, si 0, si 0, si (((0 : Int32) ||| i331) ||| i457), si 0, si 1]) rfl
      have k688 := f_inc X680 hx k687 (H d6_507) rfl (l' := #[sr ob, si 0, si 0, si (((0 : Int32) ||| i331) ||| i457), si 1, si 1]) rfl
      have k689 := f_go X680 hx k688 (H d6_510) (pc' := 440) (by decide)
      have k690 := f_il X680 hx k689 (H d6_440) rfl
      have k691 := f_alN X680 hx k690 (H d6_442) rfl
      obtain ⟨T692, X692, e692, k693⟩ := gFs X680 hx hZ hown (hww 43 _ rfl) e680 (nq14 NB677) k691 (H d6_443)
      have k694 := f_icY X692 hx k693 (H d6_446) (pc' := 513) (flt (by decide)).2.1 (by decide)
      have k695 := f_inc X692 hx k694 (H d6_513) rfl (l' := #[sr ob, si 0, si 1, si (((0 : Int32) ||| i331) ||| i457), si 1, si 1]) rfl
      have k696 := f_go X692 hx k695 (H d6_516) (pc' := 134) (by decide)
      have k697 := f_ilN X692 hx k696 (H d6_134) rfl
      have k698 := f_alN X692 hx k697 (H d6_135) rfl
      obtain ⟨T699, X699, e699, k700⟩ := gFs X692 hx hZ hown (hww 45 _ rfl) e692 (nq15 NB677) k698 (H d6_136)
      have k701 := f_icN X699 hx k700 (H d6_139) (tlt (by decide)).2.1
      have k702 := f_ilN X699 hx k701 (H d6_142) rfl
      have k703 := f_ifY X699 hx k702 (H d6_143) (pc' := 519) ((if0 _ _).trans (teq (by decide)).1) (by decide)
      obtain ⟨fs, hr, hrun, hended, hW, hsame⟩ := X699.leave (v := none) (fun _ => rfl)
      refine ⟨_, _, k703 _ (X699.returnOut hx Bd.returns (H d6_519) hr), hrun, hended, _, _, rfl, ?_, ⟨_, rfl⟩, hW, hsame.mono (by decide) (by decide)⟩
      show Q_shr1 Z ob B K x2 x3 s0 s1 h0 n0 _ T699.heap _
      rw [e699]
      exact ⟨(0 : UInt64), (0 : UInt64), ma1, mb1, _, _, _, _, _, _, _, rfl, N676, Z676, NB677, ⟨(dy0 0).fin, (dy0 0).fin, mk1.1, mk1.2.1⟩, rfl, rfl⟩
theorem ef_0_IIII (m : MethodId) (x0 : Int32) (x1 : Int32) (x2 : Int32) (x3 : Int32) : entryFrame m #[(.int x0), (.int x1), (.int x2), (.int x3)] maxLocals = mkF m 0 #[.val (.int x0), .val (.int x1), .val (.int x2), .val (.int x3), .unset, .unset, .unset, .unset, .unset, .unset] [] := by first | (simp [entryFrame, mkF, argsToLocals, Value.category, maxLocals]; done) | rfl
theorem pd__28II_29V : parseMethodDescriptor "(II)V" = some ⟨[.int, .int], none⟩ := by decide +kernel
theorem pd__28IID_29V : parseMethodDescriptor "(IID)V" = some ⟨[.int, .int, .double], none⟩ := by decide +kernel
theorem pd__28ID_29V : parseMethodDescriptor "(ID)V" = some ⟨[.int, .double], none⟩ := by decide +kernel
theorem pd__28_29V : parseMethodDescriptor "()V" = some ⟨[], none⟩ := by decide +kernel
theorem pd__28I_29D : parseMethodDescriptor "(I)D" = some ⟨[.int], some .double⟩ := by decide +kernel
theorem pd__28II_29D : parseMethodDescriptor "(II)D" = some ⟨[.int, .int], some .double⟩ := by decide +kernel
def Q_rm0 (Z : State) (p0 : Int32) (p1 : Int32) (p2 : Int32) (p3 : Int32) (h0 : Heap) (n0 : Nat) (v : Option Value) (h : Heap) (L : List Loc) : Prop := v = some (.int 1) ∧ Fr n0 L
theorem pn_com_2fexample_2fistra_2fistra_2fengine_2fNodeModelUnhandedPinLaw : plainName "com/example/istra/istra/engine/NodeModelUnhandedPinLaw" = true := by first | (simp [plainName, overriddenIn]; done) | decide +kernel
set_option maxRecDepth 65536 in
set_option maxHeartbeats 40000000 in
theorem rm0 (l : Launch) (Z : State) (a0 : Array Value) (hw : ∀ d ∈ tables_1, d.before a0 Z = true) (ws : List Jvm.Cond) (p0 : Int32) (p1 : Int32) (p2 : Int32) (p3 : Int32) (h0 : Heap) (n0 : Nat) (Z0 : n0 ≤ h0.size) :
    MetFree l x (head1 (Jvm.Cond.code x code maxLocals ret :: ws) room_1) (fun a U => a = #[(.int p0), (.int p1), (.int p2), (.int p3)] ∧ Z.Warmed39 U.vm ∧ U.heap = h0) (fun _ _ _ _ _ => True) (fun _ U o U' => ∃ v L, o = .returned v ∧ Q_rm0 Z p0 p1 p2 p3 h0 n0 v U'.heap L ∧ FrameEnd U o U' L room_1.cells room_1.slots) := by
  refine MetFree.of_bodySF (plainFor_of_name pn_com_2fexample_2fistra_2fistra_2fengine_2fNodeModelUnhandedPinLaw) hisR ?_
  intro p e s m args below meth c s₁ Bd hml0 hP hK
  obtain ⟨rfl, hZ, hh⟩ := hP
  have hx := Bd.exec
  have hby := Bd.bytes
  have hml : c.maxLocals = 10 := hml0
  have hown : s.vm.findClass "com/example/istra/istra/engine/NodeModelUnhandedPinLaw" = some m.cls := findClass_of_methodNamed Bd.named
  have hnm := (name_of_methodNamed Bd.named Bd.method).1
  have X0 : Stand p l e room_1 s m #[(.int p0), (.int p1), (.int p2), (.int p3)] below meth c s₁ [] 0 0 := Stand.of_body Bd
  have e0 : s₁.heap = h0 := by rw [← hh, Bd.state]; rfl
  have N0 := Fr.nil n0
  have hww := fun (i : Nat) (c : Jvm.Cond) (h : tables_1[i]? = some c) => hw c (List.mem_of_getElem? h)
  have k0 : Rt p e below s₁ (mkF m 0 #[si p0, si p1, si p2, si p3, un, un, un, un, un, un] []) s₁ m #[(.int p0), (.int p1), (.int p2), (.int p3)] maxLocals := fun t k => castTop (ef_0_IIII m p0 p1 p2 p3) k
  have H : ∀ {pc r}, decode code pc = r → decode c.code pc = r := fun d => hb hby d
  obtain ⟨T101, h101, X101, e101, E101, A101, D101, -, st101⟩ := newO X0 hx hZ hown (hww 0 _ rfl) (hww 1 _ rfl) (hww 2 _ rfl) e0 (g := (mkF m 0 #[si p0, si p1, si p2, si p3, un, un, un, un, un, un] [])) rfl (H at_0) (by decide) (by decide)
  obtain ⟨b101, g101⟩ : ∃ z, z = h0.size := ⟨_, rfl⟩
  rw [← g101] at A101 D101 st101
  have g102 : n0 ≤ b101 := Nat.le_trans Z0 (Nat.le_of_eq g101.symm)
  have Z103 : n0 ≤ h101.size := Nat.le_trans Z0 E101.1
  have F104 : Fld Z h101 b101 "com/example/istra/istra/engine/NodeModel" "demand" "[D" .null := D101 (Or.inr (hww 11 _ rfl)) (ty := (.array .double)) (by decide)
  have F105 : Fld Z h101 b101 "com/example/istra/istra/engine/NodeModel" "moved" "[D" .null := D101 (Or.inr (hww 13 _ rfl)) (ty := (.array .double)) (by decide)
  have F106 : Fld Z h101 b101 "com/example/istra/istra/engine/NodeModel" "left" "[D" .null := D101 (Or.inr (hww 15 _ rfl)) (ty := (.array .double)) (by decide)
  have F107 : Fld Z h101 b101 "com/example/istra/istra/engine/NodeModel" "supply" "[D" .null := D101 (Or.inr (hww 17 _ rfl)) (ty := (.array .double)) (by decide)
  have F108 : Fld Z h101 b101 "com/example/istra/istra/engine/NodeModel" "room" "[D" .null := D101 (Or.inr (hww 19 _ rfl)) (ty := (.array .double)) (by decide)
  have F109 : Fld Z h101 b101 "com/example/istra/istra/engine/NodeModel" "wanted" "[D" .null := D101 (Or.inr (hww 21 _ rfl)) (ty := (.array .double)) (by decide)
  have F110 : Fld Z h101 b101 "com/example/istra/istra/engine/NodeModel" "fraction" "[D" .null := D101 (Or.inr (hww 23 _ rfl)) (ty := (.array .double)) (by decide)
  have F111 : Fld Z h101 b101 "com/example/istra/istra/engine/NodeModel" "given" "[D" .null := D101 (Or.inr (hww 25 _ rfl)) (ty := (.array .double)) (by decide)
  have F112 : Fld Z h101 b101 "com/example/istra/istra/engine/NodeModel" "spare" "[Z" .null := D101 (Or.inr (hww 28 _ rfl)) (ty := (.array .boolean)) (by decide)
  have F113 : Fld Z h101 b101 "com/example/istra/istra/engine/NodeModel" "finished" "[Z" .null := D101 (Or.inr (hww 30 _ rfl)) (ty := (.array .boolean)) (by decide)
  have F114 : Fld Z h101 b101 "com/example/istra/istra/engine/NodeModel" "closed" "[Z" .null := D101 (Or.inr (hww 32 _ rfl)) (ty := (.array .boolean)) (by decide)
  have F115 : Fld Z h101 b101 "com/example/istra/istra/engine/NodeModel" "wanting" "[I" .null := D101 (Or.inr (hww 35 _ rfl)) (ty := (.array .int)) (by decide)
  have F116 : Fld Z h101 b101 "com/example/istra/istra/engine/NodeModel" "listed" "[Z" .null := D101 (Or.inr (hww 37 _ rfl)) (ty := (.array .boolean)) (by decide)
  have F117 : Fld Z h101 b101 "com/example/istra/istra/engine/NodeModel" "wantingCount" "I" (.int (0 : Int32)) := D101 (Or.inl (hww 44 _ rfl)) (ty := .int) (by decide)
  have F118 : Fld Z h101 b101 "com/example/istra/istra/engine/NodeModel" "approaches" "I" (.int (0 : Int32)) := D101 (Or.inl (hww 46 _ rfl)) (ty := .int) (by decide)
  have F119 : Fld Z h101 b101 "com/example/istra/istra/engine/NodeModel" "columns" "I" (.int (0 : Int32)) := D101 (Or.inl (hww 48 _ rfl)) (ty := .int) (by decide)
  have F120 : Fld Z h101 b101 "com/example/istra/istra/engine/NodeModel" "anyClosed" "Z" (.int (0 : Int32)) := D101 (Or.inl (hww 51 _ rfl)) (ty := .boolean) (by decide)
  have k121 : Rt p e below T101 (mkF m 3 #[si p0, si p1, si p2, si p3, un, un, un, un, un, un] [vR b101]) s₁ m #[(.int p0), (.int p1), (.int p2), (.int p3)] maxLocals := fun t k => k0 t (st101 t k)
  have k122 := f_dup X101 hx k121 (H at_3) rfl
  have k123 := f_ic X101 hx k122 (H at_4) (v := 2) rfl
  have k124 := f_ic X101 hx k123 (H at_5) (v := 2) rfl
  have FBa := fb_mk A101 F104 F105 F106 F107 F108 F109 F110 F111 F112 F113 F114 F115 F116 F117 F118 F119 F120
  obtain ⟨_, _, ⟨T125, L125, k125, n125⟩, -, X125, ⟨Lc125, hQ125, l125, y125, z125⟩, st125⟩ := X101.specialBack hx (y := (⟨"com/example/istra/istra/engine/NodeModel", "<init>", "(II)V"⟩ : MethodName)) rfl hown (mvT hZ (hww 3 _ rfl)) (mvT hZ (hww 4 _ rfl)) (mvT hZ (hww 5 _ rfl)) (by decide) (backOf (W := 1) (ini l Z a0 hw [] b101 h101 n0 Z103 FBa g102) hZ (hww 5 _ rfl) (hww 2 _ rfl) (by decide) (by decide)) (g := (mkF m 6 #[si p0, si p1, si p2, si p3, un, un, un, un, un, un] [vI 2, vI 2, vR b101, vR b101])) rfl (by rw [hml]; rfl) (Steps.refl _) (a := b101) (argsL := [(.int (2 : Int32)), (.int (2 : Int32))]) (rest := [(.ref b101)]) (lenOf pd__28II_29V rfl) rfl (by show 2 * 0 + _ ≤ _; exact Nat.le_of_eq rfl) (H at_6) (fun _ _ => ⟨rfl, e101, (by decide : 1 + 13 ≤ _), (by decide : 17 + 34 ≤ _)⟩)
  dsimp only [Pt.U, Pt.locs, Pt.cells, Pt.slots] at X125 l125 y125 z125 st125 hQ125
  subst l125 y125 z125
  obtain ⟨h125, e125⟩ : ∃ h', T125.heap = h' := ⟨_, rfl⟩
  rw [e125] at hQ125
  obtain ⟨B, K, rfl, N125q, Z125, D, G, FBb, V0, V1, V2, V3, V4, V5, V6, V7, V8, V9, V10, V11, V12⟩ := hQ125
  have N126 := Fr.app N0 N125q
  have k127 : Rt p e below T125 (mkF m 9 #[si p0, si p1, si p2, si p3, un, un, un, un, un, un] [vR b101]) s₁ m #[(.int p0), (.int p1), (.int p2), (.int p3)] maxLocals := fun t k => k124 t (st125.trans k)
  have k128 := f_as X125 hx k127 (H at_9) (l' := #[si p0, si p1, si p2, si p3, sr b101, un, un, un, un, un]) rfl
  have k129 := f_al X125 hx k128 (H at_11) rfl
  have k130 := f_ic X125 hx k129 (H at_13) (v := 2) rfl
  have k131 := f_ic X125 hx k130 (H at_14) (v := 2) rfl
  obtain ⟨cq132, kq132, q132a, q132b, q132c⟩ := isOf hZ e125 FBb.1
  obtain ⟨_, _, ⟨T132, L132, k132, n132⟩, -, X132, ⟨Lc132, hQ132, l132, y132, z132⟩, st132⟩ := X125.virtualBack hx (y := (⟨"com/example/istra/istra/engine/NodeModel", "open", "(II)V"⟩ : MethodName)) (z := (⟨"com/example/istra/istra/engine/NodeModel", "open", "(II)V"⟩ : MethodName)) hown (mvT hZ (hww 38 _ rfl)) (mvT hZ (hww 39 _ rfl)) (notFace_of_selects (args := #[]) (mvT hZ (hww 41 _ rfl))) (mvT hZ (hww 41 _ rfl)) (mvT hZ (hww 40 _ rfl)) (by decide) (backOf (W := 0) (opn l Z a0 hw [] b101 B K h125 n0 Z125 D g102 G FBb V0 V1 V2 V3 V4 V5 V6 V7 V8 V9 V10 V11 V12) hZ (hww 42 _ rfl) (hww 2 _ rfl) (by decide) (by decide)) q132a q132c (g := (mkF m 15 #[si p0, si p1, si p2, si p3, sr b101, un, un, un, un, un] [vI 2, vI 2, vR b101])) rfl (by rw [hml]; rfl) (Steps.refl _) (argsL := [(.int (2 : Int32)), (.int (2 : Int32))]) (rest := []) (lenOf pd__28II_29V rfl) rfl (by show 2 * 0 + _ ≤ _; exact Nat.le_of_eq rfl) (H at_15) (fun _ _ => ⟨rfl, e125, (by decide : 14 + 0 ≤ _), (by decide : 51 + 0 ≤ _)⟩)
  dsimp only [Pt.U, Pt.locs, Pt.cells, Pt.slots] at X132 l132 y132 z132 st132 hQ132
  subst l132 y132 z132
  obtain ⟨h132, e132⟩ : ∃ h', T132.heap = h' := ⟨_, rfl⟩
  rw [e132] at hQ132
  obtain ⟨rfl, N132q, Z132, NB132⟩ := hQ132
  have N133 := Fr.app N126 N132q
  have k134 : Rt p e below T132 (mkF m 18 #[si p0, si p1, si p2, si p3, sr b101, un, un, un, un, un] []) s₁ m #[(.int p0), (.int p1), (.int p2), (.int p3)] maxLocals := fun t k => k131 t (st132.trans k)
  have k135 := f_ilN X132 hx k134 (H at_18) rfl
  have k136 := f_ic X132 hx k135 (H at_19) (v := 5) rfl
  have k137 := f_iushr X132 hx k136 (H at_20) rfl
  have k138 := f_ic X132 hx k137 (H at_21) (v := 1) rfl
  have k139 := f_iand X132 hx k138 (H at_22) rfl
  obtain ⟨cl, hcl⟩ : ∃ z : Int32, z = (((p0.toUInt32 >>> ((5 : Int32) &&& 31).toUInt32).toInt32) &&& (1 : Int32)) := ⟨_, rfl⟩
  have k140 : Rt p e below T132 (mkF m 23 #[si p0, si p1, si p2, si p3, sr b101, un, un, un, un, un] [vI cl]) s₁ m #[(.int p0), (.int p1), (.int p2), (.int p3)] maxLocals := fun t q => k139 t (castTop (by rw [show (((p0.toUInt32 >>> ((5 : Int32) &&& 31).toUInt32).toInt32) &&& (1 : Int32)) = cl from hcl.symm]) q)
  have k141 := f_is X132 hx k140 (H at_23) (l' := #[si p0, si p1, si p2, si p3, sr b101, si cl, un, un, un, un]) rfl
  have k142 := f_ilN X132 hx k141 (H at_25) rfl
  have k143 := f_ic X132 hx k142 (H at_26) (v := 1) rfl
  have k144 := f_iand X132 hx k143 (H at_27) rfl
  by_cases q1 : (p0 &&& (1 : Int32)) = (0 : Int32)
  · have k145 := f_ifY X132 hx k144 (H at_28) (pc' := 48) ((if0 _ _).trans (teq q1).1) (by decide)
    have k146 := f_al X132 hx k145 (H at_48) rfl
    have k147 := f_ic X132 hx k146 (H at_50) (v := 1) rfl
    have k148 := f_ilN X132 hx k147 (H at_51) rfl
    have k149 := f_ic X132 hx k148 (H at_52) (v := 2) rfl
    have k150 := f_iushr X132 hx k149 (H at_53) rfl
    have k151 := f_ic X132 hx k150 (H at_54) (v := 1) rfl
    have k152 := f_iand X132 hx k151 (H at_55) rfl
    obtain ⟨cb, hcb⟩ : ∃ z : Int32, z = (((p0.toUInt32 >>> ((2 : Int32) &&& 31).toUInt32).toInt32) &&& (1 : Int32)) := ⟨_, rfl⟩
    have k153 : Rt p e below T132 (mkF m 56 #[si p0, si p1, si p2, si p3, sr b101, si cl, un, un, un, un] [vI cb, vI 1, vR b101]) s₁ m #[(.int p0), (.int p1), (.int p2), (.int p3)] maxLocals := fun t q => k152 t (castTop (by rw [show (((p0.toUInt32 >>> ((2 : Int32) &&& 31).toUInt32).toInt32) &&& (1 : Int32)) = cb from hcb.symm]) q)
    obtain ⟨T154, h154, Ls154, x2, x3, X154, e154, N154, Zq154, F169, hd1, kq154⟩ : ∃ (T154 : State) (h154 : Heap) (Ls154 : List Loc) (x2 : UInt64) (x3 : UInt64), Stand p l e room_1 s m #[(.int p0), (.int p1), (.int p2), (.int p3)] below meth c T154 Ls154 14 51 ∧ T154.heap = h154 ∧ Fr n0 Ls154 ∧ n0 ≤ h154.size ∧ NB Z h154 b101 B K [(.double (0 : UInt64)), (.double (0 : UInt64)), (.double x2), (.double x3)] [(.double (0 : UInt64)), (.double (0 : UInt64)), (.double (0 : UInt64)), (.double (0 : UInt64))] [(.double (0 : UInt64)), (.double (0 : UInt64)), (.double (0 : UInt64)), (.double (0 : UInt64))] [(.double (9218868437227405312 : UInt64)), (.double (9218868437227405312 : UInt64))] [(.double (0 : UInt64)), (.double (0 : UInt64))] [(.double (0 : UInt64)), (.double (0 : UInt64))] [(.double (0 : UInt64)), (.double (0 : UInt64))] [(.double (0 : UInt64)), (.double (0 : UInt64))] [(.int (0 : Int32)), (.int (0 : Int32))] [(.int (0 : Int32)), (.int (0 : Int32))] [(.int (0 : Int32)), (.int (0 : Int32)), (.int (0 : Int32)), (.int (0 : Int32))] [(.int (1 : Int32)), (.int (0 : Int32))] [(.int (0 : Int32)), (.int (1 : Int32))] (1 : Int32) ∧ (own_dem x2 x3) ∧ (Rt p e below T154 (mkF m 65 #[si p0, si p1, si p2, si p3, sr b101, si cl, un, un, un, un] []) s₁ m #[(.int p0), (.int p1), (.int p2), (.int p3)] maxLocals) := by
      rcases own_m2 _ _ hcb with rfl | rfl
      · have k155 := f_ilN X132 hx k153 (H at_56) rfl
        have k156 := f_sp X132 hx k155 (H at_57) (v := 255) rfl
        have k157 := f_iand X132 hx k156 (H at_60) rfl
        have k158 := f_i2d X132 hx k157 (H at_61)
        obtain ⟨cq159, kq159, q159a, q159b, q159c⟩ := isOf hZ e132 (nq0 NB132)
        obtain ⟨_, _, ⟨T159, L159, k159, n159⟩, -, X159, ⟨Lc159, hQ159, l159, y159, z159⟩, st159⟩ := X132.virtualBack hx (y := (⟨"com/example/istra/istra/engine/NodeModel", "want", "(IID)V"⟩ : MethodName)) (z := (⟨"com/example/istra/istra/engine/NodeModel", "want", "(IID)V"⟩ : MethodName)) hown (mvT hZ (hww 52 _ rfl)) (mvT hZ (hww 53 _ rfl)) (notFace_of_selects (args := #[]) (mvT hZ (hww 55 _ rfl))) (mvT hZ (hww 55 _ rfl)) (mvT hZ (hww 54 _ rfl)) (by decide) (backOf (W := 0) (wnt100 l Z a0 hw [] b101 B K [(.double (0 : UInt64)), (.double (0 : UInt64)), (.double (0 : UInt64)), (.double (0 : UInt64))] [(.double (0 : UInt64)), (.double (0 : UInt64)), (.double (0 : UInt64)), (.double (0 : UInt64))] [(.double (9218868437227405312 : UInt64)), (.double (9218868437227405312 : UInt64))] [(.double (0 : UInt64)), (.double (0 : UInt64))] [(.double (0 : UInt64)), (.double (0 : UInt64))] [(.double (0 : UInt64)), (.double (0 : UInt64))] [(.double (0 : UInt64)), (.double (0 : UInt64))] [(.int (0 : Int32)), (.int (0 : Int32))] [(.int (0 : Int32)), (.int (0 : Int32))] [(.int (0 : Int32)), (.int (0 : Int32)), (.int (0 : Int32)), (.int (0 : Int32))] (0 : UInt64) (0 : UInt64) (0 : UInt64) (0 : UInt64) (FP.i2d (p2 &&& (255 : Int32))) h132 n0 Z132 D g102 G NB132) hZ (hww 56 _ rfl) (hww 2 _ rfl) (by decide) (by decide)) q159a q159c (g := (mkF m 62 #[si p0, si p1, si p2, si p3, sr b101, si cl, un, un, un, un] [vD (FP.i2d (p2 &&& (255 : Int32))), vI 0, vI 1, vR b101])) rfl (by rw [hml]; rfl) (Steps.refl _) (argsL := [(.int (1 : Int32)), (.int (0 : Int32)), (.double (FP.i2d (p2 &&& (255 : Int32))))]) (rest := []) (lenOf pd__28IID_29V rfl) rfl (by show 2 * 0 + _ ≤ _; exact Nat.le_of_eq rfl) (H at_62) (fun _ _ => ⟨rfl, e132, (by decide : 14 + 0 ≤ _), (by decide : 51 + 0 ≤ _)⟩)
        dsimp only [Pt.U, Pt.locs, Pt.cells, Pt.slots] at X159 l159 y159 z159 st159 hQ159
        subst l159 y159 z159
        obtain ⟨h159, e159⟩ : ∃ h', T159.heap = h' := ⟨_, rfl⟩
        rw [e159] at hQ159
        obtain ⟨rfl, N159q, Z159, NB159⟩ := hQ159
        have N160 := Fr.app N133 N159q
        have k161 : Rt p e below T159 (mkF m 65 #[si p0, si p1, si p2, si p3, sr b101, si cl, un, un, un, un] []) s₁ m #[(.int p0), (.int p1), (.int p2), (.int p3)] maxLocals := fun t k => k158 t (st159.trans k)
        exact ⟨T159, h159, _, (FP.i2d (p2 &&& (255 : Int32))), (0 : UInt64), X159, e159, N160, Z159, NB159, ⟨own_dq p2, dq0 (by decide), Or.inr rfl⟩, k161⟩
      · have k162 := f_ilN X132 hx k153 (H at_56) rfl
        have k163 := f_sp X132 hx k162 (H at_57) (v := 255) rfl
        have k164 := f_iand X132 hx k163 (H at_60) rfl
        have k165 := f_i2d X132 hx k164 (H at_61)
        obtain ⟨cq166, kq166, q166a, q166b, q166c⟩ := isOf hZ e132 (nq0 NB132)
        obtain ⟨_, _, ⟨T166, L166, k166, n166⟩, -, X166, ⟨Lc166, hQ166, l166, y166, z166⟩, st166⟩ := X132.virtualBack hx (y := (⟨"com/example/istra/istra/engine/NodeModel", "want", "(IID)V"⟩ : MethodName)) (z := (⟨"com/example/istra/istra/engine/NodeModel", "want", "(IID)V"⟩ : MethodName)) hown (mvT hZ (hww 52 _ rfl)) (mvT hZ (hww 53 _ rfl)) (notFace_of_selects (args := #[]) (mvT hZ (hww 55 _ rfl))) (mvT hZ (hww 55 _ rfl)) (mvT hZ (hww 54 _ rfl)) (by decide) (backOf (W := 0) (wnt101 l Z a0 hw [] b101 B K [(.double (0 : UInt64)), (.double (0 : UInt64)), (.double (0 : UInt64)), (.double (0 : UInt64))] [(.double (0 : UInt64)), (.double (0 : UInt64)), (.double (0 : UInt64)), (.double (0 : UInt64))] [(.double (9218868437227405312 : UInt64)), (.double (9218868437227405312 : UInt64))] [(.double (0 : UInt64)), (.double (0 : UInt64))] [(.double (0 : UInt64)), (.double (0 : UInt64))] [(.double (0 : UInt64)), (.double (0 : UInt64))] [(.double (0 : UInt64)), (.double (0 : UInt64))] [(.int (0 : Int32)), (.int (0 : Int32))] [(.int (0 : Int32)), (.int (0 : Int32))] [(.int (0 : Int32)), (.int (0 : Int32)), (.int (0 : Int32)), (.int (0 : Int32))] (0 : UInt64) (0 : UInt64) (0 : UInt64) (0 : UInt64) (FP.i2d (p2 &&& (255 : Int32))) h132 n0 Z132 D g102 G NB132) hZ (hww 56 _ rfl) (hww 2 _ rfl) (by decide) (by decide)) q166a q166c (g := (mkF m 62 #[si p0, si p1, si p2, si p3, sr b101, si cl, un, un, un, un] [vD (FP.i2d (p2 &&& (255 : Int32))), vI 1, vI 1, vR b101])) rfl (by rw [hml]; rfl) (Steps.refl _) (argsL := [(.int (1 : Int32)), (.int (1 : Int32)), (.double (FP.i2d (p2 &&& (255 : Int32))))]) (rest := []) (lenOf pd__28IID_29V rfl) rfl (by show 2 * 0 + _ ≤ _; exact Nat.le_of_eq rfl) (H at_62) (fun _ _ => ⟨rfl, e132, (by decide : 14 + 0 ≤ _), (by decide : 51 + 0 ≤ _)⟩)
        dsimp only [Pt.U, Pt.locs, Pt.cells, Pt.slots] at X166 l166 y166 z166 st166 hQ166
        subst l166 y166 z166
        obtain ⟨h166, e166⟩ : ∃ h', T166.heap = h' := ⟨_, rfl⟩
        rw [e166] at hQ166
        obtain ⟨rfl, N166q, Z166, NB166⟩ := hQ166
        have N167 := Fr.app N133 N166q
        have k168 : Rt p e below T166 (mkF m 65 #[si p0, si p1, si p2, si p3, sr b101, si cl, un, un, un, un] []) s₁ m #[(.int p0), (.int p1), (.int p2), (.int p3)] maxLocals := fun t k => k165 t (st166.trans k)
        exact ⟨T166, h166, _, (0 : UInt64), (FP.i2d (p2 &&& (255 : Int32))), X166, e166, N167, Z166, NB166, ⟨dq0 (by decide), own_dq p2, Or.inl rfl⟩, k168⟩
    have k170 := f_ilN X154 hx kq154 (H at_65) rfl
    have k171 := f_bp X154 hx k170 (H at_66) (v := 8) rfl
    have k172 := f_iand X154 hx k171 (H at_68) rfl
    obtain ⟨T173, h173, Ls173, s0, s1, X173, e173, N173, Zq173, F197, hs0, hs1, kq173⟩ : ∃ (T173 : State) (h173 : Heap) (Ls173 : List Loc) (s0 : UInt64) (s1 : UInt64), Stand p l e room_1 s m #[(.int p0), (.int p1), (.int p2), (.int p3)] below meth c T173 Ls173 14 51 ∧ T173.heap = h173 ∧ Fr n0 Ls173 ∧ n0 ≤ h173.size ∧ NB Z h173 b101 B K [(.double (0 : UInt64)), (.double (0 : UInt64)), (.double x2), (.double x3)] [(.double (0 : UInt64)), (.double (0 : UInt64)), (.double (0 : UInt64)), (.double (0 : UInt64))] [(.double (0 : UInt64)), (.double (0 : UInt64)), (.double (0 : UInt64)), (.double (0 : UInt64))] [(.double s0), (.double s1)] [(.double (0 : UInt64)), (.double (0 : UInt64))] [(.double (0 : UInt64)), (.double (0 : UInt64))] [(.double (0 : UInt64)), (.double (0 : UInt64))] [(.double (0 : UInt64)), (.double (0 : UInt64))] [(.int (0 : Int32)), (.int (0 : Int32))] [(.int (0 : Int32)), (.int (0 : Int32))] [(.int (0 : Int32)), (.int (0 : Int32)), (.int (0 : Int32)), (.int (0 : Int32))] [(.int (1 : Int32)), (.int (0 : Int32))] [(.int (0 : Int32)), (.int (1 : Int32))] (1 : Int32) ∧ (SupQ s0) ∧ (SupQ s1) ∧ (Rt p e below T173 (mkF m 88 #[si p0, si p1, si p2, si p3, sr b101, si cl, un, un, un, un] []) s₁ m #[(.int p0), (.int p1), (.int p2), (.int p3)] maxLocals) := by
      by_cases q8 : (p0 &&& (8 : Int32)) = (0 : Int32)
      · have k174 := f_ifY X154 hx k172 (H at_69) (pc' := 88) ((if0 _ _).trans (teq q8).1) (by decide)
        exact ⟨T154, h154, _, (9218868437227405312 : UInt64), (9218868437227405312 : UInt64), X154, e154, N154, Zq154, F169, (Or.inl rfl), (Or.inl rfl), k174⟩
      · have k175 := f_ifN X154 hx k172 (H at_69) ((if0 _ _).trans (feq q8).1)
        have k176 := f_al X154 hx k175 (H at_72) rfl
        have k177 := f_ilN X154 hx k176 (H at_74) rfl
        have k178 := f_ic X154 hx k177 (H at_75) (v := 4) rfl
        have k179 := f_iushr X154 hx k178 (H at_76) rfl
        have k180 := f_ic X154 hx k179 (H at_77) (v := 1) rfl
        have k181 := f_iand X154 hx k180 (H at_78) rfl
        obtain ⟨cs, hcs⟩ : ∃ z : Int32, z = (((p0.toUInt32 >>> ((4 : Int32) &&& 31).toUInt32).toInt32) &&& (1 : Int32)) := ⟨_, rfl⟩
        have k182 : Rt p e below T154 (mkF m 79 #[si p0, si p1, si p2, si p3, sr b101, si cl, un, un, un, un] [vI cs, vR b101]) s₁ m #[(.int p0), (.int p1), (.int p2), (.int p3)] maxLocals := fun t q => k181 t (castTop (by rw [show (((p0.toUInt32 >>> ((4 : Int32) &&& 31).toUInt32).toInt32) &&& (1 : Int32)) = cs from hcs.symm]) q)
        rcases own_m2 _ _ hcs with rfl | rfl
        · have k183 := f_ilN X154 hx k182 (H at_79) rfl
          have k184 := f_sp X154 hx k183 (H at_80) (v := 255) rfl
          have k185 := f_iand X154 hx k184 (H at_83) rfl
          have k186 := f_i2d X154 hx k185 (H at_84)
          obtain ⟨cq187, kq187, q187a, q187b, q187c⟩ := isOf hZ e154 (nq0 F169)
          obtain ⟨_, _, ⟨T187, L187, k187, n187⟩, -, X187, ⟨Lc187, hQ187, l187, y187, z187⟩, st187⟩ := X154.virtualBack hx (y := (⟨"com/example/istra/istra/engine/NodeModel", "supply", "(ID)V"⟩ : MethodName)) (z := (⟨"com/example/istra/istra/engine/NodeModel", "supply", "(ID)V"⟩ : MethodName)) hown (mvT hZ (hww 103 _ rfl)) (mvT hZ (hww 104 _ rfl)) (notFace_of_selects (args := #[]) (mvT hZ (hww 106 _ rfl))) (mvT hZ (hww 106 _ rfl)) (mvT hZ (hww 105 _ rfl)) (by decide) (backOf (W := 0) (psup0 l Z a0 hw [] b101 B K [(.double (0 : UInt64)), (.double (0 : UInt64)), (.double x2), (.double x3)] [(.double (0 : UInt64)), (.double (0 : UInt64)), (.double (0 : UInt64)), (.double (0 : UInt64))] [(.double (0 : UInt64)), (.double (0 : UInt64)), (.double (0 : UInt64)), (.double (0 : UInt64))] [(.double (0 : UInt64)), (.double (0 : UInt64))] [(.double (0 : UInt64)), (.double (0 : UInt64))] [(.double (0 : UInt64)), (.double (0 : UInt64))] [(.double (0 : UInt64)), (.double (0 : UInt64))] [(.int (0 : Int32)), (.int (0 : Int32))] [(.int (0 : Int32)), (.int (0 : Int32))] [(.int (0 : Int32)), (.int (0 : Int32)), (.int (0 : Int32)), (.int (0 : Int32))] [(.int (1 : Int32)), (.int (0 : Int32))] [(.int (0 : Int32)), (.int (1 : Int32))] (1 : Int32) (9218868437227405312 : UInt64) (9218868437227405312 : UInt64) (FP.i2d (p3 &&& (255 : Int32))) h154 n0 Zq154 D F169 G) hZ (hww 107 _ rfl) (hww 2 _ rfl) (by decide) (by decide)) q187a q187c (g := (mkF m 85 #[si p0, si p1, si p2, si p3, sr b101, si cl, un, un, un, un] [vD (FP.i2d (p3 &&& (255 : Int32))), vI 0, vR b101])) rfl (by rw [hml]; rfl) (Steps.refl _) (argsL := [(.int (0 : Int32)), (.double (FP.i2d (p3 &&& (255 : Int32))))]) (rest := []) (lenOf pd__28ID_29V rfl) rfl (by show 2 * 0 + _ ≤ _; exact Nat.le_of_eq rfl) (H at_85) (fun _ _ => ⟨rfl, e154, (by decide : 14 + 0 ≤ _), (by decide : 51 + 0 ≤ _)⟩)
          dsimp only [Pt.U, Pt.locs, Pt.cells, Pt.slots] at X187 l187 y187 z187 st187 hQ187
          subst l187 y187 z187
          obtain ⟨h187, e187⟩ : ∃ h', T187.heap = h' := ⟨_, rfl⟩
          rw [e187] at hQ187
          obtain ⟨rfl, N187q, Kp187, NB187⟩ := hQ187
          have N188 := Fr.app N154 N187q
          have k189 : Rt p e below T187 (mkF m 88 #[si p0, si p1, si p2, si p3, sr b101, si cl, un, un, un, un] []) s₁ m #[(.int p0), (.int p1), (.int p2), (.int p3)] maxLocals := fun t k => k186 t (st187.trans k)
          have Z187 : n0 ≤ h187.size := Nat.le_trans Zq154 Kp187.1
          exact ⟨T187, h187, _, (FP.i2d (p3 &&& (255 : Int32))), (9218868437227405312 : UInt64), X187, e187, N188, Z187, NB187, (Or.inr (own_dq p3)), (Or.inl rfl), k189⟩
        · have k190 := f_ilN X154 hx k182 (H at_79) rfl
          have k191 := f_sp X154 hx k190 (H at_80) (v := 255) rfl
          have k192 := f_iand X154 hx k191 (H at_83) rfl
          have k193 := f_i2d X154 hx k192 (H at_84)
          obtain ⟨cq194, kq194, q194a, q194b, q194c⟩ := isOf hZ e154 (nq0 F169)
          obtain ⟨_, _, ⟨T194, L194, k194, n194⟩, -, X194, ⟨Lc194, hQ194, l194, y194, z194⟩, st194⟩ := X154.virtualBack hx (y := (⟨"com/example/istra/istra/engine/NodeModel", "supply", "(ID)V"⟩ : MethodName)) (z := (⟨"com/example/istra/istra/engine/NodeModel", "supply", "(ID)V"⟩ : MethodName)) hown (mvT hZ (hww 103 _ rfl)) (mvT hZ (hww 104 _ rfl)) (notFace_of_selects (args := #[]) (mvT hZ (hww 106 _ rfl))) (mvT hZ (hww 106 _ rfl)) (mvT hZ (hww 105 _ rfl)) (by decide) (backOf (W := 0) (psup1 l Z a0 hw [] b101 B K [(.double (0 : UInt64)), (.double (0 : UInt64)), (.double x2), (.double x3)] [(.double (0 : UInt64)), (.double (0 : UInt64)), (.double (0 : UInt64)), (.double (0 : UInt64))] [(.double (0 : UInt64)), (.double (0 : UInt64)), (.double (0 : UInt64)), (.double (0 : UInt64))] [(.double (0 : UInt64)), (.double (0 : UInt64))] [(.double (0 : UInt64)), (.double (0 : UInt64))] [(.double (0 : UInt64)), (.double (0 : UInt64))] [(.double (0 : UInt64)), (.double (0 : UInt64))] [(.int (0 : Int32)), (.int (0 : Int32))] [(.int (0 : Int32)), (.int (0 : Int32))] [(.int (0 : Int32)), (.int (0 : Int32)), (.int (0 : Int32)), (.int (0 : Int32))] [(.int (1 : Int32)), (.int (0 : Int32))] [(.int (0 : Int32)), (.int (1 : Int32))] (1 : Int32) (9218868437227405312 : UInt64) (9218868437227405312 : UInt64) (FP.i2d (p3 &&& (255 : Int32))) h154 n0 Zq154 D F169 G) hZ (hww 107 _ rfl) (hww 2 _ rfl) (by decide) (by decide)) q194a q194c (g := (mkF m 85 #[si p0, si p1, si p2, si p3, sr b101, si cl, un, un, un, un] [vD (FP.i2d (p3 &&& (255 : Int32))), vI 1, vR b101])) rfl (by rw [hml]; rfl) (Steps.refl _) (argsL := [(.int (1 : Int32)), (.double (FP.i2d (p3 &&& (255 : Int32))))]) (rest := []) (lenOf pd__28ID_29V rfl) rfl (by show 2 * 0 + _ ≤ _; exact Nat.le_of_eq rfl) (H at_85) (fun _ _ => ⟨rfl, e154, (by decide : 14 + 0 ≤ _), (by decide : 51 + 0 ≤ _)⟩)
          dsimp only [Pt.U, Pt.locs, Pt.cells, Pt.slots] at X194 l194 y194 z194 st194 hQ194
          subst l194 y194 z194
          obtain ⟨h194, e194⟩ : ∃ h', T194.heap = h' := ⟨_, rfl⟩
          rw [e194] at hQ194
          obtain ⟨rfl, N194q, Kp194, NB194⟩ := hQ194
          have N195 := Fr.app N154 N194q
          have k196 : Rt p e below T194 (mkF m 88 #[si p0, si p1, si p2, si p3, sr b101, si cl, un, un, un, un] []) s₁ m #[(.int p0), (.int p1), (.int p2), (.int p3)] maxLocals := fun t k => k193 t (st194.trans k)
          have Z194 : n0 ≤ h194.size := Nat.le_trans Zq154 Kp194.1
          exact ⟨T194, h194, _, (9218868437227405312 : UInt64), (FP.i2d (p3 &&& (255 : Int32))), X194, e194, N195, Z194, NB194, (Or.inl rfl), (Or.inr (own_dq p3)), k196⟩
    have k198 := f_al X173 hx kq173 (H at_88) rfl
    obtain ⟨cq199, kq199, q199a, q199b, q199c⟩ := isOf hZ e173 (nq0 F197)
    obtain ⟨_, _, ⟨T199, L199, k199, n199⟩, -, X199, ⟨Lc199, hQ199, l199, y199, z199⟩, st199⟩ := X173.virtualBack hx (y := (⟨"com/example/istra/istra/engine/NodeModel", "share", "()V"⟩ : MethodName)) (z := (⟨"com/example/istra/istra/engine/NodeModel", "share", "()V"⟩ : MethodName)) hown (mvT hZ (hww 61 _ rfl)) (mvT hZ (hww 62 _ rfl)) (notFace_of_selects (args := #[]) (mvT hZ (hww 64 _ rfl))) (mvT hZ (hww 64 _ rfl)) (mvT hZ (hww 63 _ rfl)) (by decide) (backOf (W := 0) (shr1 l Z a0 hw [] b101 B K x2 x3 s0 s1 h173 n0 Zq173 D g102 G F197 hd1 hs0 hs1) hZ (hww 65 _ rfl) (hww 2 _ rfl) (by decide) (by decide)) q199a q199c (g := (mkF m 90 #[si p0, si p1, si p2, si p3, sr b101, si cl, un, un, un, un] [vR b101])) rfl (by rw [hml]; rfl) (Steps.refl _) (argsL := []) (rest := []) (lenOf pd__28_29V rfl) rfl (by show 2 * 0 + _ ≤ _; exact Nat.le_of_eq rfl) (H at_90) (fun _ _ => ⟨rfl, e173, (by decide : 14 + 0 ≤ _), (by decide : 51 + 0 ≤ _)⟩)
    dsimp only [Pt.U, Pt.locs, Pt.cells, Pt.slots] at X199 l199 y199 z199 st199 hQ199
    subst l199 y199 z199
    obtain ⟨h199, e199⟩ : ∃ h', T199.heap = h' := ⟨_, rfl⟩
    rw [e199] at hQ199
    obtain ⟨m0, m1, m2, m3, l2, l4, l5, l6, l7, l8, l9, rfl, N199q, Z199, NB199, hm, rfl, rfl⟩ := hQ199
    have N200 := Fr.app N173 N199q
    have k201 : Rt p e below T199 (mkF m 93 #[si p0, si p1, si p2, si p3, sr b101, si cl, un, un, un, un] []) s₁ m #[(.int p0), (.int p1), (.int p2), (.int p3)] maxLocals := fun t k => k198 t (st199.trans k)
    have k202 := f_al X199 hx k201 (H at_93) rfl
    have k203 := f_il X199 hx k202 (H at_95) rfl
    rcases own_m2 _ _ hcl with rfl | rfl
    · have y1 := own_nns hs0 hm.1
      have y2 := nn_of (dsub_out (no_of y1) hm.2.2.1)
      have y3 := own_nns hs0 hm.2.2.1
      obtain ⟨cq204, kq204, q204a, q204b, q204c⟩ := isOf hZ e199 (nq0 NB199)
      obtain ⟨_, _, ⟨T204, L204, k204, n204⟩, -, X204, ⟨Lc204, hQ204, l204, y204, z204⟩, st204⟩ := X199.virtualBack hx (y := (⟨"com/example/istra/istra/engine/NodeModel", "unhanded", "(I)D"⟩ : MethodName)) (z := (⟨"com/example/istra/istra/engine/NodeModel", "unhanded", "(I)D"⟩ : MethodName)) hown (mvT hZ (hww 88 _ rfl)) (mvT hZ (hww 89 _ rfl)) (notFace_of_selects (args := #[]) (mvT hZ (hww 91 _ rfl))) (mvT hZ (hww 91 _ rfl)) (mvT hZ (hww 90 _ rfl)) (by decide) (backOf (W := 0) (unh10 l Z a0 hw [] b101 B K [(.double (0 : UInt64)), (.double (0 : UInt64)), (.double x2), (.double x3)] l2 l4 l5 l6 l7 l8 l9 [(.int (0 : Int32)), (.int (0 : Int32)), (.int (0 : Int32)), (.int (0 : Int32))] [(.int (0 : Int32)), (.int (1 : Int32))] s0 s1 (0 : UInt64) (0 : UInt64) m2 m3 h199 n0 Z199 D NB199 y3) hZ (hww 92 _ rfl) (hww 2 _ rfl) (by decide) (by decide)) q204a q204c (g := (mkF m 97 #[si p0, si p1, si p2, si p3, sr b101, si 0, un, un, un, un] [vI 0, vR b101])) rfl (by rw [hml]; rfl) (Steps.refl _) (argsL := [(.int (0 : Int32))]) (rest := []) (lenOf pd__28I_29D rfl) rfl (by show 2 * 0 + _ ≤ _; exact Nat.le_of_eq rfl) (H at_97) (fun _ _ => ⟨rfl, e199, (by decide : 14 + 0 ≤ _), (by decide : 51 + 0 ≤ _)⟩)
      dsimp only [Pt.U, Pt.locs, Pt.cells, Pt.slots] at X204 l204 y204 z204 st204 hQ204
      subst l204 y204 z204
      obtain ⟨rfl, N204q, e204⟩ := hQ204
      have N205 := Fr.app N200 N204q
      have k206 : Rt p e below T204 (mkF m 100 #[si p0, si p1, si p2, si p3, sr b101, si 0, un, un, un, un] [vD (FP.dsub s0 m2)]) s₁ m #[(.int p0), (.int p1), (.int p2), (.int p3)] maxLocals := fun t k => k203 t (st204.trans k)
      have k207 := f_ds X204 hx k206 (H at_100) (l' := #[si p0, si p1, si p2, si p3, sr b101, si 0, sd (FP.dsub s0 m2), se, un, un]) rfl
      have k208 := f_al X204 hx k207 (H at_102) rfl
      have k209 := f_il X204 hx k208 (H at_104) rfl
      obtain ⟨cq210, kq210, q210a, q210b, q210c⟩ := isOf hZ e204 (nq0 NB199)
      obtain ⟨_, _, ⟨T210, L210, k210, n210⟩, -, X210, ⟨Lc210, hQ210, l210, y210, z210⟩, st210⟩ := X204.virtualBack hx (y := (⟨"com/example/istra/istra/engine/NodeModel", "supply", "(I)D"⟩ : MethodName)) (z := (⟨"com/example/istra/istra/engine/NodeModel", "supply", "(I)D"⟩ : MethodName)) hown (mvT hZ (hww 93 _ rfl)) (mvT hZ (hww 94 _ rfl)) (notFace_of_selects (args := #[]) (mvT hZ (hww 96 _ rfl))) (mvT hZ (hww 96 _ rfl)) (mvT hZ (hww 95 _ rfl)) (by decide) (backOf (W := 0) (gsup0 l Z a0 hw [] b101 B K [(.double (0 : UInt64)), (.double (0 : UInt64)), (.double x2), (.double x3)] [(.double (0 : UInt64)), (.double (0 : UInt64)), (.double m2), (.double m3)] l2 l4 l5 l6 l7 l8 l9 [(.int (0 : Int32)), (.int (0 : Int32)), (.int (0 : Int32)), (.int (0 : Int32))] [(.int (1 : Int32)), (.int (0 : Int32))] [(.int (0 : Int32)), (.int (1 : Int32))] (1 : Int32) s0 s1 h199 n0 Z199 D NB199) hZ (hww 97 _ rfl) (hww 2 _ rfl) (by decide) (by decide)) q210a q210c (g := (mkF m 106 #[si p0, si p1, si p2, si p3, sr b101, si 0, sd (FP.dsub s0 m2), se, un, un] [vI 0, vR b101])) rfl (by rw [hml]; rfl) (Steps.refl _) (argsL := [(.int (0 : Int32))]) (rest := []) (lenOf pd__28I_29D rfl) rfl (by show 2 * 0 + _ ≤ _; exact Nat.le_of_eq rfl) (H at_106) (fun _ _ => ⟨rfl, e204, (by decide : 14 + 0 ≤ _), (by decide : 51 + 0 ≤ _)⟩)
      dsimp only [Pt.U, Pt.locs, Pt.cells, Pt.slots] at X210 l210 y210 z210 st210 hQ210
      subst l210 y210 z210
      obtain ⟨rfl, N210q, e210⟩ := hQ210
      have N211 := Fr.app N205 N210q
      have k212 : Rt p e below T210 (mkF m 109 #[si p0, si p1, si p2, si p3, sr b101, si 0, sd (FP.dsub s0 m2), se, un, un] [vD s0]) s₁ m #[(.int p0), (.int p1), (.int p2), (.int p3)] maxLocals := fun t k => k209 t (st210.trans k)
      have k213 := f_al X210 hx k212 (H at_109) rfl
      have k214 := f_ic X210 hx k213 (H at_111) (v := 0) rfl
      have k215 := f_il X210 hx k214 (H at_112) rfl
      obtain ⟨cq216, kq216, q216a, q216b, q216c⟩ := isOf hZ e210 (nq0 NB199)
      obtain ⟨_, _, ⟨T216, L216, k216, n216⟩, -, X216, ⟨Lc216, hQ216, l216, y216, z216⟩, st216⟩ := X210.virtualBack hx (y := (⟨"com/example/istra/istra/engine/NodeModel", "moved", "(II)D"⟩ : MethodName)) (z := (⟨"com/example/istra/istra/engine/NodeModel", "moved", "(II)D"⟩ : MethodName)) hown (mvT hZ (hww 98 _ rfl)) (mvT hZ (hww 99 _ rfl)) (notFace_of_selects (args := #[]) (mvT hZ (hww 101 _ rfl))) (mvT hZ (hww 101 _ rfl)) (mvT hZ (hww 100 _ rfl)) (by decide) (backOf (W := 2) (gmov00 l Z a0 hw [] b101 B K [(.double (0 : UInt64)), (.double (0 : UInt64)), (.double x2), (.double x3)] l2 [(.double s0), (.double s1)] l4 l5 l6 l7 l8 l9 [(.int (0 : Int32)), (.int (0 : Int32)), (.int (0 : Int32)), (.int (0 : Int32))] [(.int (1 : Int32)), (.int (0 : Int32))] [(.int (0 : Int32)), (.int (1 : Int32))] (1 : Int32) (0 : UInt64) (0 : UInt64) m2 m3 h199 n0 Z199 D NB199) hZ (hww 102 _ rfl) (hww 2 _ rfl) (by decide) (by decide)) q216a q216c (g := (mkF m 114 #[si p0, si p1, si p2, si p3, sr b101, si 0, sd (FP.dsub s0 m2), se, un, un] [vI 0, vI 0, vR b101, vD s0])) rfl (by rw [hml]; rfl) (Steps.refl _) (argsL := [(.int (0 : Int32)), (.int (0 : Int32))]) (rest := [(.double s0)]) (lenOf pd__28II_29D rfl) rfl (by show 2 * 0 + _ ≤ _; exact Nat.le_of_eq rfl) (H at_114) (fun _ _ => ⟨rfl, e210, (by decide : 14 + 0 ≤ _), (by decide : 51 + 0 ≤ _)⟩)
      dsimp only [Pt.U, Pt.locs, Pt.cells, Pt.slots] at X216 l216 y216 z216 st216 hQ216
      subst l216 y216 z216
      obtain ⟨rfl, N216q, e216⟩ := hQ216
      have N217 := Fr.app N211 N216q
      have k218 : Rt p e below T216 (mkF m 117 #[si p0, si p1, si p2, si p3, sr b101, si 0, sd (FP.dsub s0 m2), se, un, un] [vD 0, vD s0]) s₁ m #[(.int p0), (.int p1), (.int p2), (.int p3)] maxLocals := fun t k => k215 t (st216.trans k)
      have k219 := f_dsub X216 hx k218 (H at_117) y1
      have k220 := f_al X216 hx k219 (H at_118) rfl
      have k221 := f_ic X216 hx k220 (H at_120) (v := 1) rfl
      have k222 := f_il X216 hx k221 (H at_121) rfl
      obtain ⟨cq223, kq223, q223a, q223b, q223c⟩ := isOf hZ e216 (nq0 NB199)
      obtain ⟨_, _, ⟨T223, L223, k223, n223⟩, -, X223, ⟨Lc223, hQ223, l223, y223, z223⟩, st223⟩ := X216.virtualBack hx (y := (⟨"com/example/istra/istra/engine/NodeModel", "moved", "(II)D"⟩ : MethodName)) (z := (⟨"com/example/istra/istra/engine/NodeModel", "moved", "(II)D"⟩ : MethodName)) hown (mvT hZ (hww 98 _ rfl)) (mvT hZ (hww 99 _ rfl)) (notFace_of_selects (args := #[]) (mvT hZ (hww 101 _ rfl))) (mvT hZ (hww 101 _ rfl)) (mvT hZ (hww 100 _ rfl)) (by decide) (backOf (W := 2) (gmov10 l Z a0 hw [] b101 B K [(.double (0 : UInt64)), (.double (0 : UInt64)), (.double x2), (.double x3)] l2 [(.double s0), (.double s1)] l4 l5 l6 l7 l8 l9 [(.int (0 : Int32)), (.int (0 : Int32)), (.int (0 : Int32)), (.int (0 : Int32))] [(.int (1 : Int32)), (.int (0 : Int32))] [(.int (0 : Int32)), (.int (1 : Int32))] (1 : Int32) (0 : UInt64) (0 : UInt64) m2 m3 h199 n0 Z199 D NB199) hZ (hww 102 _ rfl) (hww 2 _ rfl) (by decide) (by decide)) q223a q223c (g := (mkF m 123 #[si p0, si p1, si p2, si p3, sr b101, si 0, sd (FP.dsub s0 m2), se, un, un] [vI 0, vI 1, vR b101, vD (FP.dsub s0 (0 : UInt64))])) rfl (by rw [hml]; rfl) (Steps.refl _) (argsL := [(.int (1 : Int32)), (.int (0 : Int32))]) (rest := [(.double (FP.dsub s0 (0 : UInt64)))]) (lenOf pd__28II_29D rfl) rfl (by show 2 * 0 + _ ≤ _; exact Nat.le_of_eq rfl) (H at_123) (fun _ _ => ⟨rfl, e216, (by decide : 14 + 0 ≤ _), (by decide : 51 + 0 ≤ _)⟩)
      dsimp only [Pt.U, Pt.locs, Pt.cells, Pt.slots] at X223 l223 y223 z223 st223 hQ223
      subst l223 y223 z223
      obtain ⟨rfl, N223q, e223⟩ := hQ223
      have N224 := Fr.app N217 N223q
      have k225 : Rt p e below T223 (mkF m 126 #[si p0, si p1, si p2, si p3, sr b101, si 0, sd (FP.dsub s0 m2), se, un, un] [vD m2, vD (FP.dsub s0 (0 : UInt64))]) s₁ m #[(.int p0), (.int p1), (.int p2), (.int p3)] maxLocals := fun t k => k222 t (st223.trans k)
      have k226 := f_dsub X223 hx k225 (H at_126) y2
      have k227 := f_ds X223 hx k226 (H at_127) (l' := #[si p0, si p1, si p2, si p3, sr b101, si 0, sd (FP.dsub s0 m2), se, sd (FP.dsub (FP.dsub s0 (0 : UInt64)) m2), se]) rfl
      have k228 := f_dl X223 hx k227 (H at_129) rfl
      have k229 := f_dl X223 hx k228 (H at_131) rfl
      have k230 := f_dc X223 hx k229 (H at_133)
      have k231 := f_ifN X223 hx k230 (H at_134) ((if0 _ _).trans (teq (own_law1 hs0 y3)).2)
      have k232 := f_ic X223 hx k231 (H at_137) (v := 1) rfl
      have k233 := f_go X223 hx k232 (H at_138) (pc' := 142) (by decide)
      obtain ⟨fs, hr, hrun, hended, hW, hsame⟩ := X223.leave (v := some (.int (1 : Int32))) (fun h => by rw [Bd.returns] at h; cases h)
      refine ⟨_, _, k233 _ (retOut X223 hx (t := .boolean) Bd.returns rfl (Or.inl ⟨rfl, Or.inr (Or.inl rfl), _, rfl⟩) (H at_142) hr), hrun, hended, _, _, rfl, ?_, ⟨_, rfl⟩, hW, hsame.mono (by decide) (by decide)⟩
      show Q_rm0 Z p0 p1 p2 p3 h0 n0 _ T223.heap _
      rw [e223]
      exact ⟨rfl, N224⟩
    · have y1 := own_nns hs1 hm.2.1
      have y2 := nn_of (dsub_out (no_of y1) hm.2.2.2)
      have y3 := own_nns hs1 hm.2.2.2
      obtain ⟨cq234, kq234, q234a, q234b, q234c⟩ := isOf hZ e199 (nq0 NB199)
      obtain ⟨_, _, ⟨T234, L234, k234, n234⟩, -, X234, ⟨Lc234, hQ234, l234, y234, z234⟩, st234⟩ := X199.virtualBack hx (y := (⟨"com/example/istra/istra/engine/NodeModel", "unhanded", "(I)D"⟩ : MethodName)) (z := (⟨"com/example/istra/istra/engine/NodeModel", "unhanded", "(I)D"⟩ : MethodName)) hown (mvT hZ (hww 88 _ rfl)) (mvT hZ (hww 89 _ rfl)) (notFace_of_selects (args := #[]) (mvT hZ (hww 91 _ rfl))) (mvT hZ (hww 91 _ rfl)) (mvT hZ (hww 90 _ rfl)) (by decide) (backOf (W := 0) (unh11 l Z a0 hw [] b101 B K [(.double (0 : UInt64)), (.double (0 : UInt64)), (.double x2), (.double x3)] l2 l4 l5 l6 l7 l8 l9 [(.int (0 : Int32)), (.int (0 : Int32)), (.int (0 : Int32)), (.int (0 : Int32))] [(.int (0 : Int32)), (.int (1 : Int32))] s0 s1 (0 : UInt64) (0 : UInt64) m2 m3 h199 n0 Z199 D NB199 y3) hZ (hww 92 _ rfl) (hww 2 _ rfl) (by decide) (by decide)) q234a q234c (g := (mkF m 97 #[si p0, si p1, si p2, si p3, sr b101, si 1, un, un, un, un] [vI 1, vR b101])) rfl (by rw [hml]; rfl) (Steps.refl _) (argsL := [(.int (1 : Int32))]) (rest := []) (lenOf pd__28I_29D rfl) rfl (by show 2 * 0 + _ ≤ _; exact Nat.le_of_eq rfl) (H at_97) (fun _ _ => ⟨rfl, e199, (by decide : 14 + 0 ≤ _), (by decide : 51 + 0 ≤ _)⟩)
      dsimp only [Pt.U, Pt.locs, Pt.cells, Pt.slots] at X234 l234 y234 z234 st234 hQ234
      subst l234 y234 z234
      obtain ⟨rfl, N234q, e234⟩ := hQ234
      have N235 := Fr.app N200 N234q
      have k236 : Rt p e below T234 (mkF m 100 #[si p0, si p1, si p2, si p3, sr b101, si 1, un, un, un, un] [vD (FP.dsub s1 m3)]) s₁ m #[(.int p0), (.int p1), (.int p2), (.int p3)] maxLocals := fun t k => k203 t (st234.trans k)
      have k237 := f_ds X234 hx k236 (H at_100) (l' := #[si p0, si p1, si p2, si p3, sr b101, si 1, sd (FP.dsub s1 m3), se, un, un]) rfl
      have k238 := f_al X234 hx k237 (H at_102) rfl
      have k239 := f_il X234 hx k238 (H at_104) rfl
      obtain ⟨cq240, kq240, q240a, q240b, q240c⟩ := isOf hZ e234 (nq0 NB199)
      obtain ⟨_, _, ⟨T240, L240, k240, n240⟩, -, X240, ⟨Lc240, hQ240, l240, y240, z240⟩, st240⟩ := X234.virtualBack hx (y := (⟨"com/example/istra/istra/engine/NodeModel", "supply", "(I)D"⟩ : MethodName)) (z := (⟨"com/example/istra/istra/engine/NodeModel", "supply", "(I)D"⟩ : MethodName)) hown (mvT hZ (hww 93 _ rfl)) (mvT hZ (hww 94 _ rfl)) (notFace_of_selects (args := #[]) (mvT hZ (hww 96 _ rfl))) (mvT hZ (hww 96 _ rfl)) (mvT hZ (hww 95 _ rfl)) (by decide) (backOf (W := 0) (gsup1 l Z a0 hw [] b101 B K [(.double (0 : UInt64)), (.double (0 : UInt64)), (.double x2), (.double x3)] [(.double (0 : UInt64)), (.double (0 : UInt64)), (.double m2), (.double m3)] l2 l4 l5 l6 l7 l8 l9 [(.int (0 : Int32)), (.int (0 : Int32)), (.int (0 : Int32)), (.int (0 : Int32))] [(.int (1 : Int32)), (.int (0 : Int32))] [(.int (0 : Int32)), (.int (1 : Int32))] (1 : Int32) s0 s1 h199 n0 Z199 D NB199) hZ (hww 97 _ rfl) (hww 2 _ rfl) (by decide) (by decide)) q240a q240c (g := (mkF m 106 #[si p0, si p1, si p2, si p3, sr b101, si 1, sd (FP.dsub s1 m3), se, un, un] [vI 1, vR b101])) rfl (by rw [hml]; rfl) (Steps.refl _) (argsL := [(.int (1 : Int32))]) (rest := []) (lenOf pd__28I_29D rfl) rfl (by show 2 * 0 + _ ≤ _; exact Nat.le_of_eq rfl) (H at_106) (fun _ _ => ⟨rfl, e234, (by decide : 14 + 0 ≤ _), (by decide : 51 + 0 ≤ _)⟩)
      dsimp only [Pt.U, Pt.locs, Pt.cells, Pt.slots] at X240 l240 y240 z240 st240 hQ240
      subst l240 y240 z240
      obtain ⟨rfl, N240q, e240⟩ := hQ240
      have N241 := Fr.app N235 N240q
      have k242 : Rt p e below T240 (mkF m 109 #[si p0, si p1, si p2, si p3, sr b101, si 1, sd (FP.dsub s1 m3), se, un, un] [vD s1]) s₁ m #[(.int p0), (.int p1), (.int p2), (.int p3)] maxLocals := fun t k => k239 t (st240.trans k)
      have k243 := f_al X240 hx k242 (H at_109) rfl
      have k244 := f_ic X240 hx k243 (H at_111) (v := 0) rfl
      have k245 := f_il X240 hx k244 (H at_112) rfl
      obtain ⟨cq246, kq246, q246a, q246b, q246c⟩ := isOf hZ e240 (nq0 NB199)
      obtain ⟨_, _, ⟨T246, L246, k246, n246⟩, -, X246, ⟨Lc246, hQ246, l246, y246, z246⟩, st246⟩ := X240.virtualBack hx (y := (⟨"com/example/istra/istra/engine/NodeModel", "moved", "(II)D"⟩ : MethodName)) (z := (⟨"com/example/istra/istra/engine/NodeModel", "moved", "(II)D"⟩ : MethodName)) hown (mvT hZ (hww 98 _ rfl)) (mvT hZ (hww 99 _ rfl)) (notFace_of_selects (args := #[]) (mvT hZ (hww 101 _ rfl))) (mvT hZ (hww 101 _ rfl)) (mvT hZ (hww 100 _ rfl)) (by decide) (backOf (W := 2) (gmov01 l Z a0 hw [] b101 B K [(.double (0 : UInt64)), (.double (0 : UInt64)), (.double x2), (.double x3)] l2 [(.double s0), (.double s1)] l4 l5 l6 l7 l8 l9 [(.int (0 : Int32)), (.int (0 : Int32)), (.int (0 : Int32)), (.int (0 : Int32))] [(.int (1 : Int32)), (.int (0 : Int32))] [(.int (0 : Int32)), (.int (1 : Int32))] (1 : Int32) (0 : UInt64) (0 : UInt64) m2 m3 h199 n0 Z199 D NB199) hZ (hww 102 _ rfl) (hww 2 _ rfl) (by decide) (by decide)) q246a q246c (g := (mkF m 114 #[si p0, si p1, si p2, si p3, sr b101, si 1, sd (FP.dsub s1 m3), se, un, un] [vI 1, vI 0, vR b101, vD s1])) rfl (by rw [hml]; rfl) (Steps.refl _) (argsL := [(.int (0 : Int32)), (.int (1 : Int32))]) (rest := [(.double s1)]) (lenOf pd__28II_29D rfl) rfl (by show 2 * 0 + _ ≤ _; exact Nat.le_of_eq rfl) (H at_114) (fun _ _ => ⟨rfl, e240, (by decide : 14 + 0 ≤ _), (by decide : 51 + 0 ≤ _)⟩)
      dsimp only [Pt.U, Pt.locs, Pt.cells, Pt.slots] at X246 l246 y246 z246 st246 hQ246
      subst l246 y246 z246
      obtain ⟨rfl, N246q, e246⟩ := hQ246
      have N247 := Fr.app N241 N246q
      have k248 : Rt p e below T246 (mkF m 117 #[si p0, si p1, si p2, si p3, sr b101, si 1, sd (FP.dsub s1 m3), se, un, un] [vD 0, vD s1]) s₁ m #[(.int p0), (.int p1), (.int p2), (.int p3)] maxLocals := fun t k => k245 t (st246.trans k)
      have k249 := f_dsub X246 hx k248 (H at_117) y1
      have k250 := f_al X246 hx k249 (H at_118) rfl
      have k251 := f_ic X246 hx k250 (H at_120) (v := 1) rfl
      have k252 := f_il X246 hx k251 (H at_121) rfl
      obtain ⟨cq253, kq253, q253a, q253b, q253c⟩ := isOf hZ e246 (nq0 NB199)
      obtain ⟨_, _, ⟨T253, L253, k253, n253⟩, -, X253, ⟨Lc253, hQ253, l253, y253, z253⟩, st253⟩ := X246.virtualBack hx (y := (⟨"com/example/istra/istra/engine/NodeModel", "moved", "(II)D"⟩ : MethodName)) (z := (⟨"com/example/istra/istra/engine/NodeModel", "moved", "(II)D"⟩ : MethodName)) hown (mvT hZ (hww 98 _ rfl)) (mvT hZ (hww 99 _ rfl)) (notFace_of_selects (args := #[]) (mvT hZ (hww 101 _ rfl))) (mvT hZ (hww 101 _ rfl)) (mvT hZ (hww 100 _ rfl)) (by decide) (backOf (W := 2) (gmov11 l Z a0 hw [] b101 B K [(.double (0 : UInt64)), (.double (0 : UInt64)), (.double x2), (.double x3)] l2 [(.double s0), (.double s1)] l4 l5 l6 l7 l8 l9 [(.int (0 : Int32)), (.int (0 : Int32)), (.int (0 : Int32)), (.int (0 : Int32))] [(.int (1 : Int32)), (.int (0 : Int32))] [(.int (0 : Int32)), (.int (1 : Int32))] (1 : Int32) (0 : UInt64) (0 : UInt64) m2 m3 h199 n0 Z199 D NB199) hZ (hww 102 _ rfl) (hww 2 _ rfl) (by decide) (by decide)) q253a q253c (g := (mkF m 123 #[si p0, si p1, si p2, si p3, sr b101, si 1, sd (FP.dsub s1 m3), se, un, un] [vI 1, vI 1, vR b101, vD (FP.dsub s1 (0 : UInt64))])) rfl (by rw [hml]; rfl) (Steps.refl _) (argsL := [(.int (1 : Int32)), (.int (1 : Int32))]) (rest := [(.double (FP.dsub s1 (0 : UInt64)))]) (lenOf pd__28II_29D rfl) rfl (by show 2 * 0 + _ ≤ _; exact Nat.le_of_eq rfl) (H at_123) (fun _ _ => ⟨rfl, e246, (by decide : 14 + 0 ≤ _), (by decide : 51 + 0 ≤ _)⟩)
      dsimp only [Pt.U, Pt.locs, Pt.cells, Pt.slots] at X253 l253 y253 z253 st253 hQ253
      subst l253 y253 z253
      obtain ⟨rfl, N253q, e253⟩ := hQ253
      have N254 := Fr.app N247 N253q
      have k255 : Rt p e below T253 (mkF m 126 #[si p0, si p1, si p2, si p3, sr b101, si 1, sd (FP.dsub s1 m3), se, un, un] [vD m3, vD (FP.dsub s1 (0 : UInt64))]) s₁ m #[(.int p0), (.int p1), (.int p2), (.int p3)] maxLocals := fun t k => k252 t (st253.trans k)
      have k256 := f_dsub X253 hx k255 (H at_126) y2
      have k257 := f_ds X253 hx k256 (H at_127) (l' := #[si p0, si p1, si p2, si p3, sr b101, si 1, sd (FP.dsub s1 m3), se, sd (FP.dsub (FP.dsub s1 (0 : UInt64)) m3), se]) rfl
      have k258 := f_dl X253 hx k257 (H at_129) rfl
      have k259 := f_dl X253 hx k258 (H at_131) rfl
      have k260 := f_dc X253 hx k259 (H at_133)
      have k261 := f_ifN X253 hx k260 (H at_134) ((if0 _ _).trans (teq (own_law1 hs1 y3)).2)
      have k262 := f_ic X253 hx k261 (H at_137) (v := 1) rfl
      have k263 := f_go X253 hx k262 (H at_138) (pc' := 142) (by decide)
      obtain ⟨fs, hr, hrun, hended, hW, hsame⟩ := X253.leave (v := some (.int (1 : Int32))) (fun h => by rw [Bd.returns] at h; cases h)
      refine ⟨_, _, k263 _ (retOut X253 hx (t := .boolean) Bd.returns rfl (Or.inl ⟨rfl, Or.inr (Or.inl rfl), _, rfl⟩) (H at_142) hr), hrun, hended, _, _, rfl, ?_, ⟨_, rfl⟩, hW, hsame.mono (by decide) (by decide)⟩
      show Q_rm0 Z p0 p1 p2 p3 h0 n0 _ T253.heap _
      rw [e253]
      exact ⟨rfl, N254⟩
  · have k264 := f_ifN X132 hx k144 (H at_28) ((if0 _ _).trans (feq q1).1)
    have k265 := f_al X132 hx k264 (H at_31) rfl
    have k266 := f_ic X132 hx k265 (H at_33) (v := 0) rfl
    have k267 := f_ilN X132 hx k266 (H at_34) rfl
    have k268 := f_ic X132 hx k267 (H at_35) (v := 1) rfl
    have k269 := f_iushr X132 hx k268 (H at_36) rfl
    have k270 := f_ic X132 hx k269 (H at_37) (v := 1) rfl
    have k271 := f_iand X132 hx k270 (H at_38) rfl
    obtain ⟨ca, hca⟩ : ∃ z : Int32, z = (((p0.toUInt32 >>> ((1 : Int32) &&& 31).toUInt32).toInt32) &&& (1 : Int32)) := ⟨_, rfl⟩
    have k272 : Rt p e below T132 (mkF m 39 #[si p0, si p1, si p2, si p3, sr b101, si cl, un, un, un, un] [vI ca, vI 0, vR b101]) s₁ m #[(.int p0), (.int p1), (.int p2), (.int p3)] maxLocals := fun t q => k271 t (castTop (by rw [show (((p0.toUInt32 >>> ((1 : Int32) &&& 31).toUInt32).toInt32) &&& (1 : Int32)) = ca from hca.symm]) q)
    obtain ⟨T273, h273, Ls273, x0, x1, X273, e273, N273, Zq273, F288, hd0, kq273⟩ : ∃ (T273 : State) (h273 : Heap) (Ls273 : List Loc) (x0 : UInt64) (x1 : UInt64), Stand p l e room_1 s m #[(.int p0), (.int p1), (.int p2), (.int p3)] below meth c T273 Ls273 14 51 ∧ T273.heap = h273 ∧ Fr n0 Ls273 ∧ n0 ≤ h273.size ∧ NB Z h273 b101 B K [(.double x0), (.double x1), (.double (0 : UInt64)), (.double (0 : UInt64))] [(.double (0 : UInt64)), (.double (0 : UInt64)), (.double (0 : UInt64)), (.double (0 : UInt64))] [(.double (0 : UInt64)), (.double (0 : UInt64)), (.double (0 : UInt64)), (.double (0 : UInt64))] [(.double (9218868437227405312 : UInt64)), (.double (9218868437227405312 : UInt64))] [(.double (0 : UInt64)), (.double (0 : UInt64))] [(.double (0 : UInt64)), (.double (0 : UInt64))] [(.double (0 : UInt64)), (.double (0 : UInt64))] [(.double (0 : UInt64)), (.double (0 : UInt64))] [(.int (0 : Int32)), (.int (0 : Int32))] [(.int (0 : Int32)), (.int (0 : Int32))] [(.int (0 : Int32)), (.int (0 : Int32)), (.int (0 : Int32)), (.int (0 : Int32))] [(.int (0 : Int32)), (.int (0 : Int32))] [(.int (1 : Int32)), (.int (0 : Int32))] (1 : Int32) ∧ (own_dem x0 x1) ∧ (Rt p e below T273 (mkF m 48 #[si p0, si p1, si p2, si p3, sr b101, si cl, un, un, un, un] []) s₁ m #[(.int p0), (.int p1), (.int p2), (.int p3)] maxLocals) := by
      rcases own_m2 _ _ hca with rfl | rfl
      · have k274 := f_ilN X132 hx k272 (H at_39) rfl
        have k275 := f_sp X132 hx k274 (H at_40) (v := 255) rfl
        have k276 := f_iand X132 hx k275 (H at_43) rfl
        have k277 := f_i2d X132 hx k276 (H at_44)
        obtain ⟨cq278, kq278, q278a, q278b, q278c⟩ := isOf hZ e132 (nq0 NB132)
        obtain ⟨_, _, ⟨T278, L278, k278, n278⟩, -, X278, ⟨Lc278, hQ278, l278, y278, z278⟩, st278⟩ := X132.virtualBack hx (y := (⟨"com/example/istra/istra/engine/NodeModel", "want", "(IID)V"⟩ : MethodName)) (z := (⟨"com/example/istra/istra/engine/NodeModel", "want", "(IID)V"⟩ : MethodName)) hown (mvT hZ (hww 52 _ rfl)) (mvT hZ (hww 53 _ rfl)) (notFace_of_selects (args := #[]) (mvT hZ (hww 55 _ rfl))) (mvT hZ (hww 55 _ rfl)) (mvT hZ (hww 54 _ rfl)) (by decide) (backOf (W := 0) (wnt000 l Z a0 hw [] b101 B K [(.double (0 : UInt64)), (.double (0 : UInt64)), (.double (0 : UInt64)), (.double (0 : UInt64))] [(.double (0 : UInt64)), (.double (0 : UInt64)), (.double (0 : UInt64)), (.double (0 : UInt64))] [(.double (9218868437227405312 : UInt64)), (.double (9218868437227405312 : UInt64))] [(.double (0 : UInt64)), (.double (0 : UInt64))] [(.double (0 : UInt64)), (.double (0 : UInt64))] [(.double (0 : UInt64)), (.double (0 : UInt64))] [(.double (0 : UInt64)), (.double (0 : UInt64))] [(.int (0 : Int32)), (.int (0 : Int32))] [(.int (0 : Int32)), (.int (0 : Int32))] [(.int (0 : Int32)), (.int (0 : Int32)), (.int (0 : Int32)), (.int (0 : Int32))] (0 : UInt64) (0 : UInt64) (0 : UInt64) (0 : UInt64) (FP.i2d (p1 &&& (255 : Int32))) h132 n0 Z132 D g102 G NB132) hZ (hww 56 _ rfl) (hww 2 _ rfl) (by decide) (by decide)) q278a q278c (g := (mkF m 45 #[si p0, si p1, si p2, si p3, sr b101, si cl, un, un, un, un] [vD (FP.i2d (p1 &&& (255 : Int32))), vI 0, vI 0, vR b101])) rfl (by rw [hml]; rfl) (Steps.refl _) (argsL := [(.int (0 : Int32)), (.int (0 : Int32)), (.double (FP.i2d (p1 &&& (255 : Int32))))]) (rest := []) (lenOf pd__28IID_29V rfl) rfl (by show 2 * 0 + _ ≤ _; exact Nat.le_of_eq rfl) (H at_45) (fun _ _ => ⟨rfl, e132, (by decide : 14 + 0 ≤ _), (by decide : 51 + 0 ≤ _)⟩)
        dsimp only [Pt.U, Pt.locs, Pt.cells, Pt.slots] at X278 l278 y278 z278 st278 hQ278
        subst l278 y278 z278
        obtain ⟨h278, e278⟩ : ∃ h', T278.heap = h' := ⟨_, rfl⟩
        rw [e278] at hQ278
        obtain ⟨rfl, N278q, Z278, NB278⟩ := hQ278
        have N279 := Fr.app N133 N278q
        have k280 : Rt p e below T278 (mkF m 48 #[si p0, si p1, si p2, si p3, sr b101, si cl, un, un, un, un] []) s₁ m #[(.int p0), (.int p1), (.int p2), (.int p3)] maxLocals := fun t k => k277 t (st278.trans k)
        exact ⟨T278, h278, _, (FP.i2d (p1 &&& (255 : Int32))), (0 : UInt64), X278, e278, N279, Z278, NB278, ⟨own_dq p1, dq0 (by decide), Or.inr rfl⟩, k280⟩
      · have k281 := f_ilN X132 hx k272 (H at_39) rfl
        have k282 := f_sp X132 hx k281 (H at_40) (v := 255) rfl
        have k283 := f_iand X132 hx k282 (H at_43) rfl
        have k284 := f_i2d X132 hx k283 (H at_44)
        obtain ⟨cq285, kq285, q285a, q285b, q285c⟩ := isOf hZ e132 (nq0 NB132)
        obtain ⟨_, _, ⟨T285, L285, k285, n285⟩, -, X285, ⟨Lc285, hQ285, l285, y285, z285⟩, st285⟩ := X132.virtualBack hx (y := (⟨"com/example/istra/istra/engine/NodeModel", "want", "(IID)V"⟩ : MethodName)) (z := (⟨"com/example/istra/istra/engine/NodeModel", "want", "(IID)V"⟩ : MethodName)) hown (mvT hZ (hww 52 _ rfl)) (mvT hZ (hww 53 _ rfl)) (notFace_of_selects (args := #[]) (mvT hZ (hww 55 _ rfl))) (mvT hZ (hww 55 _ rfl)) (mvT hZ (hww 54 _ rfl)) (by decide) (backOf (W := 0) (wnt001 l Z a0 hw [] b101 B K [(.double (0 : UInt64)), (.double (0 : UInt64)), (.double (0 : UInt64)), (.double (0 : UInt64))] [(.double (0 : UInt64)), (.double (0 : UInt64)), (.double (0 : UInt64)), (.double (0 : UInt64))] [(.double (9218868437227405312 : UInt64)), (.double (9218868437227405312 : UInt64))] [(.double (0 : UInt64)), (.double (0 : UInt64))] [(.double (0 : UInt64)), (.double (0 : UInt64))] [(.double (0 : UInt64)), (.double (0 : UInt64))] [(.double (0 : UInt64)), (.double (0 : UInt64))] [(.int (0 : Int32)), (.int (0 : Int32))] [(.int (0 : Int32)), (.int (0 : Int32))] [(.int (0 : Int32)), (.int (0 : Int32)), (.int (0 : Int32)), (.int (0 : Int32))] (0 : UInt64) (0 : UInt64) (0 : UInt64) (0 : UInt64) (FP.i2d (p1 &&& (255 : Int32))) h132 n0 Z132 D g102 G NB132) hZ (hww 56 _ rfl) (hww 2 _ rfl) (by decide) (by decide)) q285a q285c (g := (mkF m 45 #[si p0, si p1, si p2, si p3, sr b101, si cl, un, un, un, un] [vD (FP.i2d (p1 &&& (255 : Int32))), vI 1, vI 0, vR b101])) rfl (by rw [hml]; rfl) (Steps.refl _) (argsL := [(.int (0 : Int32)), (.int (1 : Int32)), (.double (FP.i2d (p1 &&& (255 : Int32))))]) (rest := []) (lenOf pd__28IID_29V rfl) rfl (by show 2 * 0 + _ ≤ _; exact Nat.le_of_eq rfl) (H at_45) (fun _ _ => ⟨rfl, e132, (by decide : 14 + 0 ≤ _), (by decide : 51 + 0 ≤ _)⟩)
        dsimp only [Pt.U, Pt.locs, Pt.cells, Pt.slots] at X285 l285 y285 z285 st285 hQ285
        subst l285 y285 z285
        obtain ⟨h285, e285⟩ : ∃ h', T285.heap = h' := ⟨_, rfl⟩
        rw [e285] at hQ285
        obtain ⟨rfl, N285q, Z285, NB285⟩ := hQ285
        have N286 := Fr.app N133 N285q
        have k287 : Rt p e below T285 (mkF m 48 #[si p0, si p1, si p2, si p3, sr b101, si cl, un, un, un, un] []) s₁ m #[(.int p0), (.int p1), (.int p2), (.int p3)] maxLocals := fun t k => k284 t (st285.trans k)
        exact ⟨T285, h285, _, (0 : UInt64), (FP.i2d (p1 &&& (255 : Int32))), X285, e285, N286, Z285, NB285, ⟨dq0 (by decide), own_dq p1, Or.inl rfl⟩, k287⟩
    have k289 := f_al X273 hx kq273 (H at_48) rfl
    have k290 := f_ic X273 hx k289 (H at_50) (v := 1) rfl
    have k291 := f_ilN X273 hx k290 (H at_51) rfl
    have k292 := f_ic X273 hx k291 (H at_52) (v := 2) rfl
    have k293 := f_iushr X273 hx k292 (H at_53) rfl
    have k294 := f_ic X273 hx k293 (H at_54) (v := 1) rfl
    have k295 := f_iand X273 hx k294 (H at_55) rfl
    obtain ⟨cb, hcb⟩ : ∃ z : Int32, z = (((p0.toUInt32 >>> ((2 : Int32) &&& 31).toUInt32).toInt32) &&& (1 : Int32)) := ⟨_, rfl⟩
    have k296 : Rt p e below T273 (mkF m 56 #[si p0, si p1, si p2, si p3, sr b101, si cl, un, un, un, un] [vI cb, vI 1, vR b101]) s₁ m #[(.int p0), (.int p1), (.int p2), (.int p3)] maxLocals := fun t q => k295 t (castTop (by rw [show (((p0.toUInt32 >>> ((2 : Int32) &&& 31).toUInt32).toInt32) &&& (1 : Int32)) = cb from hcb.symm]) q)
    obtain ⟨T297, h297, Ls297, x2, x3, X297, e297, N297, Zq297, F312, hd1, kq297⟩ : ∃ (T297 : State) (h297 : Heap) (Ls297 : List Loc) (x2 : UInt64) (x3 : UInt64), Stand p l e room_1 s m #[(.int p0), (.int p1), (.int p2), (.int p3)] below meth c T297 Ls297 14 51 ∧ T297.heap = h297 ∧ Fr n0 Ls297 ∧ n0 ≤ h297.size ∧ NB Z h297 b101 B K [(.double x0), (.double x1), (.double x2), (.double x3)] [(.double (0 : UInt64)), (.double (0 : UInt64)), (.double (0 : UInt64)), (.double (0 : UInt64))] [(.double (0 : UInt64)), (.double (0 : UInt64)), (.double (0 : UInt64)), (.double (0 : UInt64))] [(.double (9218868437227405312 : UInt64)), (.double (9218868437227405312 : UInt64))] [(.double (0 : UInt64)), (.double (0 : UInt64))] [(.double (0 : UInt64)), (.double (0 : UInt64))] [(.double (0 : UInt64)), (.double (0 : UInt64))] [(.double (0 : UInt64)), (.double (0 : UInt64))] [(.int (0 : Int32)), (.int (0 : Int32))] [(.int (0 : Int32)), (.int (0 : Int32))] [(.int (0 : Int32)), (.int (0 : Int32)), (.int (0 : Int32)), (.int (0 : Int32))] [(.int (0 : Int32)), (.int (1 : Int32))] [(.int (1 : Int32)), (.int (1 : Int32))] (2 : Int32) ∧ (own_dem x2 x3) ∧ (Rt p e below T297 (mkF m 65 #[si p0, si p1, si p2, si p3, sr b101, si cl, un, un, un, un] []) s₁ m #[(.int p0), (.int p1), (.int p2), (.int p3)] maxLocals) := by
      rcases own_m2 _ _ hcb with rfl | rfl
      · have k298 := f_ilN X273 hx k296 (H at_56) rfl
        have k299 := f_sp X273 hx k298 (H at_57) (v := 255) rfl
        have k300 := f_iand X273 hx k299 (H at_60) rfl
        have k301 := f_i2d X273 hx k300 (H at_61)
        obtain ⟨cq302, kq302, q302a, q302b, q302c⟩ := isOf hZ e273 (nq0 F288)
        obtain ⟨_, _, ⟨T302, L302, k302, n302⟩, -, X302, ⟨Lc302, hQ302, l302, y302, z302⟩, st302⟩ := X273.virtualBack hx (y := (⟨"com/example/istra/istra/engine/NodeModel", "want", "(IID)V"⟩ : MethodName)) (z := (⟨"com/example/istra/istra/engine/NodeModel", "want", "(IID)V"⟩ : MethodName)) hown (mvT hZ (hww 52 _ rfl)) (mvT hZ (hww 53 _ rfl)) (notFace_of_selects (args := #[]) (mvT hZ (hww 55 _ rfl))) (mvT hZ (hww 55 _ rfl)) (mvT hZ (hww 54 _ rfl)) (by decide) (backOf (W := 0) (wnt110 l Z a0 hw [] b101 B K [(.double (0 : UInt64)), (.double (0 : UInt64)), (.double (0 : UInt64)), (.double (0 : UInt64))] [(.double (0 : UInt64)), (.double (0 : UInt64)), (.double (0 : UInt64)), (.double (0 : UInt64))] [(.double (9218868437227405312 : UInt64)), (.double (9218868437227405312 : UInt64))] [(.double (0 : UInt64)), (.double (0 : UInt64))] [(.double (0 : UInt64)), (.double (0 : UInt64))] [(.double (0 : UInt64)), (.double (0 : UInt64))] [(.double (0 : UInt64)), (.double (0 : UInt64))] [(.int (0 : Int32)), (.int (0 : Int32))] [(.int (0 : Int32)), (.int (0 : Int32))] [(.int (0 : Int32)), (.int (0 : Int32)), (.int (0 : Int32)), (.int (0 : Int32))] x0 x1 (0 : UInt64) (0 : UInt64) (FP.i2d (p2 &&& (255 : Int32))) h273 n0 Zq273 D g102 G F288) hZ (hww 56 _ rfl) (hww 2 _ rfl) (by decide) (by decide)) q302a q302c (g := (mkF m 62 #[si p0, si p1, si p2, si p3, sr b101, si cl, un, un, un, un] [vD (FP.i2d (p2 &&& (255 : Int32))), vI 0, vI 1, vR b101])) rfl (by rw [hml]; rfl) (Steps.refl _) (argsL := [(.int (1 : Int32)), (.int (0 : Int32)), (.double (FP.i2d (p2 &&& (255 : Int32))))]) (rest := []) (lenOf pd__28IID_29V rfl) rfl (by show 2 * 0 + _ ≤ _; exact Nat.le_of_eq rfl) (H at_62) (fun _ _ => ⟨rfl, e273, (by decide : 14 + 0 ≤ _), (by decide : 51 + 0 ≤ _)⟩)
        dsimp only [Pt.U, Pt.locs, Pt.cells, Pt.slots] at X302 l302 y302 z302 st302 hQ302
        subst l302 y302 z302
        obtain ⟨h302, e302⟩ : ∃ h', T302.heap = h' := ⟨_, rfl⟩
        rw [e302] at hQ302
        obtain ⟨rfl, N302q, Z302, NB302⟩ := hQ302
        have N303 := Fr.app N273 N302q
        have k304 : Rt p e below T302 (mkF m 65 #[si p0, si p1, si p2, si p3, sr b101, si cl, un, un, un, un] []) s₁ m #[(.int p0), (.int p1), (.int p2), (.int p3)] maxLocals := fun t k => k301 t (st302.trans k)
        exact ⟨T302, h302, _, (FP.i2d (p2 &&& (255 : Int32))), (0 : UInt64), X302, e302, N303, Z302, NB302, ⟨own_dq p2, dq0 (by decide), Or.inr rfl⟩, k304⟩
      · have k305 := f_ilN X273 hx k296 (H at_56) rfl
        have k306 := f_sp X273 hx k305 (H at_57) (v := 255) rfl
        have k307 := f_iand X273 hx k306 (H at_60) rfl
        have k308 := f_i2d X273 hx k307 (H at_61)
        obtain ⟨cq309, kq309, q309a, q309b, q309c⟩ := isOf hZ e273 (nq0 F288)
        obtain ⟨_, _, ⟨T309, L309, k309, n309⟩, -, X309, ⟨Lc309, hQ309, l309, y309, z309⟩, st309⟩ := X273.virtualBack hx (y := (⟨"com/example/istra/istra/engine/NodeModel", "want", "(IID)V"⟩ : MethodName)) (z := (⟨"com/example/istra/istra/engine/NodeModel", "want", "(IID)V"⟩ : MethodName)) hown (mvT hZ (hww 52 _ rfl)) (mvT hZ (hww 53 _ rfl)) (notFace_of_selects (args := #[]) (mvT hZ (hww 55 _ rfl))) (mvT hZ (hww 55 _ rfl)) (mvT hZ (hww 54 _ rfl)) (by decide) (backOf (W := 0) (wnt111 l Z a0 hw [] b101 B K [(.double (0 : UInt64)), (.double (0 : UInt64)), (.double (0 : UInt64)), (.double (0 : UInt64))] [(.double (0 : UInt64)), (.double (0 : UInt64)), (.double (0 : UInt64)), (.double (0 : UInt64))] [(.double (9218868437227405312 : UInt64)), (.double (9218868437227405312 : UInt64))] [(.double (0 : UInt64)), (.double (0 : UInt64))] [(.double (0 : UInt64)), (.double (0 : UInt64))] [(.double (0 : UInt64)), (.double (0 : UInt64))] [(.double (0 : UInt64)), (.double (0 : UInt64))] [(.int (0 : Int32)), (.int (0 : Int32))] [(.int (0 : Int32)), (.int (0 : Int32))] [(.int (0 : Int32)), (.int (0 : Int32)), (.int (0 : Int32)), (.int (0 : Int32))] x0 x1 (0 : UInt64) (0 : UInt64) (FP.i2d (p2 &&& (255 : Int32))) h273 n0 Zq273 D g102 G F288) hZ (hww 56 _ rfl) (hww 2 _ rfl) (by decide) (by decide)) q309a q309c (g := (mkF m 62 #[si p0, si p1, si p2, si p3, sr b101, si cl, un, un, un, un] [vD (FP.i2d (p2 &&& (255 : Int32))), vI 1, vI 1, vR b101])) rfl (by rw [hml]; rfl) (Steps.refl _) (argsL := [(.int (1 : Int32)), (.int (1 : Int32)), (.double (FP.i2d (p2 &&& (255 : Int32))))]) (rest := []) (lenOf pd__28IID_29V rfl) rfl (by show 2 * 0 + _ ≤ _; exact Nat.le_of_eq rfl) (H at_62) (fun _ _ => ⟨rfl, e273, (by decide : 14 + 0 ≤ _), (by decide : 51 + 0 ≤ _)⟩)
        dsimp only [Pt.U, Pt.locs, Pt.cells, Pt.slots] at X309 l309 y309 z309 st309 hQ309
        subst l309 y309 z309
        obtain ⟨h309, e309⟩ : ∃ h', T309.heap = h' := ⟨_, rfl⟩
        rw [e309] at hQ309
        obtain ⟨rfl, N309q, Z309, NB309⟩ := hQ309
        have N310 := Fr.app N273 N309q
        have k311 : Rt p e below T309 (mkF m 65 #[si p0, si p1, si p2, si p3, sr b101, si cl, un, un, un, un] []) s₁ m #[(.int p0), (.int p1), (.int p2), (.int p3)] maxLocals := fun t k => k308 t (st309.trans k)
        exact ⟨T309, h309, _, (0 : UInt64), (FP.i2d (p2 &&& (255 : Int32))), X309, e309, N310, Z309, NB309, ⟨dq0 (by decide), own_dq p2, Or.inl rfl⟩, k311⟩
    have k313 := f_ilN X297 hx kq297 (H at_65) rfl
    have k314 := f_bp X297 hx k313 (H at_66) (v := 8) rfl
    have k315 := f_iand X297 hx k314 (H at_68) rfl
    obtain ⟨T316, h316, Ls316, s0, s1, X316, e316, N316, Zq316, F340, hs0, hs1, kq316⟩ : ∃ (T316 : State) (h316 : Heap) (Ls316 : List Loc) (s0 : UInt64) (s1 : UInt64), Stand p l e room_1 s m #[(.int p0), (.int p1), (.int p2), (.int p3)] below meth c T316 Ls316 14 51 ∧ T316.heap = h316 ∧ Fr n0 Ls316 ∧ n0 ≤ h316.size ∧ NB Z h316 b101 B K [(.double x0), (.double x1), (.double x2), (.double x3)] [(.double (0 : UInt64)), (.double (0 : UInt64)), (.double (0 : UInt64)), (.double (0 : UInt64))] [(.double (0 : UInt64)), (.double (0 : UInt64)), (.double (0 : UInt64)), (.double (0 : UInt64))] [(.double s0), (.double s1)] [(.double (0 : UInt64)), (.double (0 : UInt64))] [(.double (0 : UInt64)), (.double (0 : UInt64))] [(.double (0 : UInt64)), (.double (0 : UInt64))] [(.double (0 : UInt64)), (.double (0 : UInt64))] [(.int (0 : Int32)), (.int (0 : Int32))] [(.int (0 : Int32)), (.int (0 : Int32))] [(.int (0 : Int32)), (.int (0 : Int32)), (.int (0 : Int32)), (.int (0 : Int32))] [(.int (0 : Int32)), (.int (1 : Int32))] [(.int (1 : Int32)), (.int (1 : Int32))] (2 : Int32) ∧ (SupQ s0) ∧ (SupQ s1) ∧ (Rt p e below T316 (mkF m 88 #[si p0, si p1, si p2, si p3, sr b101, si cl, un, un, un, un] []) s₁ m #[(.int p0), (.int p1), (.int p2), (.int p3)] maxLocals) := by
      by_cases q8 : (p0 &&& (8 : Int32)) = (0 : Int32)
      · have k317 := f_ifY X297 hx k315 (H at_69) (pc' := 88) ((if0 _ _).trans (teq q8).1) (by decide)
        exact ⟨T297, h297, _, (9218868437227405312 : UInt64), (9218868437227405312 : UInt64), X297, e297, N297, Zq297, F312, (Or.inl rfl), (Or.inl rfl), k317⟩
      · have k318 := f_ifN X297 hx k315 (H at_69) ((if0 _ _).trans (feq q8).1)
        have k319 := f_al X297 hx k318 (H at_72) rfl
        have k320 := f_ilN X297 hx k319 (H at_74) rfl
        have k321 := f_ic X297 hx k320 (H at_75) (v := 4) rfl
        have k322 := f_iushr X297 hx k321 (H at_76) rfl
        have k323 := f_ic X297 hx k322 (H at_77) (v := 1) rfl
        have k324 := f_iand X297 hx k323 (H at_78) rfl
        obtain ⟨cs, hcs⟩ : ∃ z : Int32, z = (((p0.toUInt32 >>> ((4 : Int32) &&& 31).toUInt32).toInt32) &&& (1 : Int32)) := ⟨_, rfl⟩
        have k325 : Rt p e below T297 (mkF m 79 #[si p0, si p1, si p2, si p3, sr b101, si cl, un, un, un, un] [vI cs, vR b101]) s₁ m #[(.int p0), (.int p1), (.int p2), (.int p3)] maxLocals := fun t q => k324 t (castTop (by rw [show (((p0.toUInt32 >>> ((4 : Int32) &&& 31).toUInt32).toInt32) &&& (1 : Int32)) = cs from hcs.symm]) q)
        rcases own_m2 _ _ hcs with rfl | rfl
        · have k326 := f_ilN X297 hx k325 (H at_79) rfl
          have k327 := f_sp X297 hx k326 (H at_80) (v := 255) rfl
          have k328 := f_iand X297 hx k327 (H at_83) rfl
          have k329 := f_i2d X297 hx k328 (H at_84)
          obtain ⟨cq330, kq330, q330a, q330b, q330c⟩ := isOf hZ e297 (nq0 F312)
          obtain ⟨_, _, ⟨T330, L330, k330, n330⟩, -, X330, ⟨Lc330, hQ330, l330, y330, z330⟩, st330⟩ := X297.virtualBack hx (y := (⟨"com/example/istra/istra/engine/NodeModel", "supply", "(ID)V"⟩ : MethodName)) (z := (⟨"com/example/istra/istra/engine/NodeModel", "supply", "(ID)V"⟩ : MethodName)) hown (mvT hZ (hww 103 _ rfl)) (mvT hZ (hww 104 _ rfl)) (notFace_of_selects (args := #[]) (mvT hZ (hww 106 _ rfl))) (mvT hZ (hww 106 _ rfl)) (mvT hZ (hww 105 _ rfl)) (by decide) (backOf (W := 0) (psup0 l Z a0 hw [] b101 B K [(.double x0), (.double x1), (.double x2), (.double x3)] [(.double (0 : UInt64)), (.double (0 : UInt64)), (.double (0 : UInt64)), (.double (0 : UInt64))] [(.double (0 : UInt64)), (.double (0 : UInt64)), (.double (0 : UInt64)), (.double (0 : UInt64))] [(.double (0 : UInt64)), (.double (0 : UInt64))] [(.double (0 : UInt64)), (.double (0 : UInt64))] [(.double (0 : UInt64)), (.double (0 : UInt64))] [(.double (0 : UInt64)), (.double (0 : UInt64))] [(.int (0 : Int32)), (.int (0 : Int32))] [(.int (0 : Int32)), (.int (0 : Int32))] [(.int (0 : Int32)), (.int (0 : Int32)), (.int (0 : Int32)), (.int (0 : Int32))] [(.int (0 : Int32)), (.int (1 : Int32))] [(.int (1 : Int32)), (.int (1 : Int32))] (2 : Int32) (9218868437227405312 : UInt64) (9218868437227405312 : UInt64) (FP.i2d (p3 &&& (255 : Int32))) h297 n0 Zq297 D F312 G) hZ (hww 107 _ rfl) (hww 2 _ rfl) (by decide) (by decide)) q330a q330c (g := (mkF m 85 #[si p0, si p1, si p2, si p3, sr b101, si cl, un, un, un, un] [vD (FP.i2d (p3 &&& (255 : Int32))), vI 0, vR b101])) rfl (by rw [hml]; rfl) (Steps.refl _) (argsL := [(.int (0 : Int32)), (.double (FP.i2d (p3 &&& (255 : Int32))))]) (rest := []) (lenOf pd__28ID_29V rfl) rfl (by show 2 * 0 + _ ≤ _; exact Nat.le_of_eq rfl) (H at_85) (fun _ _ => ⟨rfl, e297, (by decide : 14 + 0 ≤ _), (by decide : 51 + 0 ≤ _)⟩)
          dsimp only [Pt.U, Pt.locs, Pt.cells, Pt.slots] at X330 l330 y330 z330 st330 hQ330
          subst l330 y330 z330
          obtain ⟨h330, e330⟩ : ∃ h', T330.heap = h' := ⟨_, rfl⟩
          rw [e330] at hQ330
          obtain ⟨rfl, N330q, Kp330, NB330⟩ := hQ330
          have N331 := Fr.app N297 N330q
          have k332 : Rt p e below T330 (mkF m 88 #[si p0, si p1, si p2, si p3, sr b101, si cl, un, un, un, un] []) s₁ m #[(.int p0), (.int p1), (.int p2), (.int p3)] maxLocals := fun t k => k329 t (st330.trans k)
          have Z330 : n0 ≤ h330.size := Nat.le_trans Zq297 Kp330.1
          exact ⟨T330, h330, _, (FP.i2d (p3 &&& (255 : Int32))), (9218868437227405312 : UInt64), X330, e330, N331, Z330, NB330, (Or.inr (own_dq p3)), (Or.inl rfl), k332⟩
        · have k333 := f_ilN X297 hx k325 (H at_79) rfl
          have k334 := f_sp X297 hx k333 (H at_80) (v := 255) rfl
          have k335 := f_iand X297 hx k334 (H at_83) rfl
          have k336 := f_i2d X297 hx k335 (H at_84)
          obtain ⟨cq337, kq337, q337a, q337b, q337c⟩ := isOf hZ e297 (nq0 F312)
          obtain ⟨_, _, ⟨T337, L337, k337, n337⟩, -, X337, ⟨Lc337, hQ337, l337, y337, z337⟩, st337⟩ := X297.virtualBack hx (y := (⟨"com/example/istra/istra/engine/NodeModel", "supply", "(ID)V"⟩ : MethodName)) (z := (⟨"com/example/istra/istra/engine/NodeModel", "supply", "(ID)V"⟩ : MethodName)) hown (mvT hZ (hww 103 _ rfl)) (mvT hZ (hww 104 _ rfl)) (notFace_of_selects (args := #[]) (mvT hZ (hww 106 _ rfl))) (mvT hZ (hww 106 _ rfl)) (mvT hZ (hww 105 _ rfl)) (by decide) (backOf (W := 0) (psup1 l Z a0 hw [] b101 B K [(.double x0), (.double x1), (.double x2), (.double x3)] [(.double (0 : UInt64)), (.double (0 : UInt64)), (.double (0 : UInt64)), (.double (0 : UInt64))] [(.double (0 : UInt64)), (.double (0 : UInt64)), (.double (0 : UInt64)), (.double (0 : UInt64))] [(.double (0 : UInt64)), (.double (0 : UInt64))] [(.double (0 : UInt64)), (.double (0 : UInt64))] [(.double (0 : UInt64)), (.double (0 : UInt64))] [(.double (0 : UInt64)), (.double (0 : UInt64))] [(.int (0 : Int32)), (.int (0 : Int32))] [(.int (0 : Int32)), (.int (0 : Int32))] [(.int (0 : Int32)), (.int (0 : Int32)), (.int (0 : Int32)), (.int (0 : Int32))] [(.int (0 : Int32)), (.int (1 : Int32))] [(.int (1 : Int32)), (.int (1 : Int32))] (2 : Int32) (9218868437227405312 : UInt64) (9218868437227405312 : UInt64) (FP.i2d (p3 &&& (255 : Int32))) h297 n0 Zq297 D F312 G) hZ (hww 107 _ rfl) (hww 2 _ rfl) (by decide) (by decide)) q337a q337c (g := (mkF m 85 #[si p0, si p1, si p2, si p3, sr b101, si cl, un, un, un, un] [vD (FP.i2d (p3 &&& (255 : Int32))), vI 1, vR b101])) rfl (by rw [hml]; rfl) (Steps.refl _) (argsL := [(.int (1 : Int32)), (.double (FP.i2d (p3 &&& (255 : Int32))))]) (rest := []) (lenOf pd__28ID_29V rfl) rfl (by show 2 * 0 + _ ≤ _; exact Nat.le_of_eq rfl) (H at_85) (fun _ _ => ⟨rfl, e297, (by decide : 14 + 0 ≤ _), (by decide : 51 + 0 ≤ _)⟩)
          dsimp only [Pt.U, Pt.locs, Pt.cells, Pt.slots] at X337 l337 y337 z337 st337 hQ337
          subst l337 y337 z337
          obtain ⟨h337, e337⟩ : ∃ h', T337.heap = h' := ⟨_, rfl⟩
          rw [e337] at hQ337
          obtain ⟨rfl, N337q, Kp337, NB337⟩ := hQ337
          have N338 := Fr.app N297 N337q
          have k339 : Rt p e below T337 (mkF m 88 #[si p0, si p1, si p2, si p3, sr b101, si cl, un, un, un, un] []) s₁ m #[(.int p0), (.int p1), (.int p2), (.int p3)] maxLocals := fun t k => k336 t (st337.trans k)
          have Z337 : n0 ≤ h337.size := Nat.le_trans Zq297 Kp337.1
          exact ⟨T337, h337, _, (9218868437227405312 : UInt64), (FP.i2d (p3 &&& (255 : Int32))), X337, e337, N338, Z337, NB337, (Or.inl rfl), (Or.inr (own_dq p3)), k339⟩
    have k341 := f_al X316 hx kq316 (H at_88) rfl
    obtain ⟨cq342, kq342, q342a, q342b, q342c⟩ := isOf hZ e316 (nq0 F340)
    obtain ⟨_, _, ⟨T342, L342, k342, n342⟩, -, X342, ⟨Lc342, hQ342, l342, y342, z342⟩, st342⟩ := X316.virtualBack hx (y := (⟨"com/example/istra/istra/engine/NodeModel", "share", "()V"⟩ : MethodName)) (z := (⟨"com/example/istra/istra/engine/NodeModel", "share", "()V"⟩ : MethodName)) hown (mvT hZ (hww 61 _ rfl)) (mvT hZ (hww 62 _ rfl)) (notFace_of_selects (args := #[]) (mvT hZ (hww 64 _ rfl))) (mvT hZ (hww 64 _ rfl)) (mvT hZ (hww 63 _ rfl)) (by decide) (backOf (W := 0) (shr2 l Z a0 hw [] b101 B K x0 x1 x2 x3 s0 s1 h316 n0 Zq316 D g102 G F340 hd0 hd1 hs0 hs1) hZ (hww 65 _ rfl) (hww 2 _ rfl) (by decide) (by decide)) q342a q342c (g := (mkF m 90 #[si p0, si p1, si p2, si p3, sr b101, si cl, un, un, un, un] [vR b101])) rfl (by rw [hml]; rfl) (Steps.refl _) (argsL := []) (rest := []) (lenOf pd__28_29V rfl) rfl (by show 2 * 0 + _ ≤ _; exact Nat.le_of_eq rfl) (H at_90) (fun _ _ => ⟨rfl, e316, (by decide : 14 + 0 ≤ _), (by decide : 51 + 0 ≤ _)⟩)
    dsimp only [Pt.U, Pt.locs, Pt.cells, Pt.slots] at X342 l342 y342 z342 st342 hQ342
    subst l342 y342 z342
    obtain ⟨h342, e342⟩ : ∃ h', T342.heap = h' := ⟨_, rfl⟩
    rw [e342] at hQ342
    obtain ⟨m0, m1, m2, m3, l2, l4, l5, l6, l7, l8, l9, rfl, N342q, Z342, NB342, hm⟩ := hQ342
    have N343 := Fr.app N316 N342q
    have k344 : Rt p e below T342 (mkF m 93 #[si p0, si p1, si p2, si p3, sr b101, si cl, un, un, un, un] []) s₁ m #[(.int p0), (.int p1), (.int p2), (.int p3)] maxLocals := fun t k => k341 t (st342.trans k)
    have k345 := f_al X342 hx k344 (H at_93) rfl
    have k346 := f_il X342 hx k345 (H at_95) rfl
    rcases own_m2 _ _ hcl with rfl | rfl
    · have y1 := own_nns hs0 hm.1
      have y2 := nn_of (dsub_out (no_of y1) hm.2.2.1)
      obtain ⟨cq347, kq347, q347a, q347b, q347c⟩ := isOf hZ e342 (nq0 NB342)
      obtain ⟨_, _, ⟨T347, L347, k347, n347⟩, -, X347, ⟨Lc347, hQ347, l347, y347, z347⟩, st347⟩ := X342.virtualBack hx (y := (⟨"com/example/istra/istra/engine/NodeModel", "unhanded", "(I)D"⟩ : MethodName)) (z := (⟨"com/example/istra/istra/engine/NodeModel", "unhanded", "(I)D"⟩ : MethodName)) hown (mvT hZ (hww 88 _ rfl)) (mvT hZ (hww 89 _ rfl)) (notFace_of_selects (args := #[]) (mvT hZ (hww 91 _ rfl))) (mvT hZ (hww 91 _ rfl)) (mvT hZ (hww 90 _ rfl)) (by decide) (backOf (W := 0) (unh20 l Z a0 hw [] b101 B K [(.double x0), (.double x1), (.double x2), (.double x3)] l2 l4 l5 l6 l7 l8 l9 [(.int (0 : Int32)), (.int (0 : Int32)), (.int (0 : Int32)), (.int (0 : Int32))] [(.int (1 : Int32)), (.int (1 : Int32))] s0 s1 m0 m1 m2 m3 h342 n0 Z342 D NB342 y1 y2) hZ (hww 92 _ rfl) (hww 2 _ rfl) (by decide) (by decide)) q347a q347c (g := (mkF m 97 #[si p0, si p1, si p2, si p3, sr b101, si 0, un, un, un, un] [vI 0, vR b101])) rfl (by rw [hml]; rfl) (Steps.refl _) (argsL := [(.int (0 : Int32))]) (rest := []) (lenOf pd__28I_29D rfl) rfl (by show 2 * 0 + _ ≤ _; exact Nat.le_of_eq rfl) (H at_97) (fun _ _ => ⟨rfl, e342, (by decide : 14 + 0 ≤ _), (by decide : 51 + 0 ≤ _)⟩)
      dsimp only [Pt.U, Pt.locs, Pt.cells, Pt.slots] at X347 l347 y347 z347 st347 hQ347
      subst l347 y347 z347
      obtain ⟨rfl, N347q, e347⟩ := hQ347
      have N348 := Fr.app N343 N347q
      have k349 : Rt p e below T347 (mkF m 100 #[si p0, si p1, si p2, si p3, sr b101, si 0, un, un, un, un] [vD (FP.dsub (FP.dsub s0 m0) m2)]) s₁ m #[(.int p0), (.int p1), (.int p2), (.int p3)] maxLocals := fun t k => k346 t (st347.trans k)
      have k350 := f_ds X347 hx k349 (H at_100) (l' := #[si p0, si p1, si p2, si p3, sr b101, si 0, sd (FP.dsub (FP.dsub s0 m0) m2), se, un, un]) rfl
      have k351 := f_al X347 hx k350 (H at_102) rfl
      have k352 := f_il X347 hx k351 (H at_104) rfl
      obtain ⟨cq353, kq353, q353a, q353b, q353c⟩ := isOf hZ e347 (nq0 NB342)
      obtain ⟨_, _, ⟨T353, L353, k353, n353⟩, -, X353, ⟨Lc353, hQ353, l353, y353, z353⟩, st353⟩ := X347.virtualBack hx (y := (⟨"com/example/istra/istra/engine/NodeModel", "supply", "(I)D"⟩ : MethodName)) (z := (⟨"com/example/istra/istra/engine/NodeModel", "supply", "(I)D"⟩ : MethodName)) hown (mvT hZ (hww 93 _ rfl)) (mvT hZ (hww 94 _ rfl)) (notFace_of_selects (args := #[]) (mvT hZ (hww 96 _ rfl))) (mvT hZ (hww 96 _ rfl)) (mvT hZ (hww 95 _ rfl)) (by decide) (backOf (W := 0) (gsup0 l Z a0 hw [] b101 B K [(.double x0), (.double x1), (.double x2), (.double x3)] [(.double m0), (.double m1), (.double m2), (.double m3)] l2 l4 l5 l6 l7 l8 l9 [(.int (0 : Int32)), (.int (0 : Int32)), (.int (0 : Int32)), (.int (0 : Int32))] [(.int (0 : Int32)), (.int (1 : Int32))] [(.int (1 : Int32)), (.int (1 : Int32))] (2 : Int32) s0 s1 h342 n0 Z342 D NB342) hZ (hww 97 _ rfl) (hww 2 _ rfl) (by decide) (by decide)) q353a q353c (g := (mkF m 106 #[si p0, si p1, si p2, si p3, sr b101, si 0, sd (FP.dsub (FP.dsub s0 m0) m2), se, un, un] [vI 0, vR b101])) rfl (by rw [hml]; rfl) (Steps.refl _) (argsL := [(.int (0 : Int32))]) (rest := []) (lenOf pd__28I_29D rfl) rfl (by show 2 * 0 + _ ≤ _; exact Nat.le_of_eq rfl) (H at_106) (fun _ _ => ⟨rfl, e347, (by decide : 14 + 0 ≤ _), (by decide : 51 + 0 ≤ _)⟩)
      dsimp only [Pt.U, Pt.locs, Pt.cells, Pt.slots] at X353 l353 y353 z353 st353 hQ353
      subst l353 y353 z353
      obtain ⟨rfl, N353q, e353⟩ := hQ353
      have N354 := Fr.app N348 N353q
      have k355 : Rt p e below T353 (mkF m 109 #[si p0, si p1, si p2, si p3, sr b101, si 0, sd (FP.dsub (FP.dsub s0 m0) m2), se, un, un] [vD s0]) s₁ m #[(.int p0), (.int p1), (.int p2), (.int p3)] maxLocals := fun t k => k352 t (st353.trans k)
      have k356 := f_al X353 hx k355 (H at_109) rfl
      have k357 := f_ic X353 hx k356 (H at_111) (v := 0) rfl
      have k358 := f_il X353 hx k357 (H at_112) rfl
      obtain ⟨cq359, kq359, q359a, q359b, q359c⟩ := isOf hZ e353 (nq0 NB342)
      obtain ⟨_, _, ⟨T359, L359, k359, n359⟩, -, X359, ⟨Lc359, hQ359, l359, y359, z359⟩, st359⟩ := X353.virtualBack hx (y := (⟨"com/example/istra/istra/engine/NodeModel", "moved", "(II)D"⟩ : MethodName)) (z := (⟨"com/example/istra/istra/engine/NodeModel", "moved", "(II)D"⟩ : MethodName)) hown (mvT hZ (hww 98 _ rfl)) (mvT hZ (hww 99 _ rfl)) (notFace_of_selects (args := #[]) (mvT hZ (hww 101 _ rfl))) (mvT hZ (hww 101 _ rfl)) (mvT hZ (hww 100 _ rfl)) (by decide) (backOf (W := 2) (gmov00 l Z a0 hw [] b101 B K [(.double x0), (.double x1), (.double x2), (.double x3)] l2 [(.double s0), (.double s1)] l4 l5 l6 l7 l8 l9 [(.int (0 : Int32)), (.int (0 : Int32)), (.int (0 : Int32)), (.int (0 : Int32))] [(.int (0 : Int32)), (.int (1 : Int32))] [(.int (1 : Int32)), (.int (1 : Int32))] (2 : Int32) m0 m1 m2 m3 h342 n0 Z342 D NB342) hZ (hww 102 _ rfl) (hww 2 _ rfl) (by decide) (by decide)) q359a q359c (g := (mkF m 114 #[si p0, si p1, si p2, si p3, sr b101, si 0, sd (FP.dsub (FP.dsub s0 m0) m2), se, un, un] [vI 0, vI 0, vR b101, vD s0])) rfl (by rw [hml]; rfl) (Steps.refl _) (argsL := [(.int (0 : Int32)), (.int (0 : Int32))]) (rest := [(.double s0)]) (lenOf pd__28II_29D rfl) rfl (by show 2 * 0 + _ ≤ _; exact Nat.le_of_eq rfl) (H at_114) (fun _ _ => ⟨rfl, e353, (by decide : 14 + 0 ≤ _), (by decide : 51 + 0 ≤ _)⟩)
      dsimp only [Pt.U, Pt.locs, Pt.cells, Pt.slots] at X359 l359 y359 z359 st359 hQ359
      subst l359 y359 z359
      obtain ⟨rfl, N359q, e359⟩ := hQ359
      have N360 := Fr.app N354 N359q
      have k361 : Rt p e below T359 (mkF m 117 #[si p0, si p1, si p2, si p3, sr b101, si 0, sd (FP.dsub (FP.dsub s0 m0) m2), se, un, un] [vD m0, vD s0]) s₁ m #[(.int p0), (.int p1), (.int p2), (.int p3)] maxLocals := fun t k => k358 t (st359.trans k)
      have k362 := f_dsub X359 hx k361 (H at_117) y1
      have k363 := f_al X359 hx k362 (H at_118) rfl
      have k364 := f_ic X359 hx k363 (H at_120) (v := 1) rfl
      have k365 := f_il X359 hx k364 (H at_121) rfl
      obtain ⟨cq366, kq366, q366a, q366b, q366c⟩ := isOf hZ e359 (nq0 NB342)
      obtain ⟨_, _, ⟨T366, L366, k366, n366⟩, -, X366, ⟨Lc366, hQ366, l366, y366, z366⟩, st366⟩ := X359.virtualBack hx (y := (⟨"com/example/istra/istra/engine/NodeModel", "moved", "(II)D"⟩ : MethodName)) (z := (⟨"com/example/istra/istra/engine/NodeModel", "moved", "(II)D"⟩ : MethodName)) hown (mvT hZ (hww 98 _ rfl)) (mvT hZ (hww 99 _ rfl)) (notFace_of_selects (args := #[]) (mvT hZ (hww 101 _ rfl))) (mvT hZ (hww 101 _ rfl)) (mvT hZ (hww 100 _ rfl)) (by decide) (backOf (W := 2) (gmov10 l Z a0 hw [] b101 B K [(.double x0), (.double x1), (.double x2), (.double x3)] l2 [(.double s0), (.double s1)] l4 l5 l6 l7 l8 l9 [(.int (0 : Int32)), (.int (0 : Int32)), (.int (0 : Int32)), (.int (0 : Int32))] [(.int (0 : Int32)), (.int (1 : Int32))] [(.int (1 : Int32)), (.int (1 : Int32))] (2 : Int32) m0 m1 m2 m3 h342 n0 Z342 D NB342) hZ (hww 102 _ rfl) (hww 2 _ rfl) (by decide) (by decide)) q366a q366c (g := (mkF m 123 #[si p0, si p1, si p2, si p3, sr b101, si 0, sd (FP.dsub (FP.dsub s0 m0) m2), se, un, un] [vI 0, vI 1, vR b101, vD (FP.dsub s0 m0)])) rfl (by rw [hml]; rfl) (Steps.refl _) (argsL := [(.int (1 : Int32)), (.int (0 : Int32))]) (rest := [(.double (FP.dsub s0 m0))]) (lenOf pd__28II_29D rfl) rfl (by show 2 * 0 + _ ≤ _; exact Nat.le_of_eq rfl) (H at_123) (fun _ _ => ⟨rfl, e359, (by decide : 14 + 0 ≤ _), (by decide : 51 + 0 ≤ _)⟩)
      dsimp only [Pt.U, Pt.locs, Pt.cells, Pt.slots] at X366 l366 y366 z366 st366 hQ366
      subst l366 y366 z366
      obtain ⟨rfl, N366q, e366⟩ := hQ366
      have N367 := Fr.app N360 N366q
      have k368 : Rt p e below T366 (mkF m 126 #[si p0, si p1, si p2, si p3, sr b101, si 0, sd (FP.dsub (FP.dsub s0 m0) m2), se, un, un] [vD m2, vD (FP.dsub s0 m0)]) s₁ m #[(.int p0), (.int p1), (.int p2), (.int p3)] maxLocals := fun t k => k365 t (st366.trans k)
      have k369 := f_dsub X366 hx k368 (H at_126) y2
      have k370 := f_ds X366 hx k369 (H at_127) (l' := #[si p0, si p1, si p2, si p3, sr b101, si 0, sd (FP.dsub (FP.dsub s0 m0) m2), se, sd (FP.dsub (FP.dsub s0 m0) m2), se]) rfl
      have k371 := f_dl X366 hx k370 (H at_129) rfl
      have k372 := f_dl X366 hx k371 (H at_131) rfl
      have k373 := f_dc X366 hx k372 (H at_133)
      have k374 := f_ifN X366 hx k373 (H at_134) ((if0 _ _).trans (teq (dcmpV_self y2 .l)).2)
      have k375 := f_ic X366 hx k374 (H at_137) (v := 1) rfl
      have k376 := f_go X366 hx k375 (H at_138) (pc' := 142) (by decide)
      obtain ⟨fs, hr, hrun, hended, hW, hsame⟩ := X366.leave (v := some (.int (1 : Int32))) (fun h => by rw [Bd.returns] at h; cases h)
      refine ⟨_, _, k376 _ (retOut X366 hx (t := .boolean) Bd.returns rfl (Or.inl ⟨rfl, Or.inr (Or.inl rfl), _, rfl⟩) (H at_142) hr), hrun, hended, _, _, rfl, ?_, ⟨_, rfl⟩, hW, hsame.mono (by decide) (by decide)⟩
      show Q_rm0 Z p0 p1 p2 p3 h0 n0 _ T366.heap _
      rw [e366]
      exact ⟨rfl, N367⟩
    · have y1 := own_nns hs1 hm.2.1
      have y2 := nn_of (dsub_out (no_of y1) hm.2.2.2)
      obtain ⟨cq377, kq377, q377a, q377b, q377c⟩ := isOf hZ e342 (nq0 NB342)
      obtain ⟨_, _, ⟨T377, L377, k377, n377⟩, -, X377, ⟨Lc377, hQ377, l377, y377, z377⟩, st377⟩ := X342.virtualBack hx (y := (⟨"com/example/istra/istra/engine/NodeModel", "unhanded", "(I)D"⟩ : MethodName)) (z := (⟨"com/example/istra/istra/engine/NodeModel", "unhanded", "(I)D"⟩ : MethodName)) hown (mvT hZ (hww 88 _ rfl)) (mvT hZ (hww 89 _ rfl)) (notFace_of_selects (args := #[]) (mvT hZ (hww 91 _ rfl))) (mvT hZ (hww 91 _ rfl)) (mvT hZ (hww 90 _ rfl)) (by decide) (backOf (W := 0) (unh21 l Z a0 hw [] b101 B K [(.double x0), (.double x1), (.double x2), (.double x3)] l2 l4 l5 l6 l7 l8 l9 [(.int (0 : Int32)), (.int (0 : Int32)), (.int (0 : Int32)), (.int (0 : Int32))] [(.int (1 : Int32)), (.int (1 : Int32))] s0 s1 m0 m1 m2 m3 h342 n0 Z342 D NB342 y1 y2) hZ (hww 92 _ rfl) (hww 2 _ rfl) (by decide) (by decide)) q377a q377c (g := (mkF m 97 #[si p0, si p1, si p2, si p3, sr b101, si 1, un, un, un, un] [vI 1, vR b101])) rfl (by rw [hml]; rfl) (Steps.refl _) (argsL := [(.int (1 : Int32))]) (rest := []) (lenOf pd__28I_29D rfl) rfl (by show 2 * 0 + _ ≤ _; exact Nat.le_of_eq rfl) (H at_97) (fun _ _ => ⟨rfl, e342, (by decide : 14 + 0 ≤ _), (by decide : 51 + 0 ≤ _)⟩)
      dsimp only [Pt.U, Pt.locs, Pt.cells, Pt.slots] at X377 l377 y377 z377 st377 hQ377
      subst l377 y377 z377
      obtain ⟨rfl, N377q, e377⟩ := hQ377
      have N378 := Fr.app N343 N377q
      have k379 : Rt p e below T377 (mkF m 100 #[si p0, si p1, si p2, si p3, sr b101, si 1, un, un, un, un] [vD (FP.dsub (FP.dsub s1 m1) m3)]) s₁ m #[(.int p0), (.int p1), (.int p2), (.int p3)] maxLocals := fun t k => k346 t (st377.trans k)
      have k380 := f_ds X377 hx k379 (H at_100) (l' := #[si p0, si p1, si p2, si p3, sr b101, si 1, sd (FP.dsub (FP.dsub s1 m1) m3), se, un, un]) rfl
      have k381 := f_al X377 hx k380 (H at_102) rfl
      have k382 := f_il X377 hx k381 (H at_104) rfl
      obtain ⟨cq383, kq383, q383a, q383b, q383c⟩ := isOf hZ e377 (nq0 NB342)
      obtain ⟨_, _, ⟨T383, L383, k383, n383⟩, -, X383, ⟨Lc383, hQ383, l383, y383, z383⟩, st383⟩ := X377.virtualBack hx (y := (⟨"com/example/istra/istra/engine/NodeModel", "supply", "(I)D"⟩ : MethodName)) (z := (⟨"com/example/istra/istra/engine/NodeModel", "supply", "(I)D"⟩ : MethodName)) hown (mvT hZ (hww 93 _ rfl)) (mvT hZ (hww 94 _ rfl)) (notFace_of_selects (args := #[]) (mvT hZ (hww 96 _ rfl))) (mvT hZ (hww 96 _ rfl)) (mvT hZ (hww 95 _ rfl)) (by decide) (backOf (W := 0) (gsup1 l Z a0 hw [] b101 B K [(.double x0), (.double x1), (.double x2), (.double x3)] [(.double m0), (.double m1), (.double m2), (.double m3)] l2 l4 l5 l6 l7 l8 l9 [(.int (0 : Int32)), (.int (0 : Int32)), (.int (0 : Int32)), (.int (0 : Int32))] [(.int (0 : Int32)), (.int (1 : Int32))] [(.int (1 : Int32)), (.int (1 : Int32))] (2 : Int32) s0 s1 h342 n0 Z342 D NB342) hZ (hww 97 _ rfl) (hww 2 _ rfl) (by decide) (by decide)) q383a q383c (g := (mkF m 106 #[si p0, si p1, si p2, si p3, sr b101, si 1, sd (FP.dsub (FP.dsub s1 m1) m3), se, un, un] [vI 1, vR b101])) rfl (by rw [hml]; rfl) (Steps.refl _) (argsL := [(.int (1 : Int32))]) (rest := []) (lenOf pd__28I_29D rfl) rfl (by show 2 * 0 + _ ≤ _; exact Nat.le_of_eq rfl) (H at_106) (fun _ _ => ⟨rfl, e377, (by decide : 14 + 0 ≤ _), (by decide : 51 + 0 ≤ _)⟩)
      dsimp only [Pt.U, Pt.locs, Pt.cells, Pt.slots] at X383 l383 y383 z383 st383 hQ383
      subst l383 y383 z383
      obtain ⟨rfl, N383q, e383⟩ := hQ383
      have N384 := Fr.app N378 N383q
      have k385 : Rt p e below T383 (mkF m 109 #[si p0, si p1, si p2, si p3, sr b101, si 1, sd (FP.dsub (FP.dsub s1 m1) m3), se, un, un] [vD s1]) s₁ m #[(.int p0), (.int p1), (.int p2), (.int p3)] maxLocals := fun t k => k382 t (st383.trans k)
      have k386 := f_al X383 hx k385 (H at_109) rfl
      have k387 := f_ic X383 hx k386 (H at_111) (v := 0) rfl
      have k388 := f_il X383 hx k387 (H at_112) rfl
      obtain ⟨cq389, kq389, q389a, q389b, q389c⟩ := isOf hZ e383 (nq0 NB342)
      obtain ⟨_, _, ⟨T389, L389, k389, n389⟩, -, X389, ⟨Lc389, hQ389, l389, y389, z389⟩, st389⟩ := X383.virtualBack hx (y := (⟨"com/example/istra/istra/engine/NodeModel", "moved", "(II)D"⟩ : MethodName)) (z := (⟨"com/example/istra/istra/engine/NodeModel", "moved", "(II)D"⟩ : MethodName)) hown (mvT hZ (hww 98 _ rfl)) (mvT hZ (hww 99 _ rfl)) (notFace_of_selects (args := #[]) (mvT hZ (hww 101 _ rfl))) (mvT hZ (hww 101 _ rfl)) (mvT hZ (hww 100 _ rfl)) (by decide) (backOf (W := 2) (gmov01 l Z a0 hw [] b101 B K [(.double x0), (.double x1), (.double x2), (.double x3)] l2 [(.double s0), (.double s1)] l4 l5 l6 l7 l8 l9 [(.int (0 : Int32)), (.int (0 : Int32)), (.int (0 : Int32)), (.int (0 : Int32))] [(.int (0 : Int32)), (.int (1 : Int32))] [(.int (1 : Int32)), (.int (1 : Int32))] (2 : Int32) m0 m1 m2 m3 h342 n0 Z342 D NB342) hZ (hww 102 _ rfl) (hww 2 _ rfl) (by decide) (by decide)) q389a q389c (g := (mkF m 114 #[si p0, si p1, si p2, si p3, sr b101, si 1, sd (FP.dsub (FP.dsub s1 m1) m3), se, un, un] [vI 1, vI 0, vR b101, vD s1])) rfl (by rw [hml]; rfl) (Steps.refl _) (argsL := [(.int (0 : Int32)), (.int (1 : Int32))]) (rest := [(.double s1)]) (lenOf pd__28II_29D rfl) rfl (by show 2 * 0 + _ ≤ _; exact Nat.le_of_eq rfl) (H at_114) (fun _ _ => ⟨rfl, e383, (by decide : 14 + 0 ≤ _), (by decide : 51 + 0 ≤ _)⟩)
      dsimp only [Pt.U, Pt.locs, Pt.cells, Pt.slots] at X389 l389 y389 z389 st389 hQ389
      subst l389 y389 z389
      obtain ⟨rfl, N389q, e389⟩ := hQ389
      have N390 := Fr.app N384 N389q
      have k391 : Rt p e below T389 (mkF m 117 #[si p0, si p1, si p2, si p3, sr b101, si 1, sd (FP.dsub (FP.dsub s1 m1) m3), se, un, un] [vD m1, vD s1]) s₁ m #[(.int p0), (.int p1), (.int p2), (.int p3)] maxLocals := fun t k => k388 t (st389.trans k)
      have k392 := f_dsub X389 hx k391 (H at_117) y1
      have k393 := f_al X389 hx k392 (H at_118) rfl
      have k394 := f_ic X389 hx k393 (H at_120) (v := 1) rfl
      have k395 := f_il X389 hx k394 (H at_121) rfl
      obtain ⟨cq396, kq396, q396a, q396b, q396c⟩ := isOf hZ e389 (nq0 NB342)
      obtain ⟨_, _, ⟨T396, L396, k396, n396⟩, -, X396, ⟨Lc396, hQ396, l396, y396, z396⟩, st396⟩ := X389.virtualBack hx (y := (⟨"com/example/istra/istra/engine/NodeModel", "moved", "(II)D"⟩ : MethodName)) (z := (⟨"com/example/istra/istra/engine/NodeModel", "moved", "(II)D"⟩ : MethodName)) hown (mvT hZ (hww 98 _ rfl)) (mvT hZ (hww 99 _ rfl)) (notFace_of_selects (args := #[]) (mvT hZ (hww 101 _ rfl))) (mvT hZ (hww 101 _ rfl)) (mvT hZ (hww 100 _ rfl)) (by decide) (backOf (W := 2) (gmov11 l Z a0 hw [] b101 B K [(.double x0), (.double x1), (.double x2), (.double x3)] l2 [(.double s0), (.double s1)] l4 l5 l6 l7 l8 l9 [(.int (0 : Int32)), (.int (0 : Int32)), (.int (0 : Int32)), (.int (0 : Int32))] [(.int (0 : Int32)), (.int (1 : Int32))] [(.int (1 : Int32)), (.int (1 : Int32))] (2 : Int32) m0 m1 m2 m3 h342 n0 Z342 D NB342) hZ (hww 102 _ rfl) (hww 2 _ rfl) (by decide) (by decide)) q396a q396c (g := (mkF m 123 #[si p0, si p1, si p2, si p3, sr b101, si 1, sd (FP.dsub (FP.dsub s1 m1) m3), se, un, un] [vI 1, vI 1, vR b101, vD (FP.dsub s1 m1)])) rfl (by rw [hml]; rfl) (Steps.refl _) (argsL := [(.int (1 : Int32)), (.int (1 : Int32))]) (rest := [(.double (FP.dsub s1 m1))]) (lenOf pd__28II_29D rfl) rfl (by show 2 * 0 + _ ≤ _; exact Nat.le_of_eq rfl) (H at_123) (fun _ _ => ⟨rfl, e389, (by decide : 14 + 0 ≤ _), (by decide : 51 + 0 ≤ _)⟩)
      dsimp only [Pt.U, Pt.locs, Pt.cells, Pt.slots] at X396 l396 y396 z396 st396 hQ396
      subst l396 y396 z396
      obtain ⟨rfl, N396q, e396⟩ := hQ396
      have N397 := Fr.app N390 N396q
      have k398 : Rt p e below T396 (mkF m 126 #[si p0, si p1, si p2, si p3, sr b101, si 1, sd (FP.dsub (FP.dsub s1 m1) m3), se, un, un] [vD m3, vD (FP.dsub s1 m1)]) s₁ m #[(.int p0), (.int p1), (.int p2), (.int p3)] maxLocals := fun t k => k395 t (st396.trans k)
      have k399 := f_dsub X396 hx k398 (H at_126) y2
      have k400 := f_ds X396 hx k399 (H at_127) (l' := #[si p0, si p1, si p2, si p3, sr b101, si 1, sd (FP.dsub (FP.dsub s1 m1) m3), se, sd (FP.dsub (FP.dsub s1 m1) m3), se]) rfl
      have k401 := f_dl X396 hx k400 (H at_129) rfl
      have k402 := f_dl X396 hx k401 (H at_131) rfl
      have k403 := f_dc X396 hx k402 (H at_133)
      have k404 := f_ifN X396 hx k403 (H at_134) ((if0 _ _).trans (teq (dcmpV_self y2 .l)).2)
      have k405 := f_ic X396 hx k404 (H at_137) (v := 1) rfl
      have k406 := f_go X396 hx k405 (H at_138) (pc' := 142) (by decide)
      obtain ⟨fs, hr, hrun, hended, hW, hsame⟩ := X396.leave (v := some (.int (1 : Int32))) (fun h => by rw [Bd.returns] at h; cases h)
      refine ⟨_, _, k406 _ (retOut X396 hx (t := .boolean) Bd.returns rfl (Or.inl ⟨rfl, Or.inr (Or.inl rfl), _, rfl⟩) (H at_142) hr), hrun, hended, _, _, rfl, ?_, ⟨_, rfl⟩, hW, hsame.mono (by decide) (by decide)⟩
      show Q_rm0 Z p0 p1 p2 p3 h0 n0 _ T396.heap _
      rw [e396]
      exact ⟨rfl, N397⟩
set_option maxRecDepth 65536 in
set_option maxHeartbeats 40000000 in
theorem comes_1 {Post : Tables → Env → Array Value → State → Outcome → State → Prop} (hpost : ∀ tb e args s v u, (limb_1_1.after args s (.returned v) u = true ∧ limb_1_2.after args s (.returned v) u = true ∧ True) → FrameEnd s (.returned v) u (Jvm.fieldLocs frame_1_writes args s ++ Jvm.arrayLocs frame_1_arrays args s ++ Jvm.staticLocs frame_1_statics s) 40 192 → Post tb e args s (.returned v) u) :
    ArmFor flags0 classFile x code maxLocals ret World_1 tables_1 room_1 Calls_1 rest_1 Pre_1 Post := by
  intro l hfl _ _ p e ha hc hk s m args below hf hA hF happ hP
  obtain ⟨hcalls, hrest, hpre⟩ := hP
  obtain ⟨-, -, -, hnamed, -, -, -, hat⟩ := (Spec.applies_iff hf).mp happ
  obtain ⟨hg, hn⟩ := and_e (Cond.before_iff.mp (show (Jvm.Cond.and given_1 narrow_1).before args s = true from hpre))
  obtain ⟨g1, g2⟩ := and_e hg
  obtain ⟨g3, g4⟩ := and_e g2
  obtain ⟨g5, g6⟩ := and_e g4
  obtain ⟨g7, g8⟩ := and_e g6
  obtain ⟨w0, w1, w2, w3, rfl⟩ : ∃ w0 w1 w2 w3 : Value, args = #[w0, w1, w2, w3] := by
    have hs : args.size = 4 := by simpa [Cond.value, given_1] using g1
    obtain ⟨L⟩ := args
    match L, hs with
    | [w0, w1, w2, w3], _ => exact ⟨w0, w1, w2, w3, rfl⟩
  have hw := fun d (hd : d ∈ tables_1) => atoms_spec (ws := Jvm.Cond.code x code maxLocals ret :: tables_1) hat d (List.mem_cons_of_mem _ hd)
  obtain ⟨i0, ei0⟩ := is_v g3
  obtain rfl : w0 = (.int i0) := Option.some.inj ei0
  obtain ⟨i1, ei1⟩ := is_v g5
  obtain rfl : w1 = (.int i1) := Option.some.inj ei1
  obtain ⟨i2, ei2⟩ := is_v g7
  obtain rfl : w2 = (.int i2) := Option.some.inj ei2
  obtain ⟨i3, ei3⟩ := is_v g8
  obtain rfl : w3 = (.int i3) := Option.some.inj ei3
  obtain ⟨n, o, h1, h2, h3, _, L, rfl, ⟨rfl, N⟩, hq⟩ := rm0 l s _ hw tables_1 i0 i1 i2 i3 s.heap s.heap.size (Nat.le_refl _) p e ha hc hk s m _ below hf ((Spec.applies_iff_loose hf).mp happ).1 ⟨rfl, State.Warmed39.refl s, rfl⟩ trivial
  refine ⟨n, _, h1, h2, h3, hpost _ _ _ _ _ _ ⟨Cond.after_iff.mpr rfl, Cond.after_iff.mpr (eq_i res_at (Term.int_eval (1)) rfl), trivial⟩ ⟨hq.1, hq.2.1, (hq.2.2.sift fun y hy => Or.inr (N y hy)).mono (by decide) (by decide)⟩⟩
theorem main_1_1 : Claimed_1_1 := comes_1 fun _ _ _ _ _ _ h hF => ⟨h.1, hF⟩
theorem main_1_2 : Claimed_1_2 := comes_1 fun _ _ _ _ _ _ h hF => ⟨h.2.1, hF⟩
end Jvm.Pilot.@@N@@
namespace Jvm.Pilot.@@N@@
open Jvm Jvm.ClassFile Sem Op Lib Jvm.Free Jvm.Stand Jvm.Pilot.@@N@@.Jvm.D
/-! MADE BY PROGRAM (witnessworld.py) out of the Statement's table words and the real class files: 16 classes; the members and pool entries that the words name. The judged class is class 1, her method 1. -/
namespace start1
open Jvm.ClassFile
def u (s : String) : CpInfo := .utf8 (stringToUtf16 s)
/-- a pool by its gaps: so many unusable entries, then the entry; so many at the end -/
def gap : Nat → List CpInfo → List CpInfo
  | 0, r => r
  | n + 1, r => .unusable :: gap n r
def poolList (es : List (Nat × CpInfo)) (last : Nat) : List CpInfo := es.foldr (fun e r => gap e.1 (e.2 :: r)) (gap last [])
def pool (es : List (Nat × CpInfo)) (last : Nat) : Array CpInfo := ⟨poolList es last⟩
def fileOf (pool : Array CpInfo) (this : Nat) (attrs : Array Attribute := #[]) (ms : Array MethodInfo := #[]) (fl : Nat := 33) (sup : Nat := 0) (ifs : Array Nat := #[]) (fds : Array FieldInfo := #[]) : ClassFile where
  minorVersion := 0
  majorVersion := 65
  constantPool := pool
  accessFlags := fl
  thisClass := this
  superClass := sup
  interfaces := ifs
  fields := fds
  methods := ms
  attributes := attrs
def plain (name : String) (sup : Option ClassId) : Class where
  name := name
  kind := .ordinary
  loader := none
  accessFlags := 33
  super := sup
  interfaces := #[]
  cf := none
  fields := #[]
  methods := #[]
  instanceTypes := #[]
  staticTypes := #[]
  resolved := #[]
  callSites := []
  init := .initialized
  statics := none
  mirror := none

def pool0 : Array CpInfo := pool [(5, u "<init>"), (0, u "()V"), (1, .class_ 10), (1, u "java/lang/Object")] 113

def k0c0 : Code := { maxStack := 0, maxLocals := 1, code := object_method_1_code, exceptionTable := #[], attributes := #[] }
def k0m0 : Method := { name := "<init>", desc := "()V", sig := { parameters := [], returnType := none }, accessFlags := 1, code := some k0c0 }
/-- java/lang/Object -/
def k0 : Class := { plain "java/lang/Object" none with
  accessFlags := 33
  interfaces := #[]
  cf := some (fileOf pool0 8 #[] #[{ accessFlags := 1, nameIndex := 5, descriptorIndex := 6, attributes := #[] }] 33 0 #[] #[])
  fields := #[]
  methods := #[k0m0]
  instanceTypes := #[]
  staticTypes := #[]
  resolved := Array.replicate 124 none
  statics := none }

def pool1 : Array CpInfo := pool [(2, .class_ 4), (1, u "java/lang/Object"), (0, u "<init>"), (0, u "()V"), (0, .class_ 8), (0, u "com/example/istra/istra/engine/NodeModel"), (0, .methodref 7 10), (0, .nameAndType 5 11), (0, u "(II)V"), (0, .methodref 7 13), (0, .nameAndType 14 11), (0, u "open"), (0, .methodref 7 16), (0, .nameAndType 17 18), (0, u "want"), (0, u "(IID)V"), (0, .methodref 7 20), (0, .nameAndType 21 22), (0, u "supply"), (0, u "(ID)V"), (0, .methodref 7 24), (0, .nameAndType 25 6), (0, u "share"), (0, .methodref 7 27), (0, .nameAndType 28 29), (0, u "unhanded"), (0, u "(I)D"), (0, .methodref 7 31), (0, .nameAndType 21 29), (0, .methodref 7 33), (0, .nameAndType 34 35), (0, u "moved"), (0, u "(II)D"), (0, .class_ 37), (0, u "com/example/istra/istra/engine/NodeModelUnhandedPinLaw"), (2, u "law"), (0, u "(IIII)Z")] 3

def k1m0 : Method := { name := "<init>", desc := "()V", sig := { parameters := [], returnType := none }, accessFlags := 1, code := none }
def k1c1 : Code := { maxStack := 5, maxLocals := 10, code := code, exceptionTable := #[], attributes := #[] }
def k1m1 : Method := { name := "law", desc := "(IIII)Z", sig := { parameters := [.int, .int, .int, .int], returnType := some .boolean }, accessFlags := 9, code := some k1c1 }
/-- com/example/istra/istra/engine/NodeModelUnhandedPinLaw -/
def k1 : Class := { plain "com/example/istra/istra/engine/NodeModelUnhandedPinLaw" (some 0) with
  accessFlags := 49
  interfaces := #[]
  cf := some (fileOf pool1 36 #[] #[{ accessFlags := 1, nameIndex := 5, descriptorIndex := 6, attributes := #[] }, { accessFlags := 9, nameIndex := 40, descriptorIndex := 41, attributes := #[] }] 49 2 #[] #[])
  fields := #[]
  methods := #[k1m0, k1m1]
  instanceTypes := #[]
  staticTypes := #[]
  resolved := Array.replicate 45 none
  statics := none }

def pool2 : Array CpInfo := pool [(1, .methodref 2 3), (0, .class_ 4), (0, .nameAndType 5 6), (0, u "java/lang/Object"), (0, u "<init>"), (0, u "()V"), (0, .fieldref 8 9), (0, .class_ 10), (0, .nameAndType 11 12), (0, u "com/example/istra/istra/engine/NodeModel"), (0, u "demand"), (0, u "[D"), (0, .fieldref 8 14), (0, .nameAndType 15 12), (0, u "moved"), (0, .fieldref 8 17), (0, .nameAndType 18 12), (0, u "left"), (0, .fieldref 8 20), (0, .nameAndType 21 12), (0, u "supply"), (0, .fieldref 8 23), (0, .nameAndType 24 12), (0, u "room"), (0, .fieldref 8 26), (0, .nameAndType 27 12), (0, u "wanted"), (0, .fieldref 8 29), (0, .nameAndType 30 12), (0, u "fraction"), (0, .fieldref 8 32), (0, .nameAndType 33 12), (0, u "given"), (0, .fieldref 8 35), (0, .nameAndType 36 37), (0, u "spare"), (0, u "[Z"), (0, .fieldref 8 39), (0, .nameAndType 40 37), (0, u "finished"), (0, .fieldref 8 42), (0, .nameAndType 43 37), (0, u "closed"), (0, .fieldref 8 45), (0, .nameAndType 46 47), (0, u "wanting"), (0, u "[I"), (0, .fieldref 8 49), (0, .nameAndType 50 37), (0, u "listed"), (0, .fieldref 8 52), (0, .nameAndType 53 54), (0, u "wantingCount"), (0, u "I"), (0, .fieldref 8 56), (0, .nameAndType 57 54), (0, u "columns"), (0, .methodref 59 60), (0, .class_ 61), (0, .nameAndType 62 63), (0, u "java/util/Arrays"), (0, u "fill"), (0, u "([DIID)V"), (0, .fieldref 8 65), (0, .nameAndType 66 54), (0, u "approaches"), (2, .double 9218868437227405312), (1, .fieldref 8 72), (0, .nameAndType 73 74), (0, u "anyClosed"), (0, u "Z"), (3, .methodref 8 79), (0, .nameAndType 80 81), (0, u "list"), (0, u "(I)V"), (3, .methodref 86 87), (0, .class_ 88), (0, .nameAndType 89 90), (0, u "java/lang/System"), (0, u "arraycopy"), (0, u "(Ljava/lang/Object;ILjava/lang/Object;II)V"), (0, .methodref 8 92), (0, .nameAndType 40 93), (0, u "(I)Z"), (0, .methodref 8 95), (0, .nameAndType 96 81), (0, u "move"), (0, .methodref 98 99), (0, .class_ 100), (0, .nameAndType 101 102), (0, u "java/lang/Math"), (0, u "max"), (0, u "(DD)D"), (0, .methodref 8 104), (0, .nameAndType 105 106), (0, u "cut"), (0, u "(DDD)D"), (0, u "(II)V"), (2, u "open"), (1, u "want"), (0, u "(IID)V"), (3, u "(ID)V"), (0, u "(I)D"), (0, u "(II)D"), (0, u "unhanded"), (0, u "share")] 4

def k2c0 : Code := { maxStack := 3, maxLocals := 3, code := prog_40_method_1_code, exceptionTable := #[], attributes := #[] }
def k2m0 : Method := { name := "<init>", desc := "(II)V", sig := { parameters := [.int, .int], returnType := none }, accessFlags := 0, code := some k2c0 }
def k2c1 : Code := { maxStack := 5, maxLocals := 5, code := prog_40_method_2_code, exceptionTable := #[], attributes := #[] }
def k2m1 : Method := { name := "open", desc := "(II)V", sig := { parameters := [.int, .int], returnType := none }, accessFlags := 0, code := some k2c1 }
def k2c2 : Code := { maxStack := 4, maxLocals := 5, code := prog_40_method_3_code, exceptionTable := #[], attributes := #[] }
def k2m2 : Method := { name := "want", desc := "(IID)V", sig := { parameters := [.int, .int, .double], returnType := none }, accessFlags := 0, code := some k2c2 }
def k2c3 : Code := { maxStack := 5, maxLocals := 3, code := prog_40_method_4_code, exceptionTable := #[], attributes := #[] }
def k2m3 : Method := { name := "list", desc := "(I)V", sig := { parameters := [.int], returnType := none }, accessFlags := 2, code := some k2c3 }
def k2c4 : Code := { maxStack := 4, maxLocals := 4, code := prog_40_method_7_code, exceptionTable := #[], attributes := #[] }
def k2m4 : Method := { name := "supply", desc := "(ID)V", sig := { parameters := [.int, .double], returnType := none }, accessFlags := 0, code := some k2c4 }
def k2c5 : Code := { maxStack := 2, maxLocals := 2, code := prog_40_method_8_code, exceptionTable := #[], attributes := #[] }
def k2m5 : Method := { name := "supply", desc := "(I)D", sig := { parameters := [.int], returnType := some .double }, accessFlags := 0, code := some k2c5 }
def k2c6 : Code := { maxStack := 3, maxLocals := 3, code := prog_40_method_9_code, exceptionTable := #[], attributes := #[] }
def k2m6 : Method := { name := "moved", desc := "(II)D", sig := { parameters := [.int, .int], returnType := some .double }, accessFlags := 0, code := some k2c6 }
def k2c7 : Code := { maxStack := 5, maxLocals := 5, code := prog_40_method_10_code, exceptionTable := #[], attributes := #[] }
def k2m7 : Method := { name := "unhanded", desc := "(I)D", sig := { parameters := [.int], returnType := some .double }, accessFlags := 0, code := some k2c7 }
def k2c8 : Code := { maxStack := 8, maxLocals := 6, code := prog_40_method_11_code, exceptionTable := #[], attributes := #[] }
def k2m8 : Method := { name := "share", desc := "()V", sig := { parameters := [], returnType := none }, accessFlags := 0, code := some k2c8 }
def k2c9 : Code := { maxStack := 4, maxLocals := 6, code := prog_40_method_13_code, exceptionTable := #[], attributes := #[] }
def k2m9 : Method := { name := "cut", desc := "(DDD)D", sig := { parameters := [.double, .double, .double], returnType := some .double }, accessFlags := 8, code := some k2c9 }
def k2c10 : Code := { maxStack := 7, maxLocals := 10, code := prog_40_method_14_code, exceptionTable := #[], attributes := #[] }
def k2m10 : Method := { name := "move", desc := "(I)V", sig := { parameters := [.int], returnType := none }, accessFlags := 2, code := some k2c10 }
def k2c11 : Code := { maxStack := 5, maxLocals := 6, code := prog_40_method_15_code, exceptionTable := #[], attributes := #[] }
def k2m11 : Method := { name := "finished", desc := "(I)Z", sig := { parameters := [.int], returnType := some .boolean }, accessFlags := 2, code := some k2c11 }
/-- com/example/istra/istra/engine/NodeModel -/
def k2 : Class := { plain "com/example/istra/istra/engine/NodeModel" (some 0) with
  accessFlags := 32
  interfaces := #[]
  cf := some (fileOf pool2 8 #[] #[{ accessFlags := 0, nameIndex := 5, descriptorIndex := 107, attributes := #[] }, { accessFlags := 0, nameIndex := 110, descriptorIndex := 107, attributes := #[] }, { accessFlags := 0, nameIndex := 112, descriptorIndex := 113, attributes := #[] }, { accessFlags := 2, nameIndex := 80, descriptorIndex := 81, attributes := #[] }, { accessFlags := 0, nameIndex := 21, descriptorIndex := 117, attributes := #[] }, { accessFlags := 0, nameIndex := 21, descriptorIndex := 118, attributes := #[] }, { accessFlags := 0, nameIndex := 15, descriptorIndex := 119, attributes := #[] }, { accessFlags := 0, nameIndex := 120, descriptorIndex := 118, attributes := #[] }, { accessFlags := 0, nameIndex := 121, descriptorIndex := 6, attributes := #[] }, { accessFlags := 8, nameIndex := 105, descriptorIndex := 106, attributes := #[] }, { accessFlags := 2, nameIndex := 96, descriptorIndex := 81, attributes := #[] }, { accessFlags := 2, nameIndex := 40, descriptorIndex := 93, attributes := #[] }] 32 2 #[] #[{ accessFlags := 18, nameIndex := 11, descriptorIndex := 12, attributes := #[] }, { accessFlags := 18, nameIndex := 15, descriptorIndex := 12, attributes := #[] }, { accessFlags := 18, nameIndex := 18, descriptorIndex := 12, attributes := #[] }, { accessFlags := 18, nameIndex := 21, descriptorIndex := 12, attributes := #[] }, { accessFlags := 18, nameIndex := 24, descriptorIndex := 12, attributes := #[] }, { accessFlags := 18, nameIndex := 27, descriptorIndex := 12, attributes := #[] }, { accessFlags := 18, nameIndex := 30, descriptorIndex := 12, attributes := #[] }, { accessFlags := 18, nameIndex := 33, descriptorIndex := 12, attributes := #[] }, { accessFlags := 18, nameIndex := 36, descriptorIndex := 37, attributes := #[] }, { accessFlags := 18, nameIndex := 40, descriptorIndex := 37, attributes := #[] }, { accessFlags := 18, nameIndex := 43, descriptorIndex := 37, attributes := #[] }, { accessFlags := 18, nameIndex := 46, descriptorIndex := 47, attributes := #[] }, { accessFlags := 18, nameIndex := 50, descriptorIndex := 37, attributes := #[] }, { accessFlags := 2, nameIndex := 53, descriptorIndex := 54, attributes := #[] }, { accessFlags := 2, nameIndex := 66, descriptorIndex := 54, attributes := #[] }, { accessFlags := 2, nameIndex := 57, descriptorIndex := 54, attributes := #[] }, { accessFlags := 2, nameIndex := 73, descriptorIndex := 74, attributes := #[] }])
  fields := #[{ name := "demand", type := (.array .double), accessFlags := 18, slot := 0, constantValue := 0 }, { name := "moved", type := (.array .double), accessFlags := 18, slot := 1, constantValue := 0 }, { name := "left", type := (.array .double), accessFlags := 18, slot := 2, constantValue := 0 }, { name := "supply", type := (.array .double), accessFlags := 18, slot := 3, constantValue := 0 }, { name := "room", type := (.array .double), accessFlags := 18, slot := 4, constantValue := 0 }, { name := "wanted", type := (.array .double), accessFlags := 18, slot := 5, constantValue := 0 }, { name := "fraction", type := (.array .double), accessFlags := 18, slot := 6, constantValue := 0 }, { name := "given", type := (.array .double), accessFlags := 18, slot := 7, constantValue := 0 }, { name := "spare", type := (.array .boolean), accessFlags := 18, slot := 8, constantValue := 0 }, { name := "finished", type := (.array .boolean), accessFlags := 18, slot := 9, constantValue := 0 }, { name := "closed", type := (.array .boolean), accessFlags := 18, slot := 10, constantValue := 0 }, { name := "wanting", type := (.array .int), accessFlags := 18, slot := 11, constantValue := 0 }, { name := "listed", type := (.array .boolean), accessFlags := 18, slot := 12, constantValue := 0 }, { name := "wantingCount", type := .int, accessFlags := 2, slot := 13, constantValue := 0 }, { name := "approaches", type := .int, accessFlags := 2, slot := 14, constantValue := 0 }, { name := "columns", type := .int, accessFlags := 2, slot := 15, constantValue := 0 }, { name := "anyClosed", type := .boolean, accessFlags := 2, slot := 16, constantValue := 0 }]
  methods := #[k2m0, k2m1, k2m2, k2m3, k2m4, k2m5, k2m6, k2m7, k2m8, k2m9, k2m10, k2m11]
  instanceTypes := #[(.array .double), (.array .double), (.array .double), (.array .double), (.array .double), (.array .double), (.array .double), (.array .double), (.array .boolean), (.array .boolean), (.array .boolean), (.array .int), (.array .boolean), .int, .int, .int, .boolean]
  staticTypes := #[]
  resolved := Array.replicate 126 none
  statics := none }

def pool3 : Array CpInfo := pool [(2, .class_ 4), (1, u "java/lang/Object"), (0, u "<init>"), (0, u "()V"), (1, .class_ 10), (1, u "java/lang/System"), (0, u "allowSecurityManager"), (0, u "I"), (16, u "cons"), (0, u "Ljava/io/Console;"), (77, .class_ 110), (1, u "java/lang/System$CallersHolder"), (43, u "initialErrStream"), (0, u "Ljava/io/PrintStream;"), (19, u "security"), (0, u "Ljava/lang/SecurityManager;"), (31, .class_ 209), (0, u "java/lang/System$1"), (7, u "props"), (0, u "Ljava/util/Properties;"), (2, u "lineSeparator"), (0, u "Ljava/lang/String;"), (96, .class_ 321), (1, u "java/lang/System$LoggerFinder"), (5, .class_ 328), (0, u "java/lang/System$Logger"), (67, u "err"), (2, u "out"), (91, u "notSupportedJnuEncoding"), (15, u "in"), (17, u "initialIn"), (0, u "Ljava/io/InputStream;"), (35, u "bootLayer"), (0, u "Ljava/lang/ModuleLayer;"), (99, .class_ 664), (0, u "java/lang/System$2"), (9, u "NEVER"), (2, u "MAYBE"), (49, u "arraycopy"), (0, u "(Ljava/lang/Object;ILjava/lang/Object;II)V"), (72, .class_ 802), (0, u "java/lang/System$Logger$Level")] 31

def k3m0 : Method := { name := "<init>", desc := "()V", sig := { parameters := [], returnType := none }, accessFlags := 2, code := none }
def k3m1 : Method := { name := "arraycopy", desc := "(Ljava/lang/Object;ILjava/lang/Object;II)V", sig := { parameters := [(.object "java/lang/Object"), .int, (.object "java/lang/Object"), .int, .int], returnType := none }, accessFlags := 265, code := none }
/-- java/lang/System -/
def k3 : Class := { plain "java/lang/System" (some 0) with
  accessFlags := 49
  interfaces := #[]
  cf := some (fileOf pool3 8 #[.nestMembers #[319, 327, 801, 108, 663, 208]] #[{ accessFlags := 2, nameIndex := 5, descriptorIndex := 6, attributes := #[] }, { accessFlags := 265, nameIndex := 727, descriptorIndex := 728, attributes := #[] }] 49 2 #[] #[{ accessFlags := 25, nameIndex := 507, descriptorIndex := 526, attributes := #[] }, { accessFlags := 25, nameIndex := 399, descriptorIndex := 155, attributes := #[] }, { accessFlags := 25, nameIndex := 396, descriptorIndex := 155, attributes := #[] }, { accessFlags := 10, nameIndex := 525, descriptorIndex := 526, attributes := #[] }, { accessFlags := 26, nameIndex := 674, descriptorIndex := 12, attributes := #[] }, { accessFlags := 26, nameIndex := 677, descriptorIndex := 12, attributes := #[] }, { accessFlags := 10, nameIndex := 11, descriptorIndex := 12, attributes := #[] }, { accessFlags := 74, nameIndex := 175, descriptorIndex := 176, attributes := #[] }, { accessFlags := 10, nameIndex := 491, descriptorIndex := 222, attributes := #[] }, { accessFlags := 74, nameIndex := 29, descriptorIndex := 30, attributes := #[] }, { accessFlags := 74, nameIndex := 154, descriptorIndex := 155, attributes := #[] }, { accessFlags := 10, nameIndex := 217, descriptorIndex := 218, attributes := #[] }, { accessFlags := 10, nameIndex := 221, descriptorIndex := 222, attributes := #[] }, { accessFlags := 8, nameIndex := 562, descriptorIndex := 563, attributes := #[] }])
  fields := #[{ name := "in", type := (.object "java/io/InputStream"), accessFlags := 25, slot := 0, constantValue := 0 }, { name := "out", type := (.object "java/io/PrintStream"), accessFlags := 25, slot := 1, constantValue := 0 }, { name := "err", type := (.object "java/io/PrintStream"), accessFlags := 25, slot := 2, constantValue := 0 }, { name := "initialIn", type := (.object "java/io/InputStream"), accessFlags := 10, slot := 3, constantValue := 0 }, { name := "NEVER", type := .int, accessFlags := 26, slot := 4, constantValue := 0 }, { name := "MAYBE", type := .int, accessFlags := 26, slot := 5, constantValue := 0 }, { name := "allowSecurityManager", type := .int, accessFlags := 10, slot := 6, constantValue := 0 }, { name := "security", type := (.object "java/lang/SecurityManager"), accessFlags := 74, slot := 7, constantValue := 0 }, { name := "notSupportedJnuEncoding", type := (.object "java/lang/String"), accessFlags := 10, slot := 8, constantValue := 0 }, { name := "cons", type := (.object "java/io/Console"), accessFlags := 74, slot := 9, constantValue := 0 }, { name := "initialErrStream", type := (.object "java/io/PrintStream"), accessFlags := 74, slot := 10, constantValue := 0 }, { name := "props", type := (.object "java/util/Properties"), accessFlags := 10, slot := 11, constantValue := 0 }, { name := "lineSeparator", type := (.object "java/lang/String"), accessFlags := 10, slot := 12, constantValue := 0 }, { name := "bootLayer", type := (.object "java/lang/ModuleLayer"), accessFlags := 8, slot := 13, constantValue := 0 }]
  methods := #[k3m0, k3m1]
  instanceTypes := #[]
  staticTypes := #[(.object "java/io/InputStream"), (.object "java/io/PrintStream"), (.object "java/io/PrintStream"), (.object "java/io/InputStream"), .int, .int, .int, (.object "java/lang/SecurityManager"), (.object "java/lang/String"), (.object "java/io/Console"), (.object "java/io/PrintStream"), (.object "java/util/Properties"), (.object "java/lang/String"), (.object "java/lang/ModuleLayer")]
  resolved := Array.replicate 834 none
  statics := none }

def pool4 : Array CpInfo := pool [(2, .class_ 4), (1, u "java/lang/Object"), (0, u "<init>"), (0, u "()V"), (6, .methodref 14 15), (0, .class_ 16), (0, .nameAndType 17 18), (0, u "java/util/Arrays"), (0, u "rangeCheck"), (0, u "(III)V"), (55, .class_ 76), (1, u "java/util/Arrays$NaturalOrder"), (36, .class_ 115), (1, u "java/util/Arrays$LegacyMergeSort"), (1, u "Z"), (257, .class_ 376), (0, u "java/util/Arrays$ArrayList"), (68, u "$assertionsDisabled"), (269, u "MIN_ARRAY_SORT_GRAN"), (0, u "I"), (2, u "INSERTIONSORT_THRESHOLD"), (120, u "fill"), (14, u "([DIID)V"), (119, .class_ 976), (0, u "java/util/Arrays$ArrayItr")] 52

def k4m0 : Method := { name := "<init>", desc := "()V", sig := { parameters := [], returnType := none }, accessFlags := 2, code := none }
def k4c1 : Code := { maxStack := 4, maxLocals := 3, code := jdk_65_method_30_code, exceptionTable := #[], attributes := #[] }
def k4m1 : Method := { name := "rangeCheck", desc := "(III)V", sig := { parameters := [.int, .int, .int], returnType := none }, accessFlags := 8, code := some k4c1 }
def k4c2 : Code := { maxStack := 4, maxLocals := 6, code := jdk_65_method_114_code, exceptionTable := #[], attributes := #[] }
def k4m2 : Method := { name := "fill", desc := "([DIID)V", sig := { parameters := [(.array .double), .int, .int, .double], returnType := none }, accessFlags := 9, code := some k4c2 }
/-- java/util/Arrays -/
def k4 : Class := { plain "java/util/Arrays" (some 0) with
  accessFlags := 49
  interfaces := #[]
  cf := some (fileOf pool4 14 #[.nestMembers #[975, 375, 113, 74]] #[{ accessFlags := 2, nameIndex := 5, descriptorIndex := 6, attributes := #[] }, { accessFlags := 8, nameIndex := 17, descriptorIndex := 18, attributes := #[] }, { accessFlags := 9, nameIndex := 840, descriptorIndex := 855, attributes := #[] }] 49 2 #[] #[{ accessFlags := 26, nameIndex := 715, descriptorIndex := 716, attributes := #[] }, { accessFlags := 26, nameIndex := 719, descriptorIndex := 716, attributes := #[] }, { accessFlags := 4120, nameIndex := 445, descriptorIndex := 117, attributes := #[] }])
  fields := #[{ name := "MIN_ARRAY_SORT_GRAN", type := .int, accessFlags := 26, slot := 0, constantValue := 0 }, { name := "INSERTIONSORT_THRESHOLD", type := .int, accessFlags := 26, slot := 1, constantValue := 0 }, { name := "$assertionsDisabled", type := .boolean, accessFlags := 4120, slot := 2, constantValue := 0 }]
  methods := #[k4m0, k4m1, k4m2]
  instanceTypes := #[]
  staticTypes := #[.int, .int, .boolean]
  resolved := Array.replicate 1029 none
  statics := none }

def pool5 : Array CpInfo := pool [(1, .class_ 2), (0, u "java/lang/Math"), (1, .class_ 6), (1, u "java/lang/Object"), (0, u "<init>"), (0, u "()V"), (43, u "(DD)D"), (45, .class_ 100), (1, u "java/lang/Math$RandomNumberGeneratorHolder"), (71, u "negativeZeroFloatBits"), (0, u "J"), (2, u "negativeZeroDoubleBits"), (21, u "max"), (46, u "$assertionsDisabled"), (0, u "Z"), (91, u "twoToTheDoubleScaleDown"), (0, u "D"), (4, u "twoToTheDoubleScaleUp"), (9, u "E"), (3, u "PI"), (2, u "TAU"), (2, u "DEGREES_TO_RADIANS"), (0, u "RADIANS_TO_DEGREES")] 94

def k5m0 : Method := { name := "<init>", desc := "()V", sig := { parameters := [], returnType := none }, accessFlags := 2, code := none }
def k5c1 : Code := { maxStack := 4, maxLocals := 4, code := jdk_29_method_68_code, exceptionTable := #[], attributes := #[] }
def k5m1 : Method := { name := "max", desc := "(DD)D", sig := { parameters := [.double, .double], returnType := some .double }, accessFlags := 9, code := some k5c1 }
/-- java/lang/Math -/
def k5 : Class := { plain "java/lang/Math" (some 0) with
  accessFlags := 49
  interfaces := #[]
  cf := some (fileOf pool5 1 #[.nestMembers #[98]] #[{ accessFlags := 2, nameIndex := 7, descriptorIndex := 8, attributes := #[] }, { accessFlags := 9, nameIndex := 198, descriptorIndex := 52, attributes := #[] }] 49 4 #[] #[{ accessFlags := 25, nameIndex := 354, descriptorIndex := 339, attributes := #[] }, { accessFlags := 25, nameIndex := 358, descriptorIndex := 339, attributes := #[] }, { accessFlags := 25, nameIndex := 361, descriptorIndex := 339, attributes := #[] }, { accessFlags := 26, nameIndex := 364, descriptorIndex := 339, attributes := #[] }, { accessFlags := 26, nameIndex := 365, descriptorIndex := 339, attributes := #[] }, { accessFlags := 26, nameIndex := 172, descriptorIndex := 173, attributes := #[] }, { accessFlags := 26, nameIndex := 176, descriptorIndex := 173, attributes := #[] }, { accessFlags := 8, nameIndex := 344, descriptorIndex := 339, attributes := #[] }, { accessFlags := 8, nameIndex := 338, descriptorIndex := 339, attributes := #[] }, { accessFlags := 4120, nameIndex := 245, descriptorIndex := 246, attributes := #[] }])
  fields := #[{ name := "E", type := .double, accessFlags := 25, slot := 0, constantValue := 0 }, { name := "PI", type := .double, accessFlags := 25, slot := 1, constantValue := 0 }, { name := "TAU", type := .double, accessFlags := 25, slot := 2, constantValue := 0 }, { name := "DEGREES_TO_RADIANS", type := .double, accessFlags := 26, slot := 3, constantValue := 0 }, { name := "RADIANS_TO_DEGREES", type := .double, accessFlags := 26, slot := 4, constantValue := 0 }, { name := "negativeZeroFloatBits", type := .long, accessFlags := 26, slot := 5, constantValue := 0 }, { name := "negativeZeroDoubleBits", type := .long, accessFlags := 26, slot := 6, constantValue := 0 }, { name := "twoToTheDoubleScaleUp", type := .double, accessFlags := 8, slot := 7, constantValue := 0 }, { name := "twoToTheDoubleScaleDown", type := .double, accessFlags := 8, slot := 8, constantValue := 0 }, { name := "$assertionsDisabled", type := .boolean, accessFlags := 4120, slot := 9, constantValue := 0 }]
  methods := #[k5m0, k5m1]
  instanceTypes := #[]
  staticTypes := #[.double, .double, .double, .double, .double, .long, .long, .double, .double, .boolean]
  resolved := Array.replicate 460 none
  statics := none }

def pool6 : Array CpInfo := pool [(1, u "java/lang/Cloneable"), (0, .class_ 1), (0, u "java/lang/Object"), (0, .class_ 3)] 3

/-- java/lang/Cloneable -/
def k6 : Class := { plain "java/lang/Cloneable" (some 0) with
  accessFlags := 1537
  interfaces := #[]
  cf := some (fileOf pool6 2 #[] #[] 1537 4 #[] #[])
  fields := #[]
  methods := #[]
  instanceTypes := #[]
  staticTypes := #[]
  resolved := Array.replicate 8 none
  statics := none }

def pool7 : Array CpInfo := pool [(1, u "java/io/Serializable"), (0, .class_ 1), (0, u "java/lang/Object"), (0, .class_ 3)] 3

/-- java/io/Serializable -/
def k7 : Class := { plain "java/io/Serializable" (some 0) with
  accessFlags := 1537
  interfaces := #[]
  cf := some (fileOf pool7 2 #[] #[] 1537 4 #[] #[])
  fields := #[]
  methods := #[]
  instanceTypes := #[]
  staticTypes := #[]
  resolved := Array.replicate 8 none
  statics := none }

/-- the primitive boolean -/
def k8 : Class := { plain "boolean" none with kind := .primitive 'Z', accessFlags := 0x411 }
/-- [Z -/
def k9 : Class := { plain "[Z" (some 0) with kind := .array 8 .boolean, interfaces := #[6, 7], accessFlags := 1041 }

/-- the primitive byte -/
def k10 : Class := { plain "byte" none with kind := .primitive 'B', accessFlags := 0x411 }
/-- [B -/
def k11 : Class := { plain "[B" (some 0) with kind := .array 10 .byte, interfaces := #[6, 7], accessFlags := 1041 }

/-- the primitive double -/
def k12 : Class := { plain "double" none with kind := .primitive 'D', accessFlags := 0x411 }
/-- [D -/
def k13 : Class := { plain "[D" (some 0) with kind := .array 12 .double, interfaces := #[6, 7], accessFlags := 1041 }

/-- the primitive int -/
def k14 : Class := { plain "int" none with kind := .primitive 'I', accessFlags := 0x411 }
/-- [I -/
def k15 : Class := { plain "[I" (some 0) with kind := .array 14 .int, interfaces := #[6, 7], accessFlags := 1041 }

def heap : Heap := #[]
def classes : Array Class := #[k0, k1, k2, k3, k4, k5, k6, k7, k8, k9, k10, k11, k12, k13, k14, k15]
def interned : List (Array UInt16 × Addr) := []
def slotsUsed : Nat := 0
def theMethod : MethodId := ⟨1, 1⟩
def args0 : Array Value := #[.int 13, .int 5, .int 7, .int 9]
def aboutOver (below : List Frame) : State where
  vm := { classes := classes, interned := interned.toArray }
  heap := heap
  slotsUsed := slotsUsed
  threads := #[{ frames := .invoking theMethod args0 :: below }]
def below0 : List Frame := [.native { method := ⟨0, 0⟩, args := #[] }]
def about1 : State := aboutOver below0
def p0 : Program := .bare "" "" ""
def e0 : Env := launch0.env 0 0 0
theorem w_frames : about1.frames = Frame.invoking theMethod args0 :: below0 := rfl
set_option maxRecDepth 65536 in
theorem w_args : argsFit about1.vm theMethod args0 = true := by decide +kernel
set_option maxRecDepth 65536 in
theorem w_heap : heapFits about1 = true := by decide +kernel
set_option maxRecDepth 65536 in
theorem w_runnable : about1.curStatus? = some .runnable := by decide +kernel
set_option maxRecDepth 65536 in
theorem w_alone : about1.alone = true := by decide +kernel
set_option maxRecDepth 65536 in
theorem w_named : about1.methodNamed? x = some theMethod := by decide +kernel
set_option maxRecDepth 65536 in
theorem w_hears : about1.hears theMethod below0 = true := by decide +kernel
set_option maxRecDepth 65536 in
theorem w_ripe : about1.ripe theMethod args0 below0 = true := by decide +kernel
theorem w_running : about1.status = .running := rfl
set_option maxRecDepth 65536 in
theorem w_room : about1.hasRoom e0.platform room_1 = true :=
  launch0.hasRoom_least _ room_1 (by decide +kernel) (by decide +kernel) (by decide +kernel) (by decide +kernel) (by decide +kernel) (by decide +kernel)
theorem allAtoms_all (ts : List Jvm.Cond) (a : Array Jvm.Value) (st : Jvm.State) : (allAtoms ts).before a st = ts.all (fun c => c.before a st) := by
  induction ts with
  | nil => rfl
  | cons c t ih =>
    show (Jvm.Cond.and c (allAtoms t)).before a st = _
    rw [Jvm.Cond.before_and, ih, List.all_cons]
def words1 : List Jvm.Cond := Jvm.Cond.code x code maxLocals ret :: tables_1
/-- a 'code' word, met by the world's own term for the bytes: nothing is compared byte by byte -/
theorem code_word {y : MethodName} {bytes : ByteArray} {mx : Nat} {rt : Option FieldType} {a : Array Value} {s : State} {m : MethodId} {meth : Method} {c : Code} (h1 : s.methodNamed? y = some m) (h2 : s.vm.method? m = some meth) (h3 : meth.code = some c) (h4 : c.code = bytes)
    (h5 : (c.maxLocals == mx && c.exceptionTable.isEmpty && decide (c.maxStack ≤ mostOperands) && decide (meth.sig.returnType = rt) && !meth.locks && decide (parseMethodDescriptor y.desc = some meth.sig)) = true) : (Jvm.Cond.code y bytes mx rt).before a s = true := by
  simp only [Bool.and_eq_true, beq_iff_eq, Bool.not_eq_true', decide_eq_true_eq] at h5
  obtain ⟨⟨⟨⟨⟨g1, g2⟩, g3⟩, g4⟩, g5⟩, g6⟩ := h5
  simp [Cond.before, Cond.holds, Cond.value, h1, h2, h3, h4, g1, g2, g3, g4, g5, g6]
def isCode : Jvm.Cond → Bool
  | .code _ _ _ _ => true
  | _ => false
theorem all_split {L : List Jvm.Cond} {P : Jvm.Cond → Bool} (h1 : L.all (fun c => isCode c || P c) = true) (h2 : ∀ c ∈ L.filter isCode, P c = true) : L.all P = true := by
  refine List.all_eq_true.mpr fun c hc => ?_
  have h := List.all_eq_true.mp h1 c hc
  rcases Bool.eq_false_or_eq_true (isCode c) with hi | hi
  · exact h2 c (List.mem_filter.mpr ⟨hc, hi⟩)
  · simpa [hi] using h
set_option maxRecDepth 65536 in
theorem w_c0 : (Jvm.Cond.code x code maxLocals ret).before args0 about1 = true := code_word (m := ⟨1, 1⟩) (meth := k1m1) (c := k1c1) (by decide +kernel) rfl rfl rfl (by decide +kernel)
set_option maxRecDepth 65536 in
theorem w_c1 : (Jvm.Cond.code ({ cls := "com/example/istra/istra/engine/NodeModel", name := "<init>", desc := "(II)V" } : Jvm.MethodName) prog_40_method_1_code (3 : Nat) (Option.none : Option Jvm.ClassFile.FieldType)).before args0 about1 = true := code_word (m := ⟨2, 0⟩) (meth := k2m0) (c := k2c0) (by decide +kernel) rfl rfl rfl (by decide +kernel)
set_option maxRecDepth 65536 in
theorem w_c2 : (Jvm.Cond.code ({ cls := "java/lang/Object", name := "<init>", desc := "()V" } : Jvm.MethodName) object_method_1_code (1 : Nat) (Option.none : Option Jvm.ClassFile.FieldType)).before args0 about1 = true := code_word (m := ⟨0, 0⟩) (meth := k0m0) (c := k0c0) (by decide +kernel) rfl rfl rfl (by decide +kernel)
set_option maxRecDepth 65536 in
theorem w_c3 : (Jvm.Cond.code ({ cls := "com/example/istra/istra/engine/NodeModel", name := "open", desc := "(II)V" } : Jvm.MethodName) prog_40_method_2_code (5 : Nat) (Option.none : Option Jvm.ClassFile.FieldType)).before args0 about1 = true := code_word (m := ⟨2, 1⟩) (meth := k2m1) (c := k2c1) (by decide +kernel) rfl rfl rfl (by decide +kernel)
set_option maxRecDepth 65536 in
theorem w_c4 : (Jvm.Cond.code ({ cls := "com/example/istra/istra/engine/NodeModel", name := "want", desc := "(IID)V" } : Jvm.MethodName) prog_40_method_3_code (5 : Nat) (Option.none : Option Jvm.ClassFile.FieldType)).before args0 about1 = true := code_word (m := ⟨2, 2⟩) (meth := k2m2) (c := k2c2) (by decide +kernel) rfl rfl rfl (by decide +kernel)
set_option maxRecDepth 65536 in
theorem w_c5 : (Jvm.Cond.code ({ cls := "com/example/istra/istra/engine/NodeModel", name := "list", desc := "(I)V" } : Jvm.MethodName) prog_40_method_4_code (3 : Nat) (Option.none : Option Jvm.ClassFile.FieldType)).before args0 about1 = true := code_word (m := ⟨2, 3⟩) (meth := k2m3) (c := k2c3) (by decide +kernel) rfl rfl rfl (by decide +kernel)
set_option maxRecDepth 65536 in
theorem w_c6 : (Jvm.Cond.code ({ cls := "com/example/istra/istra/engine/NodeModel", name := "share", desc := "()V" } : Jvm.MethodName) prog_40_method_11_code (6 : Nat) (Option.none : Option Jvm.ClassFile.FieldType)).before args0 about1 = true := code_word (m := ⟨2, 8⟩) (meth := k2m8) (c := k2c8) (by decide +kernel) rfl rfl rfl (by decide +kernel)
set_option maxRecDepth 65536 in
theorem w_c7 : (Jvm.Cond.code ({ cls := "java/util/Arrays", name := "fill", desc := "([DIID)V" } : Jvm.MethodName) jdk_65_method_114_code (6 : Nat) (Option.none : Option Jvm.ClassFile.FieldType)).before args0 about1 = true := code_word (m := ⟨4, 2⟩) (meth := k4m2) (c := k4c2) (by decide +kernel) rfl rfl rfl (by decide +kernel)
set_option maxRecDepth 65536 in
theorem w_c8 : (Jvm.Cond.code ({ cls := "java/util/Arrays", name := "rangeCheck", desc := "(III)V" } : Jvm.MethodName) jdk_65_method_30_code (3 : Nat) (Option.none : Option Jvm.ClassFile.FieldType)).before args0 about1 = true := code_word (m := ⟨4, 1⟩) (meth := k4m1) (c := k4c1) (by decide +kernel) rfl rfl rfl (by decide +kernel)
set_option maxRecDepth 65536 in
theorem w_c9 : (Jvm.Cond.code ({ cls := "com/example/istra/istra/engine/NodeModel", name := "finished", desc := "(I)Z" } : Jvm.MethodName) prog_40_method_15_code (6 : Nat) (Option.some Jvm.ClassFile.FieldType.boolean)).before args0 about1 = true := code_word (m := ⟨2, 11⟩) (meth := k2m11) (c := k2c11) (by decide +kernel) rfl rfl rfl (by decide +kernel)
set_option maxRecDepth 65536 in
theorem w_c10 : (Jvm.Cond.code ({ cls := "com/example/istra/istra/engine/NodeModel", name := "move", desc := "(I)V" } : Jvm.MethodName) prog_40_method_14_code (10 : Nat) (Option.none : Option Jvm.ClassFile.FieldType)).before args0 about1 = true := code_word (m := ⟨2, 10⟩) (meth := k2m10) (c := k2c10) (by decide +kernel) rfl rfl rfl (by decide +kernel)
set_option maxRecDepth 65536 in
theorem w_c11 : (Jvm.Cond.code ({ cls := "com/example/istra/istra/engine/NodeModel", name := "cut", desc := "(DDD)D" } : Jvm.MethodName) prog_40_method_13_code (6 : Nat) (Option.some Jvm.ClassFile.FieldType.double)).before args0 about1 = true := code_word (m := ⟨2, 9⟩) (meth := k2m9) (c := k2c9) (by decide +kernel) rfl rfl rfl (by decide +kernel)
set_option maxRecDepth 65536 in
theorem w_c12 : (Jvm.Cond.code ({ cls := "com/example/istra/istra/engine/NodeModel", name := "unhanded", desc := "(I)D" } : Jvm.MethodName) prog_40_method_10_code (5 : Nat) (Option.some Jvm.ClassFile.FieldType.double)).before args0 about1 = true := code_word (m := ⟨2, 7⟩) (meth := k2m7) (c := k2c7) (by decide +kernel) rfl rfl rfl (by decide +kernel)
set_option maxRecDepth 65536 in
theorem w_c13 : (Jvm.Cond.code ({ cls := "com/example/istra/istra/engine/NodeModel", name := "supply", desc := "(I)D" } : Jvm.MethodName) prog_40_method_8_code (2 : Nat) (Option.some Jvm.ClassFile.FieldType.double)).before args0 about1 = true := code_word (m := ⟨2, 5⟩) (meth := k2m5) (c := k2c5) (by decide +kernel) rfl rfl rfl (by decide +kernel)
set_option maxRecDepth 65536 in
theorem w_c14 : (Jvm.Cond.code ({ cls := "com/example/istra/istra/engine/NodeModel", name := "moved", desc := "(II)D" } : Jvm.MethodName) prog_40_method_9_code (3 : Nat) (Option.some Jvm.ClassFile.FieldType.double)).before args0 about1 = true := code_word (m := ⟨2, 6⟩) (meth := k2m6) (c := k2c6) (by decide +kernel) rfl rfl rfl (by decide +kernel)
set_option maxRecDepth 65536 in
theorem w_c15 : (Jvm.Cond.code ({ cls := "com/example/istra/istra/engine/NodeModel", name := "supply", desc := "(ID)V" } : Jvm.MethodName) prog_40_method_7_code (4 : Nat) (Option.none : Option Jvm.ClassFile.FieldType)).before args0 about1 = true := code_word (m := ⟨2, 4⟩) (meth := k2m4) (c := k2c4) (by decide +kernel) rfl rfl rfl (by decide +kernel)
set_option maxRecDepth 65536 in
theorem w_c16 : (Jvm.Cond.code ({ cls := "java/lang/Math", name := "max", desc := "(DD)D" } : Jvm.MethodName) jdk_29_method_68_code (4 : Nat) (Option.some Jvm.ClassFile.FieldType.double)).before args0 about1 = true := code_word (m := ⟨5, 1⟩) (meth := k5m1) (c := k5c1) (by decide +kernel) rfl rfl rfl (by decide +kernel)
def codes1 : List Jvm.Cond := [Jvm.Cond.code x code maxLocals ret, Jvm.Cond.code ({ cls := "com/example/istra/istra/engine/NodeModel", name := "<init>", desc := "(II)V" } : Jvm.MethodName) prog_40_method_1_code (3 : Nat) (Option.none : Option Jvm.ClassFile.FieldType), Jvm.Cond.code ({ cls := "java/lang/Object", name := "<init>", desc := "()V" } : Jvm.MethodName) object_method_1_code (1 : Nat) (Option.none : Option Jvm.ClassFile.FieldType), Jvm.Cond.code ({ cls := "com/example/istra/istra/engine/NodeModel", name := "open", desc := "(II)V" } : Jvm.MethodName) prog_40_method_2_code (5 : Nat) (Option.none : Option Jvm.ClassFile.FieldType), Jvm.Cond.code ({ cls := "com/example/istra/istra/engine/NodeModel", name := "want", desc := "(IID)V" } : Jvm.MethodName) prog_40_method_3_code (5 : Nat) (Option.none : Option Jvm.ClassFile.FieldType), Jvm.Cond.code ({ cls := "com/example/istra/istra/engine/NodeModel", name := "list", desc := "(I)V" } : Jvm.MethodName) prog_40_method_4_code (3 : Nat) (Option.none : Option Jvm.ClassFile.FieldType), Jvm.Cond.code ({ cls := "com/example/istra/istra/engine/NodeModel", name := "share", desc := "()V" } : Jvm.MethodName) prog_40_method_11_code (6 : Nat) (Option.none : Option Jvm.ClassFile.FieldType), Jvm.Cond.code ({ cls := "java/util/Arrays", name := "fill", desc := "([DIID)V" } : Jvm.MethodName) jdk_65_method_114_code (6 : Nat) (Option.none : Option Jvm.ClassFile.FieldType), Jvm.Cond.code ({ cls := "java/util/Arrays", name := "rangeCheck", desc := "(III)V" } : Jvm.MethodName) jdk_65_method_30_code (3 : Nat) (Option.none : Option Jvm.ClassFile.FieldType), Jvm.Cond.code ({ cls := "com/example/istra/istra/engine/NodeModel", name := "finished", desc := "(I)Z" } : Jvm.MethodName) prog_40_method_15_code (6 : Nat) (Option.some Jvm.ClassFile.FieldType.boolean), Jvm.Cond.code ({ cls := "com/example/istra/istra/engine/NodeModel", name := "move", desc := "(I)V" } : Jvm.MethodName) prog_40_method_14_code (10 : Nat) (Option.none : Option Jvm.ClassFile.FieldType), Jvm.Cond.code ({ cls := "com/example/istra/istra/engine/NodeModel", name := "cut", desc := "(DDD)D" } : Jvm.MethodName) prog_40_method_13_code (6 : Nat) (Option.some Jvm.ClassFile.FieldType.double), Jvm.Cond.code ({ cls := "com/example/istra/istra/engine/NodeModel", name := "unhanded", desc := "(I)D" } : Jvm.MethodName) prog_40_method_10_code (5 : Nat) (Option.some Jvm.ClassFile.FieldType.double), Jvm.Cond.code ({ cls := "com/example/istra/istra/engine/NodeModel", name := "supply", desc := "(I)D" } : Jvm.MethodName) prog_40_method_8_code (2 : Nat) (Option.some Jvm.ClassFile.FieldType.double), Jvm.Cond.code ({ cls := "com/example/istra/istra/engine/NodeModel", name := "moved", desc := "(II)D" } : Jvm.MethodName) prog_40_method_9_code (3 : Nat) (Option.some Jvm.ClassFile.FieldType.double), Jvm.Cond.code ({ cls := "com/example/istra/istra/engine/NodeModel", name := "supply", desc := "(ID)V" } : Jvm.MethodName) prog_40_method_7_code (4 : Nat) (Option.none : Option Jvm.ClassFile.FieldType), Jvm.Cond.code ({ cls := "java/lang/Math", name := "max", desc := "(DD)D" } : Jvm.MethodName) jdk_29_method_68_code (4 : Nat) (Option.some Jvm.ClassFile.FieldType.double)]
set_option maxRecDepth 65536 in
theorem codes_eq : words1.filter isCode = codes1 := rfl
theorem w_codes : ∀ c ∈ words1.filter isCode, c.before args0 about1 = true := by
  rw [codes_eq]
  intro c hc
  simp only [codes1, List.mem_cons, List.not_mem_nil, or_false] at hc
  rcases hc with rfl | rfl | rfl | rfl | rfl | rfl | rfl | rfl | rfl | rfl | rfl | rfl | rfl | rfl | rfl | rfl | rfl
  · exact w_c0
  · exact w_c1
  · exact w_c2
  · exact w_c3
  · exact w_c4
  · exact w_c5
  · exact w_c6
  · exact w_c7
  · exact w_c8
  · exact w_c9
  · exact w_c10
  · exact w_c11
  · exact w_c12
  · exact w_c13
  · exact w_c14
  · exact w_c15
  · exact w_c16
set_option maxRecDepth 65536 in
theorem w_t1 : (words1.take 24).all (fun c => isCode c || c.before args0 about1) = true := by decide +kernel
set_option maxRecDepth 65536 in
theorem w_t2 : ((words1.drop 24).take 24).all (fun c => isCode c || c.before args0 about1) = true := by decide +kernel
set_option maxRecDepth 65536 in
theorem w_t3 : (((words1.drop 24).drop 24).take 24).all (fun c => isCode c || c.before args0 about1) = true := by decide +kernel
set_option maxRecDepth 65536 in
theorem w_t4 : ((((words1.drop 24).drop 24).drop 24).take 24).all (fun c => isCode c || c.before args0 about1) = true := by decide +kernel
set_option maxRecDepth 65536 in
theorem w_t5 : ((((words1.drop 24).drop 24).drop 24).drop 24).all (fun c => isCode c || c.before args0 about1) = true := by decide +kernel
theorem w_tables : (allAtoms (Jvm.Cond.code x code maxLocals ret :: tables_1)).before args0 about1 = true := by
  rw [allAtoms_all]
  show words1.all (fun c => c.before args0 about1) = true
  refine all_split ?_ w_codes
  rw [← List.take_append_drop 24 words1, List.all_append, w_t1, ← List.take_append_drop 24 (words1.drop 24), List.all_append, w_t2, ← List.take_append_drop 24 ((words1.drop 24).drop 24), List.all_append, w_t3, ← List.take_append_drop 24 (((words1.drop 24).drop 24).drop 24), List.all_append, w_t4, w_t5]
  rfl
set_option maxRecDepth 65536 in
theorem w_case : (Jvm.Cond.and given_1 narrow_1).before args0 about1 = true := by decide +kernel
theorem w_applies : (headSpec (Jvm.Cond.code x code maxLocals ret :: tables_1) room_1).applies x e0.platform about1 = true :=
  (Spec.applies_iff w_frames).mpr ⟨w_running, w_runnable, w_alone, w_named, w_hears, w_ripe, w_room, w_tables⟩
theorem atStart : AtStart classFile x code maxLocals ret World_1 tables_1 room_1 Calls_1 rest_1 Pre_1 launch0 p0 e0 about1 theMethod args0 below0 :=
  ⟨lists_1, trivial, launch0.admits_env _ _ _, launch0.least_env, fairChoices_fair.cas, fairChoices_fair.clock, w_frames, w_args, w_heap, w_applies, trivial, trivial, w_case⟩
end start1
theorem witness_1 : WitnessClaimed_1 := ⟨start1.p0, start1.e0, start1.about1, start1.theMethod, start1.args0, start1.below0, start1.atStart⟩
end Jvm.Pilot.@@N@@
