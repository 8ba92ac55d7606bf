import JvmDerived
import JvmDerived.Pilot.@@N@@Statement
import JvmDerived.Pilot.@@N@@Code
set_option linter.unusedVariables false
set_option linter.unusedSimpArgs false
namespace Jvm.OwnFp
open Jvm.FP.Core Op
/-! own: exact values. `Dyf f i k d`: the datum d is finite and worth i / 2^k. -/
def Dyf (f : Fmt) (i : Int) (k : Nat) (d : Datum) : Prop := (∃ s c q, d = .fin s c q) ∧ zval f d * 2 ^ k = i * 2 ^ (-f.qmin).toNat
theorem pw_pos (n : Nat) : (0 : Int) < 2 ^ n := Int.pow_pos (by decide)
theorem pw_cast (n : Nat) : ((2 ^ n : Nat) : Int) = 2 ^ n := by simp
theorem signed_abs (i : Int) : signed (decide (i < 0)) i.natAbs = i := by
  unfold signed
  by_cases h : i < 0 <;> simp [h] <;> omega
theorem signed_mulI (s : Bool) (c k : Nat) : signed s (c * 2 ^ k) = signed s c * 2 ^ k := by
  rw [signed_mul, pw_cast]
theorem vex {f : Fmt} (hf : Good f) {i : Int} {k : Nat} (hi : i.natAbs < 2 ^ f.p) (hk : (k : Int) ≤ -f.qmin) (hq : 0 ≤ f.qmax) :
    ∃ s c q, FP.Core.fits f (.fin s c q) ∧ zval f (.fin s c q) * 2 ^ k = i * 2 ^ (-f.qmin).toNat := by
  obtain ⟨c', q', h, hu⟩ := round_exact hf (decide (i < 0)) (c := i.natAbs) (q := -(k : Int)) hi (by omega) (by omega)
  refine ⟨_, c', q', h ▸ round_fits hf _, ?_⟩
  show signed (decide (i < 0)) (inUnits c' q' f.qmin) * 2 ^ k = _
  rw [hu]
  unfold inUnits
  rw [signed_mulI, signed_abs, Int.mul_assoc, ← Int.pow_add, show (-(k : Int) - f.qmin).toNat + k = (-f.qmin).toNat by omega]
theorem dyf_of_zval {f : Fmt} (hf : Good f) {s : Bool} {A B : Nat} {e : Int} {s' : Bool} {c' : Nat} {q' : Int} (hV : FP.Core.fits f (.fin s' c' q'))
    (hz : zval f (roundRatio f s A B e) = zval f (.fin s' c' q')) : ∃ s₀ c₀ q₀, roundRatio f s A B e = .fin s₀ c₀ q₀ := by
  rcases roundRatio_cases f s A B e with ⟨c, q, h⟩ | h
  · exact ⟨s, c, q, h⟩
  · exfalso
    rw [h] at hz
    have h1 := zmag_lt_top hf hV
    have h2 := congrArg Int.natAbs hz
    unfold zval at h2
    rw [natAbs_signed, natAbs_signed] at h2
    have h3 : zmag f (.inf s) = f.tails * 2 ^ (f.exps - 2) := rfl
    have h4 : zmag f (.fin s' c' q') = inUnits c' q' f.qmin := rfl
    omega
/-- an exact result that the format holds is not rounded -/
theorem rnd {f : Fmt} (hf : Good f) (hq : 0 ≤ f.qmax) {s : Bool} {c : Nat} {q e0 : Int} (h0 : e0 ≤ f.qmin) (h0e : e0 ≤ q) {i : Int} {k : Nat} (hi : i.natAbs < 2 ^ f.p) (hk : (k : Int) ≤ -f.qmin)
    (h : signed s (inUnits c q e0) * 2 ^ k = i * 2 ^ (-f.qmin).toNat * 2 ^ (f.qmin - e0).toNat) : Dyf f i k (round f (.fin s c q)) := by
  obtain ⟨s', c', q', hV, hv⟩ := vex hf hi hk hq
  have hn : Datum.fin s' c' q' ≠ .nan := nofun
  have he : zval f (.fin s' c' q') * ((2 ^ (f.qmin - e0).toNat : Nat) : Int) = signed s (inUnits c q e0) := by
    refine Int.eq_of_mul_eq_mul_right (Int.ne_of_gt (pw_pos k)) ?_
    rw [h, ← hv, pw_cast]; ac_rfl
  have hz : zval f (round f (.fin s c q)) = zval f (.fin s' c' q') :=
    Int.le_antisymm (zval_round_le hf hV hn h0 h0e (Int.le_of_eq he.symm)) (zval_round_ge hf hV hn h0 h0e (Int.le_of_eq he))
  exact ⟨dyf_of_zval hf hV hz, by rw [hz]; exact hv⟩
theorem Dyf.fit {f : Fmt} {i : Int} {k : Nat} {d : Datum} (h : Dyf f i k d) : ∃ s c q, d = .fin s c q := h.1
theorem Dyf.up {f : Fmt} {i : Int} {k : Nat} {d : Datum} (h : Dyf f i k d) (l : Nat) : Dyf f (i * 2 ^ l) (k + l) d :=
  ⟨h.1, by rw [Int.pow_add, ← Int.mul_assoc, h.2]; ac_rfl⟩
theorem Dyf.to {f : Fmt} {i j : Int} {k l : Nat} {d : Datum} (h : Dyf f i k d) (e : i * 2 ^ l = j * 2 ^ k) : Dyf f j l d := by
  refine ⟨h.1, Int.eq_of_mul_eq_mul_right (Int.ne_of_gt (pw_pos k)) ?_⟩
  calc zval f d * 2 ^ l * 2 ^ k = (zval f d * 2 ^ k) * 2 ^ l := by ac_rfl
    _ = (i * 2 ^ l) * 2 ^ (-f.qmin).toNat := by rw [h.2]; ac_rfl
    _ = j * 2 ^ (-f.qmin).toNat * 2 ^ k := by rw [e]; ac_rfl
theorem Dyf.sum {f : Fmt} (hf : Good f) (hq : 0 ≤ f.qmax) {i j : Int} {k : Nat} {x y : Datum} (fx : FP.Core.fits f x) (fy : FP.Core.fits f y) (hx : Dyf f i k x) (hy : Dyf f j k y) (hi : (i + j).natAbs < 2 ^ f.p) (hk : (k : Int) ≤ -f.qmin) :
    Dyf f (i + j) k (round f (exactSum x y)) := by
  obtain ⟨⟨s, c, q, rfl⟩, hx⟩ := hx
  obtain ⟨⟨t, d, r, rfl⟩, hy⟩ := hy
  obtain ⟨sg, n, e, he, hle, hu⟩ := sum_units fx fy
  rw [he]
  refine rnd hf hq (Int.le_refl _) hle hi hk ?_
  rw [hu, Int.add_mul, hx, hy, Int.add_mul, Int.sub_self]
  simp
theorem Dyf.neg {f : Fmt} {i : Int} {k : Nat} {x : Datum} (hx : Dyf f i k x) : Dyf f (-i) k (negate x) := by
  obtain ⟨⟨s, c, q, rfl⟩, hx⟩ := hx
  refine ⟨⟨_, _, _, rfl⟩, ?_⟩
  rw [zval_negate, Int.neg_mul, hx, Int.neg_mul]
theorem Dyf.prod {f : Fmt} (hf : Good f) (hq : 0 ≤ f.qmax) {i j : Int} {k l : Nat} {x y : Datum} (fx : FP.Core.fits f x) (fy : FP.Core.fits f y) (hx : Dyf f i k x) (hy : Dyf f j l y) (hi : (i * j).natAbs < 2 ^ f.p) (hk : ((k + l : Nat) : Int) ≤ -f.qmin) :
    Dyf f (i * j) (k + l) (round f (exactProduct x y)) := by
  obtain ⟨⟨s, c, q, rfl⟩, hx⟩ := hx
  obtain ⟨⟨t, d, r, rfl⟩, hy⟩ := hy
  obtain ⟨he, hle, hu⟩ := product_units fx fy
  rw [he]
  have hn := qmin_neg hf
  refine rnd hf hq (e0 := 2 * f.qmin) (by omega) hle hi hk ?_
  rw [hu, signed_xor, show (f.qmin - 2 * f.qmin).toNat = (-f.qmin).toNat by omega, Int.pow_add]
  calc zval f (.fin s c q) * zval f (.fin t d r) * (2 ^ k * 2 ^ l) = (zval f (.fin s c q) * 2 ^ k) * (zval f (.fin t d r) * 2 ^ l) := by ac_rfl
    _ = _ := by rw [hx, hy]; ac_rfl
theorem natAbs_pow (n : Nat) : ((2 : Int) ^ n).natAbs = 2 ^ n := by rw [Int.natAbs_pow]; rfl
theorem natAbs_zval (f : Fmt) (d : Datum) : (zval f d).natAbs = zmag f d := natAbs_signed _ _
/-- an exact quotient that the format holds is not rounded -/
theorem Dyf.quot {f : Fmt} (hf : Good f) (hq : 0 ≤ f.qmax) {i j n : Int} {k l m : Nat} {x y : Datum} (fx : FP.Core.fits f x) (fy : FP.Core.fits f y) (hx : Dyf f i k x) (hy : Dyf f j l y) (hj : j ≠ 0) (hi : n.natAbs < 2 ^ f.p) (hm : (m : Int) ≤ -f.qmin)
    (e : i * 2 ^ l * 2 ^ m = n * j * 2 ^ k) : Dyf f n m (quotient f x y) := by
  obtain ⟨⟨s, c, q, rfl⟩, hx⟩ := hx
  obtain ⟨⟨t, d, r, rfl⟩, hy⟩ := hy
  obtain ⟨s', c', q', hV, hv⟩ := vex hf hi hm hq
  have hn : Datum.fin s' c' q' ≠ .nan := nofun
  have hqm := qmin_neg hf
  have fx1 := fx.2.1
  have fy1 := fy.2.1
  -- the signed equation
  have hz : zval f (.fin s c q) * 2 ^ (-f.qmin).toNat = zval f (.fin s' c' q') * zval f (.fin t d r) := by
    refine Int.eq_of_mul_eq_mul_right (Int.ne_of_gt (Int.mul_pos (Int.mul_pos (pw_pos k) (pw_pos l)) (pw_pos m))) ?_
    calc zval f (.fin s c q) * 2 ^ (-f.qmin).toNat * (2 ^ k * 2 ^ l * 2 ^ m) = (zval f (.fin s c q) * 2 ^ k) * (2 ^ l * 2 ^ m) * 2 ^ (-f.qmin).toNat := by ac_rfl
      _ = (i * 2 ^ l * 2 ^ m) * 2 ^ (-f.qmin).toNat * 2 ^ (-f.qmin).toNat := by rw [hx]; ac_rfl
      _ = (n * 2 ^ (-f.qmin).toNat) * (j * 2 ^ (-f.qmin).toNat) * 2 ^ k := by rw [e]; ac_rfl
      _ = (zval f (.fin s' c' q') * 2 ^ m) * (zval f (.fin t d r) * 2 ^ l) * 2 ^ k := by rw [hv, hy]
      _ = _ := by ac_rfl
  have hzb : zval f (.fin t d r) ≠ 0 := by
    intro h0
    rw [h0, Int.zero_mul] at hy
    rcases Int.mul_eq_zero.mp hy.symm with h | h
    · exact hj h
    · exact absurd h (Int.ne_of_gt (pw_pos _))
  have hd : d ≠ 0 := by
    rintro rfl
    apply hzb
    show signed t (inUnits 0 r f.qmin) = 0
    unfold inUnits; rw [Nat.zero_mul, signed_zero]
  have hmag : zmag f (.fin s c q) * 2 ^ (-f.qmin).toNat = zmag f (.fin s' c' q') * zmag f (.fin t d r) := by
    have h2 := congrArg Int.natAbs hz
    rw [Int.natAbs_mul, Int.natAbs_mul, natAbs_pow, natAbs_zval, natAbs_zval, natAbs_zval] at h2
    exact h2
  have hun : inUnits c (q - r) (2 * f.qmin - r) = zmag f (.fin s' c' q') * 2 ^ (f.qmin - (2 * f.qmin - r)).toNat * d := by
    have a1 : inUnits c (q - r) (2 * f.qmin - r) = zmag f (.fin s c q) * 2 ^ (-f.qmin).toNat := by
      show c * 2 ^ _ = c * 2 ^ _ * 2 ^ _
      rw [Nat.mul_assoc, ← Nat.pow_add, show (q - r - (2 * f.qmin - r)).toNat = (q - f.qmin).toNat + (-f.qmin).toNat by omega]
    rw [a1, hmag, show (f.qmin - (2 * f.qmin - r)).toNat = (r - f.qmin).toNat by omega]
    show _ * (d * 2 ^ _) = _
    ac_rfl
  have hqt : quotient f (.fin s c q) (.fin t d r) = roundRatio f (s != t) c d (q - r) := by
    show (if d = 0 then _ else _) = _
    rw [if_neg hd]
  have hm2 : zmag f (roundRatio f (s != t) c d (q - r)) = zmag f (.fin s' c' q') :=
    Nat.le_antisymm (zmag_roundRatio_le hf (e0 := 2 * f.qmin - r) (Nat.pos_of_ne_zero hd) hV hn (by omega) (by omega) (Nat.le_of_eq hun))
      (zmag_roundRatio_ge hf (e0 := 2 * f.qmin - r) (Nat.pos_of_ne_zero hd) hV (by omega) (by omega) (Nat.le_of_eq hun.symm))
  have hsg : signed (s != t) (zmag f (.fin s' c' q')) = zval f (.fin s' c' q') := by
    have p0 : zmag f (.fin s c q) = inUnits c q f.qmin := rfl
    have hS : zval f (.fin s c q) * 2 ^ (-f.qmin).toNat * zval f (.fin t d r) = zval f (.fin s' c' q') * (zval f (.fin t d r) * zval f (.fin t d r)) := by rw [hz]; ac_rfl
    by_cases h0 : zmag f (.fin s' c' q') = 0
    · unfold zval; rw [h0, signed_zero, signed_zero]
    · have hbb : 0 < zval f (.fin t d r) * zval f (.fin t d r) := by
        rcases Int.lt_or_gt_of_ne hzb with h | h
        · exact Int.mul_pos_of_neg_of_neg h h
        · exact Int.mul_pos h h
      have hst : zval f (.fin s c q) * zval f (.fin t d r) = signed (s != t) (zmag f (.fin s c q) * zmag f (.fin t d r)) := by
        rw [signed_xor]; rfl
      have e1 : zval f (.fin s' c' q') * (zval f (.fin t d r) * zval f (.fin t d r)) = signed (s != t) (zmag f (.fin s c q) * zmag f (.fin t d r)) * 2 ^ (-f.qmin).toNat := by
        rw [← hS, ← hst]; ac_rfl
      have e2 : signed (s != t) (zmag f (.fin s c q) * zmag f (.fin t d r)) * 2 ^ (-f.qmin).toNat = signed (s != t) (zmag f (.fin s' c' q')) * (zval f (.fin t d r) * zval f (.fin t d r)) := by
        rw [← signed_mulI, show zmag f (.fin s c q) * zmag f (.fin t d r) * 2 ^ (-f.qmin).toNat = zmag f (.fin s' c' q') * (zmag f (.fin t d r) * zmag f (.fin t d r)) by rw [Nat.mul_right_comm, hmag]; ac_rfl, signed_mul]
        congr 1
        unfold zval
        rw [Int.natCast_mul]
        cases (sgn (.fin t d r)) <;> simp [signed, Int.neg_mul_neg]
      exact Int.eq_of_mul_eq_mul_right (Int.ne_of_gt hbb) (e2.symm.trans e1.symm)
  have hzz : zval f (roundRatio f (s != t) c d (q - r)) = zval f (.fin s' c' q') := by
    rw [← hsg]
    show signed (sgn (roundRatio f (s != t) c d (q - r))) (zmag f (roundRatio f (s != t) c d (q - r))) = _
    rw [sgn_roundRatio, hm2]
  rw [hqt]
  exact ⟨dyf_of_zval hf hV hzz, by rw [hzz]; exact hv⟩
theorem Dyf.ofInt {f : Fmt} (hf : Good f) (hq : 0 ≤ f.qmax) {i : Int} (hi : i.natAbs < 2 ^ f.p) : Dyf f i 0 (round f (FP.Core.ofInt i)) := by
  have hn := qmin_neg hf
  refine rnd hf hq (Int.le_refl _) (by omega) hi (by omega) ?_
  unfold inUnits
  rw [signed_mulI, signed_abs, Int.sub_self]
  simp
theorem Dyf.order {f : Fmt} (hf : Good f) {i j : Int} {k : Nat} {x y : Datum} (fx : FP.Core.fits f x) (fy : FP.Core.fits f y) (hx : Dyf f i k x) (hy : Dyf f j k y) : order x y = some (compare i j) := by
  obtain ⟨⟨s, c, q, rfl⟩, hx⟩ := hx
  obtain ⟨⟨t, d, r, rfl⟩, hy⟩ := hy
  rw [order_zval hf fx fy nofun nofun, ← compare_mul_pos _ _ _ (pw_pos k), hx, hy, compare_mul_pos _ _ _ (pw_pos _)]
/-! doubles -/
def Dy (i : Int) (k : Nat) (a : UInt64) : Prop := Dyf b64 i k (val64 a)
theorem qm64 : (0 : Int) ≤ b64.qmax := by decide
theorem Dy.fin {i : Int} {k : Nat} {a : UInt64} (h : Dy i k a) : DFin a := h.1
theorem Dy.nn {i : Int} {k : Nat} {a : UInt64} (h : Dy i k a) : Jvm.Free.Fl.NoNaN64 a := (Jvm.Free.Fl.fin64_core.mpr h.1).noNaN
theorem Dy.to {i j : Int} {k l : Nat} {a : UInt64} (h : Dy i k a) (e : i * 2 ^ l = j * 2 ^ k) : Dy j l a := Dyf.to h e
theorem Dy.up {i : Int} {k : Nat} {a : UInt64} (h : Dy i k a) (l : Nat) : Dy (i * 2 ^ l) (k + l) a := Dyf.up h l
theorem Dy.add {i j : Int} {k : Nat} {a b : UInt64} (ha : Dy i k a) (hb : Dy j k b) (hi : (i + j).natAbs < 9007199254740992) (hk : k ≤ 1074) : Dy (i + j) k (FP.dadd a b) := by
  show Dyf b64 _ _ (val64 (dadd a b))
  rw [val64_dadd]
  exact Dyf.sum good_b64 qm64 (val64_fits a) (val64_fits b) ha hb hi (by rw [qmin_b64]; omega)
theorem Dy.sub {i j : Int} {k : Nat} {a b : UInt64} (ha : Dy i k a) (hb : Dy j k b) (hi : (i - j).natAbs < 9007199254740992) (hk : k ≤ 1074) : Dy (i - j) k (FP.dsub a b) := by
  show Dyf b64 _ _ (val64 (dsub a b))
  rw [val64_dsub]
  exact Dyf.sum good_b64 qm64 (val64_fits a) (negate_fits (val64_fits b)) ha hb.neg hi (by rw [qmin_b64]; omega)
theorem Dy.mul {i j : Int} {k l : Nat} {a b : UInt64} (ha : Dy i k a) (hb : Dy j l b) (hi : (i * j).natAbs < 9007199254740992) (hk : k + l ≤ 1074) : Dy (i * j) (k + l) (FP.dmul a b) := by
  show Dyf b64 _ _ (val64 (dmul a b))
  rw [val64_dmul]
  exact Dyf.prod good_b64 qm64 (val64_fits a) (val64_fits b) ha hb hi (by rw [qmin_b64]; omega)
theorem Dy.div {i j n : Int} {k l m : Nat} {a b : UInt64} (ha : Dy i k a) (hb : Dy j l b) (hj : j ≠ 0) (hi : n.natAbs < 9007199254740992) (hk : m ≤ 1074) (e : i * 2 ^ l * 2 ^ m = n * j * 2 ^ k) : Dy n m (FP.ddiv a b) := by
  show Dyf b64 _ _ (val64 (ddiv a b))
  rw [val64_ddiv]
  exact Dyf.quot good_b64 qm64 (val64_fits a) (val64_fits b) ha hb hj hi (by rw [qmin_b64]; omega) e
theorem Dy.neg {i : Int} {k : Nat} {a : UInt64} (ha : Dy i k a) : Dy (-i) k (FP.dneg a) := by
  show Dyf b64 _ _ (val64 (FP.dneg a))
  rw [Jvm.FP.val64_dneg]
  exact Dyf.neg ha
theorem Dy.i2d (x : Int32) : Dy x.toInt 0 (FP.i2d x) := by
  show Dyf b64 _ _ (val64 (FP.Core.i2d x))
  rw [val64_i2d]
  exact Dyf.ofInt good_b64 qm64 (by have := int32_abs x; show _ < 2 ^ 53; omega)
theorem Dy.l2d {x : Int64} (h : x.toInt.natAbs < 9007199254740992) : Dy x.toInt 0 (FP.l2d x) := by
  show Dyf b64 _ _ (val64 (FP.Core.l2d x))
  rw [val64_l2d]
  exact Dyf.ofInt good_b64 qm64 h
theorem Dy.cmp {i j : Int} {k : Nat} {a b : UInt64} (ha : Dy i k a) (hb : Dy j k b) : FP.dcmp a b = some (compare i j) :=
  Dyf.order good_b64 (val64_fits a) (val64_fits b) ha hb
theorem Dy.cmp_eq {i j : Int} {k : Nat} {a b : UInt64} (ha : Dy i k a) (hb : Dy j k b) (e : i = j) (o : ClassFile.CmpOp) : cmpValue (FP.dcmp a b) o = 0 := by
  rw [ha.cmp hb, e, compare_self_int]; rfl
theorem Dy.cmp_lt {i j : Int} {k : Nat} {a b : UInt64} (ha : Dy i k a) (hb : Dy j k b) (e : i < j) (o : ClassFile.CmpOp) : cmpValue (FP.dcmp a b) o = -1 := by
  rw [ha.cmp hb, show compare i j = .lt by rw [compare_ite, if_pos e]]; rfl
theorem Dy.cmp_gt {i j : Int} {k : Nat} {a b : UInt64} (ha : Dy i k a) (hb : Dy j k b) (e : j < i) (o : ClassFile.CmpOp) : cmpValue (FP.dcmp a b) o = 1 := by
  rw [ha.cmp hb, show compare i j = .gt by rw [compare_ite, if_neg (by omega), if_neg (by omega)]]; rfl
theorem dy_of {i : Int} {k : Nat} {a : UInt64} {s : Bool} {c : Nat} {q : Int} (h : val64 a = .fin s c q) (e : zval b64 (.fin s c q) * 2 ^ k = i * 2 ^ 1074) : Dy i k a :=
  ⟨⟨s, c, q, h⟩, by rw [h, e]; rfl⟩
theorem dy0 (k : Nat) : Dy 0 k (0 : UInt64) := dy_of (s := false) (c := 0) (q := -1074) (by decide +kernel) (by
  rw [show zval b64 (.fin false 0 (-1074)) = 0 from rfl, Int.zero_mul, Int.zero_mul])
theorem dy1 (k : Nat) : Dy (2 ^ k) k (4607182418800017408 : UInt64) := dy_of (s := false) (c := 2 ^ 52) (q := -52) (by decide +kernel) (by
  rw [show zval b64 (.fin false (2 ^ 52) (-52)) = 2 ^ 1074 by decide +kernel, Int.mul_comm])
theorem Dy.ge {i j : Int} {k : Nat} {a b : UInt64} (ha : Dy i k a) (hb : Dy j k b) (e : j ≤ i) (o : ClassFile.CmpOp) : ¬ (cmpValue (FP.dcmp a b) o < (0 : Int32)) := by
  rcases Int.lt_or_eq_of_le e with h | h
  · rw [ha.cmp_gt hb h]; decide
  · rw [ha.cmp_eq hb h.symm]; decide
theorem Dy.le {i j : Int} {k : Nat} {a b : UInt64} (ha : Dy i k a) (hb : Dy j k b) (e : i ≤ j) (o : ClassFile.CmpOp) : ¬ ((0 : Int32) < cmpValue (FP.dcmp a b) o) := by
  rcases Int.lt_or_eq_of_le e with h | h
  · rw [ha.cmp_lt hb h]; decide
  · rw [ha.cmp_eq hb h]; decide
theorem Dy.lt_inf {i : Int} {k : Nat} {a : UInt64} (ha : Dy i k a) (o : ClassFile.CmpOp) : cmpValue (FP.dcmp a (9218868437227405312 : UInt64)) o < (0 : Int32) := by
  rw [Jvm.RoadKit.dcmp_pinf (Jvm.Free.Fl.fin64_core.mpr ha.1)]; decide
theorem isfin {a : UInt64} (h : DFin a) : ¬ ((0 : Int32) < cmpValue (FP.dcmp (a &&& 0x7fffffffffffffff) (9218868437227405311 : UInt64)) .g) := by
  have hn : dIsNaN a = false := (notNaN_iff a).mpr (by obtain ⟨s, c, q, e⟩ := h; rw [e]; exact nofun)
  rcases (le_max hn).mpr h with e | e <;> rw [show FP.dcmp (a &&& 0x7fffffffffffffff) (9218868437227405311 : UInt64) = _ from e] <;> decide
theorem since0 (s : State) : s.Since s.vm 0 := ⟨State.Warmed39.refl s, fun j p h1 h2 => by
  rw [Array.getElem?_eq_none h1] at h2; cases h2⟩
theorem i2d_nz {v : Int32} (h : v ≠ 0) : ¬ DZero (FP.i2d v) := fun q => i2d_ne_zero h ((zero_bits2 _).mp q)
theorem nn_of {x : UInt64} (h : dIsNaN x = false) : Jvm.Free.Fl.NoNaN64 x := Jvm.Free.Fl.noNaN64_no.mpr h
theorem no_of {x : UInt64} (h : Jvm.Free.Fl.NoNaN64 x) : dIsNaN x = false := Jvm.Free.Fl.noNaN64_no.mp h
theorem no_fin {x : UInt64} (h : DFin x) : dIsNaN x = false := (notNaN_iff x).mpr (by obtain ⟨s, c, q, e⟩ := h; rw [e]; exact nofun)
theorem nn_div {a : UInt64} {v : Int32} (ha : dIsNaN a = false) (h : v ≠ 0) : Jvm.Free.Fl.NoNaN64 (FP.ddiv a (FP.i2d v)) := nn_of (ddiv_out ha (i2d_fin v) (i2d_nz h))
theorem fin_div (a : Int32) {v : Int32} (h : v ≠ 0) : DFin (FP.ddiv (FP.i2d a) (FP.i2d v)) := by
  have h1 := i2d_mag a
  have h2 := i2d_big (v := v) (fun q => h (Int32.toInt_inj.mp q))
  exact fin_of_lt (ddiv_mag h1 h2.1 h2.2 (by decide) (by decide)) (by decide)
end Jvm.OwnFp
namespace Jvm.Pilot.@@N@@
open Jvm Jvm.ClassFile Sem Op Lib Jvm.Free Jvm.Stand Jvm.LawKit Jvm.RoadKit Bundle Jvm.Pilot.@@N@@.Jvm.D
open Jvm.OwnFp
theorem own_n4 (x n : Int32) (h : n = (x &&& (3 : Int32))) : n = 0 ∨ n = 1 ∨ n = 2 ∨ n = 3 := by
  have m := c_and x 3 (by decide)
  rw [← h, show (3 : Int32).toInt = 3 by decide] at m
  have e : n = Int32.ofInt n.toInt := (Int32.ofInt_toInt n).symm
  have : n.toInt = 0 ∨ n.toInt = 1 ∨ n.toInt = 2 ∨ n.toInt = 3 := by omega
  rcases this with q | q | q | q <;> rw [q] at e <;> simp [e] <;> decide
def own_us (n : Int32) (us : List Value) (S : Int) : Prop := (n = (0 : Int32) ∧ us = [] ∧ 0 = S) ∨ (n = (1 : Int32) ∧ ∃ (u0 : UInt64) (x0 : Int), us = [(.double u0)] ∧ Dy x0 0 u0 ∧ x0.natAbs ≤ 4294967296 ∧ x0 = S) ∨ (n = (2 : Int32) ∧ ∃ (u0 : UInt64) (u1 : UInt64) (x0 : Int) (x1 : Int), us = [(.double u0), (.double u1)] ∧ Dy x0 0 u0 ∧ Dy x1 0 u1 ∧ x0.natAbs ≤ 4294967296 ∧ x1.natAbs ≤ 4294967296 ∧ x0 + x1 = S) ∨ (n = (3 : Int32) ∧ ∃ (u0 : UInt64) (u1 : UInt64) (u2 : UInt64) (x0 : Int) (x1 : Int) (x2 : Int), us = [(.double u0), (.double u1), (.double u2)] ∧ Dy x0 0 u0 ∧ Dy x1 0 u1 ∧ Dy x2 0 u2 ∧ x0.natAbs ≤ 4294967296 ∧ x1.natAbs ≤ 4294967296 ∧ x2.natAbs ≤ 4294967296 ∧ x0 + x1 + x2 = S)
theorem own_us0 : own_us 0 [] (0 : Int64).toInt := Or.inl ⟨rfl, rfl, by decide⟩
theorem own_s0 : -4294967296 ≤ (0 : Int64).toInt ∧ (0 : Int64).toInt ≤ 4294967296 := by decide
theorem own_sl (a b : Int32) : (a.toInt64 + b.toInt64).toInt = a.toInt + b.toInt := by
  have s := c_ladd a.toInt64 b.toInt64; have r := rng64 (a.toInt64 + b.toInt64); have := rng32 a; have := rng32 b; rw [c_i2l, c_i2l] at s; omega
theorem own_l2 (a b : Int32) : -4294967296 ≤ (a.toInt64 + b.toInt64).toInt ∧ (a.toInt64 + b.toInt64).toInt ≤ 4294967296 := by
  have := own_sl a b; have := rng32 a; have := rng32 b; omega
theorem own_k (x n : Int32) (h : n = ((x &&& (2147483647 : Int32)) % (6 : Int32))) : 0 ≤ n.toInt ∧ n.toInt ≤ 5 := by
  have j1 := c_and x 2147483647 (by decide)
  have m := (c_irem (x &&& 2147483647) 6 6 (by decide)).1 j1.1
  rw [← h] at m; omega
theorem own_lit {n : Int32} {k : Nat} (h : n.toInt = k) : n = Int32.ofInt (k : Int) := by rw [← h, Int32.ofInt_toInt]
theorem own_ix1 (s ix : Int32) (h : ix = ((s &&& (2147483647 : Int32)) % (1 : Int32))) : ix = (0 : Int32) := by
  have j1 := c_and s 2147483647 (by decide)
  have m := (c_irem (s &&& 2147483647) 1 1 (by decide)).1 j1.1
  rw [← h] at m; exact own_lit (k := 0) (by omega)
theorem own_ix2 (s ix : Int32) (h : ix = ((s &&& (2147483647 : Int32)) % (2 : Int32))) : ix = (0 : Int32) ∨ ix = (1 : Int32) := by
  have j1 := c_and s 2147483647 (by decide)
  have m := (c_irem (s &&& 2147483647) 2 2 (by decide)).1 j1.1
  rw [← h] at m
  rcases (by omega : ix.toInt = (0 : Nat) ∨ ix.toInt = (1 : Nat)) with q | q
  · exact Or.inl (own_lit q)
  · exact Or.inr (own_lit q)
theorem own_ix3 (s ix : Int32) (h : ix = ((s &&& (2147483647 : Int32)) % (3 : Int32))) : ix = (0 : Int32) ∨ ix = (1 : Int32) ∨ ix = (2 : Int32) := by
  have j1 := c_and s 2147483647 (by decide)
  have m := (c_irem (s &&& 2147483647) 3 3 (by decide)).1 j1.1
  rw [← h] at m
  rcases (by omega : ix.toInt = (0 : Nat) ∨ ix.toInt = (1 : Nat) ∨ ix.toInt = (2 : Nat)) with q | q | q
  · exact Or.inl (own_lit q)
  · exact Or.inr (Or.inl (own_lit q))
  · exact Or.inr (Or.inr (own_lit q))
theorem own_k0 {k : Int32} (B : 0 ≤ k.toInt ∧ k.toInt ≤ 5) (f : ¬ (0 : Int32) < k) : (0 : Int32) = k := by
  have : ¬ (0 : Int32).toInt < k.toInt := fun q => f (Int32.lt_iff_toInt_lt.mpr q)
  apply Int32.toInt_inj.mp; rw [show (0 : Int32).toInt = 0 by decide] at *; omega
theorem own_kle {k c : Int32} {i : Int32} {I : Int} (B : 0 ≤ k.toInt ∧ k.toInt ≤ 5) (f : ¬ i < k) (h : (I < k.toInt → c = i) ∧ (¬ I < k.toInt → c = k)) (e : i.toInt = I + 1 := by decide) : c = k := by
  have g : ¬ i.toInt < k.toInt := fun q => f (Int32.lt_iff_toInt_lt.mpr q)
  by_cases q : I < k.toInt
  · rw [h.1 q]; apply Int32.toInt_inj.mp; omega
  · exact h.2 q
theorem own_c5 {k c : Int32} (B : 0 ≤ k.toInt ∧ k.toInt ≤ 5) (h : (4 < k.toInt → c = (5 : Int32)) ∧ (¬ 4 < k.toInt → c = k)) : c = k := by
  by_cases q : 4 < k.toInt
  · rw [h.1 q]; apply Int32.toInt_inj.mp; rw [show (5 : Int32).toInt = 5 by decide]; omega
  · exact h.2 q
theorem own_le {f : Int64} {k : Int32} (hf : -4294967296 ≤ f.toInt ∧ f.toInt ≤ 4294967296) (B : 0 ≤ k.toInt ∧ k.toInt ≤ 5) : (f + k.toInt64).toInt = f.toInt + k.toInt := by
  have s := c_ladd f k.toInt64; have r := rng64 (f + k.toInt64); rw [c_i2l] at s; omega
theorem own_us1 {a1 a2 ix0 ix1 : Int32} {u0 : UInt64} (hix0 : ix0 = (0 : Int32)) (hix1 : ix1 = (0 : Int32)) (Q0 : Dy (if ix1 = (0 : Int32) then (if ix0 = (0 : Int32) then 0 + a1.toInt else 0) + a2.toInt else (if ix0 = (0 : Int32) then 0 + a1.toInt else 0)) 0 u0) : own_us (1 : Int32) [(.double u0)] (a1.toInt64 + a2.toInt64).toInt := by
  have r1 := rng32 a1; have r2 := rng32 a2; have e := own_sl a1 a2
  refine Or.inr (Or.inl ⟨rfl, _, _, rfl, Q0, ?_, ?_⟩)
  all_goals (generalize (a1.toInt64 + a2.toInt64).toInt = S at *)
  all_goals (subst hix0 hix1 <;> first | (simp; omega) | (simp; done) | omega)
theorem own_us2 {a1 a2 ix0 ix1 : Int32} {u0 u1 : UInt64} (hix0 : ix0 = (0 : Int32) ∨ ix0 = (1 : Int32)) (hix1 : ix1 = (0 : Int32) ∨ ix1 = (1 : Int32)) (Q0 : Dy (if ix1 = (0 : Int32) then (if ix0 = (0 : Int32) then 0 + a1.toInt else 0) + a2.toInt else (if ix0 = (0 : Int32) then 0 + a1.toInt else 0)) 0 u0) (Q1 : Dy (if ix1 = (1 : Int32) then (if ix0 = (1 : Int32) then 0 + a1.toInt else 0) + a2.toInt else (if ix0 = (1 : Int32) then 0 + a1.toInt else 0)) 0 u1) : own_us (2 : Int32) [(.double u0), (.double u1)] (a1.toInt64 + a2.toInt64).toInt := by
  have r1 := rng32 a1; have r2 := rng32 a2; have e := own_sl a1 a2
  refine Or.inr (Or.inr (Or.inl ⟨rfl, _, _, _, _, rfl, Q0, Q1, ?_, ?_, ?_⟩))
  all_goals (generalize (a1.toInt64 + a2.toInt64).toInt = S at *)
  all_goals (rcases hix0 with rfl | rfl <;> rcases hix1 with rfl | rfl <;> first | (simp; omega) | (simp; done) | omega)
theorem own_us3 {a1 a2 ix0 ix1 : Int32} {u0 u1 u2 : UInt64} (hix0 : ix0 = (0 : Int32) ∨ ix0 = (1 : Int32) ∨ ix0 = (2 : Int32)) (hix1 : ix1 = (0 : Int32) ∨ ix1 = (1 : Int32) ∨ ix1 = (2 : Int32)) (Q0 : Dy (if ix1 = (0 : Int32) then (if ix0 = (0 : Int32) then 0 + a1.toInt else 0) + a2.toInt else (if ix0 = (0 : Int32) then 0 + a1.toInt else 0)) 0 u0) (Q1 : Dy (if ix1 = (1 : Int32) then (if ix0 = (1 : Int32) then 0 + a1.toInt else 0) + a2.toInt else (if ix0 = (1 : Int32) then 0 + a1.toInt else 0)) 0 u1) (Q2 : Dy (if ix1 = (2 : Int32) then (if ix0 = (2 : Int32) then 0 + a1.toInt else 0) + a2.toInt else (if ix0 = (2 : Int32) then 0 + a1.toInt else 0)) 0 u2) : own_us (3 : Int32) [(.double u0), (.double u1), (.double u2)] (a1.toInt64 + a2.toInt64).toInt := by
  have r1 := rng32 a1; have r2 := rng32 a2; have e := own_sl a1 a2
  refine Or.inr (Or.inr (Or.inr (⟨rfl, _, _, _, _, _, _, rfl, Q0, Q1, Q2, ?_, ?_, ?_, ?_⟩)))
  all_goals (generalize (a1.toInt64 + a2.toInt64).toInt = S at *)
  all_goals (rcases hix0 with rfl | rfl | rfl <;> rcases hix1 with rfl | rfl | rfl <;> first | (simp; omega) | (simp; done) | omega)
theorem ef_1_RI (m : MethodId) (x0 : Addr) (x1 : Int32) : entryFrame m #[(.ref x0), (.int x1)] 2 = mkF m 0 #[.val (.ref x0), .val (.int x1)] [] := by first | (simp [entryFrame, mkF, argsToLocals, Value.category]; done) | rfl
theorem d1_0 : decode prog_54_method_1_code 0 = .ok (.aload_n 0, 1) := by decide +kernel
theorem d1_1 : decode prog_54_method_1_code 1 = .ok (.invokespecial 1, 3) := by decide +kernel
theorem d1_4 : decode prog_54_method_1_code 4 = .ok (.aload_n 0, 1) := by decide +kernel
theorem d1_5 : decode prog_54_method_1_code 5 = .ok (.iconst 4, 1) := by decide +kernel
theorem d1_6 : decode prog_54_method_1_code 6 = .ok (.newarray .int, 2) := by decide +kernel
theorem d1_8 : decode prog_54_method_1_code 8 = .ok (.putfield 9, 3) := by decide +kernel
theorem d1_11 : decode prog_54_method_1_code 11 = .ok (.aload_n 0, 1) := by decide +kernel
theorem d1_12 : decode prog_54_method_1_code 12 = .ok (.iconst 4, 1) := by decide +kernel
theorem d1_13 : decode prog_54_method_1_code 13 = .ok (.newarray .double, 2) := by decide +kernel
theorem d1_15 : decode prog_54_method_1_code 15 = .ok (.putfield 13, 3) := by decide +kernel
theorem d1_18 : decode prog_54_method_1_code 18 = .ok (.iload_n 1, 1) := by decide +kernel
theorem d1_19 : decode prog_54_method_1_code 19 = .ok (.ifCond .ge 17, 3) := by decide +kernel
theorem d1_36 : decode prog_54_method_1_code 36 = .ok (.aload_n 0, 1) := by decide +kernel
theorem d1_37 : decode prog_54_method_1_code 37 = .ok (.iload_n 1, 1) := by decide +kernel
theorem d1_38 : decode prog_54_method_1_code 38 = .ok (.newarray .double, 2) := by decide +kernel
theorem d1_40 : decode prog_54_method_1_code 40 = .ok (.putfield 26, 3) := by decide +kernel
theorem d1_43 : decode prog_54_method_1_code 43 = .ok (.return_, 1) := by decide +kernel
def Q_ct0 (Z : State) (a1 : Addr) (h0 : Heap) (n0 : Nat) (v : Option Value) (h : Heap) (L : List Loc) : Prop := ∃ (b1 b2 b3 : Addr) (k1 k2 k3 : ClassId), v = none ∧ Fr n0 L ∧ Keep h0 h [a1] ∧ n0 ≤ b1 ∧ n0 ≤ b2 ∧ n0 ≤ b3 ∧ a1 ≠ b1 ∧ a1 ≠ b2 ∧ a1 ≠ b3 ∧ b1 ≠ b2 ∧ b1 ≠ b3 ∧ b2 ≠ b3 ∧ Exa Z h a1 "com/example/istra/istra/model/Transfer" ∧ Fld Z h a1 "com/example/istra/istra/model/Transfer" "vehicleStates" "[I" (.ref b1) ∧ Fld Z h a1 "com/example/istra/istra/model/Transfer" "crossingS" "[D" (.ref b2) ∧ Fld Z h a1 "com/example/istra/istra/model/Transfer" "fluid" "[D" (.ref b3) ∧ Fld Z h a1 "com/example/istra/istra/model/Transfer" "vehicles" "I" (.int (0 : Int32)) ∧ Fld Z h a1 "com/example/istra/istra/model/Transfer" "holdsFluid" "Z" (.int (0 : Int32)) ∧ Arv Z h b1 k1 .int (4 : Int32) [(.int (0 : Int32)), (.int (0 : Int32)), (.int (0 : Int32)), (.int (0 : Int32))] (.int (0 : Int32)) ∧ Arv Z h b2 k2 .double (4 : Int32) [(.double (0 : UInt64)), (.double (0 : UInt64)), (.double (0 : UInt64)), (.double (0 : UInt64))] (.double (0 : UInt64)) ∧ Arv Z h b3 k3 .double (0 : Int32) [] (.double (0 : UInt64))
theorem pn_com_2fexample_2fistra_2fistra_2fmodel_2fTransfer : plainName "com/example/istra/istra/model/Transfer" = true := by first | (simp [plainName, overriddenIn]; done) | decide +kernel
set_option maxRecDepth 65536 in
set_option maxHeartbeats 40000000 in
theorem ct0 (l : Launch) (Z : State) (a0 : Array Value) (hw : ∀ d ∈ tables_1, d.before a0 Z = true) (ws : List Jvm.Cond) (a1 : Addr) (h0 : Heap) (n0 : Nat) (Z0 : n0 ≤ h0.size) (F_vehicleStates : Fld Z h0 a1 "com/example/istra/istra/model/Transfer" "vehicleStates" "[I" .null) (F_crossingS : Fld Z h0 a1 "com/example/istra/istra/model/Transfer" "crossingS" "[D" .null) (F_fluid : Fld Z h0 a1 "com/example/istra/istra/model/Transfer" "fluid" "[D" .null) (F_vehicles : Fld Z h0 a1 "com/example/istra/istra/model/Transfer" "vehicles" "I" (.int (0 : Int32))) (F_holdsFluid : Fld Z h0 a1 "com/example/istra/istra/model/Transfer" "holdsFluid" "Z" (.int (0 : Int32))) (E1 : Exa Z h0 a1 "com/example/istra/istra/model/Transfer") (ga : n0 ≤ a1) :
    MetFree l (⟨"com/example/istra/istra/model/Transfer", "<init>", "(I)V"⟩ : MethodName) (head1 (Jvm.Cond.code (⟨"com/example/istra/istra/model/Transfer", "<init>", "(I)V"⟩ : MethodName) prog_54_method_1_code 2 none :: ws) ({ frames := 1, cells := 3, slots := 8, locals := 12 } : Room)) (fun a U => a = #[(.ref a1), (.int (0 : Int32))] ∧ Z.Warmed39 U.vm ∧ U.heap = h0) (fun _ _ _ _ _ => True) (fun _ U o U' => ∃ v L, o = .returned v ∧ Q_ct0 Z a1 h0 n0 v U'.heap L ∧ FrameEnd U o U' L ({ frames := 1, cells := 3, slots := 8, locals := 12 } : Room).cells ({ frames := 1, cells := 3, slots := 8, locals := 12 } : Room).slots) := by
  refine MetFree.of_bodySF (plainFor_of_name pn_com_2fexample_2fistra_2fistra_2fmodel_2fTransfer) hisR ?_
  intro p e s m args below meth c s₁ Bd hml0 hP hK
  obtain ⟨rfl, hZ, hh⟩ := hP
  have hx := Bd.exec
  have hby := Bd.bytes
  have hml : c.maxLocals = 2 := hml0
  have hown : s.vm.findClass "com/example/istra/istra/model/Transfer" = some m.cls := findClass_of_methodNamed Bd.named
  have hnm := (name_of_methodNamed Bd.named Bd.method).1
  have X0 : Stand p l e ({ frames := 1, cells := 3, slots := 8, locals := 12 } : Room) s m #[(.ref a1), (.int (0 : Int32))] below meth c s₁ [] 0 0 := Stand.of_body Bd
  have e0 : s₁.heap = h0 := by rw [← hh, Bd.state]; rfl
  have N0 := Fr.nil n0
  have k0 : ∀ t, Steps p.tables e below (s₁.setTop (mkF m 0 #[.val (.ref a1), .val (.int (0 : Int32))] [])) t → Steps p.tables e below (s₁.setTop (entryFrame m #[(.ref a1), (.int (0 : Int32))] 2)) t := fun t k => castTop (ef_1_RI m a1 (0 : Int32)) k
  have K0 := Keep.refl h0 [a1]
  have k101 : ∀ t, Steps p.tables e below (s₁.setTop (mkF m 1 #[.val (.ref a1), .val (.int (0 : Int32))] [(.ref a1)])) t → Steps p.tables e below (s₁.setTop (entryFrame m #[(.ref a1), (.int (0 : Int32))] 2)) t := fun t k => k0 t (by
    show Steps p.tables e below (s₁.setTop (mkF m 0 #[.val (.ref a1), .val (.int (0 : Int32))] [])) _
    refine XS.aloadN X0.here hx rfl (hb hby d1_0) rfl rfl ?_
    exact k)
  obtain ⟨T102, X102, e102, st102⟩ := initO X0 hx hZ hown (hw _ (List.mem_of_getElem? (i := 7) rfl)) (hw _ (List.mem_of_getElem? (i := 8) rfl)) (hw _ (List.mem_of_getElem? (i := 9) rfl)) e0 (g := (mkF m 1 #[.val (.ref a1), .val (.int (0 : Int32))] [(.ref a1)])) rfl (by rw [hml]; rfl) rfl (hb hby d1_1) (by decide) (W := 0) (by show 2 * 0 + _ ≤ _; exact Nat.le_of_eq rfl) (by decide)
  have k103 : ∀ t, Steps p.tables e below (T102.setTop (mkF m 4 #[.val (.ref a1), .val (.int (0 : Int32))] [])) t → Steps p.tables e below (s₁.setTop (entryFrame m #[(.ref a1), (.int (0 : Int32))] 2)) t := fun t k => k101 t (st102 t k)
  have k104 : ∀ t, Steps p.tables e below (T102.setTop (mkF m 6 #[.val (.ref a1), .val (.int (0 : Int32))] [(.int (4 : Int32)), (.ref a1)])) t → Steps p.tables e below (s₁.setTop (entryFrame m #[(.ref a1), (.int (0 : Int32))] 2)) t := fun t k => k103 t (by
    show Steps p.tables e below (T102.setTop (mkF m 4 #[.val (.ref a1), .val (.int (0 : Int32))] [])) _
    refine XS.aloadN X102.here hx rfl (hb hby d1_4) rfl rfl ?_
    show Steps p.tables e below (T102.setTop (mkF m 5 #[.val (.ref a1), .val (.int (0 : Int32))] [(.ref a1)])) _
    refine XS.iconst X102.here hx rfl (hb hby d1_5) ?_
    exact k)
  obtain ⟨T105, h105, k105, X105, e105, E105, A105, st105⟩ := newP X102 hx hZ (hw _ (List.mem_of_getElem? (i := 10) rfl)) e102 (g := (mkF m 6 #[.val (.ref a1), .val (.int (0 : Int32))] [(.int (4 : Int32)), (.ref a1)])) rfl (hb hby d1_6) rfl (by decide) (cap := 4) (by decide) (by decide) (by decide) (by decide)
  obtain ⟨b105, g105⟩ : ∃ z, z = h0.size := ⟨_, rfl⟩
  rw [← g105] at A105 st105
  have n106 : a1 ≠ b105 := Nat.ne_of_lt (Nat.lt_of_lt_of_le F_vehicleStates.lt (Nat.le_of_eq g105.symm))
  have g107 : n0 ≤ b105 := Nat.le_trans Z0 (Nat.le_of_eq g105.symm)
  have z108 : h0.size ≤ b105 := Nat.le_trans K0.1 (Nat.le_of_eq g105.symm)
  have F109 := F_vehicleStates.ext E105
  have F110 := F_crossingS.ext E105
  have F111 := F_fluid.ext E105
  have F112 := F_vehicles.ext E105
  have F113 := F_holdsFluid.ext E105
  have F114 := E1.ext E105
  have Z115 : n0 ≤ h105.size := Nat.le_trans Z0 E105.1
  have K116 := K0.ext E105
  have V117 : Arv Z h105 b105 k105 .int (4 : Int32) [(.int (0 : Int32)), (.int (0 : Int32)), (.int (0 : Int32)), (.int (0 : Int32))] (.int (0 : Int32)) := (Arv.new A105 (by decide)).pad (pad_rep [] (.int (0 : Int32)) 4)
  have k118 : ∀ t, Steps p.tables e below (T105.setTop (mkF m 8 #[.val (.ref a1), .val (.int (0 : Int32))] [(.ref b105), (.ref a1)])) t → Steps p.tables e below (s₁.setTop (entryFrame m #[(.ref a1), (.int (0 : Int32))] 2)) t := fun t k => k104 t (st105 t k)
  obtain ⟨T119, h119, X119, e119, W119, st119⟩ := putF X105 hx hZ hown (host := "") (Or.inl (hw _ (List.mem_of_getElem? (i := 11) rfl))) Via.refl e105 F109 F114 (Or.inl (hw _ (List.mem_of_getElem? (i := 12) rfl))) (hw _ (List.mem_of_getElem? (i := 2) rfl)) (ty := (.array .int)) (by decide) rfl rfl (g := (mkF m 8 #[.val (.ref a1), .val (.int (0 : Int32))] [(.ref b105), (.ref a1)])) rfl rfl (hb hby d1_8)
  have F120 := F109.same W119
  have F121 := F110.other W119 (Or.inr (slot_ne (Or.inl (hw _ (List.mem_of_getElem? (i := 15) rfl))) (Or.inl (hw _ (List.mem_of_getElem? (i := 12) rfl))) (by decide) (t := (.array .double)) (t' := (.array .int)) (by decide) (by decide)))
  have F122 := F111.other W119 (Or.inr (slot_ne (Or.inr (hw _ (List.mem_of_getElem? (i := 17) rfl))) (Or.inl (hw _ (List.mem_of_getElem? (i := 12) rfl))) (by decide) (t := (.array .double)) (t' := (.array .int)) (by decide) (by decide)))
  have F123 := F112.other W119 (Or.inr (slot_ne (Or.inl (hw _ (List.mem_of_getElem? (i := 24) rfl))) (Or.inl (hw _ (List.mem_of_getElem? (i := 12) rfl))) (by decide) (t := .int) (t' := (.array .int)) (by decide) (by decide)))
  have F124 := F113.other W119 (Or.inr (slot_ne (Or.inl (hw _ (List.mem_of_getElem? (i := 38) rfl))) (Or.inl (hw _ (List.mem_of_getElem? (i := 12) rfl))) (by decide) (t := .boolean) (t' := (.array .int)) (by decide) (by decide)))
  have F125 := F114.wr W119
  have F126 := V117.other W119 (Ne.symm n106)
  have Z127 : n0 ≤ h119.size := Nat.le_trans Z115 (Nat.le_of_eq W119.size.symm)
  have N128 := Fr.snoc X119 N0 ga
  have K129 := K116.wr W119 (Or.inl (List.mem_of_getElem? (i := 0) rfl))
  have k130 : ∀ t, Steps p.tables e below (T119.setTop (mkF m 11 #[.val (.ref a1), .val (.int (0 : Int32))] [])) t → Steps p.tables e below (s₁.setTop (entryFrame m #[(.ref a1), (.int (0 : Int32))] 2)) t := fun t k => k118 t (st119 t k)
  have k131 : ∀ t, Steps p.tables e below (T119.setTop (mkF m 13 #[.val (.ref a1), .val (.int (0 : Int32))] [(.int (4 : Int32)), (.ref a1)])) t → Steps p.tables e below (s₁.setTop (entryFrame m #[(.ref a1), (.int (0 : Int32))] 2)) t := fun t k => k130 t (by
    show Steps p.tables e below (T119.setTop (mkF m 11 #[.val (.ref a1), .val (.int (0 : Int32))] [])) _
    refine XS.aloadN X119.here hx rfl (hb hby d1_11) rfl rfl ?_
    show Steps p.tables e below (T119.setTop (mkF m 12 #[.val (.ref a1), .val (.int (0 : Int32))] [(.ref a1)])) _
    refine XS.iconst X119.here hx rfl (hb hby d1_12) ?_
    exact k)
  obtain ⟨T132, h132, k132, X132, e132, E132, A132, st132⟩ := newP X119 hx hZ (hw _ (List.mem_of_getElem? (i := 13) rfl)) e119 (g := (mkF m 13 #[.val (.ref a1), .val (.int (0 : Int32))] [(.int (4 : Int32)), (.ref a1)])) rfl (hb hby d1_13) rfl (by decide) (cap := 4) (by decide) (by decide) (by decide) (by decide)
  obtain ⟨b132, g132⟩ : ∃ z, z = h119.size := ⟨_, rfl⟩
  rw [← g132] at A132 st132
  have n133 : a1 ≠ b132 := Nat.ne_of_lt (Nat.lt_of_lt_of_le F121.lt (Nat.le_of_eq g132.symm))
  have n134 : b105 ≠ b132 := Nat.ne_of_lt (Nat.lt_of_lt_of_le F126.lt (Nat.le_of_eq g132.symm))
  have g135 : n0 ≤ b132 := Nat.le_trans Z127 (Nat.le_of_eq g132.symm)
  have z136 : h0.size ≤ b132 := Nat.le_trans K129.1 (Nat.le_of_eq g132.symm)
  have F137 := F121.ext E132
  have F138 := F122.ext E132
  have F139 := F123.ext E132
  have F140 := F124.ext E132
  have F141 := F125.ext E132
  have F142 := F126.ext E132
  have F143 := F120.ext E132
  have Z144 : n0 ≤ h132.size := Nat.le_trans Z127 E132.1
  have K145 := K129.ext E132
  have V146 : Arv Z h132 b132 k132 .double (4 : Int32) [(.double (0 : UInt64)), (.double (0 : UInt64)), (.double (0 : UInt64)), (.double (0 : UInt64))] (.double (0 : UInt64)) := (Arv.new A132 (by decide)).pad (pad_rep [] (.double (0 : UInt64)) 4)
  have k147 : ∀ t, Steps p.tables e below (T132.setTop (mkF m 15 #[.val (.ref a1), .val (.int (0 : Int32))] [(.ref b132), (.ref a1)])) t → Steps p.tables e below (s₁.setTop (entryFrame m #[(.ref a1), (.int (0 : Int32))] 2)) t := fun t k => k131 t (st132 t k)
  obtain ⟨T148, h148, X148, e148, W148, st148⟩ := putF X132 hx hZ hown (host := "") (Or.inl (hw _ (List.mem_of_getElem? (i := 14) rfl))) Via.refl e132 F137 F141 (Or.inl (hw _ (List.mem_of_getElem? (i := 15) rfl))) (hw _ (List.mem_of_getElem? (i := 2) rfl)) (ty := (.array .double)) (by decide) rfl rfl (g := (mkF m 15 #[.val (.ref a1), .val (.int (0 : Int32))] [(.ref b132), (.ref a1)])) rfl rfl (hb hby d1_15)
  have F149 := F137.same W148
  have F150 := F138.other W148 (Or.inr (slot_ne (Or.inr (hw _ (List.mem_of_getElem? (i := 17) rfl))) (Or.inl (hw _ (List.mem_of_getElem? (i := 15) rfl))) (by decide) (t := (.array .double)) (t' := (.array .double)) (by decide) (by decide)))
  have F151 := F139.other W148 (Or.inr (slot_ne (Or.inl (hw _ (List.mem_of_getElem? (i := 24) rfl))) (Or.inl (hw _ (List.mem_of_getElem? (i := 15) rfl))) (by decide) (t := .int) (t' := (.array .double)) (by decide) (by decide)))
  have F152 := F140.other W148 (Or.inr (slot_ne (Or.inl (hw _ (List.mem_of_getElem? (i := 38) rfl))) (Or.inl (hw _ (List.mem_of_getElem? (i := 15) rfl))) (by decide) (t := .boolean) (t' := (.array .double)) (by decide) (by decide)))
  have F153 := F141.wr W148
  have F154 := F142.other W148 (Ne.symm n106)
  have F155 := F143.other W148 (Or.inr (slot_ne (Or.inl (hw _ (List.mem_of_getElem? (i := 12) rfl))) (Or.inl (hw _ (List.mem_of_getElem? (i := 15) rfl))) (by decide) (t := (.array .int)) (t' := (.array .double)) (by decide) (by decide)))
  have F156 := V146.other W148 (Ne.symm n133)
  have Z157 : n0 ≤ h148.size := Nat.le_trans Z144 (Nat.le_of_eq W148.size.symm)
  have N158 := Fr.snoc X148 N128 ga
  have K159 := K145.wr W148 (Or.inl (List.mem_of_getElem? (i := 0) rfl))
  have k160 : ∀ t, Steps p.tables e below (T148.setTop (mkF m 18 #[.val (.ref a1), .val (.int (0 : Int32))] [])) t → Steps p.tables e below (s₁.setTop (entryFrame m #[(.ref a1), (.int (0 : Int32))] 2)) t := fun t k => k147 t (st148 t k)
  have k161 : ∀ t, Steps p.tables e below (T148.setTop (mkF m 38 #[.val (.ref a1), .val (.int (0 : Int32))] [(.int (0 : Int32)), (.ref a1)])) t → Steps p.tables e below (s₁.setTop (entryFrame m #[(.ref a1), (.int (0 : Int32))] 2)) t := fun t k => k160 t (by
    show Steps p.tables e below (T148.setTop (mkF m 18 #[.val (.ref a1), .val (.int (0 : Int32))] [])) _
    refine XS.iloadN X148.here hx rfl (hb hby d1_18) rfl ?_
    show Steps p.tables e below (T148.setTop (mkF m 19 #[.val (.ref a1), .val (.int (0 : Int32))] [(.int (0 : Int32))])) _
    refine XS.ifYes X148.here hx rfl (pc0 := 19) (pc' := 36) rfl (hb hby d1_19) rfl ((if0 _ _).trans (flt (by decide)).2.1) (by decide) (by decide) ?_
    show Steps p.tables e below (T148.setTop (mkF m 36 #[.val (.ref a1), .val (.int (0 : Int32))] [])) _
    refine XS.aloadN X148.here hx rfl (hb hby d1_36) rfl rfl ?_
    show Steps p.tables e below (T148.setTop (mkF m 37 #[.val (.ref a1), .val (.int (0 : Int32))] [(.ref a1)])) _
    refine XS.iloadN X148.here hx rfl (hb hby d1_37) rfl ?_
    exact k)
  obtain ⟨T162, h162, k162, X162, e162, E162, A162, st162⟩ := newP X148 hx hZ (hw _ (List.mem_of_getElem? (i := 13) rfl)) e148 (g := (mkF m 38 #[.val (.ref a1), .val (.int (0 : Int32))] [(.int (0 : Int32)), (.ref a1)])) rfl (hb hby d1_38) rfl (by decide) (cap := 0) (by decide) (by decide) (by decide) (by decide)
  obtain ⟨b162, g162⟩ : ∃ z, z = h148.size := ⟨_, rfl⟩
  rw [← g162] at A162 st162
  have n163 : a1 ≠ b162 := Nat.ne_of_lt (Nat.lt_of_lt_of_le F150.lt (Nat.le_of_eq g162.symm))
  have n164 : b105 ≠ b162 := Nat.ne_of_lt (Nat.lt_of_lt_of_le F154.lt (Nat.le_of_eq g162.symm))
  have n165 : b132 ≠ b162 := Nat.ne_of_lt (Nat.lt_of_lt_of_le F156.lt (Nat.le_of_eq g162.symm))
  have g166 : n0 ≤ b162 := Nat.le_trans Z157 (Nat.le_of_eq g162.symm)
  have z167 : h0.size ≤ b162 := Nat.le_trans K159.1 (Nat.le_of_eq g162.symm)
  have F168 := F150.ext E162
  have F169 := F151.ext E162
  have F170 := F152.ext E162
  have F171 := F153.ext E162
  have F172 := F154.ext E162
  have F173 := F155.ext E162
  have F174 := F156.ext E162
  have F175 := F149.ext E162
  have Z176 : n0 ≤ h162.size := Nat.le_trans Z157 E162.1
  have K177 := K159.ext E162
  have V178 : Arv Z h162 b162 k162 .double (0 : Int32) [] (.double (0 : UInt64)) := (Arv.new A162 (by decide)).pad (pad_rep [] (.double (0 : UInt64)) 0)
  have k179 : ∀ t, Steps p.tables e below (T162.setTop (mkF m 40 #[.val (.ref a1), .val (.int (0 : Int32))] [(.ref b162), (.ref a1)])) t → Steps p.tables e below (s₁.setTop (entryFrame m #[(.ref a1), (.int (0 : Int32))] 2)) t := fun t k => k161 t (st162 t k)
  obtain ⟨T180, h180, X180, e180, W180, st180⟩ := putF X162 hx hZ hown (host := "") (Or.inl (hw _ (List.mem_of_getElem? (i := 16) rfl))) Via.refl e162 F168 F171 (Or.inr ⟨(hw _ (List.mem_of_getElem? (i := 17) rfl)), rfl, hnm⟩) (hw _ (List.mem_of_getElem? (i := 2) rfl)) (ty := (.array .double)) (by decide) rfl rfl (g := (mkF m 40 #[.val (.ref a1), .val (.int (0 : Int32))] [(.ref b162), (.ref a1)])) rfl rfl (hb hby d1_40)
  have F181 := F168.same W180
  have F182 := F169.other W180 (Or.inr (slot_ne (Or.inl (hw _ (List.mem_of_getElem? (i := 24) rfl))) (Or.inr (hw _ (List.mem_of_getElem? (i := 17) rfl))) (by decide) (t := .int) (t' := (.array .double)) (by decide) (by decide)))
  have F183 := F170.other W180 (Or.inr (slot_ne (Or.inl (hw _ (List.mem_of_getElem? (i := 38) rfl))) (Or.inr (hw _ (List.mem_of_getElem? (i := 17) rfl))) (by decide) (t := .boolean) (t' := (.array .double)) (by decide) (by decide)))
  have F184 := F171.wr W180
  have F185 := F172.other W180 (Ne.symm n106)
  have F186 := F173.other W180 (Or.inr (slot_ne (Or.inl (hw _ (List.mem_of_getElem? (i := 12) rfl))) (Or.inr (hw _ (List.mem_of_getElem? (i := 17) rfl))) (by decide) (t := (.array .int)) (t' := (.array .double)) (by decide) (by decide)))
  have F187 := F174.other W180 (Ne.symm n133)
  have F188 := F175.other W180 (Or.inr (slot_ne (Or.inl (hw _ (List.mem_of_getElem? (i := 15) rfl))) (Or.inr (hw _ (List.mem_of_getElem? (i := 17) rfl))) (by decide) (t := (.array .double)) (t' := (.array .double)) (by decide) (by decide)))
  have F189 := V178.other W180 (Ne.symm n163)
  have Z190 : n0 ≤ h180.size := Nat.le_trans Z176 (Nat.le_of_eq W180.size.symm)
  have N191 := Fr.snoc X180 N158 ga
  have K192 := K177.wr W180 (Or.inl (List.mem_of_getElem? (i := 0) rfl))
  have k193 : ∀ t, Steps p.tables e below (T180.setTop (mkF m 43 #[.val (.ref a1), .val (.int (0 : Int32))] [])) t → Steps p.tables e below (s₁.setTop (entryFrame m #[(.ref a1), (.int (0 : Int32))] 2)) t := fun t k => k179 t (st180 t k)
  obtain ⟨fs, hr, hrun, hended, hW, hsame⟩ := X180.leave (v := none) (fun _ => rfl)
  refine ⟨_, _, k193 _ (X180.returnOut hx Bd.returns (hb hby d1_43) hr), hrun, hended, _, _, rfl, ?_, ⟨_, rfl⟩, hW, hsame.mono (by decide) (by decide)⟩
  show Q_ct0 Z a1 h0 n0 _ T180.heap _
  rw [e180]
  exact ⟨b105, b132, b162, k105, k132, k162, rfl, N191, K192, g107, g135, g166, n106, n133, n163, n134, n164, n165, F184, F186, F188, F181, F182, F183, F185, F187, F189⟩
def Q_ct1 (Z : State) (a1 : Addr) (h0 : Heap) (n0 : Nat) (v : Option Value) (h : Heap) (L : List Loc) : Prop := ∃ (b1 b2 b3 : Addr) (k1 k2 k3 : ClassId), v = none ∧ Fr n0 L ∧ Keep h0 h [a1] ∧ n0 ≤ b1 ∧ n0 ≤ b2 ∧ n0 ≤ b3 ∧ a1 ≠ b1 ∧ a1 ≠ b2 ∧ a1 ≠ b3 ∧ b1 ≠ b2 ∧ b1 ≠ b3 ∧ b2 ≠ b3 ∧ Exa Z h a1 "com/example/istra/istra/model/Transfer" ∧ Fld Z h a1 "com/example/istra/istra/model/Transfer" "vehicleStates" "[I" (.ref b1) ∧ Fld Z h a1 "com/example/istra/istra/model/Transfer" "crossingS" "[D" (.ref b2) ∧ Fld Z h a1 "com/example/istra/istra/model/Transfer" "fluid" "[D" (.ref b3) ∧ Fld Z h a1 "com/example/istra/istra/model/Transfer" "vehicles" "I" (.int (0 : Int32)) ∧ Fld Z h a1 "com/example/istra/istra/model/Transfer" "holdsFluid" "Z" (.int (0 : Int32)) ∧ Arv Z h b1 k1 .int (4 : Int32) [(.int (0 : Int32)), (.int (0 : Int32)), (.int (0 : Int32)), (.int (0 : Int32))] (.int (0 : Int32)) ∧ Arv Z h b2 k2 .double (4 : Int32) [(.double (0 : UInt64)), (.double (0 : UInt64)), (.double (0 : UInt64)), (.double (0 : UInt64))] (.double (0 : UInt64)) ∧ Arv Z h b3 k3 .double (1 : Int32) [(.double (0 : UInt64))] (.double (0 : UInt64))
set_option maxRecDepth 65536 in
set_option maxHeartbeats 40000000 in
theorem ct1 (l : Launch) (Z : State) (a0 : Array Value) (hw : ∀ d ∈ tables_1, d.before a0 Z = true) (ws : List Jvm.Cond) (a1 : Addr) (h0 : Heap) (n0 : Nat) (Z0 : n0 ≤ h0.size) (F_vehicleStates : Fld Z h0 a1 "com/example/istra/istra/model/Transfer" "vehicleStates" "[I" .null) (F_crossingS : Fld Z h0 a1 "com/example/istra/istra/model/Transfer" "crossingS" "[D" .null) (F_fluid : Fld Z h0 a1 "com/example/istra/istra/model/Transfer" "fluid" "[D" .null) (F_vehicles : Fld Z h0 a1 "com/example/istra/istra/model/Transfer" "vehicles" "I" (.int (0 : Int32))) (F_holdsFluid : Fld Z h0 a1 "com/example/istra/istra/model/Transfer" "holdsFluid" "Z" (.int (0 : Int32))) (E1 : Exa Z h0 a1 "com/example/istra/istra/model/Transfer") (ga : n0 ≤ a1) :
    MetFree l (⟨"com/example/istra/istra/model/Transfer", "<init>", "(I)V"⟩ : MethodName) (head1 (Jvm.Cond.code (⟨"com/example/istra/istra/model/Transfer", "<init>", "(I)V"⟩ : MethodName) prog_54_method_1_code 2 none :: ws) ({ frames := 1, cells := 3, slots := 9, locals := 12 } : Room)) (fun a U => a = #[(.ref a1), (.int (1 : Int32))] ∧ Z.Warmed39 U.vm ∧ U.heap = h0) (fun _ _ _ _ _ => True) (fun _ U o U' => ∃ v L, o = .returned v ∧ Q_ct1 Z a1 h0 n0 v U'.heap L ∧ FrameEnd U o U' L ({ frames := 1, cells := 3, slots := 9, locals := 12 } : Room).cells ({ frames := 1, cells := 3, slots := 9, locals := 12 } : Room).slots) := by
  refine MetFree.of_bodySF (plainFor_of_name pn_com_2fexample_2fistra_2fistra_2fmodel_2fTransfer) hisR ?_
  intro p e s m args below meth c s₁ Bd hml0 hP hK
  obtain ⟨rfl, hZ, hh⟩ := hP
  have hx := Bd.exec
  have hby := Bd.bytes
  have hml : c.maxLocals = 2 := hml0
  have hown : s.vm.findClass "com/example/istra/istra/model/Transfer" = some m.cls := findClass_of_methodNamed Bd.named
  have hnm := (name_of_methodNamed Bd.named Bd.method).1
  have X0 : Stand p l e ({ frames := 1, cells := 3, slots := 9, locals := 12 } : Room) s m #[(.ref a1), (.int (1 : Int32))] below meth c s₁ [] 0 0 := Stand.of_body Bd
  have e0 : s₁.heap = h0 := by rw [← hh, Bd.state]; rfl
  have N0 := Fr.nil n0
  have k0 : ∀ t, Steps p.tables e below (s₁.setTop (mkF m 0 #[.val (.ref a1), .val (.int (1 : Int32))] [])) t → Steps p.tables e below (s₁.setTop (entryFrame m #[(.ref a1), (.int (1 : Int32))] 2)) t := fun t k => castTop (ef_1_RI m a1 (1 : Int32)) k
  have K0 := Keep.refl h0 [a1]
  have k101 : ∀ t, Steps p.tables e below (s₁.setTop (mkF m 1 #[.val (.ref a1), .val (.int (1 : Int32))] [(.ref a1)])) t → Steps p.tables e below (s₁.setTop (entryFrame m #[(.ref a1), (.int (1 : Int32))] 2)) t := fun t k => k0 t (by
    show Steps p.tables e below (s₁.setTop (mkF m 0 #[.val (.ref a1), .val (.int (1 : Int32))] [])) _
    refine XS.aloadN X0.here hx rfl (hb hby d1_0) rfl rfl ?_
    exact k)
  obtain ⟨T102, X102, e102, st102⟩ := initO X0 hx hZ hown (hw _ (List.mem_of_getElem? (i := 7) rfl)) (hw _ (List.mem_of_getElem? (i := 8) rfl)) (hw _ (List.mem_of_getElem? (i := 9) rfl)) e0 (g := (mkF m 1 #[.val (.ref a1), .val (.int (1 : Int32))] [(.ref a1)])) rfl (by rw [hml]; rfl) rfl (hb hby d1_1) (by decide) (W := 0) (by show 2 * 0 + _ ≤ _; exact Nat.le_of_eq rfl) (by decide)
  have k103 : ∀ t, Steps p.tables e below (T102.setTop (mkF m 4 #[.val (.ref a1), .val (.int (1 : Int32))] [])) t → Steps p.tables e below (s₁.setTop (entryFrame m #[(.ref a1), (.int (1 : Int32))] 2)) t := fun t k => k101 t (st102 t k)
  have k104 : ∀ t, Steps p.tables e below (T102.setTop (mkF m 6 #[.val (.ref a1), .val (.int (1 : Int32))] [(.int (4 : Int32)), (.ref a1)])) t → Steps p.tables e below (s₁.setTop (entryFrame m #[(.ref a1), (.int (1 : Int32))] 2)) t := fun t k => k103 t (by
    show Steps p.tables e below (T102.setTop (mkF m 4 #[.val (.ref a1), .val (.int (1 : Int32))] [])) _
    refine XS.aloadN X102.here hx rfl (hb hby d1_4) rfl rfl ?_
    show Steps p.tables e below (T102.setTop (mkF m 5 #[.val (.ref a1), .val (.int (1 : Int32))] [(.ref a1)])) _
    refine XS.iconst X102.here hx rfl (hb hby d1_5) ?_
    exact k)
  obtain ⟨T105, h105, k105, X105, e105, E105, A105, st105⟩ := newP X102 hx hZ (hw _ (List.mem_of_getElem? (i := 10) rfl)) e102 (g := (mkF m 6 #[.val (.ref a1), .val (.int (1 : Int32))] [(.int (4 : Int32)), (.ref a1)])) rfl (hb hby d1_6) rfl (by decide) (cap := 4) (by decide) (by decide) (by decide) (by decide)
  obtain ⟨b105, g105⟩ : ∃ z, z = h0.size := ⟨_, rfl⟩
  rw [← g105] at A105 st105
  have n106 : a1 ≠ b105 := Nat.ne_of_lt (Nat.lt_of_lt_of_le F_vehicleStates.lt (Nat.le_of_eq g105.symm))
  have g107 : n0 ≤ b105 := Nat.le_trans Z0 (Nat.le_of_eq g105.symm)
  have z108 : h0.size ≤ b105 := Nat.le_trans K0.1 (Nat.le_of_eq g105.symm)
  have F109 := F_vehicleStates.ext E105
  have F110 := F_crossingS.ext E105
  have F111 := F_fluid.ext E105
  have F112 := F_vehicles.ext E105
  have F113 := F_holdsFluid.ext E105
  have F114 := E1.ext E105
  have Z115 : n0 ≤ h105.size := Nat.le_trans Z0 E105.1
  have K116 := K0.ext E105
  have V117 : Arv Z h105 b105 k105 .int (4 : Int32) [(.int (0 : Int32)), (.int (0 : Int32)), (.int (0 : Int32)), (.int (0 : Int32))] (.int (0 : Int32)) := (Arv.new A105 (by decide)).pad (pad_rep [] (.int (0 : Int32)) 4)
  have k118 : ∀ t, Steps p.tables e below (T105.setTop (mkF m 8 #[.val (.ref a1), .val (.int (1 : Int32))] [(.ref b105), (.ref a1)])) t → Steps p.tables e below (s₁.setTop (entryFrame m #[(.ref a1), (.int (1 : Int32))] 2)) t := fun t k => k104 t (st105 t k)
  obtain ⟨T119, h119, X119, e119, W119, st119⟩ := putF X105 hx hZ hown (host := "") (Or.inl (hw _ (List.mem_of_getElem? (i := 11) rfl))) Via.refl e105 F109 F114 (Or.inl (hw _ (List.mem_of_getElem? (i := 12) rfl))) (hw _ (List.mem_of_getElem? (i := 2) rfl)) (ty := (.array .int)) (by decide) rfl rfl (g := (mkF m 8 #[.val (.ref a1), .val (.int (1 : Int32))] [(.ref b105), (.ref a1)])) rfl rfl (hb hby d1_8)
  have F120 := F109.same W119
  have F121 := F110.other W119 (Or.inr (slot_ne (Or.inl (hw _ (List.mem_of_getElem? (i := 15) rfl))) (Or.inl (hw _ (List.mem_of_getElem? (i := 12) rfl))) (by decide) (t := (.array .double)) (t' := (.array .int)) (by decide) (by decide)))
  have F122 := F111.other W119 (Or.inr (slot_ne (Or.inr (hw _ (List.mem_of_getElem? (i := 17) rfl))) (Or.inl (hw _ (List.mem_of_getElem? (i := 12) rfl))) (by decide) (t := (.array .double)) (t' := (.array .int)) (by decide) (by decide)))
  have F123 := F112.other W119 (Or.inr (slot_ne (Or.inl (hw _ (List.mem_of_getElem? (i := 24) rfl))) (Or.inl (hw _ (List.mem_of_getElem? (i := 12) rfl))) (by decide) (t := .int) (t' := (.array .int)) (by decide) (by decide)))
  have F124 := F113.other W119 (Or.inr (slot_ne (Or.inl (hw _ (List.mem_of_getElem? (i := 38) rfl))) (Or.inl (hw _ (List.mem_of_getElem? (i := 12) rfl))) (by decide) (t := .boolean) (t' := (.array .int)) (by decide) (by decide)))
  have F125 := F114.wr W119
  have F126 := V117.other W119 (Ne.symm n106)
  have Z127 : n0 ≤ h119.size := Nat.le_trans Z115 (Nat.le_of_eq W119.size.symm)
  have N128 := Fr.snoc X119 N0 ga
  have K129 := K116.wr W119 (Or.inl (List.mem_of_getElem? (i := 0) rfl))
  have k130 : ∀ t, Steps p.tables e below (T119.setTop (mkF m 11 #[.val (.ref a1), .val (.int (1 : Int32))] [])) t → Steps p.tables e below (s₁.setTop (entryFrame m #[(.ref a1), (.int (1 : Int32))] 2)) t := fun t k => k118 t (st119 t k)
  have k131 : ∀ t, Steps p.tables e below (T119.setTop (mkF m 13 #[.val (.ref a1), .val (.int (1 : Int32))] [(.int (4 : Int32)), (.ref a1)])) t → Steps p.tables e below (s₁.setTop (entryFrame m #[(.ref a1), (.int (1 : Int32))] 2)) t := fun t k => k130 t (by
    show Steps p.tables e below (T119.setTop (mkF m 11 #[.val (.ref a1), .val (.int (1 : Int32))] [])) _
    refine XS.aloadN X119.here hx rfl (hb hby d1_11) rfl rfl ?_
    show Steps p.tables e below (T119.setTop (mkF m 12 #[.val (.ref a1), .val (.int (1 : Int32))] [(.ref a1)])) _
    refine XS.iconst X119.here hx rfl (hb hby d1_12) ?_
    exact k)
  obtain ⟨T132, h132, k132, X132, e132, E132, A132, st132⟩ := newP X119 hx hZ (hw _ (List.mem_of_getElem? (i := 13) rfl)) e119 (g := (mkF m 13 #[.val (.ref a1), .val (.int (1 : Int32))] [(.int (4 : Int32)), (.ref a1)])) rfl (hb hby d1_13) rfl (by decide) (cap := 4) (by decide) (by decide) (by decide) (by decide)
  obtain ⟨b132, g132⟩ : ∃ z, z = h119.size := ⟨_, rfl⟩
  rw [← g132] at A132 st132
  have n133 : a1 ≠ b132 := Nat.ne_of_lt (Nat.lt_of_lt_of_le F121.lt (Nat.le_of_eq g132.symm))
  have n134 : b105 ≠ b132 := Nat.ne_of_lt (Nat.lt_of_lt_of_le F126.lt (Nat.le_of_eq g132.symm))
  have g135 : n0 ≤ b132 := Nat.le_trans Z127 (Nat.le_of_eq g132.symm)
  have z136 : h0.size ≤ b132 := Nat.le_trans K129.1 (Nat.le_of_eq g132.symm)
  have F137 := F121.ext E132
  have F138 := F122.ext E132
  have F139 := F123.ext E132
  have F140 := F124.ext E132
  have F141 := F125.ext E132
  have F142 := F126.ext E132
  have F143 := F120.ext E132
  have Z144 : n0 ≤ h132.size := Nat.le_trans Z127 E132.1
  have K145 := K129.ext E132
  have V146 : Arv Z h132 b132 k132 .double (4 : Int32) [(.double (0 : UInt64)), (.double (0 : UInt64)), (.double (0 : UInt64)), (.double (0 : UInt64))] (.double (0 : UInt64)) := (Arv.new A132 (by decide)).pad (pad_rep [] (.double (0 : UInt64)) 4)
  have k147 : ∀ t, Steps p.tables e below (T132.setTop (mkF m 15 #[.val (.ref a1), .val (.int (1 : Int32))] [(.ref b132), (.ref a1)])) t → Steps p.tables e below (s₁.setTop (entryFrame m #[(.ref a1), (.int (1 : Int32))] 2)) t := fun t k => k131 t (st132 t k)
  obtain ⟨T148, h148, X148, e148, W148, st148⟩ := putF X132 hx hZ hown (host := "") (Or.inl (hw _ (List.mem_of_getElem? (i := 14) rfl))) Via.refl e132 F137 F141 (Or.inl (hw _ (List.mem_of_getElem? (i := 15) rfl))) (hw _ (List.mem_of_getElem? (i := 2) rfl)) (ty := (.array .double)) (by decide) rfl rfl (g := (mkF m 15 #[.val (.ref a1), .val (.int (1 : Int32))] [(.ref b132), (.ref a1)])) rfl rfl (hb hby d1_15)
  have F149 := F137.same W148
  have F150 := F138.other W148 (Or.inr (slot_ne (Or.inr (hw _ (List.mem_of_getElem? (i := 17) rfl))) (Or.inl (hw _ (List.mem_of_getElem? (i := 15) rfl))) (by decide) (t := (.array .double)) (t' := (.array .double)) (by decide) (by decide)))
  have F151 := F139.other W148 (Or.inr (slot_ne (Or.inl (hw _ (List.mem_of_getElem? (i := 24) rfl))) (Or.inl (hw _ (List.mem_of_getElem? (i := 15) rfl))) (by decide) (t := .int) (t' := (.array .double)) (by decide) (by decide)))
  have F152 := F140.other W148 (Or.inr (slot_ne (Or.inl (hw _ (List.mem_of_getElem? (i := 38) rfl))) (Or.inl (hw _ (List.mem_of_getElem? (i := 15) rfl))) (by decide) (t := .boolean) (t' := (.array .double)) (by decide) (by decide)))
  have F153 := F141.wr W148
  have F154 := F142.other W148 (Ne.symm n106)
  have F155 := F143.other W148 (Or.inr (slot_ne (Or.inl (hw _ (List.mem_of_getElem? (i := 12) rfl))) (Or.inl (hw _ (List.mem_of_getElem? (i := 15) rfl))) (by decide) (t := (.array .int)) (t' := (.array .double)) (by decide) (by decide)))
  have F156 := V146.other W148 (Ne.symm n133)
  have Z157 : n0 ≤ h148.size := Nat.le_trans Z144 (Nat.le_of_eq W148.size.symm)
  have N158 := Fr.snoc X148 N128 ga
  have K159 := K145.wr W148 (Or.inl (List.mem_of_getElem? (i := 0) rfl))
  have k160 : ∀ t, Steps p.tables e below (T148.setTop (mkF m 18 #[.val (.ref a1), .val (.int (1 : Int32))] [])) t → Steps p.tables e below (s₁.setTop (entryFrame m #[(.ref a1), (.int (1 : Int32))] 2)) t := fun t k => k147 t (st148 t k)
  have k161 : ∀ t, Steps p.tables e below (T148.setTop (mkF m 38 #[.val (.ref a1), .val (.int (1 : Int32))] [(.int (1 : Int32)), (.ref a1)])) t → Steps p.tables e below (s₁.setTop (entryFrame m #[(.ref a1), (.int (1 : Int32))] 2)) t := fun t k => k160 t (by
    show Steps p.tables e below (T148.setTop (mkF m 18 #[.val (.ref a1), .val (.int (1 : Int32))] [])) _
    refine XS.iloadN X148.here hx rfl (hb hby d1_18) rfl ?_
    show Steps p.tables e below (T148.setTop (mkF m 19 #[.val (.ref a1), .val (.int (1 : Int32))] [(.int (1 : Int32))])) _
    refine XS.ifYes X148.here hx rfl (pc0 := 19) (pc' := 36) rfl (hb hby d1_19) rfl ((if0 _ _).trans (flt (by decide)).2.1) (by decide) (by decide) ?_
    show Steps p.tables e below (T148.setTop (mkF m 36 #[.val (.ref a1), .val (.int (1 : Int32))] [])) _
    refine XS.aloadN X148.here hx rfl (hb hby d1_36) rfl rfl ?_
    show Steps p.tables e below (T148.setTop (mkF m 37 #[.val (.ref a1), .val (.int (1 : Int32))] [(.ref a1)])) _
    refine XS.iloadN X148.here hx rfl (hb hby d1_37) rfl ?_
    exact k)
  obtain ⟨T162, h162, k162, X162, e162, E162, A162, st162⟩ := newP X148 hx hZ (hw _ (List.mem_of_getElem? (i := 13) rfl)) e148 (g := (mkF m 38 #[.val (.ref a1), .val (.int (1 : Int32))] [(.int (1 : Int32)), (.ref a1)])) rfl (hb hby d1_38) rfl (by decide) (cap := 1) (by decide) (by decide) (by decide) (by decide)
  obtain ⟨b162, g162⟩ : ∃ z, z = h148.size := ⟨_, rfl⟩
  rw [← g162] at A162 st162
  have n163 : a1 ≠ b162 := Nat.ne_of_lt (Nat.lt_of_lt_of_le F150.lt (Nat.le_of_eq g162.symm))
  have n164 : b105 ≠ b162 := Nat.ne_of_lt (Nat.lt_of_lt_of_le F154.lt (Nat.le_of_eq g162.symm))
  have n165 : b132 ≠ b162 := Nat.ne_of_lt (Nat.lt_of_lt_of_le F156.lt (Nat.le_of_eq g162.symm))
  have g166 : n0 ≤ b162 := Nat.le_trans Z157 (Nat.le_of_eq g162.symm)
  have z167 : h0.size ≤ b162 := Nat.le_trans K159.1 (Nat.le_of_eq g162.symm)
  have F168 := F150.ext E162
  have F169 := F151.ext E162
  have F170 := F152.ext E162
  have F171 := F153.ext E162
  have F172 := F154.ext E162
  have F173 := F155.ext E162
  have F174 := F156.ext E162
  have F175 := F149.ext E162
  have Z176 : n0 ≤ h162.size := Nat.le_trans Z157 E162.1
  have K177 := K159.ext E162
  have V178 : Arv Z h162 b162 k162 .double (1 : Int32) [(.double (0 : UInt64))] (.double (0 : UInt64)) := (Arv.new A162 (by decide)).pad (pad_rep [] (.double (0 : UInt64)) 1)
  have k179 : ∀ t, Steps p.tables e below (T162.setTop (mkF m 40 #[.val (.ref a1), .val (.int (1 : Int32))] [(.ref b162), (.ref a1)])) t → Steps p.tables e below (s₁.setTop (entryFrame m #[(.ref a1), (.int (1 : Int32))] 2)) t := fun t k => k161 t (st162 t k)
  obtain ⟨T180, h180, X180, e180, W180, st180⟩ := putF X162 hx hZ hown (host := "") (Or.inl (hw _ (List.mem_of_getElem? (i := 16) rfl))) Via.refl e162 F168 F171 (Or.inr ⟨(hw _ (List.mem_of_getElem? (i := 17) rfl)), rfl, hnm⟩) (hw _ (List.mem_of_getElem? (i := 2) rfl)) (ty := (.array .double)) (by decide) rfl rfl (g := (mkF m 40 #[.val (.ref a1), .val (.int (1 : Int32))] [(.ref b162), (.ref a1)])) rfl rfl (hb hby d1_40)
  have F181 := F168.same W180
  have F182 := F169.other W180 (Or.inr (slot_ne (Or.inl (hw _ (List.mem_of_getElem? (i := 24) rfl))) (Or.inr (hw _ (List.mem_of_getElem? (i := 17) rfl))) (by decide) (t := .int) (t' := (.array .double)) (by decide) (by decide)))
  have F183 := F170.other W180 (Or.inr (slot_ne (Or.inl (hw _ (List.mem_of_getElem? (i := 38) rfl))) (Or.inr (hw _ (List.mem_of_getElem? (i := 17) rfl))) (by decide) (t := .boolean) (t' := (.array .double)) (by decide) (by decide)))
  have F184 := F171.wr W180
  have F185 := F172.other W180 (Ne.symm n106)
  have F186 := F173.other W180 (Or.inr (slot_ne (Or.inl (hw _ (List.mem_of_getElem? (i := 12) rfl))) (Or.inr (hw _ (List.mem_of_getElem? (i := 17) rfl))) (by decide) (t := (.array .int)) (t' := (.array .double)) (by decide) (by decide)))
  have F187 := F174.other W180 (Ne.symm n133)
  have F188 := F175.other W180 (Or.inr (slot_ne (Or.inl (hw _ (List.mem_of_getElem? (i := 15) rfl))) (Or.inr (hw _ (List.mem_of_getElem? (i := 17) rfl))) (by decide) (t := (.array .double)) (t' := (.array .double)) (by decide) (by decide)))
  have F189 := V178.other W180 (Ne.symm n163)
  have Z190 : n0 ≤ h180.size := Nat.le_trans Z176 (Nat.le_of_eq W180.size.symm)
  have N191 := Fr.snoc X180 N158 ga
  have K192 := K177.wr W180 (Or.inl (List.mem_of_getElem? (i := 0) rfl))
  have k193 : ∀ t, Steps p.tables e below (T180.setTop (mkF m 43 #[.val (.ref a1), .val (.int (1 : Int32))] [])) t → Steps p.tables e below (s₁.setTop (entryFrame m #[(.ref a1), (.int (1 : Int32))] 2)) t := fun t k => k179 t (st180 t k)
  obtain ⟨fs, hr, hrun, hended, hW, hsame⟩ := X180.leave (v := none) (fun _ => rfl)
  refine ⟨_, _, k193 _ (X180.returnOut hx Bd.returns (hb hby d1_43) hr), hrun, hended, _, _, rfl, ?_, ⟨_, rfl⟩, hW, hsame.mono (by decide) (by decide)⟩
  show Q_ct1 Z a1 h0 n0 _ T180.heap _
  rw [e180]
  exact ⟨b105, b132, b162, k105, k132, k162, rfl, N191, K192, g107, g135, g166, n106, n133, n163, n134, n164, n165, F184, F186, F188, F181, F182, F183, F185, F187, F189⟩
def Q_ct2 (Z : State) (a1 : Addr) (h0 : Heap) (n0 : Nat) (v : Option Value) (h : Heap) (L : List Loc) : Prop := ∃ (b1 b2 b3 : Addr) (k1 k2 k3 : ClassId), v = none ∧ Fr n0 L ∧ Keep h0 h [a1] ∧ n0 ≤ b1 ∧ n0 ≤ b2 ∧ n0 ≤ b3 ∧ a1 ≠ b1 ∧ a1 ≠ b2 ∧ a1 ≠ b3 ∧ b1 ≠ b2 ∧ b1 ≠ b3 ∧ b2 ≠ b3 ∧ Exa Z h a1 "com/example/istra/istra/model/Transfer" ∧ Fld Z h a1 "com/example/istra/istra/model/Transfer" "vehicleStates" "[I" (.ref b1) ∧ Fld Z h a1 "com/example/istra/istra/model/Transfer" "crossingS" "[D" (.ref b2) ∧ Fld Z h a1 "com/example/istra/istra/model/Transfer" "fluid" "[D" (.ref b3) ∧ Fld Z h a1 "com/example/istra/istra/model/Transfer" "vehicles" "I" (.int (0 : Int32)) ∧ Fld Z h a1 "com/example/istra/istra/model/Transfer" "holdsFluid" "Z" (.int (0 : Int32)) ∧ Arv Z h b1 k1 .int (4 : Int32) [(.int (0 : Int32)), (.int (0 : Int32)), (.int (0 : Int32)), (.int (0 : Int32))] (.int (0 : Int32)) ∧ Arv Z h b2 k2 .double (4 : Int32) [(.double (0 : UInt64)), (.double (0 : UInt64)), (.double (0 : UInt64)), (.double (0 : UInt64))] (.double (0 : UInt64)) ∧ Arv Z h b3 k3 .double (2 : Int32) [(.double (0 : UInt64)), (.double (0 : UInt64))] (.double (0 : UInt64))
set_option maxRecDepth 65536 in
set_option maxHeartbeats 40000000 in
theorem ct2 (l : Launch) (Z : State) (a0 : Array Value) (hw : ∀ d ∈ tables_1, d.before a0 Z = true) (ws : List Jvm.Cond) (a1 : Addr) (h0 : Heap) (n0 : Nat) (Z0 : n0 ≤ h0.size) (F_vehicleStates : Fld Z h0 a1 "com/example/istra/istra/model/Transfer" "vehicleStates" "[I" .null) (F_crossingS : Fld Z h0 a1 "com/example/istra/istra/model/Transfer" "crossingS" "[D" .null) (F_fluid : Fld Z h0 a1 "com/example/istra/istra/model/Transfer" "fluid" "[D" .null) (F_vehicles : Fld Z h0 a1 "com/example/istra/istra/model/Transfer" "vehicles" "I" (.int (0 : Int32))) (F_holdsFluid : Fld Z h0 a1 "com/example/istra/istra/model/Transfer" "holdsFluid" "Z" (.int (0 : Int32))) (E1 : Exa Z h0 a1 "com/example/istra/istra/model/Transfer") (ga : n0 ≤ a1) :
    MetFree l (⟨"com/example/istra/istra/model/Transfer", "<init>", "(I)V"⟩ : MethodName) (head1 (Jvm.Cond.code (⟨"com/example/istra/istra/model/Transfer", "<init>", "(I)V"⟩ : MethodName) prog_54_method_1_code 2 none :: ws) ({ frames := 1, cells := 3, slots := 10, locals := 12 } : Room)) (fun a U => a = #[(.ref a1), (.int (2 : Int32))] ∧ Z.Warmed39 U.vm ∧ U.heap = h0) (fun _ _ _ _ _ => True) (fun _ U o U' => ∃ v L, o = .returned v ∧ Q_ct2 Z a1 h0 n0 v U'.heap L ∧ FrameEnd U o U' L ({ frames := 1, cells := 3, slots := 10, locals := 12 } : Room).cells ({ frames := 1, cells := 3, slots := 10, locals := 12 } : Room).slots) := by
  refine MetFree.of_bodySF (plainFor_of_name pn_com_2fexample_2fistra_2fistra_2fmodel_2fTransfer) hisR ?_
  intro p e s m args below meth c s₁ Bd hml0 hP hK
  obtain ⟨rfl, hZ, hh⟩ := hP
  have hx := Bd.exec
  have hby := Bd.bytes
  have hml : c.maxLocals = 2 := hml0
  have hown : s.vm.findClass "com/example/istra/istra/model/Transfer" = some m.cls := findClass_of_methodNamed Bd.named
  have hnm := (name_of_methodNamed Bd.named Bd.method).1
  have X0 : Stand p l e ({ frames := 1, cells := 3, slots := 10, locals := 12 } : Room) s m #[(.ref a1), (.int (2 : Int32))] below meth c s₁ [] 0 0 := Stand.of_body Bd
  have e0 : s₁.heap = h0 := by rw [← hh, Bd.state]; rfl
  have N0 := Fr.nil n0
  have k0 : ∀ t, Steps p.tables e below (s₁.setTop (mkF m 0 #[.val (.ref a1), .val (.int (2 : Int32))] [])) t → Steps p.tables e below (s₁.setTop (entryFrame m #[(.ref a1), (.int (2 : Int32))] 2)) t := fun t k => castTop (ef_1_RI m a1 (2 : Int32)) k
  have K0 := Keep.refl h0 [a1]
  have k101 : ∀ t, Steps p.tables e below (s₁.setTop (mkF m 1 #[.val (.ref a1), .val (.int (2 : Int32))] [(.ref a1)])) t → Steps p.tables e below (s₁.setTop (entryFrame m #[(.ref a1), (.int (2 : Int32))] 2)) t := fun t k => k0 t (by
    show Steps p.tables e below (s₁.setTop (mkF m 0 #[.val (.ref a1), .val (.int (2 : Int32))] [])) _
    refine XS.aloadN X0.here hx rfl (hb hby d1_0) rfl rfl ?_
    exact k)
  obtain ⟨T102, X102, e102, st102⟩ := initO X0 hx hZ hown (hw _ (List.mem_of_getElem? (i := 7) rfl)) (hw _ (List.mem_of_getElem? (i := 8) rfl)) (hw _ (List.mem_of_getElem? (i := 9) rfl)) e0 (g := (mkF m 1 #[.val (.ref a1), .val (.int (2 : Int32))] [(.ref a1)])) rfl (by rw [hml]; rfl) rfl (hb hby d1_1) (by decide) (W := 0) (by show 2 * 0 + _ ≤ _; exact Nat.le_of_eq rfl) (by decide)
  have k103 : ∀ t, Steps p.tables e below (T102.setTop (mkF m 4 #[.val (.ref a1), .val (.int (2 : Int32))] [])) t → Steps p.tables e below (s₁.setTop (entryFrame m #[(.ref a1), (.int (2 : Int32))] 2)) t := fun t k => k101 t (st102 t k)
  have k104 : ∀ t, Steps p.tables e below (T102.setTop (mkF m 6 #[.val (.ref a1), .val (.int (2 : Int32))] [(.int (4 : Int32)), (.ref a1)])) t → Steps p.tables e below (s₁.setTop (entryFrame m #[(.ref a1), (.int (2 : Int32))] 2)) t := fun t k => k103 t (by
    show Steps p.tables e below (T102.setTop (mkF m 4 #[.val (.ref a1), .val (.int (2 : Int32))] [])) _
    refine XS.aloadN X102.here hx rfl (hb hby d1_4) rfl rfl ?_
    show Steps p.tables e below (T102.setTop (mkF m 5 #[.val (.ref a1), .val (.int (2 : Int32))] [(.ref a1)])) _
    refine XS.iconst X102.here hx rfl (hb hby d1_5) ?_
    exact k)
  obtain ⟨T105, h105, k105, X105, e105, E105, A105, st105⟩ := newP X102 hx hZ (hw _ (List.mem_of_getElem? (i := 10) rfl)) e102 (g := (mkF m 6 #[.val (.ref a1), .val (.int (2 : Int32))] [(.int (4 : Int32)), (.ref a1)])) rfl (hb hby d1_6) rfl (by decide) (cap := 4) (by decide) (by decide) (by decide) (by decide)
  obtain ⟨b105, g105⟩ : ∃ z, z = h0.size := ⟨_, rfl⟩
  rw [← g105] at A105 st105
  have n106 : a1 ≠ b105 := Nat.ne_of_lt (Nat.lt_of_lt_of_le F_vehicleStates.lt (Nat.le_of_eq g105.symm))
  have g107 : n0 ≤ b105 := Nat.le_trans Z0 (Nat.le_of_eq g105.symm)
  have z108 : h0.size ≤ b105 := Nat.le_trans K0.1 (Nat.le_of_eq g105.symm)
  have F109 := F_vehicleStates.ext E105
  have F110 := F_crossingS.ext E105
  have F111 := F_fluid.ext E105
  have F112 := F_vehicles.ext E105
  have F113 := F_holdsFluid.ext E105
  have F114 := E1.ext E105
  have Z115 : n0 ≤ h105.size := Nat.le_trans Z0 E105.1
  have K116 := K0.ext E105
  have V117 : Arv Z h105 b105 k105 .int (4 : Int32) [(.int (0 : Int32)), (.int (0 : Int32)), (.int (0 : Int32)), (.int (0 : Int32))] (.int (0 : Int32)) := (Arv.new A105 (by decide)).pad (pad_rep [] (.int (0 : Int32)) 4)
  have k118 : ∀ t, Steps p.tables e below (T105.setTop (mkF m 8 #[.val (.ref a1), .val (.int (2 : Int32))] [(.ref b105), (.ref a1)])) t → Steps p.tables e below (s₁.setTop (entryFrame m #[(.ref a1), (.int (2 : Int32))] 2)) t := fun t k => k104 t (st105 t k)
  obtain ⟨T119, h119, X119, e119, W119, st119⟩ := putF X105 hx hZ hown (host := "") (Or.inl (hw _ (List.mem_of_getElem? (i := 11) rfl))) Via.refl e105 F109 F114 (Or.inl (hw _ (List.mem_of_getElem? (i := 12) rfl))) (hw _ (List.mem_of_getElem? (i := 2) rfl)) (ty := (.array .int)) (by decide) rfl rfl (g := (mkF m 8 #[.val (.ref a1), .val (.int (2 : Int32))] [(.ref b105), (.ref a1)])) rfl rfl (hb hby d1_8)
  have F120 := F109.same W119
  have F121 := F110.other W119 (Or.inr (slot_ne (Or.inl (hw _ (List.mem_of_getElem? (i := 15) rfl))) (Or.inl (hw _ (List.mem_of_getElem? (i := 12) rfl))) (by decide) (t := (.array .double)) (t' := (.array .int)) (by decide) (by decide)))
  have F122 := F111.other W119 (Or.inr (slot_ne (Or.inr (hw _ (List.mem_of_getElem? (i := 17) rfl))) (Or.inl (hw _ (List.mem_of_getElem? (i := 12) rfl))) (by decide) (t := (.array .double)) (t' := (.array .int)) (by decide) (by decide)))
  have F123 := F112.other W119 (Or.inr (slot_ne (Or.inl (hw _ (List.mem_of_getElem? (i := 24) rfl))) (Or.inl (hw _ (List.mem_of_getElem? (i := 12) rfl))) (by decide) (t := .int) (t' := (.array .int)) (by decide) (by decide)))
  have F124 := F113.other W119 (Or.inr (slot_ne (Or.inl (hw _ (List.mem_of_getElem? (i := 38) rfl))) (Or.inl (hw _ (List.mem_of_getElem? (i := 12) rfl))) (by decide) (t := .boolean) (t' := (.array .int)) (by decide) (by decide)))
  have F125 := F114.wr W119
  have F126 := V117.other W119 (Ne.symm n106)
  have Z127 : n0 ≤ h119.size := Nat.le_trans Z115 (Nat.le_of_eq W119.size.symm)
  have N128 := Fr.snoc X119 N0 ga
  have K129 := K116.wr W119 (Or.inl (List.mem_of_getElem? (i := 0) rfl))
  have k130 : ∀ t, Steps p.tables e below (T119.setTop (mkF m 11 #[.val (.ref a1), .val (.int (2 : Int32))] [])) t → Steps p.tables e below (s₁.setTop (entryFrame m #[(.ref a1), (.int (2 : Int32))] 2)) t := fun t k => k118 t (st119 t k)
  have k131 : ∀ t, Steps p.tables e below (T119.setTop (mkF m 13 #[.val (.ref a1), .val (.int (2 : Int32))] [(.int (4 : Int32)), (.ref a1)])) t → Steps p.tables e below (s₁.setTop (entryFrame m #[(.ref a1), (.int (2 : Int32))] 2)) t := fun t k => k130 t (by
    show Steps p.tables e below (T119.setTop (mkF m 11 #[.val (.ref a1), .val (.int (2 : Int32))] [])) _
    refine XS.aloadN X119.here hx rfl (hb hby d1_11) rfl rfl ?_
    show Steps p.tables e below (T119.setTop (mkF m 12 #[.val (.ref a1), .val (.int (2 : Int32))] [(.ref a1)])) _
    refine XS.iconst X119.here hx rfl (hb hby d1_12) ?_
    exact k)
  obtain ⟨T132, h132, k132, X132, e132, E132, A132, st132⟩ := newP X119 hx hZ (hw _ (List.mem_of_getElem? (i := 13) rfl)) e119 (g := (mkF m 13 #[.val (.ref a1), .val (.int (2 : Int32))] [(.int (4 : Int32)), (.ref a1)])) rfl (hb hby d1_13) rfl (by decide) (cap := 4) (by decide) (by decide) (by decide) (by decide)
  obtain ⟨b132, g132⟩ : ∃ z, z = h119.size := ⟨_, rfl⟩
  rw [← g132] at A132 st132
  have n133 : a1 ≠ b132 := Nat.ne_of_lt (Nat.lt_of_lt_of_le F121.lt (Nat.le_of_eq g132.symm))
  have n134 : b105 ≠ b132 := Nat.ne_of_lt (Nat.lt_of_lt_of_le F126.lt (Nat.le_of_eq g132.symm))
  have g135 : n0 ≤ b132 := Nat.le_trans Z127 (Nat.le_of_eq g132.symm)
  have z136 : h0.size ≤ b132 := Nat.le_trans K129.1 (Nat.le_of_eq g132.symm)
  have F137 := F121.ext E132
  have F138 := F122.ext E132
  have F139 := F123.ext E132
  have F140 := F124.ext E132
  have F141 := F125.ext E132
  have F142 := F126.ext E132
  have F143 := F120.ext E132
  have Z144 : n0 ≤ h132.size := Nat.le_trans Z127 E132.1
  have K145 := K129.ext E132
  have V146 : Arv Z h132 b132 k132 .double (4 : Int32) [(.double (0 : UInt64)), (.double (0 : UInt64)), (.double (0 : UInt64)), (.double (0 : UInt64))] (.double (0 : UInt64)) := (Arv.new A132 (by decide)).pad (pad_rep [] (.double (0 : UInt64)) 4)
  have k147 : ∀ t, Steps p.tables e below (T132.setTop (mkF m 15 #[.val (.ref a1), .val (.int (2 : Int32))] [(.ref b132), (.ref a1)])) t → Steps p.tables e below (s₁.setTop (entryFrame m #[(.ref a1), (.int (2 : Int32))] 2)) t := fun t k => k131 t (st132 t k)
  obtain ⟨T148, h148, X148, e148, W148, st148⟩ := putF X132 hx hZ hown (host := "") (Or.inl (hw _ (List.mem_of_getElem? (i := 14) rfl))) Via.refl e132 F137 F141 (Or.inl (hw _ (List.mem_of_getElem? (i := 15) rfl))) (hw _ (List.mem_of_getElem? (i := 2) rfl)) (ty := (.array .double)) (by decide) rfl rfl (g := (mkF m 15 #[.val (.ref a1), .val (.int (2 : Int32))] [(.ref b132), (.ref a1)])) rfl rfl (hb hby d1_15)
  have F149 := F137.same W148
  have F150 := F138.other W148 (Or.inr (slot_ne (Or.inr (hw _ (List.mem_of_getElem? (i := 17) rfl))) (Or.inl (hw _ (List.mem_of_getElem? (i := 15) rfl))) (by decide) (t := (.array .double)) (t' := (.array .double)) (by decide) (by decide)))
  have F151 := F139.other W148 (Or.inr (slot_ne (Or.inl (hw _ (List.mem_of_getElem? (i := 24) rfl))) (Or.inl (hw _ (List.mem_of_getElem? (i := 15) rfl))) (by decide) (t := .int) (t' := (.array .double)) (by decide) (by decide)))
  have F152 := F140.other W148 (Or.inr (slot_ne (Or.inl (hw _ (List.mem_of_getElem? (i := 38) rfl))) (Or.inl (hw _ (List.mem_of_getElem? (i := 15) rfl))) (by decide) (t := .boolean) (t' := (.array .double)) (by decide) (by decide)))
  have F153 := F141.wr W148
  have F154 := F142.other W148 (Ne.symm n106)
  have F155 := F143.other W148 (Or.inr (slot_ne (Or.inl (hw _ (List.mem_of_getElem? (i := 12) rfl))) (Or.inl (hw _ (List.mem_of_getElem? (i := 15) rfl))) (by decide) (t := (.array .int)) (t' := (.array .double)) (by decide) (by decide)))
  have F156 := V146.other W148 (Ne.symm n133)
  have Z157 : n0 ≤ h148.size := Nat.le_trans Z144 (Nat.le_of_eq W148.size.symm)
  have N158 := Fr.snoc X148 N128 ga
  have K159 := K145.wr W148 (Or.inl (List.mem_of_getElem? (i := 0) rfl))
  have k160 : ∀ t, Steps p.tables e below (T148.setTop (mkF m 18 #[.val (.ref a1), .val (.int (2 : Int32))] [])) t → Steps p.tables e below (s₁.setTop (entryFrame m #[(.ref a1), (.int (2 : Int32))] 2)) t := fun t k => k147 t (st148 t k)
  have k161 : ∀ t, Steps p.tables e below (T148.setTop (mkF m 38 #[.val (.ref a1), .val (.int (2 : Int32))] [(.int (2 : Int32)), (.ref a1)])) t → Steps p.tables e below (s₁.setTop (entryFrame m #[(.ref a1), (.int (2 : Int32))] 2)) t := fun t k => k160 t (by
    show Steps p.tables e below (T148.setTop (mkF m 18 #[.val (.ref a1), .val (.int (2 : Int32))] [])) _
    refine XS.iloadN X148.here hx rfl (hb hby d1_18) rfl ?_
    show Steps p.tables e below (T148.setTop (mkF m 19 #[.val (.ref a1), .val (.int (2 : Int32))] [(.int (2 : Int32))])) _
    refine XS.ifYes X148.here hx rfl (pc0 := 19) (pc' := 36) rfl (hb hby d1_19) rfl ((if0 _ _).trans (flt (by decide)).2.1) (by decide) (by decide) ?_
    show Steps p.tables e below (T148.setTop (mkF m 36 #[.val (.ref a1), .val (.int (2 : Int32))] [])) _
    refine XS.aloadN X148.here hx rfl (hb hby d1_36) rfl rfl ?_
    show Steps p.tables e below (T148.setTop (mkF m 37 #[.val (.ref a1), .val (.int (2 : Int32))] [(.ref a1)])) _
    refine XS.iloadN X148.here hx rfl (hb hby d1_37) rfl ?_
    exact k)
  obtain ⟨T162, h162, k162, X162, e162, E162, A162, st162⟩ := newP X148 hx hZ (hw _ (List.mem_of_getElem? (i := 13) rfl)) e148 (g := (mkF m 38 #[.val (.ref a1), .val (.int (2 : Int32))] [(.int (2 : Int32)), (.ref a1)])) rfl (hb hby d1_38) rfl (by decide) (cap := 2) (by decide) (by decide) (by decide) (by decide)
  obtain ⟨b162, g162⟩ : ∃ z, z = h148.size := ⟨_, rfl⟩
  rw [← g162] at A162 st162
  have n163 : a1 ≠ b162 := Nat.ne_of_lt (Nat.lt_of_lt_of_le F150.lt (Nat.le_of_eq g162.symm))
  have n164 : b105 ≠ b162 := Nat.ne_of_lt (Nat.lt_of_lt_of_le F154.lt (Nat.le_of_eq g162.symm))
  have n165 : b132 ≠ b162 := Nat.ne_of_lt (Nat.lt_of_lt_of_le F156.lt (Nat.le_of_eq g162.symm))
  have g166 : n0 ≤ b162 := Nat.le_trans Z157 (Nat.le_of_eq g162.symm)
  have z167 : h0.size ≤ b162 := Nat.le_trans K159.1 (Nat.le_of_eq g162.symm)
  have F168 := F150.ext E162
  have F169 := F151.ext E162
  have F170 := F152.ext E162
  have F171 := F153.ext E162
  have F172 := F154.ext E162
  have F173 := F155.ext E162
  have F174 := F156.ext E162
  have F175 := F149.ext E162
  have Z176 : n0 ≤ h162.size := Nat.le_trans Z157 E162.1
  have K177 := K159.ext E162
  have V178 : Arv Z h162 b162 k162 .double (2 : Int32) [(.double (0 : UInt64)), (.double (0 : UInt64))] (.double (0 : UInt64)) := (Arv.new A162 (by decide)).pad (pad_rep [] (.double (0 : UInt64)) 2)
  have k179 : ∀ t, Steps p.tables e below (T162.setTop (mkF m 40 #[.val (.ref a1), .val (.int (2 : Int32))] [(.ref b162), (.ref a1)])) t → Steps p.tables e below (s₁.setTop (entryFrame m #[(.ref a1), (.int (2 : Int32))] 2)) t := fun t k => k161 t (st162 t k)
  obtain ⟨T180, h180, X180, e180, W180, st180⟩ := putF X162 hx hZ hown (host := "") (Or.inl (hw _ (List.mem_of_getElem? (i := 16) rfl))) Via.refl e162 F168 F171 (Or.inr ⟨(hw _ (List.mem_of_getElem? (i := 17) rfl)), rfl, hnm⟩) (hw _ (List.mem_of_getElem? (i := 2) rfl)) (ty := (.array .double)) (by decide) rfl rfl (g := (mkF m 40 #[.val (.ref a1), .val (.int (2 : Int32))] [(.ref b162), (.ref a1)])) rfl rfl (hb hby d1_40)
  have F181 := F168.same W180
  have F182 := F169.other W180 (Or.inr (slot_ne (Or.inl (hw _ (List.mem_of_getElem? (i := 24) rfl))) (Or.inr (hw _ (List.mem_of_getElem? (i := 17) rfl))) (by decide) (t := .int) (t' := (.array .double)) (by decide) (by decide)))
  have F183 := F170.other W180 (Or.inr (slot_ne (Or.inl (hw _ (List.mem_of_getElem? (i := 38) rfl))) (Or.inr (hw _ (List.mem_of_getElem? (i := 17) rfl))) (by decide) (t := .boolean) (t' := (.array .double)) (by decide) (by decide)))
  have F184 := F171.wr W180
  have F185 := F172.other W180 (Ne.symm n106)
  have F186 := F173.other W180 (Or.inr (slot_ne (Or.inl (hw _ (List.mem_of_getElem? (i := 12) rfl))) (Or.inr (hw _ (List.mem_of_getElem? (i := 17) rfl))) (by decide) (t := (.array .int)) (t' := (.array .double)) (by decide) (by decide)))
  have F187 := F174.other W180 (Ne.symm n133)
  have F188 := F175.other W180 (Or.inr (slot_ne (Or.inl (hw _ (List.mem_of_getElem? (i := 15) rfl))) (Or.inr (hw _ (List.mem_of_getElem? (i := 17) rfl))) (by decide) (t := (.array .double)) (t' := (.array .double)) (by decide) (by decide)))
  have F189 := V178.other W180 (Ne.symm n163)
  have Z190 : n0 ≤ h180.size := Nat.le_trans Z176 (Nat.le_of_eq W180.size.symm)
  have N191 := Fr.snoc X180 N158 ga
  have K192 := K177.wr W180 (Or.inl (List.mem_of_getElem? (i := 0) rfl))
  have k193 : ∀ t, Steps p.tables e below (T180.setTop (mkF m 43 #[.val (.ref a1), .val (.int (2 : Int32))] [])) t → Steps p.tables e below (s₁.setTop (entryFrame m #[(.ref a1), (.int (2 : Int32))] 2)) t := fun t k => k179 t (st180 t k)
  obtain ⟨fs, hr, hrun, hended, hW, hsame⟩ := X180.leave (v := none) (fun _ => rfl)
  refine ⟨_, _, k193 _ (X180.returnOut hx Bd.returns (hb hby d1_43) hr), hrun, hended, _, _, rfl, ?_, ⟨_, rfl⟩, hW, hsame.mono (by decide) (by decide)⟩
  show Q_ct2 Z a1 h0 n0 _ T180.heap _
  rw [e180]
  exact ⟨b105, b132, b162, k105, k132, k162, rfl, N191, K192, g107, g135, g166, n106, n133, n163, n134, n164, n165, F184, F186, F188, F181, F182, F183, F185, F187, F189⟩
def Q_ct3 (Z : State) (a1 : Addr) (h0 : Heap) (n0 : Nat) (v : Option Value) (h : Heap) (L : List Loc) : Prop := ∃ (b1 b2 b3 : Addr) (k1 k2 k3 : ClassId), v = none ∧ Fr n0 L ∧ Keep h0 h [a1] ∧ n0 ≤ b1 ∧ n0 ≤ b2 ∧ n0 ≤ b3 ∧ a1 ≠ b1 ∧ a1 ≠ b2 ∧ a1 ≠ b3 ∧ b1 ≠ b2 ∧ b1 ≠ b3 ∧ b2 ≠ b3 ∧ Exa Z h a1 "com/example/istra/istra/model/Transfer" ∧ Fld Z h a1 "com/example/istra/istra/model/Transfer" "vehicleStates" "[I" (.ref b1) ∧ Fld Z h a1 "com/example/istra/istra/model/Transfer" "crossingS" "[D" (.ref b2) ∧ Fld Z h a1 "com/example/istra/istra/model/Transfer" "fluid" "[D" (.ref b3) ∧ Fld Z h a1 "com/example/istra/istra/model/Transfer" "vehicles" "I" (.int (0 : Int32)) ∧ Fld Z h a1 "com/example/istra/istra/model/Transfer" "holdsFluid" "Z" (.int (0 : Int32)) ∧ Arv Z h b1 k1 .int (4 : Int32) [(.int (0 : Int32)), (.int (0 : Int32)), (.int (0 : Int32)), (.int (0 : Int32))] (.int (0 : Int32)) ∧ Arv Z h b2 k2 .double (4 : Int32) [(.double (0 : UInt64)), (.double (0 : UInt64)), (.double (0 : UInt64)), (.double (0 : UInt64))] (.double (0 : UInt64)) ∧ Arv Z h b3 k3 .double (3 : Int32) [(.double (0 : UInt64)), (.double (0 : UInt64)), (.double (0 : UInt64))] (.double (0 : UInt64))
set_option maxRecDepth 65536 in
set_option maxHeartbeats 40000000 in
theorem ct3 (l : Launch) (Z : State) (a0 : Array Value) (hw : ∀ d ∈ tables_1, d.before a0 Z = true) (ws : List Jvm.Cond) (a1 : Addr) (h0 : Heap) (n0 : Nat) (Z0 : n0 ≤ h0.size) (F_vehicleStates : Fld Z h0 a1 "com/example/istra/istra/model/Transfer" "vehicleStates" "[I" .null) (F_crossingS : Fld Z h0 a1 "com/example/istra/istra/model/Transfer" "crossingS" "[D" .null) (F_fluid : Fld Z h0 a1 "com/example/istra/istra/model/Transfer" "fluid" "[D" .null) (F_vehicles : Fld Z h0 a1 "com/example/istra/istra/model/Transfer" "vehicles" "I" (.int (0 : Int32))) (F_holdsFluid : Fld Z h0 a1 "com/example/istra/istra/model/Transfer" "holdsFluid" "Z" (.int (0 : Int32))) (E1 : Exa Z h0 a1 "com/example/istra/istra/model/Transfer") (ga : n0 ≤ a1) :
    MetFree l (⟨"com/example/istra/istra/model/Transfer", "<init>", "(I)V"⟩ : MethodName) (head1 (Jvm.Cond.code (⟨"com/example/istra/istra/model/Transfer", "<init>", "(I)V"⟩ : MethodName) prog_54_method_1_code 2 none :: ws) ({ frames := 1, cells := 3, slots := 11, locals := 12 } : Room)) (fun a U => a = #[(.ref a1), (.int (3 : Int32))] ∧ Z.Warmed39 U.vm ∧ U.heap = h0) (fun _ _ _ _ _ => True) (fun _ U o U' => ∃ v L, o = .returned v ∧ Q_ct3 Z a1 h0 n0 v U'.heap L ∧ FrameEnd U o U' L ({ frames := 1, cells := 3, slots := 11, locals := 12 } : Room).cells ({ frames := 1, cells := 3, slots := 11, locals := 12 } : Room).slots) := by
  refine MetFree.of_bodySF (plainFor_of_name pn_com_2fexample_2fistra_2fistra_2fmodel_2fTransfer) hisR ?_
  intro p e s m args below meth c s₁ Bd hml0 hP hK
  obtain ⟨rfl, hZ, hh⟩ := hP
  have hx := Bd.exec
  have hby := Bd.bytes
  have hml : c.maxLocals = 2 := hml0
  have hown : s.vm.findClass "com/example/istra/istra/model/Transfer" = some m.cls := findClass_of_methodNamed Bd.named
  have hnm := (name_of_methodNamed Bd.named Bd.method).1
  have X0 : Stand p l e ({ frames := 1, cells := 3, slots := 11, locals := 12 } : Room) s m #[(.ref a1), (.int (3 : Int32))] below meth c s₁ [] 0 0 := Stand.of_body Bd
  have e0 : s₁.heap = h0 := by rw [← hh, Bd.state]; rfl
  have N0 := Fr.nil n0
  have k0 : ∀ t, Steps p.tables e below (s₁.setTop (mkF m 0 #[.val (.ref a1), .val (.int (3 : Int32))] [])) t → Steps p.tables e below (s₁.setTop (entryFrame m #[(.ref a1), (.int (3 : Int32))] 2)) t := fun t k => castTop (ef_1_RI m a1 (3 : Int32)) k
  have K0 := Keep.refl h0 [a1]
  have k101 : ∀ t, Steps p.tables e below (s₁.setTop (mkF m 1 #[.val (.ref a1), .val (.int (3 : Int32))] [(.ref a1)])) t → Steps p.tables e below (s₁.setTop (entryFrame m #[(.ref a1), (.int (3 : Int32))] 2)) t := fun t k => k0 t (by
    show Steps p.tables e below (s₁.setTop (mkF m 0 #[.val (.ref a1), .val (.int (3 : Int32))] [])) _
    refine XS.aloadN X0.here hx rfl (hb hby d1_0) rfl rfl ?_
    exact k)
  obtain ⟨T102, X102, e102, st102⟩ := initO X0 hx hZ hown (hw _ (List.mem_of_getElem? (i := 7) rfl)) (hw _ (List.mem_of_getElem? (i := 8) rfl)) (hw _ (List.mem_of_getElem? (i := 9) rfl)) e0 (g := (mkF m 1 #[.val (.ref a1), .val (.int (3 : Int32))] [(.ref a1)])) rfl (by rw [hml]; rfl) rfl (hb hby d1_1) (by decide) (W := 0) (by show 2 * 0 + _ ≤ _; exact Nat.le_of_eq rfl) (by decide)
  have k103 : ∀ t, Steps p.tables e below (T102.setTop (mkF m 4 #[.val (.ref a1), .val (.int (3 : Int32))] [])) t → Steps p.tables e below (s₁.setTop (entryFrame m #[(.ref a1), (.int (3 : Int32))] 2)) t := fun t k => k101 t (st102 t k)
  have k104 : ∀ t, Steps p.tables e below (T102.setTop (mkF m 6 #[.val (.ref a1), .val (.int (3 : Int32))] [(.int (4 : Int32)), (.ref a1)])) t → Steps p.tables e below (s₁.setTop (entryFrame m #[(.ref a1), (.int (3 : Int32))] 2)) t := fun t k => k103 t (by
    show Steps p.tables e below (T102.setTop (mkF m 4 #[.val (.ref a1), .val (.int (3 : Int32))] [])) _
    refine XS.aloadN X102.here hx rfl (hb hby d1_4) rfl rfl ?_
    show Steps p.tables e below (T102.setTop (mkF m 5 #[.val (.ref a1), .val (.int (3 : Int32))] [(.ref a1)])) _
    refine XS.iconst X102.here hx rfl (hb hby d1_5) ?_
    exact k)
  obtain ⟨T105, h105, k105, X105, e105, E105, A105, st105⟩ := newP X102 hx hZ (hw _ (List.mem_of_getElem? (i := 10) rfl)) e102 (g := (mkF m 6 #[.val (.ref a1), .val (.int (3 : Int32))] [(.int (4 : Int32)), (.ref a1)])) rfl (hb hby d1_6) rfl (by decide) (cap := 4) (by decide) (by decide) (by decide) (by decide)
  obtain ⟨b105, g105⟩ : ∃ z, z = h0.size := ⟨_, rfl⟩
  rw [← g105] at A105 st105
  have n106 : a1 ≠ b105 := Nat.ne_of_lt (Nat.lt_of_lt_of_le F_vehicleStates.lt (Nat.le_of_eq g105.symm))
  have g107 : n0 ≤ b105 := Nat.le_trans Z0 (Nat.le_of_eq g105.symm)
  have z108 : h0.size ≤ b105 := Nat.le_trans K0.1 (Nat.le_of_eq g105.symm)
  have F109 := F_vehicleStates.ext E105
  have F110 := F_crossingS.ext E105
  have F111 := F_fluid.ext E105
  have F112 := F_vehicles.ext E105
  have F113 := F_holdsFluid.ext E105
  have F114 := E1.ext E105
  have Z115 : n0 ≤ h105.size := Nat.le_trans Z0 E105.1
  have K116 := K0.ext E105
  have V117 : Arv Z h105 b105 k105 .int (4 : Int32) [(.int (0 : Int32)), (.int (0 : Int32)), (.int (0 : Int32)), (.int (0 : Int32))] (.int (0 : Int32)) := (Arv.new A105 (by decide)).pad (pad_rep [] (.int (0 : Int32)) 4)
  have k118 : ∀ t, Steps p.tables e below (T105.setTop (mkF m 8 #[.val (.ref a1), .val (.int (3 : Int32))] [(.ref b105), (.ref a1)])) t → Steps p.tables e below (s₁.setTop (entryFrame m #[(.ref a1), (.int (3 : Int32))] 2)) t := fun t k => k104 t (st105 t k)
  obtain ⟨T119, h119, X119, e119, W119, st119⟩ := putF X105 hx hZ hown (host := "") (Or.inl (hw _ (List.mem_of_getElem? (i := 11) rfl))) Via.refl e105 F109 F114 (Or.inl (hw _ (List.mem_of_getElem? (i := 12) rfl))) (hw _ (List.mem_of_getElem? (i := 2) rfl)) (ty := (.array .int)) (by decide) rfl rfl (g := (mkF m 8 #[.val (.ref a1), .val (.int (3 : Int32))] [(.ref b105), (.ref a1)])) rfl rfl (hb hby d1_8)
  have F120 := F109.same W119
  have F121 := F110.other W119 (Or.inr (slot_ne (Or.inl (hw _ (List.mem_of_getElem? (i := 15) rfl))) (Or.inl (hw _ (List.mem_of_getElem? (i := 12) rfl))) (by decide) (t := (.array .double)) (t' := (.array .int)) (by decide) (by decide)))
  have F122 := F111.other W119 (Or.inr (slot_ne (Or.inr (hw _ (List.mem_of_getElem? (i := 17) rfl))) (Or.inl (hw _ (List.mem_of_getElem? (i := 12) rfl))) (by decide) (t := (.array .double)) (t' := (.array .int)) (by decide) (by decide)))
  have F123 := F112.other W119 (Or.inr (slot_ne (Or.inl (hw _ (List.mem_of_getElem? (i := 24) rfl))) (Or.inl (hw _ (List.mem_of_getElem? (i := 12) rfl))) (by decide) (t := .int) (t' := (.array .int)) (by decide) (by decide)))
  have F124 := F113.other W119 (Or.inr (slot_ne (Or.inl (hw _ (List.mem_of_getElem? (i := 38) rfl))) (Or.inl (hw _ (List.mem_of_getElem? (i := 12) rfl))) (by decide) (t := .boolean) (t' := (.array .int)) (by decide) (by decide)))
  have F125 := F114.wr W119
  have F126 := V117.other W119 (Ne.symm n106)
  have Z127 : n0 ≤ h119.size := Nat.le_trans Z115 (Nat.le_of_eq W119.size.symm)
  have N128 := Fr.snoc X119 N0 ga
  have K129 := K116.wr W119 (Or.inl (List.mem_of_getElem? (i := 0) rfl))
  have k130 : ∀ t, Steps p.tables e below (T119.setTop (mkF m 11 #[.val (.ref a1), .val (.int (3 : Int32))] [])) t → Steps p.tables e below (s₁.setTop (entryFrame m #[(.ref a1), (.int (3 : Int32))] 2)) t := fun t k => k118 t (st119 t k)
  have k131 : ∀ t, Steps p.tables e below (T119.setTop (mkF m 13 #[.val (.ref a1), .val (.int (3 : Int32))] [(.int (4 : Int32)), (.ref a1)])) t → Steps p.tables e below (s₁.setTop (entryFrame m #[(.ref a1), (.int (3 : Int32))] 2)) t := fun t k => k130 t (by
    show Steps p.tables e below (T119.setTop (mkF m 11 #[.val (.ref a1), .val (.int (3 : Int32))] [])) _
    refine XS.aloadN X119.here hx rfl (hb hby d1_11) rfl rfl ?_
    show Steps p.tables e below (T119.setTop (mkF m 12 #[.val (.ref a1), .val (.int (3 : Int32))] [(.ref a1)])) _
    refine XS.iconst X119.here hx rfl (hb hby d1_12) ?_
    exact k)
  obtain ⟨T132, h132, k132, X132, e132, E132, A132, st132⟩ := newP X119 hx hZ (hw _ (List.mem_of_getElem? (i := 13) rfl)) e119 (g := (mkF m 13 #[.val (.ref a1), .val (.int (3 : Int32))] [(.int (4 : Int32)), (.ref a1)])) rfl (hb hby d1_13) rfl (by decide) (cap := 4) (by decide) (by decide) (by decide) (by decide)
  obtain ⟨b132, g132⟩ : ∃ z, z = h119.size := ⟨_, rfl⟩
  rw [← g132] at A132 st132
  have n133 : a1 ≠ b132 := Nat.ne_of_lt (Nat.lt_of_lt_of_le F121.lt (Nat.le_of_eq g132.symm))
  have n134 : b105 ≠ b132 := Nat.ne_of_lt (Nat.lt_of_lt_of_le F126.lt (Nat.le_of_eq g132.symm))
  have g135 : n0 ≤ b132 := Nat.le_trans Z127 (Nat.le_of_eq g132.symm)
  have z136 : h0.size ≤ b132 := Nat.le_trans K129.1 (Nat.le_of_eq g132.symm)
  have F137 := F121.ext E132
  have F138 := F122.ext E132
  have F139 := F123.ext E132
  have F140 := F124.ext E132
  have F141 := F125.ext E132
  have F142 := F126.ext E132
  have F143 := F120.ext E132
  have Z144 : n0 ≤ h132.size := Nat.le_trans Z127 E132.1
  have K145 := K129.ext E132
  have V146 : Arv Z h132 b132 k132 .double (4 : Int32) [(.double (0 : UInt64)), (.double (0 : UInt64)), (.double (0 : UInt64)), (.double (0 : UInt64))] (.double (0 : UInt64)) := (Arv.new A132 (by decide)).pad (pad_rep [] (.double (0 : UInt64)) 4)
  have k147 : ∀ t, Steps p.tables e below (T132.setTop (mkF m 15 #[.val (.ref a1), .val (.int (3 : Int32))] [(.ref b132), (.ref a1)])) t → Steps p.tables e below (s₁.setTop (entryFrame m #[(.ref a1), (.int (3 : Int32))] 2)) t := fun t k => k131 t (st132 t k)
  obtain ⟨T148, h148, X148, e148, W148, st148⟩ := putF X132 hx hZ hown (host := "") (Or.inl (hw _ (List.mem_of_getElem? (i := 14) rfl))) Via.refl e132 F137 F141 (Or.inl (hw _ (List.mem_of_getElem? (i := 15) rfl))) (hw _ (List.mem_of_getElem? (i := 2) rfl)) (ty := (.array .double)) (by decide) rfl rfl (g := (mkF m 15 #[.val (.ref a1), .val (.int (3 : Int32))] [(.ref b132), (.ref a1)])) rfl rfl (hb hby d1_15)
  have F149 := F137.same W148
  have F150 := F138.other W148 (Or.inr (slot_ne (Or.inr (hw _ (List.mem_of_getElem? (i := 17) rfl))) (Or.inl (hw _ (List.mem_of_getElem? (i := 15) rfl))) (by decide) (t := (.array .double)) (t' := (.array .double)) (by decide) (by decide)))
  have F151 := F139.other W148 (Or.inr (slot_ne (Or.inl (hw _ (List.mem_of_getElem? (i := 24) rfl))) (Or.inl (hw _ (List.mem_of_getElem? (i := 15) rfl))) (by decide) (t := .int) (t' := (.array .double)) (by decide) (by decide)))
  have F152 := F140.other W148 (Or.inr (slot_ne (Or.inl (hw _ (List.mem_of_getElem? (i := 38) rfl))) (Or.inl (hw _ (List.mem_of_getElem? (i := 15) rfl))) (by decide) (t := .boolean) (t' := (.array .double)) (by decide) (by decide)))
  have F153 := F141.wr W148
  have F154 := F142.other W148 (Ne.symm n106)
  have F155 := F143.other W148 (Or.inr (slot_ne (Or.inl (hw _ (List.mem_of_getElem? (i := 12) rfl))) (Or.inl (hw _ (List.mem_of_getElem? (i := 15) rfl))) (by decide) (t := (.array .int)) (t' := (.array .double)) (by decide) (by decide)))
  have F156 := V146.other W148 (Ne.symm n133)
  have Z157 : n0 ≤ h148.size := Nat.le_trans Z144 (Nat.le_of_eq W148.size.symm)
  have N158 := Fr.snoc X148 N128 ga
  have K159 := K145.wr W148 (Or.inl (List.mem_of_getElem? (i := 0) rfl))
  have k160 : ∀ t, Steps p.tables e below (T148.setTop (mkF m 18 #[.val (.ref a1), .val (.int (3 : Int32))] [])) t → Steps p.tables e below (s₁.setTop (entryFrame m #[(.ref a1), (.int (3 : Int32))] 2)) t := fun t k => k147 t (st148 t k)
  have k161 : ∀ t, Steps p.tables e below (T148.setTop (mkF m 38 #[.val (.ref a1), .val (.int (3 : Int32))] [(.int (3 : Int32)), (.ref a1)])) t → Steps p.tables e below (s₁.setTop (entryFrame m #[(.ref a1), (.int (3 : Int32))] 2)) t := fun t k => k160 t (by
    show Steps p.tables e below (T148.setTop (mkF m 18 #[.val (.ref a1), .val (.int (3 : Int32))] [])) _
    refine XS.iloadN X148.here hx rfl (hb hby d1_18) rfl ?_
    show Steps p.tables e below (T148.setTop (mkF m 19 #[.val (.ref a1), .val (.int (3 : Int32))] [(.int (3 : Int32))])) _
    refine XS.ifYes X148.here hx rfl (pc0 := 19) (pc' := 36) rfl (hb hby d1_19) rfl ((if0 _ _).trans (flt (by decide)).2.1) (by decide) (by decide) ?_
    show Steps p.tables e below (T148.setTop (mkF m 36 #[.val (.ref a1), .val (.int (3 : Int32))] [])) _
    refine XS.aloadN X148.here hx rfl (hb hby d1_36) rfl rfl ?_
    show Steps p.tables e below (T148.setTop (mkF m 37 #[.val (.ref a1), .val (.int (3 : Int32))] [(.ref a1)])) _
    refine XS.iloadN X148.here hx rfl (hb hby d1_37) rfl ?_
    exact k)
  obtain ⟨T162, h162, k162, X162, e162, E162, A162, st162⟩ := newP X148 hx hZ (hw _ (List.mem_of_getElem? (i := 13) rfl)) e148 (g := (mkF m 38 #[.val (.ref a1), .val (.int (3 : Int32))] [(.int (3 : Int32)), (.ref a1)])) rfl (hb hby d1_38) rfl (by decide) (cap := 3) (by decide) (by decide) (by decide) (by decide)
  obtain ⟨b162, g162⟩ : ∃ z, z = h148.size := ⟨_, rfl⟩
  rw [← g162] at A162 st162
  have n163 : a1 ≠ b162 := Nat.ne_of_lt (Nat.lt_of_lt_of_le F150.lt (Nat.le_of_eq g162.symm))
  have n164 : b105 ≠ b162 := Nat.ne_of_lt (Nat.lt_of_lt_of_le F154.lt (Nat.le_of_eq g162.symm))
  have n165 : b132 ≠ b162 := Nat.ne_of_lt (Nat.lt_of_lt_of_le F156.lt (Nat.le_of_eq g162.symm))
  have g166 : n0 ≤ b162 := Nat.le_trans Z157 (Nat.le_of_eq g162.symm)
  have z167 : h0.size ≤ b162 := Nat.le_trans K159.1 (Nat.le_of_eq g162.symm)
  have F168 := F150.ext E162
  have F169 := F151.ext E162
  have F170 := F152.ext E162
  have F171 := F153.ext E162
  have F172 := F154.ext E162
  have F173 := F155.ext E162
  have F174 := F156.ext E162
  have F175 := F149.ext E162
  have Z176 : n0 ≤ h162.size := Nat.le_trans Z157 E162.1
  have K177 := K159.ext E162
  have V178 : Arv Z h162 b162 k162 .double (3 : Int32) [(.double (0 : UInt64)), (.double (0 : UInt64)), (.double (0 : UInt64))] (.double (0 : UInt64)) := (Arv.new A162 (by decide)).pad (pad_rep [] (.double (0 : UInt64)) 3)
  have k179 : ∀ t, Steps p.tables e below (T162.setTop (mkF m 40 #[.val (.ref a1), .val (.int (3 : Int32))] [(.ref b162), (.ref a1)])) t → Steps p.tables e below (s₁.setTop (entryFrame m #[(.ref a1), (.int (3 : Int32))] 2)) t := fun t k => k161 t (st162 t k)
  obtain ⟨T180, h180, X180, e180, W180, st180⟩ := putF X162 hx hZ hown (host := "") (Or.inl (hw _ (List.mem_of_getElem? (i := 16) rfl))) Via.refl e162 F168 F171 (Or.inr ⟨(hw _ (List.mem_of_getElem? (i := 17) rfl)), rfl, hnm⟩) (hw _ (List.mem_of_getElem? (i := 2) rfl)) (ty := (.array .double)) (by decide) rfl rfl (g := (mkF m 40 #[.val (.ref a1), .val (.int (3 : Int32))] [(.ref b162), (.ref a1)])) rfl rfl (hb hby d1_40)
  have F181 := F168.same W180
  have F182 := F169.other W180 (Or.inr (slot_ne (Or.inl (hw _ (List.mem_of_getElem? (i := 24) rfl))) (Or.inr (hw _ (List.mem_of_getElem? (i := 17) rfl))) (by decide) (t := .int) (t' := (.array .double)) (by decide) (by decide)))
  have F183 := F170.other W180 (Or.inr (slot_ne (Or.inl (hw _ (List.mem_of_getElem? (i := 38) rfl))) (Or.inr (hw _ (List.mem_of_getElem? (i := 17) rfl))) (by decide) (t := .boolean) (t' := (.array .double)) (by decide) (by decide)))
  have F184 := F171.wr W180
  have F185 := F172.other W180 (Ne.symm n106)
  have F186 := F173.other W180 (Or.inr (slot_ne (Or.inl (hw _ (List.mem_of_getElem? (i := 12) rfl))) (Or.inr (hw _ (List.mem_of_getElem? (i := 17) rfl))) (by decide) (t := (.array .int)) (t' := (.array .double)) (by decide) (by decide)))
  have F187 := F174.other W180 (Ne.symm n133)
  have F188 := F175.other W180 (Or.inr (slot_ne (Or.inl (hw _ (List.mem_of_getElem? (i := 15) rfl))) (Or.inr (hw _ (List.mem_of_getElem? (i := 17) rfl))) (by decide) (t := (.array .double)) (t' := (.array .double)) (by decide) (by decide)))
  have F189 := V178.other W180 (Ne.symm n163)
  have Z190 : n0 ≤ h180.size := Nat.le_trans Z176 (Nat.le_of_eq W180.size.symm)
  have N191 := Fr.snoc X180 N158 ga
  have K192 := K177.wr W180 (Or.inl (List.mem_of_getElem? (i := 0) rfl))
  have k193 : ∀ t, Steps p.tables e below (T180.setTop (mkF m 43 #[.val (.ref a1), .val (.int (3 : Int32))] [])) t → Steps p.tables e below (s₁.setTop (entryFrame m #[(.ref a1), (.int (3 : Int32))] 2)) t := fun t k => k179 t (st180 t k)
  obtain ⟨fs, hr, hrun, hended, hW, hsame⟩ := X180.leave (v := none) (fun _ => rfl)
  refine ⟨_, _, k193 _ (X180.returnOut hx Bd.returns (hb hby d1_43) hr), hrun, hended, _, _, rfl, ?_, ⟨_, rfl⟩, hW, hsame.mono (by decide) (by decide)⟩
  show Q_ct3 Z a1 h0 n0 _ T180.heap _
  rw [e180]
  exact ⟨b105, b132, b162, k105, k132, k162, rfl, N191, K192, g107, g135, g166, n106, n133, n163, n134, n164, n165, F184, F186, F188, F181, F182, F183, F185, F187, F189⟩
theorem ef_5_RID (m : MethodId) (x0 : Addr) (x1 : Int32) (x2 : UInt64) : entryFrame m #[(.ref x0), (.int x1), (.double x2)] 4 = mkF m 0 #[.val (.ref x0), .val (.int x1), .val (.double x2), .second] [] := by first | (simp [entryFrame, mkF, argsToLocals, Value.category]; done) | rfl
theorem d5_0 : decode prog_54_method_4_code 0 = .ok (.aload_n 0, 1) := by decide +kernel
theorem d5_1 : decode prog_54_method_4_code 1 = .ok (.getfield 26, 3) := by decide +kernel
theorem d5_4 : decode prog_54_method_4_code 4 = .ok (.iload_n 1, 1) := by decide +kernel
theorem d5_5 : decode prog_54_method_4_code 5 = .ok (.dup2, 1) := by decide +kernel
theorem d5_6 : decode prog_54_method_4_code 6 = .ok (.daload, 1) := by decide +kernel
theorem d5_7 : decode prog_54_method_4_code 7 = .ok (.dload_n 2, 1) := by decide +kernel
theorem d5_8 : decode prog_54_method_4_code 8 = .ok (.dadd, 1) := by decide +kernel
theorem d5_9 : decode prog_54_method_4_code 9 = .ok (.dastore, 1) := by decide +kernel
theorem d5_10 : decode prog_54_method_4_code 10 = .ok (.aload_n 0, 1) := by decide +kernel
theorem d5_11 : decode prog_54_method_4_code 11 = .ok (.iconst 1, 1) := by decide +kernel
theorem d5_12 : decode prog_54_method_4_code 12 = .ok (.putfield 29, 3) := by decide +kernel
theorem d5_15 : decode prog_54_method_4_code 15 = .ok (.return_, 1) := by decide +kernel
def Q_fl1 (Z : State) (a1 : Addr) (b1 : Addr) (b2 : Addr) (b3 : Addr) (k3 : ClassId) (p1 : Int32) (v1 : UInt64) (x0 : Int32) (y0 : Int32) (u0 : UInt64) (h0 : Heap) (n0 : Nat) (v : Option Value) (h : Heap) (L : List Loc) : Prop := v = none ∧ Fr n0 L ∧ Keep h0 h [a1, b3] ∧ Exa Z h a1 "com/example/istra/istra/model/Transfer" ∧ Fld Z h a1 "com/example/istra/istra/model/Transfer" "vehicleStates" "[I" (.ref b1) ∧ Fld Z h a1 "com/example/istra/istra/model/Transfer" "crossingS" "[D" (.ref b2) ∧ Fld Z h a1 "com/example/istra/istra/model/Transfer" "fluid" "[D" (.ref b3) ∧ Fld Z h a1 "com/example/istra/istra/model/Transfer" "vehicles" "I" (.int x0) ∧ Fld Z h a1 "com/example/istra/istra/model/Transfer" "holdsFluid" "Z" (.int (1 : Int32)) ∧ Arv Z h b3 k3 .double (1 : Int32) [(.double (if p1 = (0 : Int32) then FP.dadd u0 v1 else u0))] (.double (0 : UInt64))
set_option maxRecDepth 65536 in
set_option maxHeartbeats 40000000 in
theorem fl1 (l : Launch) (Z : State) (a0 : Array Value) (hw : ∀ d ∈ tables_1, d.before a0 Z = true) (ws : List Jvm.Cond) (a1 : Addr) (b1 : Addr) (b2 : Addr) (b3 : Addr) (k3 : ClassId) (p1 : Int32) (v1 : UInt64) (x0 : Int32) (y0 : Int32) (u0 : UInt64) (h0 : Heap) (n0 : Nat) (Z0 : n0 ≤ h0.size) (Fk0 : Exa Z h0 a1 "com/example/istra/istra/model/Transfer") (Fk1 : Fld Z h0 a1 "com/example/istra/istra/model/Transfer" "vehicleStates" "[I" (.ref b1)) (Fk2 : Fld Z h0 a1 "com/example/istra/istra/model/Transfer" "crossingS" "[D" (.ref b2)) (Fk3 : Fld Z h0 a1 "com/example/istra/istra/model/Transfer" "fluid" "[D" (.ref b3)) (Fk4 : Fld Z h0 a1 "com/example/istra/istra/model/Transfer" "vehicles" "I" (.int x0)) (Fk5 : Fld Z h0 a1 "com/example/istra/istra/model/Transfer" "holdsFluid" "Z" (.int y0)) (Fk6 : Arv Z h0 b3 k3 .double (1 : Int32) [(.double u0)] (.double (0 : UInt64))) (ge_a1 : n0 ≤ a1) (ge_b3 : n0 ≤ b3) (ne_a1_b3 : a1 ≠ b3) (hp : p1 = (0 : Int32)) (nn_0 : Jvm.Free.Fl.NoNaN64 (FP.dadd u0 v1)) :
    MetFree l (⟨"com/example/istra/istra/model/Transfer", "addFluid", "(ID)V"⟩ : MethodName) (head1 (Jvm.Cond.code (⟨"com/example/istra/istra/model/Transfer", "addFluid", "(ID)V"⟩ : MethodName) prog_54_method_4_code 4 none :: ws) ({ frames := 0, cells := 0, slots := 0, locals := 0 } : Room)) (fun a U => a = #[(.ref a1), (.int p1), (.double v1)] ∧ Z.Warmed39 U.vm ∧ U.heap = h0) (fun _ _ _ _ _ => True) (fun _ U o U' => ∃ v L, o = .returned v ∧ Q_fl1 Z a1 b1 b2 b3 k3 p1 v1 x0 y0 u0 h0 n0 v U'.heap L ∧ FrameEnd U o U' L ({ frames := 0, cells := 0, slots := 0, locals := 0 } : Room).cells ({ frames := 0, cells := 0, slots := 0, locals := 0 } : Room).slots) := by
  refine MetFree.of_bodySF (plainFor_of_name pn_com_2fexample_2fistra_2fistra_2fmodel_2fTransfer) hisR ?_
  intro p e s m args below meth c s₁ Bd hml0 hP hK
  obtain ⟨rfl, hZ, hh⟩ := hP
  have hx := Bd.exec
  have hby := Bd.bytes
  have hml : c.maxLocals = 4 := hml0
  have hown : s.vm.findClass "com/example/istra/istra/model/Transfer" = some m.cls := findClass_of_methodNamed Bd.named
  have hnm := (name_of_methodNamed Bd.named Bd.method).1
  have X0 : Stand p l e ({ frames := 0, cells := 0, slots := 0, locals := 0 } : Room) s m #[(.ref a1), (.int p1), (.double v1)] below meth c s₁ [] 0 0 := Stand.of_body Bd
  have e0 : s₁.heap = h0 := by rw [← hh, Bd.state]; rfl
  have N0 := Fr.nil n0
  have k0 : ∀ t, Steps p.tables e below (s₁.setTop (mkF m 0 #[.val (.ref a1), .val (.int p1), .val (.double v1), .second] [])) t → Steps p.tables e below (s₁.setTop (entryFrame m #[(.ref a1), (.int p1), (.double v1)] 4)) t := fun t k => castTop (ef_5_RID m a1 p1 v1) k
  have K0 := Keep.refl h0 [a1, b3]
  have k101 : ∀ t, Steps p.tables e below (s₁.setTop (mkF m 1 #[.val (.ref a1), .val (.int p1), .val (.double v1), .second] [(.ref a1)])) t → Steps p.tables e below (s₁.setTop (entryFrame m #[(.ref a1), (.int p1), (.double v1)] 4)) t := fun t k => k0 t (by
    show Steps p.tables e below (s₁.setTop (mkF m 0 #[.val (.ref a1), .val (.int p1), .val (.double v1), .second] [])) _
    refine XS.aloadN X0.here hx rfl (hb hby d5_0) rfl rfl ?_
    exact k)
  obtain rfl := hp
  · obtain ⟨T102, X102, e102, st102⟩ := getF X0 hx hZ hown (host := "") (Or.inl (hw _ (List.mem_of_getElem? (i := 16) rfl))) Via.refl e0 Fk3 (g := (mkF m 1 #[.val (.ref a1), .val (.int (0 : Int32)), .val (.double v1), .second] [(.ref a1)])) rfl rfl (hb hby d5_1)
    have k103 : ∀ t, Steps p.tables e below (T102.setTop (mkF m 4 #[.val (.ref a1), .val (.int (0 : Int32)), .val (.double v1), .second] [(.ref b3)])) t → Steps p.tables e below (s₁.setTop (entryFrame m #[(.ref a1), (.int (0 : Int32)), (.double v1)] 4)) t := fun t k => k101 t (st102 t k)
    have k104 : ∀ t, Steps p.tables e below (T102.setTop (mkF m 6 #[.val (.ref a1), .val (.int (0 : Int32)), .val (.double v1), .second] [(.int (0 : Int32)), (.ref b3), (.int (0 : Int32)), (.ref b3)])) t → Steps p.tables e below (s₁.setTop (entryFrame m #[(.ref a1), (.int (0 : Int32)), (.double v1)] 4)) t := fun t k => k103 t (by
      show Steps p.tables e below (T102.setTop (mkF m 4 #[.val (.ref a1), .val (.int (0 : Int32)), .val (.double v1), .second] [(.ref b3)])) _
      refine XS.iloadN X102.here hx rfl (hb hby d5_4) rfl ?_
      show Steps p.tables e below (T102.setTop (mkF m 5 #[.val (.ref a1), .val (.int (0 : Int32)), .val (.double v1), .second] [(.int (0 : Int32)), (.ref b3)])) _
      refine XT.dup2 X102.here hx rfl (hb hby d5_5) rfl rfl rfl ?_
      exact k)
    obtain ⟨c105, Ar105, -, As105, An105, Ah105, -⟩ := id Fk6
    have hin105 : ¬ ((0 : Int32) < 0 ∨ c105.slots.size ≤ ((0 : Int32)).toNatClampNeg) := inb_of As105 ⟨by decide, by decide⟩
    have hat105 : c105.slots[((0 : Int32)).toNatClampNeg]? = some (.double u0) := Has.at Ah105 hin105 rfl
    have k106 : ∀ t, Steps p.tables e below (T102.setTop (mkF m 9 #[.val (.ref a1), .val (.int (0 : Int32)), .val (.double v1), .second] [(.double (FP.dadd u0 v1)), (.int (0 : Int32)), (.ref b3)])) t → Steps p.tables e below (s₁.setTop (entryFrame m #[(.ref a1), (.int (0 : Int32)), (.double v1)] 4)) t := fun t k => k104 t (by
      show Steps p.tables e below (T102.setTop (mkF m 6 #[.val (.ref a1), .val (.int (0 : Int32)), .val (.double v1), .second] [(.int (0 : Int32)), (.ref b3), (.int (0 : Int32)), (.ref b3)])) _
      refine X102.daload hx (j := (0 : Int32)) (v := (.double u0)) (by rw [e102]; exact Ar105.1) (State.isArrayOf_alike hZ.alike Ar105.2.1) Ar105.2.2 hin105 hat105 (g := (mkF m 6 #[.val (.ref a1), .val (.int (0 : Int32)), .val (.double v1), .second] [(.int (0 : Int32)), (.ref b3), (.int (0 : Int32)), (.ref b3)])) rfl rfl (hb hby d5_6) _ ?_
      show Steps p.tables e below (T102.setTop (mkF m 7 #[.val (.ref a1), .val (.int (0 : Int32)), .val (.double v1), .second] [(.double u0), (.int (0 : Int32)), (.ref b3)])) _
      refine XS.dloadN X102.here hx rfl (hb hby d5_7) rfl ?_
      show Steps p.tables e below (T102.setTop (mkF m 8 #[.val (.ref a1), .val (.int (0 : Int32)), .val (.double v1), .second] [(.double v1), (.double u0), (.int (0 : Int32)), (.ref b3)])) _
      refine XS.daddS X102.here hx rfl (hb hby d5_8) rfl (nn_0) rfl ?_
      exact k)
    obtain ⟨c107, Ar107, Aq107, As107, An107, Ah107, Ag107⟩ := id Fk6
    have hin107 : ¬ ((0 : Int32) < 0 ∨ c107.slots.size ≤ ((0 : Int32)).toNatClampNeg) := inb_of As107 ⟨by decide, by decide⟩
    obtain ⟨T107, h107, X107, e107, W107, st107⟩ := stD X102 hx hZ e102 Ar107 (j := (0 : Int32)) hin107 (g := (mkF m 9 #[.val (.ref a1), .val (.int (0 : Int32)), .val (.double v1), .second] [(.double (FP.dadd u0 v1)), (.int (0 : Int32)), (.ref b3)])) rfl rfl (hb hby d5_9)
    have V108 := Arv.set Ar107 Aq107 As107 An107 Ah107 Ag107 rfl W107 0 rfl (Nat.le_of_ble_eq_true rfl)
    have F109 := Fk0.wr W107
    have F110 := Fk1.other W107 (Or.inl ne_a1_b3)
    have F111 := Fk2.other W107 (Or.inl ne_a1_b3)
    have F112 := Fk3.other W107 (Or.inl ne_a1_b3)
    have F113 := Fk4.other W107 (Or.inl ne_a1_b3)
    have F114 := Fk5.other W107 (Or.inl ne_a1_b3)
    have Z115 : n0 ≤ h107.size := Nat.le_trans Z0 (Nat.le_of_eq W107.size.symm)
    have N116 := Fr.snoc X107 N0 ge_b3
    have K117 := K0.wr W107 (Or.inl (List.mem_of_getElem? (i := 1) rfl))
    have k118 : ∀ t, Steps p.tables e below (T107.setTop (mkF m 10 #[.val (.ref a1), .val (.int (0 : Int32)), .val (.double v1), .second] [])) t → Steps p.tables e below (s₁.setTop (entryFrame m #[(.ref a1), (.int (0 : Int32)), (.double v1)] 4)) t := fun t k => k106 t (st107 t k)
    have k119 : ∀ t, Steps p.tables e below (T107.setTop (mkF m 12 #[.val (.ref a1), .val (.int (0 : Int32)), .val (.double v1), .second] [(.int (1 : Int32)), (.ref a1)])) t → Steps p.tables e below (s₁.setTop (entryFrame m #[(.ref a1), (.int (0 : Int32)), (.double v1)] 4)) t := fun t k => k118 t (by
      show Steps p.tables e below (T107.setTop (mkF m 10 #[.val (.ref a1), .val (.int (0 : Int32)), .val (.double v1), .second] [])) _
      refine XS.aloadN X107.here hx rfl (hb hby d5_10) rfl rfl ?_
      show Steps p.tables e below (T107.setTop (mkF m 11 #[.val (.ref a1), .val (.int (0 : Int32)), .val (.double v1), .second] [(.ref a1)])) _
      refine XS.iconst X107.here hx rfl (hb hby d5_11) ?_
      exact k)
    obtain ⟨T120, h120, X120, e120, W120, st120⟩ := putF X107 hx hZ hown (host := "") (Or.inl (hw _ (List.mem_of_getElem? (i := 37) rfl))) Via.refl e107 F114 F109 (Or.inl (hw _ (List.mem_of_getElem? (i := 38) rfl))) (hw _ (List.mem_of_getElem? (i := 2) rfl)) (ty := .boolean) (by decide) rfl rfl (g := (mkF m 12 #[.val (.ref a1), .val (.int (0 : Int32)), .val (.double v1), .second] [(.int (1 : Int32)), (.ref a1)])) rfl rfl (hb hby d5_12)
    have F121 := F114.same W120
    have F122 := F109.wr W120
    have F123 := F110.other W120 (Or.inr (slot_ne (Or.inl (hw _ (List.mem_of_getElem? (i := 12) rfl))) (Or.inl (hw _ (List.mem_of_getElem? (i := 38) rfl))) (by decide) (t := (.array .int)) (t' := .boolean) (by decide) (by decide)))
    have F124 := F111.other W120 (Or.inr (slot_ne (Or.inl (hw _ (List.mem_of_getElem? (i := 15) rfl))) (Or.inl (hw _ (List.mem_of_getElem? (i := 38) rfl))) (by decide) (t := (.array .double)) (t' := .boolean) (by decide) (by decide)))
    have F125 := F112.other W120 (Or.inr (slot_ne (Or.inr (hw _ (List.mem_of_getElem? (i := 17) rfl))) (Or.inl (hw _ (List.mem_of_getElem? (i := 38) rfl))) (by decide) (t := (.array .double)) (t' := .boolean) (by decide) (by decide)))
    have F126 := F113.other W120 (Or.inr (slot_ne (Or.inl (hw _ (List.mem_of_getElem? (i := 24) rfl))) (Or.inl (hw _ (List.mem_of_getElem? (i := 38) rfl))) (by decide) (t := .int) (t' := .boolean) (by decide) (by decide)))
    have F127 := V108.other W120 (Ne.symm ne_a1_b3)
    have Z128 : n0 ≤ h120.size := Nat.le_trans Z115 (Nat.le_of_eq W120.size.symm)
    have N129 := Fr.snoc X120 N116 ge_a1
    have K130 := K117.wr W120 (Or.inl (List.mem_of_getElem? (i := 0) rfl))
    have k131 : ∀ t, Steps p.tables e below (T120.setTop (mkF m 15 #[.val (.ref a1), .val (.int (0 : Int32)), .val (.double v1), .second] [])) t → Steps p.tables e below (s₁.setTop (entryFrame m #[(.ref a1), (.int (0 : Int32)), (.double v1)] 4)) t := fun t k => k119 t (st120 t k)
    obtain ⟨fs, hr, hrun, hended, hW, hsame⟩ := X120.leave (v := none) (fun _ => rfl)
    refine ⟨_, _, k131 _ (X120.returnOut hx Bd.returns (hb hby d5_15) hr), hrun, hended, _, _, rfl, ?_, ⟨_, rfl⟩, hW, hsame.mono (by decide) (by decide)⟩
    show Q_fl1 Z a1 b1 b2 b3 k3 (0 : Int32) v1 x0 y0 u0 h0 n0 _ T120.heap _
    rw [e120]
    exact ⟨rfl, N129, K130, F122, F123, F124, F125, F126, F121, F127⟩
def Q_fl2 (Z : State) (a1 : Addr) (b1 : Addr) (b2 : Addr) (b3 : Addr) (k3 : ClassId) (p1 : Int32) (v1 : UInt64) (x0 : Int32) (y0 : Int32) (u0 : UInt64) (u1 : UInt64) (h0 : Heap) (n0 : Nat) (v : Option Value) (h : Heap) (L : List Loc) : Prop := v = none ∧ Fr n0 L ∧ Keep h0 h [a1, b3] ∧ Exa Z h a1 "com/example/istra/istra/model/Transfer" ∧ Fld Z h a1 "com/example/istra/istra/model/Transfer" "vehicleStates" "[I" (.ref b1) ∧ Fld Z h a1 "com/example/istra/istra/model/Transfer" "crossingS" "[D" (.ref b2) ∧ Fld Z h a1 "com/example/istra/istra/model/Transfer" "fluid" "[D" (.ref b3) ∧ Fld Z h a1 "com/example/istra/istra/model/Transfer" "vehicles" "I" (.int x0) ∧ Fld Z h a1 "com/example/istra/istra/model/Transfer" "holdsFluid" "Z" (.int (1 : Int32)) ∧ Arv Z h b3 k3 .double (2 : Int32) [(.double (if p1 = (0 : Int32) then FP.dadd u0 v1 else u0)), (.double (if p1 = (1 : Int32) then FP.dadd u1 v1 else u1))] (.double (0 : UInt64))
set_option maxRecDepth 65536 in
set_option maxHeartbeats 40000000 in
theorem fl2 (l : Launch) (Z : State) (a0 : Array Value) (hw : ∀ d ∈ tables_1, d.before a0 Z = true) (ws : List Jvm.Cond) (a1 : Addr) (b1 : Addr) (b2 : Addr) (b3 : Addr) (k3 : ClassId) (p1 : Int32) (v1 : UInt64) (x0 : Int32) (y0 : Int32) (u0 : UInt64) (u1 : UInt64) (h0 : Heap) (n0 : Nat) (Z0 : n0 ≤ h0.size) (Fk0 : Exa Z h0 a1 "com/example/istra/istra/model/Transfer") (Fk1 : Fld Z h0 a1 "com/example/istra/istra/model/Transfer" "vehicleStates" "[I" (.ref b1)) (Fk2 : Fld Z h0 a1 "com/example/istra/istra/model/Transfer" "crossingS" "[D" (.ref b2)) (Fk3 : Fld Z h0 a1 "com/example/istra/istra/model/Transfer" "fluid" "[D" (.ref b3)) (Fk4 : Fld Z h0 a1 "com/example/istra/istra/model/Transfer" "vehicles" "I" (.int x0)) (Fk5 : Fld Z h0 a1 "com/example/istra/istra/model/Transfer" "holdsFluid" "Z" (.int y0)) (Fk6 : Arv Z h0 b3 k3 .double (2 : Int32) [(.double u0), (.double u1)] (.double (0 : UInt64))) (ge_a1 : n0 ≤ a1) (ge_b3 : n0 ≤ b3) (ne_a1_b3 : a1 ≠ b3) (hp : p1 = (0 : Int32) ∨ p1 = (1 : Int32)) (nn_0 : Jvm.Free.Fl.NoNaN64 (FP.dadd u0 v1)) (nn_1 : Jvm.Free.Fl.NoNaN64 (FP.dadd u1 v1)) :
    MetFree l (⟨"com/example/istra/istra/model/Transfer", "addFluid", "(ID)V"⟩ : MethodName) (head1 (Jvm.Cond.code (⟨"com/example/istra/istra/model/Transfer", "addFluid", "(ID)V"⟩ : MethodName) prog_54_method_4_code 4 none :: ws) ({ frames := 0, cells := 0, slots := 0, locals := 0 } : Room)) (fun a U => a = #[(.ref a1), (.int p1), (.double v1)] ∧ Z.Warmed39 U.vm ∧ U.heap = h0) (fun _ _ _ _ _ => True) (fun _ U o U' => ∃ v L, o = .returned v ∧ Q_fl2 Z a1 b1 b2 b3 k3 p1 v1 x0 y0 u0 u1 h0 n0 v U'.heap L ∧ FrameEnd U o U' L ({ frames := 0, cells := 0, slots := 0, locals := 0 } : Room).cells ({ frames := 0, cells := 0, slots := 0, locals := 0 } : Room).slots) := by
  refine MetFree.of_bodySF (plainFor_of_name pn_com_2fexample_2fistra_2fistra_2fmodel_2fTransfer) hisR ?_
  intro p e s m args below meth c s₁ Bd hml0 hP hK
  obtain ⟨rfl, hZ, hh⟩ := hP
  have hx := Bd.exec
  have hby := Bd.bytes
  have hml : c.maxLocals = 4 := hml0
  have hown : s.vm.findClass "com/example/istra/istra/model/Transfer" = some m.cls := findClass_of_methodNamed Bd.named
  have hnm := (name_of_methodNamed Bd.named Bd.method).1
  have X0 : Stand p l e ({ frames := 0, cells := 0, slots := 0, locals := 0 } : Room) s m #[(.ref a1), (.int p1), (.double v1)] below meth c s₁ [] 0 0 := Stand.of_body Bd
  have e0 : s₁.heap = h0 := by rw [← hh, Bd.state]; rfl
  have N0 := Fr.nil n0
  have k0 : ∀ t, Steps p.tables e below (s₁.setTop (mkF m 0 #[.val (.ref a1), .val (.int p1), .val (.double v1), .second] [])) t → Steps p.tables e below (s₁.setTop (entryFrame m #[(.ref a1), (.int p1), (.double v1)] 4)) t := fun t k => castTop (ef_5_RID m a1 p1 v1) k
  have K0 := Keep.refl h0 [a1, b3]
  have k101 : ∀ t, Steps p.tables e below (s₁.setTop (mkF m 1 #[.val (.ref a1), .val (.int p1), .val (.double v1), .second] [(.ref a1)])) t → Steps p.tables e below (s₁.setTop (entryFrame m #[(.ref a1), (.int p1), (.double v1)] 4)) t := fun t k => k0 t (by
    show Steps p.tables e below (s₁.setTop (mkF m 0 #[.val (.ref a1), .val (.int p1), .val (.double v1), .second] [])) _
    refine XS.aloadN X0.here hx rfl (hb hby d5_0) rfl rfl ?_
    exact k)
  rcases hp with rfl | rfl
  · obtain ⟨T102, X102, e102, st102⟩ := getF X0 hx hZ hown (host := "") (Or.inl (hw _ (List.mem_of_getElem? (i := 16) rfl))) Via.refl e0 Fk3 (g := (mkF m 1 #[.val (.ref a1), .val (.int (0 : Int32)), .val (.double v1), .second] [(.ref a1)])) rfl rfl (hb hby d5_1)
    have k103 : ∀ t, Steps p.tables e below (T102.setTop (mkF m 4 #[.val (.ref a1), .val (.int (0 : Int32)), .val (.double v1), .second] [(.ref b3)])) t → Steps p.tables e below (s₁.setTop (entryFrame m #[(.ref a1), (.int (0 : Int32)), (.double v1)] 4)) t := fun t k => k101 t (st102 t k)
    have k104 : ∀ t, Steps p.tables e below (T102.setTop (mkF m 6 #[.val (.ref a1), .val (.int (0 : Int32)), .val (.double v1), .second] [(.int (0 : Int32)), (.ref b3), (.int (0 : Int32)), (.ref b3)])) t → Steps p.tables e below (s₁.setTop (entryFrame m #[(.ref a1), (.int (0 : Int32)), (.double v1)] 4)) t := fun t k => k103 t (by
      show Steps p.tables e below (T102.setTop (mkF m 4 #[.val (.ref a1), .val (.int (0 : Int32)), .val (.double v1), .second] [(.ref b3)])) _
      refine XS.iloadN X102.here hx rfl (hb hby d5_4) rfl ?_
      show Steps p.tables e below (T102.setTop (mkF m 5 #[.val (.ref a1), .val (.int (0 : Int32)), .val (.double v1), .second] [(.int (0 : Int32)), (.ref b3)])) _
      refine XT.dup2 X102.here hx rfl (hb hby d5_5) rfl rfl rfl ?_
      exact k)
    obtain ⟨c105, Ar105, -, As105, An105, Ah105, -⟩ := id Fk6
    have hin105 : ¬ ((0 : Int32) < 0 ∨ c105.slots.size ≤ ((0 : Int32)).toNatClampNeg) := inb_of As105 ⟨by decide, by decide⟩
    have hat105 : c105.slots[((0 : Int32)).toNatClampNeg]? = some (.double u0) := Has.at Ah105 hin105 rfl
    have k106 : ∀ t, Steps p.tables e below (T102.setTop (mkF m 9 #[.val (.ref a1), .val (.int (0 : Int32)), .val (.double v1), .second] [(.double (FP.dadd u0 v1)), (.int (0 : Int32)), (.ref b3)])) t → Steps p.tables e below (s₁.setTop (entryFrame m #[(.ref a1), (.int (0 : Int32)), (.double v1)] 4)) t := fun t k => k104 t (by
      show Steps p.tables e below (T102.setTop (mkF m 6 #[.val (.ref a1), .val (.int (0 : Int32)), .val (.double v1), .second] [(.int (0 : Int32)), (.ref b3), (.int (0 : Int32)), (.ref b3)])) _
      refine X102.daload hx (j := (0 : Int32)) (v := (.double u0)) (by rw [e102]; exact Ar105.1) (State.isArrayOf_alike hZ.alike Ar105.2.1) Ar105.2.2 hin105 hat105 (g := (mkF m 6 #[.val (.ref a1), .val (.int (0 : Int32)), .val (.double v1), .second] [(.int (0 : Int32)), (.ref b3), (.int (0 : Int32)), (.ref b3)])) rfl rfl (hb hby d5_6) _ ?_
      show Steps p.tables e below (T102.setTop (mkF m 7 #[.val (.ref a1), .val (.int (0 : Int32)), .val (.double v1), .second] [(.double u0), (.int (0 : Int32)), (.ref b3)])) _
      refine XS.dloadN X102.here hx rfl (hb hby d5_7) rfl ?_
      show Steps p.tables e below (T102.setTop (mkF m 8 #[.val (.ref a1), .val (.int (0 : Int32)), .val (.double v1), .second] [(.double v1), (.double u0), (.int (0 : Int32)), (.ref b3)])) _
      refine XS.daddS X102.here hx rfl (hb hby d5_8) rfl (nn_0) rfl ?_
      exact k)
    obtain ⟨c107, Ar107, Aq107, As107, An107, Ah107, Ag107⟩ := id Fk6
    have hin107 : ¬ ((0 : Int32) < 0 ∨ c107.slots.size ≤ ((0 : Int32)).toNatClampNeg) := inb_of As107 ⟨by decide, by decide⟩
    obtain ⟨T107, h107, X107, e107, W107, st107⟩ := stD X102 hx hZ e102 Ar107 (j := (0 : Int32)) hin107 (g := (mkF m 9 #[.val (.ref a1), .val (.int (0 : Int32)), .val (.double v1), .second] [(.double (FP.dadd u0 v1)), (.int (0 : Int32)), (.ref b3)])) rfl rfl (hb hby d5_9)
    have V108 := Arv.set Ar107 Aq107 As107 An107 Ah107 Ag107 rfl W107 0 rfl (Nat.le_of_ble_eq_true rfl)
    have F109 := Fk0.wr W107
    have F110 := Fk1.other W107 (Or.inl ne_a1_b3)
    have F111 := Fk2.other W107 (Or.inl ne_a1_b3)
    have F112 := Fk3.other W107 (Or.inl ne_a1_b3)
    have F113 := Fk4.other W107 (Or.inl ne_a1_b3)
    have F114 := Fk5.other W107 (Or.inl ne_a1_b3)
    have Z115 : n0 ≤ h107.size := Nat.le_trans Z0 (Nat.le_of_eq W107.size.symm)
    have N116 := Fr.snoc X107 N0 ge_b3
    have K117 := K0.wr W107 (Or.inl (List.mem_of_getElem? (i := 1) rfl))
    have k118 : ∀ t, Steps p.tables e below (T107.setTop (mkF m 10 #[.val (.ref a1), .val (.int (0 : Int32)), .val (.double v1), .second] [])) t → Steps p.tables e below (s₁.setTop (entryFrame m #[(.ref a1), (.int (0 : Int32)), (.double v1)] 4)) t := fun t k => k106 t (st107 t k)
    have k119 : ∀ t, Steps p.tables e below (T107.setTop (mkF m 12 #[.val (.ref a1), .val (.int (0 : Int32)), .val (.double v1), .second] [(.int (1 : Int32)), (.ref a1)])) t → Steps p.tables e below (s₁.setTop (entryFrame m #[(.ref a1), (.int (0 : Int32)), (.double v1)] 4)) t := fun t k => k118 t (by
      show Steps p.tables e below (T107.setTop (mkF m 10 #[.val (.ref a1), .val (.int (0 : Int32)), .val (.double v1), .second] [])) _
      refine XS.aloadN X107.here hx rfl (hb hby d5_10) rfl rfl ?_
      show Steps p.tables e below (T107.setTop (mkF m 11 #[.val (.ref a1), .val (.int (0 : Int32)), .val (.double v1), .second] [(.ref a1)])) _
      refine XS.iconst X107.here hx rfl (hb hby d5_11) ?_
      exact k)
    obtain ⟨T120, h120, X120, e120, W120, st120⟩ := putF X107 hx hZ hown (host := "") (Or.inl (hw _ (List.mem_of_getElem? (i := 37) rfl))) Via.refl e107 F114 F109 (Or.inl (hw _ (List.mem_of_getElem? (i := 38) rfl))) (hw _ (List.mem_of_getElem? (i := 2) rfl)) (ty := .boolean) (by decide) rfl rfl (g := (mkF m 12 #[.val (.ref a1), .val (.int (0 : Int32)), .val (.double v1), .second] [(.int (1 : Int32)), (.ref a1)])) rfl rfl (hb hby d5_12)
    have F121 := F114.same W120
    have F122 := F109.wr W120
    have F123 := F110.other W120 (Or.inr (slot_ne (Or.inl (hw _ (List.mem_of_getElem? (i := 12) rfl))) (Or.inl (hw _ (List.mem_of_getElem? (i := 38) rfl))) (by decide) (t := (.array .int)) (t' := .boolean) (by decide) (by decide)))
    have F124 := F111.other W120 (Or.inr (slot_ne (Or.inl (hw _ (List.mem_of_getElem? (i := 15) rfl))) (Or.inl (hw _ (List.mem_of_getElem? (i := 38) rfl))) (by decide) (t := (.array .double)) (t' := .boolean) (by decide) (by decide)))
    have F125 := F112.other W120 (Or.inr (slot_ne (Or.inr (hw _ (List.mem_of_getElem? (i := 17) rfl))) (Or.inl (hw _ (List.mem_of_getElem? (i := 38) rfl))) (by decide) (t := (.array .double)) (t' := .boolean) (by decide) (by decide)))
    have F126 := F113.other W120 (Or.inr (slot_ne (Or.inl (hw _ (List.mem_of_getElem? (i := 24) rfl))) (Or.inl (hw _ (List.mem_of_getElem? (i := 38) rfl))) (by decide) (t := .int) (t' := .boolean) (by decide) (by decide)))
    have F127 := V108.other W120 (Ne.symm ne_a1_b3)
    have Z128 : n0 ≤ h120.size := Nat.le_trans Z115 (Nat.le_of_eq W120.size.symm)
    have N129 := Fr.snoc X120 N116 ge_a1
    have K130 := K117.wr W120 (Or.inl (List.mem_of_getElem? (i := 0) rfl))
    have k131 : ∀ t, Steps p.tables e below (T120.setTop (mkF m 15 #[.val (.ref a1), .val (.int (0 : Int32)), .val (.double v1), .second] [])) t → Steps p.tables e below (s₁.setTop (entryFrame m #[(.ref a1), (.int (0 : Int32)), (.double v1)] 4)) t := fun t k => k119 t (st120 t k)
    obtain ⟨fs, hr, hrun, hended, hW, hsame⟩ := X120.leave (v := none) (fun _ => rfl)
    refine ⟨_, _, k131 _ (X120.returnOut hx Bd.returns (hb hby d5_15) hr), hrun, hended, _, _, rfl, ?_, ⟨_, rfl⟩, hW, hsame.mono (by decide) (by decide)⟩
    show Q_fl2 Z a1 b1 b2 b3 k3 (0 : Int32) v1 x0 y0 u0 u1 h0 n0 _ T120.heap _
    rw [e120]
    exact ⟨rfl, N129, K130, F122, F123, F124, F125, F126, F121, F127⟩
  · obtain ⟨T132, X132, e132, st132⟩ := getF X0 hx hZ hown (host := "") (Or.inl (hw _ (List.mem_of_getElem? (i := 16) rfl))) Via.refl e0 Fk3 (g := (mkF m 1 #[.val (.ref a1), .val (.int (1 : Int32)), .val (.double v1), .second] [(.ref a1)])) rfl rfl (hb hby d5_1)
    have k133 : ∀ t, Steps p.tables e below (T132.setTop (mkF m 4 #[.val (.ref a1), .val (.int (1 : Int32)), .val (.double v1), .second] [(.ref b3)])) t → Steps p.tables e below (s₁.setTop (entryFrame m #[(.ref a1), (.int (1 : Int32)), (.double v1)] 4)) t := fun t k => k101 t (st132 t k)
    have k134 : ∀ t, Steps p.tables e below (T132.setTop (mkF m 6 #[.val (.ref a1), .val (.int (1 : Int32)), .val (.double v1), .second] [(.int (1 : Int32)), (.ref b3), (.int (1 : Int32)), (.ref b3)])) t → Steps p.tables e below (s₁.setTop (entryFrame m #[(.ref a1), (.int (1 : Int32)), (.double v1)] 4)) t := fun t k => k133 t (by
      show Steps p.tables e below (T132.setTop (mkF m 4 #[.val (.ref a1), .val (.int (1 : Int32)), .val (.double v1), .second] [(.ref b3)])) _
      refine XS.iloadN X132.here hx rfl (hb hby d5_4) rfl ?_
      show Steps p.tables e below (T132.setTop (mkF m 5 #[.val (.ref a1), .val (.int (1 : Int32)), .val (.double v1), .second] [(.int (1 : Int32)), (.ref b3)])) _
      refine XT.dup2 X132.here hx rfl (hb hby d5_5) rfl rfl rfl ?_
      exact k)
    obtain ⟨c135, Ar135, -, As135, An135, Ah135, -⟩ := id Fk6
    have hin135 : ¬ ((1 : Int32) < 0 ∨ c135.slots.size ≤ ((1 : Int32)).toNatClampNeg) := inb_of As135 ⟨by decide, by decide⟩
    have hat135 : c135.slots[((1 : Int32)).toNatClampNeg]? = some (.double u1) := Has.at Ah135 hin135 rfl
    have k136 : ∀ t, Steps p.tables e below (T132.setTop (mkF m 9 #[.val (.ref a1), .val (.int (1 : Int32)), .val (.double v1), .second] [(.double (FP.dadd u1 v1)), (.int (1 : Int32)), (.ref b3)])) t → Steps p.tables e below (s₁.setTop (entryFrame m #[(.ref a1), (.int (1 : Int32)), (.double v1)] 4)) t := fun t k => k134 t (by
      show Steps p.tables e below (T132.setTop (mkF m 6 #[.val (.ref a1), .val (.int (1 : Int32)), .val (.double v1), .second] [(.int (1 : Int32)), (.ref b3), (.int (1 : Int32)), (.ref b3)])) _
      refine X132.daload hx (j := (1 : Int32)) (v := (.double u1)) (by rw [e132]; exact Ar135.1) (State.isArrayOf_alike hZ.alike Ar135.2.1) Ar135.2.2 hin135 hat135 (g := (mkF m 6 #[.val (.ref a1), .val (.int (1 : Int32)), .val (.double v1), .second] [(.int (1 : Int32)), (.ref b3), (.int (1 : Int32)), (.ref b3)])) rfl rfl (hb hby d5_6) _ ?_
      show Steps p.tables e below (T132.setTop (mkF m 7 #[.val (.ref a1), .val (.int (1 : Int32)), .val (.double v1), .second] [(.double u1), (.int (1 : Int32)), (.ref b3)])) _
      refine XS.dloadN X132.here hx rfl (hb hby d5_7) rfl ?_
      show Steps p.tables e below (T132.setTop (mkF m 8 #[.val (.ref a1), .val (.int (1 : Int32)), .val (.double v1), .second] [(.double v1), (.double u1), (.int (1 : Int32)), (.ref b3)])) _
      refine XS.daddS X132.here hx rfl (hb hby d5_8) rfl (nn_1) rfl ?_
      exact k)
    obtain ⟨c137, Ar137, Aq137, As137, An137, Ah137, Ag137⟩ := id Fk6
    have hin137 : ¬ ((1 : Int32) < 0 ∨ c137.slots.size ≤ ((1 : Int32)).toNatClampNeg) := inb_of As137 ⟨by decide, by decide⟩
    obtain ⟨T137, h137, X137, e137, W137, st137⟩ := stD X132 hx hZ e132 Ar137 (j := (1 : Int32)) hin137 (g := (mkF m 9 #[.val (.ref a1), .val (.int (1 : Int32)), .val (.double v1), .second] [(.double (FP.dadd u1 v1)), (.int (1 : Int32)), (.ref b3)])) rfl rfl (hb hby d5_9)
    have V138 := Arv.set Ar137 Aq137 As137 An137 Ah137 Ag137 rfl W137 1 rfl (Nat.le_of_ble_eq_true rfl)
    have F139 := Fk0.wr W137
    have F140 := Fk1.other W137 (Or.inl ne_a1_b3)
    have F141 := Fk2.other W137 (Or.inl ne_a1_b3)
    have F142 := Fk3.other W137 (Or.inl ne_a1_b3)
    have F143 := Fk4.other W137 (Or.inl ne_a1_b3)
    have F144 := Fk5.other W137 (Or.inl ne_a1_b3)
    have Z145 : n0 ≤ h137.size := Nat.le_trans Z0 (Nat.le_of_eq W137.size.symm)
    have N146 := Fr.snoc X137 N0 ge_b3
    have K147 := K0.wr W137 (Or.inl (List.mem_of_getElem? (i := 1) rfl))
    have k148 : ∀ t, Steps p.tables e below (T137.setTop (mkF m 10 #[.val (.ref a1), .val (.int (1 : Int32)), .val (.double v1), .second] [])) t → Steps p.tables e below (s₁.setTop (entryFrame m #[(.ref a1), (.int (1 : Int32)), (.double v1)] 4)) t := fun t k => k136 t (st137 t k)
    have k149 : ∀ t, Steps p.tables e below (T137.setTop (mkF m 12 #[.val (.ref a1), .val (.int (1 : Int32)), .val (.double v1), .second] [(.int (1 : Int32)), (.ref a1)])) t → Steps p.tables e below (s₁.setTop (entryFrame m #[(.ref a1), (.int (1 : Int32)), (.double v1)] 4)) t := fun t k => k148 t (by
      show Steps p.tables e below (T137.setTop (mkF m 10 #[.val (.ref a1), .val (.int (1 : Int32)), .val (.double v1), .second] [])) _
      refine XS.aloadN X137.here hx rfl (hb hby d5_10) rfl rfl ?_
      show Steps p.tables e below (T137.setTop (mkF m 11 #[.val (.ref a1), .val (.int (1 : Int32)), .val (.double v1), .second] [(.ref a1)])) _
      refine XS.iconst X137.here hx rfl (hb hby d5_11) ?_
      exact k)
    obtain ⟨T150, h150, X150, e150, W150, st150⟩ := putF X137 hx hZ hown (host := "") (Or.inl (hw _ (List.mem_of_getElem? (i := 37) rfl))) Via.refl e137 F144 F139 (Or.inl (hw _ (List.mem_of_getElem? (i := 38) rfl))) (hw _ (List.mem_of_getElem? (i := 2) rfl)) (ty := .boolean) (by decide) rfl rfl (g := (mkF m 12 #[.val (.ref a1), .val (.int (1 : Int32)), .val (.double v1), .second] [(.int (1 : Int32)), (.ref a1)])) rfl rfl (hb hby d5_12)
    have F151 := F144.same W150
    have F152 := F139.wr W150
    have F153 := F140.other W150 (Or.inr (slot_ne (Or.inl (hw _ (List.mem_of_getElem? (i := 12) rfl))) (Or.inl (hw _ (List.mem_of_getElem? (i := 38) rfl))) (by decide) (t := (.array .int)) (t' := .boolean) (by decide) (by decide)))
    have F154 := F141.other W150 (Or.inr (slot_ne (Or.inl (hw _ (List.mem_of_getElem? (i := 15) rfl))) (Or.inl (hw _ (List.mem_of_getElem? (i := 38) rfl))) (by decide) (t := (.array .double)) (t' := .boolean) (by decide) (by decide)))
    have F155 := F142.other W150 (Or.inr (slot_ne (Or.inr (hw _ (List.mem_of_getElem? (i := 17) rfl))) (Or.inl (hw _ (List.mem_of_getElem? (i := 38) rfl))) (by decide) (t := (.array .double)) (t' := .boolean) (by decide) (by decide)))
    have F156 := F143.other W150 (Or.inr (slot_ne (Or.inl (hw _ (List.mem_of_getElem? (i := 24) rfl))) (Or.inl (hw _ (List.mem_of_getElem? (i := 38) rfl))) (by decide) (t := .int) (t' := .boolean) (by decide) (by decide)))
    have F157 := V138.other W150 (Ne.symm ne_a1_b3)
    have Z158 : n0 ≤ h150.size := Nat.le_trans Z145 (Nat.le_of_eq W150.size.symm)
    have N159 := Fr.snoc X150 N146 ge_a1
    have K160 := K147.wr W150 (Or.inl (List.mem_of_getElem? (i := 0) rfl))
    have k161 : ∀ t, Steps p.tables e below (T150.setTop (mkF m 15 #[.val (.ref a1), .val (.int (1 : Int32)), .val (.double v1), .second] [])) t → Steps p.tables e below (s₁.setTop (entryFrame m #[(.ref a1), (.int (1 : Int32)), (.double v1)] 4)) t := fun t k => k149 t (st150 t k)
    obtain ⟨fs, hr, hrun, hended, hW, hsame⟩ := X150.leave (v := none) (fun _ => rfl)
    refine ⟨_, _, k161 _ (X150.returnOut hx Bd.returns (hb hby d5_15) hr), hrun, hended, _, _, rfl, ?_, ⟨_, rfl⟩, hW, hsame.mono (by decide) (by decide)⟩
    show Q_fl2 Z a1 b1 b2 b3 k3 (1 : Int32) v1 x0 y0 u0 u1 h0 n0 _ T150.heap _
    rw [e150]
    exact ⟨rfl, N159, K160, F152, F153, F154, F155, F156, F151, F157⟩
def Q_fl3 (Z : State) (a1 : Addr) (b1 : Addr) (b2 : Addr) (b3 : Addr) (k3 : ClassId) (p1 : Int32) (v1 : UInt64) (x0 : Int32) (y0 : Int32) (u0 : UInt64) (u1 : UInt64) (u2 : UInt64) (h0 : Heap) (n0 : Nat) (v : Option Value) (h : Heap) (L : List Loc) : Prop := v = none ∧ Fr n0 L ∧ Keep h0 h [a1, b3] ∧ Exa Z h a1 "com/example/istra/istra/model/Transfer" ∧ Fld Z h a1 "com/example/istra/istra/model/Transfer" "vehicleStates" "[I" (.ref b1) ∧ Fld Z h a1 "com/example/istra/istra/model/Transfer" "crossingS" "[D" (.ref b2) ∧ Fld Z h a1 "com/example/istra/istra/model/Transfer" "fluid" "[D" (.ref b3) ∧ Fld Z h a1 "com/example/istra/istra/model/Transfer" "vehicles" "I" (.int x0) ∧ Fld Z h a1 "com/example/istra/istra/model/Transfer" "holdsFluid" "Z" (.int (1 : Int32)) ∧ Arv Z h b3 k3 .double (3 : Int32) [(.double (if p1 = (0 : Int32) then FP.dadd u0 v1 else u0)), (.double (if p1 = (1 : Int32) then FP.dadd u1 v1 else u1)), (.double (if p1 = (2 : Int32) then FP.dadd u2 v1 else u2))] (.double (0 : UInt64))
set_option maxRecDepth 65536 in
set_option maxHeartbeats 40000000 in
theorem fl3 (l : Launch) (Z : State) (a0 : Array Value) (hw : ∀ d ∈ tables_1, d.before a0 Z = true) (ws : List Jvm.Cond) (a1 : Addr) (b1 : Addr) (b2 : Addr) (b3 : Addr) (k3 : ClassId) (p1 : Int32) (v1 : UInt64) (x0 : Int32) (y0 : Int32) (u0 : UInt64) (u1 : UInt64) (u2 : UInt64) (h0 : Heap) (n0 : Nat) (Z0 : n0 ≤ h0.size) (Fk0 : Exa Z h0 a1 "com/example/istra/istra/model/Transfer") (Fk1 : Fld Z h0 a1 "com/example/istra/istra/model/Transfer" "vehicleStates" "[I" (.ref b1)) (Fk2 : Fld Z h0 a1 "com/example/istra/istra/model/Transfer" "crossingS" "[D" (.ref b2)) (Fk3 : Fld Z h0 a1 "com/example/istra/istra/model/Transfer" "fluid" "[D" (.ref b3)) (Fk4 : Fld Z h0 a1 "com/example/istra/istra/model/Transfer" "vehicles" "I" (.int x0)) (Fk5 : Fld Z h0 a1 "com/example/istra/istra/model/Transfer" "holdsFluid" "Z" (.int y0)) (Fk6 : Arv Z h0 b3 k3 .double (3 : Int32) [(.double u0), (.double u1), (.double u2)] (.double (0 : UInt64))) (ge_a1 : n0 ≤ a1) (ge_b3 : n0 ≤ b3) (ne_a1_b3 : a1 ≠ b3) (hp : p1 = (0 : Int32) ∨ p1 = (1 : Int32) ∨ p1 = (2 : Int32)) (nn_0 : Jvm.Free.Fl.NoNaN64 (FP.dadd u0 v1)) (nn_1 : Jvm.Free.Fl.NoNaN64 (FP.dadd u1 v1)) (nn_2 : Jvm.Free.Fl.NoNaN64 (FP.dadd u2 v1)) :
    MetFree l (⟨"com/example/istra/istra/model/Transfer", "addFluid", "(ID)V"⟩ : MethodName) (head1 (Jvm.Cond.code (⟨"com/example/istra/istra/model/Transfer", "addFluid", "(ID)V"⟩ : MethodName) prog_54_method_4_code 4 none :: ws) ({ frames := 0, cells := 0, slots := 0, locals := 0 } : Room)) (fun a U => a = #[(.ref a1), (.int p1), (.double v1)] ∧ Z.Warmed39 U.vm ∧ U.heap = h0) (fun _ _ _ _ _ => True) (fun _ U o U' => ∃ v L, o = .returned v ∧ Q_fl3 Z a1 b1 b2 b3 k3 p1 v1 x0 y0 u0 u1 u2 h0 n0 v U'.heap L ∧ FrameEnd U o U' L ({ frames := 0, cells := 0, slots := 0, locals := 0 } : Room).cells ({ frames := 0, cells := 0, slots := 0, locals := 0 } : Room).slots) := by
  refine MetFree.of_bodySF (plainFor_of_name pn_com_2fexample_2fistra_2fistra_2fmodel_2fTransfer) hisR ?_
  intro p e s m args below meth c s₁ Bd hml0 hP hK
  obtain ⟨rfl, hZ, hh⟩ := hP
  have hx := Bd.exec
  have hby := Bd.bytes
  have hml : c.maxLocals = 4 := hml0
  have hown : s.vm.findClass "com/example/istra/istra/model/Transfer" = some m.cls := findClass_of_methodNamed Bd.named
  have hnm := (name_of_methodNamed Bd.named Bd.method).1
  have X0 : Stand p l e ({ frames := 0, cells := 0, slots := 0, locals := 0 } : Room) s m #[(.ref a1), (.int p1), (.double v1)] below meth c s₁ [] 0 0 := Stand.of_body Bd
  have e0 : s₁.heap = h0 := by rw [← hh, Bd.state]; rfl
  have N0 := Fr.nil n0
  have k0 : ∀ t, Steps p.tables e below (s₁.setTop (mkF m 0 #[.val (.ref a1), .val (.int p1), .val (.double v1), .second] [])) t → Steps p.tables e below (s₁.setTop (entryFrame m #[(.ref a1), (.int p1), (.double v1)] 4)) t := fun t k => castTop (ef_5_RID m a1 p1 v1) k
  have K0 := Keep.refl h0 [a1, b3]
  have k101 : ∀ t, Steps p.tables e below (s₁.setTop (mkF m 1 #[.val (.ref a1), .val (.int p1), .val (.double v1), .second] [(.ref a1)])) t → Steps p.tables e below (s₁.setTop (entryFrame m #[(.ref a1), (.int p1), (.double v1)] 4)) t := fun t k => k0 t (by
    show Steps p.tables e below (s₁.setTop (mkF m 0 #[.val (.ref a1), .val (.int p1), .val (.double v1), .second] [])) _
    refine XS.aloadN X0.here hx rfl (hb hby d5_0) rfl rfl ?_
    exact k)
  rcases hp with rfl | rfl | rfl
  · obtain ⟨T102, X102, e102, st102⟩ := getF X0 hx hZ hown (host := "") (Or.inl (hw _ (List.mem_of_getElem? (i := 16) rfl))) Via.refl e0 Fk3 (g := (mkF m 1 #[.val (.ref a1), .val (.int (0 : Int32)), .val (.double v1), .second] [(.ref a1)])) rfl rfl (hb hby d5_1)
    have k103 : ∀ t, Steps p.tables e below (T102.setTop (mkF m 4 #[.val (.ref a1), .val (.int (0 : Int32)), .val (.double v1), .second] [(.ref b3)])) t → Steps p.tables e below (s₁.setTop (entryFrame m #[(.ref a1), (.int (0 : Int32)), (.double v1)] 4)) t := fun t k => k101 t (st102 t k)
    have k104 : ∀ t, Steps p.tables e below (T102.setTop (mkF m 6 #[.val (.ref a1), .val (.int (0 : Int32)), .val (.double v1), .second] [(.int (0 : Int32)), (.ref b3), (.int (0 : Int32)), (.ref b3)])) t → Steps p.tables e below (s₁.setTop (entryFrame m #[(.ref a1), (.int (0 : Int32)), (.double v1)] 4)) t := fun t k => k103 t (by
      show Steps p.tables e below (T102.setTop (mkF m 4 #[.val (.ref a1), .val (.int (0 : Int32)), .val (.double v1), .second] [(.ref b3)])) _
      refine XS.iloadN X102.here hx rfl (hb hby d5_4) rfl ?_
      show Steps p.tables e below (T102.setTop (mkF m 5 #[.val (.ref a1), .val (.int (0 : Int32)), .val (.double v1), .second] [(.int (0 : Int32)), (.ref b3)])) _
      refine XT.dup2 X102.here hx rfl (hb hby d5_5) rfl rfl rfl ?_
      exact k)
    obtain ⟨c105, Ar105, -, As105, An105, Ah105, -⟩ := id Fk6
    have hin105 : ¬ ((0 : Int32) < 0 ∨ c105.slots.size ≤ ((0 : Int32)).toNatClampNeg) := inb_of As105 ⟨by decide, by decide⟩
    have hat105 : c105.slots[((0 : Int32)).toNatClampNeg]? = some (.double u0) := Has.at Ah105 hin105 rfl
    have k106 : ∀ t, Steps p.tables e below (T102.setTop (mkF m 9 #[.val (.ref a1), .val (.int (0 : Int32)), .val (.double v1), .second] [(.double (FP.dadd u0 v1)), (.int (0 : Int32)), (.ref b3)])) t → Steps p.tables e below (s₁.setTop (entryFrame m #[(.ref a1), (.int (0 : Int32)), (.double v1)] 4)) t := fun t k => k104 t (by
      show Steps p.tables e below (T102.setTop (mkF m 6 #[.val (.ref a1), .val (.int (0 : Int32)), .val (.double v1), .second] [(.int (0 : Int32)), (.ref b3), (.int (0 : Int32)), (.ref b3)])) _
      refine X102.daload hx (j := (0 : Int32)) (v := (.double u0)) (by rw [e102]; exact Ar105.1) (State.isArrayOf_alike hZ.alike Ar105.2.1) Ar105.2.2 hin105 hat105 (g := (mkF m 6 #[.val (.ref a1), .val (.int (0 : Int32)), .val (.double v1), .second] [(.int (0 : Int32)), (.ref b3), (.int (0 : Int32)), (.ref b3)])) rfl rfl (hb hby d5_6) _ ?_
      show Steps p.tables e below (T102.setTop (mkF m 7 #[.val (.ref a1), .val (.int (0 : Int32)), .val (.double v1), .second] [(.double u0), (.int (0 : Int32)), (.ref b3)])) _
      refine XS.dloadN X102.here hx rfl (hb hby d5_7) rfl ?_
      show Steps p.tables e below (T102.setTop (mkF m 8 #[.val (.ref a1), .val (.int (0 : Int32)), .val (.double v1), .second] [(.double v1), (.double u0), (.int (0 : Int32)), (.ref b3)])) _
      refine XS.daddS X102.here hx rfl (hb hby d5_8) rfl (nn_0) rfl ?_
      exact k)
    obtain ⟨c107, Ar107, Aq107, As107, An107, Ah107, Ag107⟩ := id Fk6
    have hin107 : ¬ ((0 : Int32) < 0 ∨ c107.slots.size ≤ ((0 : Int32)).toNatClampNeg) := inb_of As107 ⟨by decide, by decide⟩
    obtain ⟨T107, h107, X107, e107, W107, st107⟩ := stD X102 hx hZ e102 Ar107 (j := (0 : Int32)) hin107 (g := (mkF m 9 #[.val (.ref a1), .val (.int (0 : Int32)), .val (.double v1), .second] [(.double (FP.dadd u0 v1)), (.int (0 : Int32)), (.ref b3)])) rfl rfl (hb hby d5_9)
    have V108 := Arv.set Ar107 Aq107 As107 An107 Ah107 Ag107 rfl W107 0 rfl (Nat.le_of_ble_eq_true rfl)
    have F109 := Fk0.wr W107
    have F110 := Fk1.other W107 (Or.inl ne_a1_b3)
    have F111 := Fk2.other W107 (Or.inl ne_a1_b3)
    have F112 := Fk3.other W107 (Or.inl ne_a1_b3)
    have F113 := Fk4.other W107 (Or.inl ne_a1_b3)
    have F114 := Fk5.other W107 (Or.inl ne_a1_b3)
    have Z115 : n0 ≤ h107.size := Nat.le_trans Z0 (Nat.le_of_eq W107.size.symm)
    have N116 := Fr.snoc X107 N0 ge_b3
    have K117 := K0.wr W107 (Or.inl (List.mem_of_getElem? (i := 1) rfl))
    have k118 : ∀ t, Steps p.tables e below (T107.setTop (mkF m 10 #[.val (.ref a1), .val (.int (0 : Int32)), .val (.double v1), .second] [])) t → Steps p.tables e below (s₁.setTop (entryFrame m #[(.ref a1), (.int (0 : Int32)), (.double v1)] 4)) t := fun t k => k106 t (st107 t k)
    have k119 : ∀ t, Steps p.tables e below (T107.setTop (mkF m 12 #[.val (.ref a1), .val (.int (0 : Int32)), .val (.double v1), .second] [(.int (1 : Int32)), (.ref a1)])) t → Steps p.tables e below (s₁.setTop (entryFrame m #[(.ref a1), (.int (0 : Int32)), (.double v1)] 4)) t := fun t k => k118 t (by
      show Steps p.tables e below (T107.setTop (mkF m 10 #[.val (.ref a1), .val (.int (0 : Int32)), .val (.double v1), .second] [])) _
      refine XS.aloadN X107.here hx rfl (hb hby d5_10) rfl rfl ?_
      show Steps p.tables e below (T107.setTop (mkF m 11 #[.val (.ref a1), .val (.int (0 : Int32)), .val (.double v1), .second] [(.ref a1)])) _
      refine XS.iconst X107.here hx rfl (hb hby d5_11) ?_
      exact k)
    obtain ⟨T120, h120, X120, e120, W120, st120⟩ := putF X107 hx hZ hown (host := "") (Or.inl (hw _ (List.mem_of_getElem? (i := 37) rfl))) Via.refl e107 F114 F109 (Or.inl (hw _ (List.mem_of_getElem? (i := 38) rfl))) (hw _ (List.mem_of_getElem? (i := 2) rfl)) (ty := .boolean) (by decide) rfl rfl (g := (mkF m 12 #[.val (.ref a1), .val (.int (0 : Int32)), .val (.double v1), .second] [(.int (1 : Int32)), (.ref a1)])) rfl rfl (hb hby d5_12)
    have F121 := F114.same W120
    have F122 := F109.wr W120
    have F123 := F110.other W120 (Or.inr (slot_ne (Or.inl (hw _ (List.mem_of_getElem? (i := 12) rfl))) (Or.inl (hw _ (List.mem_of_getElem? (i := 38) rfl))) (by decide) (t := (.array .int)) (t' := .boolean) (by decide) (by decide)))
    have F124 := F111.other W120 (Or.inr (slot_ne (Or.inl (hw _ (List.mem_of_getElem? (i := 15) rfl))) (Or.inl (hw _ (List.mem_of_getElem? (i := 38) rfl))) (by decide) (t := (.array .double)) (t' := .boolean) (by decide) (by decide)))
    have F125 := F112.other W120 (Or.inr (slot_ne (Or.inr (hw _ (List.mem_of_getElem? (i := 17) rfl))) (Or.inl (hw _ (List.mem_of_getElem? (i := 38) rfl))) (by decide) (t := (.array .double)) (t' := .boolean) (by decide) (by decide)))
    have F126 := F113.other W120 (Or.inr (slot_ne (Or.inl (hw _ (List.mem_of_getElem? (i := 24) rfl))) (Or.inl (hw _ (List.mem_of_getElem? (i := 38) rfl))) (by decide) (t := .int) (t' := .boolean) (by decide) (by decide)))
    have F127 := V108.other W120 (Ne.symm ne_a1_b3)
    have Z128 : n0 ≤ h120.size := Nat.le_trans Z115 (Nat.le_of_eq W120.size.symm)
    have N129 := Fr.snoc X120 N116 ge_a1
    have K130 := K117.wr W120 (Or.inl (List.mem_of_getElem? (i := 0) rfl))
    have k131 : ∀ t, Steps p.tables e below (T120.setTop (mkF m 15 #[.val (.ref a1), .val (.int (0 : Int32)), .val (.double v1), .second] [])) t → Steps p.tables e below (s₁.setTop (entryFrame m #[(.ref a1), (.int (0 : Int32)), (.double v1)] 4)) t := fun t k => k119 t (st120 t k)
    obtain ⟨fs, hr, hrun, hended, hW, hsame⟩ := X120.leave (v := none) (fun _ => rfl)
    refine ⟨_, _, k131 _ (X120.returnOut hx Bd.returns (hb hby d5_15) hr), hrun, hended, _, _, rfl, ?_, ⟨_, rfl⟩, hW, hsame.mono (by decide) (by decide)⟩
    show Q_fl3 Z a1 b1 b2 b3 k3 (0 : Int32) v1 x0 y0 u0 u1 u2 h0 n0 _ T120.heap _
    rw [e120]
    exact ⟨rfl, N129, K130, F122, F123, F124, F125, F126, F121, F127⟩
  · obtain ⟨T132, X132, e132, st132⟩ := getF X0 hx hZ hown (host := "") (Or.inl (hw _ (List.mem_of_getElem? (i := 16) rfl))) Via.refl e0 Fk3 (g := (mkF m 1 #[.val (.ref a1), .val (.int (1 : Int32)), .val (.double v1), .second] [(.ref a1)])) rfl rfl (hb hby d5_1)
    have k133 : ∀ t, Steps p.tables e below (T132.setTop (mkF m 4 #[.val (.ref a1), .val (.int (1 : Int32)), .val (.double v1), .second] [(.ref b3)])) t → Steps p.tables e below (s₁.setTop (entryFrame m #[(.ref a1), (.int (1 : Int32)), (.double v1)] 4)) t := fun t k => k101 t (st132 t k)
    have k134 : ∀ t, Steps p.tables e below (T132.setTop (mkF m 6 #[.val (.ref a1), .val (.int (1 : Int32)), .val (.double v1), .second] [(.int (1 : Int32)), (.ref b3), (.int (1 : Int32)), (.ref b3)])) t → Steps p.tables e below (s₁.setTop (entryFrame m #[(.ref a1), (.int (1 : Int32)), (.double v1)] 4)) t := fun t k => k133 t (by
      show Steps p.tables e below (T132.setTop (mkF m 4 #[.val (.ref a1), .val (.int (1 : Int32)), .val (.double v1), .second] [(.ref b3)])) _
      refine XS.iloadN X132.here hx rfl (hb hby d5_4) rfl ?_
      show Steps p.tables e below (T132.setTop (mkF m 5 #[.val (.ref a1), .val (.int (1 : Int32)), .val (.double v1), .second] [(.int (1 : Int32)), (.ref b3)])) _
      refine XT.dup2 X132.here hx rfl (hb hby d5_5) rfl rfl rfl ?_
      exact k)
    obtain ⟨c135, Ar135, -, As135, An135, Ah135, -⟩ := id Fk6
    have hin135 : ¬ ((1 : Int32) < 0 ∨ c135.slots.size ≤ ((1 : Int32)).toNatClampNeg) := inb_of As135 ⟨by decide, by decide⟩
    have hat135 : c135.slots[((1 : Int32)).toNatClampNeg]? = some (.double u1) := Has.at Ah135 hin135 rfl
    have k136 : ∀ t, Steps p.tables e below (T132.setTop (mkF m 9 #[.val (.ref a1), .val (.int (1 : Int32)), .val (.double v1), .second] [(.double (FP.dadd u1 v1)), (.int (1 : Int32)), (.ref b3)])) t → Steps p.tables e below (s₁.setTop (entryFrame m #[(.ref a1), (.int (1 : Int32)), (.double v1)] 4)) t := fun t k => k134 t (by
      show Steps p.tables e below (T132.setTop (mkF m 6 #[.val (.ref a1), .val (.int (1 : Int32)), .val (.double v1), .second] [(.int (1 : Int32)), (.ref b3), (.int (1 : Int32)), (.ref b3)])) _
      refine X132.daload hx (j := (1 : Int32)) (v := (.double u1)) (by rw [e132]; exact Ar135.1) (State.isArrayOf_alike hZ.alike Ar135.2.1) Ar135.2.2 hin135 hat135 (g := (mkF m 6 #[.val (.ref a1), .val (.int (1 : Int32)), .val (.double v1), .second] [(.int (1 : Int32)), (.ref b3), (.int (1 : Int32)), (.ref b3)])) rfl rfl (hb hby d5_6) _ ?_
      show Steps p.tables e below (T132.setTop (mkF m 7 #[.val (.ref a1), .val (.int (1 : Int32)), .val (.double v1), .second] [(.double u1), (.int (1 : Int32)), (.ref b3)])) _
      refine XS.dloadN X132.here hx rfl (hb hby d5_7) rfl ?_
      show Steps p.tables e below (T132.setTop (mkF m 8 #[.val (.ref a1), .val (.int (1 : Int32)), .val (.double v1), .second] [(.double v1), (.double u1), (.int (1 : Int32)), (.ref b3)])) _
      refine XS.daddS X132.here hx rfl (hb hby d5_8) rfl (nn_1) rfl ?_
      exact k)
    obtain ⟨c137, Ar137, Aq137, As137, An137, Ah137, Ag137⟩ := id Fk6
    have hin137 : ¬ ((1 : Int32) < 0 ∨ c137.slots.size ≤ ((1 : Int32)).toNatClampNeg) := inb_of As137 ⟨by decide, by decide⟩
    obtain ⟨T137, h137, X137, e137, W137, st137⟩ := stD X132 hx hZ e132 Ar137 (j := (1 : Int32)) hin137 (g := (mkF m 9 #[.val (.ref a1), .val (.int (1 : Int32)), .val (.double v1), .second] [(.double (FP.dadd u1 v1)), (.int (1 : Int32)), (.ref b3)])) rfl rfl (hb hby d5_9)
    have V138 := Arv.set Ar137 Aq137 As137 An137 Ah137 Ag137 rfl W137 1 rfl (Nat.le_of_ble_eq_true rfl)
    have F139 := Fk0.wr W137
    have F140 := Fk1.other W137 (Or.inl ne_a1_b3)
    have F141 := Fk2.other W137 (Or.inl ne_a1_b3)
    have F142 := Fk3.other W137 (Or.inl ne_a1_b3)
    have F143 := Fk4.other W137 (Or.inl ne_a1_b3)
    have F144 := Fk5.other W137 (Or.inl ne_a1_b3)
    have Z145 : n0 ≤ h137.size := Nat.le_trans Z0 (Nat.le_of_eq W137.size.symm)
    have N146 := Fr.snoc X137 N0 ge_b3
    have K147 := K0.wr W137 (Or.inl (List.mem_of_getElem? (i := 1) rfl))
    have k148 : ∀ t, Steps p.tables e below (T137.setTop (mkF m 10 #[.val (.ref a1), .val (.int (1 : Int32)), .val (.double v1), .second] [])) t → Steps p.tables e below (s₁.setTop (entryFrame m #[(.ref a1), (.int (1 : Int32)), (.double v1)] 4)) t := fun t k => k136 t (st137 t k)
    have k149 : ∀ t, Steps p.tables e below (T137.setTop (mkF m 12 #[.val (.ref a1), .val (.int (1 : Int32)), .val (.double v1), .second] [(.int (1 : Int32)), (.ref a1)])) t → Steps p.tables e below (s₁.setTop (entryFrame m #[(.ref a1), (.int (1 : Int32)), (.double v1)] 4)) t := fun t k => k148 t (by
      show Steps p.tables e below (T137.setTop (mkF m 10 #[.val (.ref a1), .val (.int (1 : Int32)), .val (.double v1), .second] [])) _
      refine XS.aloadN X137.here hx rfl (hb hby d5_10) rfl rfl ?_
      show Steps p.tables e below (T137.setTop (mkF m 11 #[.val (.ref a1), .val (.int (1 : Int32)), .val (.double v1), .second] [(.ref a1)])) _
      refine XS.iconst X137.here hx rfl (hb hby d5_11) ?_
      exact k)
    obtain ⟨T150, h150, X150, e150, W150, st150⟩ := putF X137 hx hZ hown (host := "") (Or.inl (hw _ (List.mem_of_getElem? (i := 37) rfl))) Via.refl e137 F144 F139 (Or.inl (hw _ (List.mem_of_getElem? (i := 38) rfl))) (hw _ (List.mem_of_getElem? (i := 2) rfl)) (ty := .boolean) (by decide) rfl rfl (g := (mkF m 12 #[.val (.ref a1), .val (.int (1 : Int32)), .val (.double v1), .second] [(.int (1 : Int32)), (.ref a1)])) rfl rfl (hb hby d5_12)
    have F151 := F144.same W150
    have F152 := F139.wr W150
    have F153 := F140.other W150 (Or.inr (slot_ne (Or.inl (hw _ (List.mem_of_getElem? (i := 12) rfl))) (Or.inl (hw _ (List.mem_of_getElem? (i := 38) rfl))) (by decide) (t := (.array .int)) (t' := .boolean) (by decide) (by decide)))
    have F154 := F141.other W150 (Or.inr (slot_ne (Or.inl (hw _ (List.mem_of_getElem? (i := 15) rfl))) (Or.inl (hw _ (List.mem_of_getElem? (i := 38) rfl))) (by decide) (t := (.array .double)) (t' := .boolean) (by decide) (by decide)))
    have F155 := F142.other W150 (Or.inr (slot_ne (Or.inr (hw _ (List.mem_of_getElem? (i := 17) rfl))) (Or.inl (hw _ (List.mem_of_getElem? (i := 38) rfl))) (by decide) (t := (.array .double)) (t' := .boolean) (by decide) (by decide)))
    have F156 := F143.other W150 (Or.inr (slot_ne (Or.inl (hw _ (List.mem_of_getElem? (i := 24) rfl))) (Or.inl (hw _ (List.mem_of_getElem? (i := 38) rfl))) (by decide) (t := .int) (t' := .boolean) (by decide) (by decide)))
    have F157 := V138.other W150 (Ne.symm ne_a1_b3)
    have Z158 : n0 ≤ h150.size := Nat.le_trans Z145 (Nat.le_of_eq W150.size.symm)
    have N159 := Fr.snoc X150 N146 ge_a1
    have K160 := K147.wr W150 (Or.inl (List.mem_of_getElem? (i := 0) rfl))
    have k161 : ∀ t, Steps p.tables e below (T150.setTop (mkF m 15 #[.val (.ref a1), .val (.int (1 : Int32)), .val (.double v1), .second] [])) t → Steps p.tables e below (s₁.setTop (entryFrame m #[(.ref a1), (.int (1 : Int32)), (.double v1)] 4)) t := fun t k => k149 t (st150 t k)
    obtain ⟨fs, hr, hrun, hended, hW, hsame⟩ := X150.leave (v := none) (fun _ => rfl)
    refine ⟨_, _, k161 _ (X150.returnOut hx Bd.returns (hb hby d5_15) hr), hrun, hended, _, _, rfl, ?_, ⟨_, rfl⟩, hW, hsame.mono (by decide) (by decide)⟩
    show Q_fl3 Z a1 b1 b2 b3 k3 (1 : Int32) v1 x0 y0 u0 u1 u2 h0 n0 _ T150.heap _
    rw [e150]
    exact ⟨rfl, N159, K160, F152, F153, F154, F155, F156, F151, F157⟩
  · obtain ⟨T162, X162, e162, st162⟩ := getF X0 hx hZ hown (host := "") (Or.inl (hw _ (List.mem_of_getElem? (i := 16) rfl))) Via.refl e0 Fk3 (g := (mkF m 1 #[.val (.ref a1), .val (.int (2 : Int32)), .val (.double v1), .second] [(.ref a1)])) rfl rfl (hb hby d5_1)
    have k163 : ∀ t, Steps p.tables e below (T162.setTop (mkF m 4 #[.val (.ref a1), .val (.int (2 : Int32)), .val (.double v1), .second] [(.ref b3)])) t → Steps p.tables e below (s₁.setTop (entryFrame m #[(.ref a1), (.int (2 : Int32)), (.double v1)] 4)) t := fun t k => k101 t (st162 t k)
    have k164 : ∀ t, Steps p.tables e below (T162.setTop (mkF m 6 #[.val (.ref a1), .val (.int (2 : Int32)), .val (.double v1), .second] [(.int (2 : Int32)), (.ref b3), (.int (2 : Int32)), (.ref b3)])) t → Steps p.tables e below (s₁.setTop (entryFrame m #[(.ref a1), (.int (2 : Int32)), (.double v1)] 4)) t := fun t k => k163 t (by
      show Steps p.tables e below (T162.setTop (mkF m 4 #[.val (.ref a1), .val (.int (2 : Int32)), .val (.double v1), .second] [(.ref b3)])) _
      refine XS.iloadN X162.here hx rfl (hb hby d5_4) rfl ?_
      show Steps p.tables e below (T162.setTop (mkF m 5 #[.val (.ref a1), .val (.int (2 : Int32)), .val (.double v1), .second] [(.int (2 : Int32)), (.ref b3)])) _
      refine XT.dup2 X162.here hx rfl (hb hby d5_5) rfl rfl rfl ?_
      exact k)
    obtain ⟨c165, Ar165, -, As165, An165, Ah165, -⟩ := id Fk6
    have hin165 : ¬ ((2 : Int32) < 0 ∨ c165.slots.size ≤ ((2 : Int32)).toNatClampNeg) := inb_of As165 ⟨by decide, by decide⟩
    have hat165 : c165.slots[((2 : Int32)).toNatClampNeg]? = some (.double u2) := Has.at Ah165 hin165 rfl
    have k166 : ∀ t, Steps p.tables e below (T162.setTop (mkF m 9 #[.val (.ref a1), .val (.int (2 : Int32)), .val (.double v1), .second] [(.double (FP.dadd u2 v1)), (.int (2 : Int32)), (.ref b3)])) t → Steps p.tables e below (s₁.setTop (entryFrame m #[(.ref a1), (.int (2 : Int32)), (.double v1)] 4)) t := fun t k => k164 t (by
      show Steps p.tables e below (T162.setTop (mkF m 6 #[.val (.ref a1), .val (.int (2 : Int32)), .val (.double v1), .second] [(.int (2 : Int32)), (.ref b3), (.int (2 : Int32)), (.ref b3)])) _
      refine X162.daload hx (j := (2 : Int32)) (v := (.double u2)) (by rw [e162]; exact Ar165.1) (State.isArrayOf_alike hZ.alike Ar165.2.1) Ar165.2.2 hin165 hat165 (g := (mkF m 6 #[.val (.ref a1), .val (.int (2 : Int32)), .val (.double v1), .second] [(.int (2 : Int32)), (.ref b3), (.int (2 : Int32)), (.ref b3)])) rfl rfl (hb hby d5_6) _ ?_
      show Steps p.tables e below (T162.setTop (mkF m 7 #[.val (.ref a1), .val (.int (2 : Int32)), .val (.double v1), .second] [(.double u2), (.int (2 : Int32)), (.ref b3)])) _
      refine XS.dloadN X162.here hx rfl (hb hby d5_7) rfl ?_
      show Steps p.tables e below (T162.setTop (mkF m 8 #[.val (.ref a1), .val (.int (2 : Int32)), .val (.double v1), .second] [(.double v1), (.double u2), (.int (2 : Int32)), (.ref b3)])) _
      refine XS.daddS X162.here hx rfl (hb hby d5_8) rfl (nn_2) rfl ?_
      exact k)
    obtain ⟨c167, Ar167, Aq167, As167, An167, Ah167, Ag167⟩ := id Fk6
    have hin167 : ¬ ((2 : Int32) < 0 ∨ c167.slots.size ≤ ((2 : Int32)).toNatClampNeg) := inb_of As167 ⟨by decide, by decide⟩
    obtain ⟨T167, h167, X167, e167, W167, st167⟩ := stD X162 hx hZ e162 Ar167 (j := (2 : Int32)) hin167 (g := (mkF m 9 #[.val (.ref a1), .val (.int (2 : Int32)), .val (.double v1), .second] [(.double (FP.dadd u2 v1)), (.int (2 : Int32)), (.ref b3)])) rfl rfl (hb hby d5_9)
    have V168 := Arv.set Ar167 Aq167 As167 An167 Ah167 Ag167 rfl W167 2 rfl (Nat.le_of_ble_eq_true rfl)
    have F169 := Fk0.wr W167
    have F170 := Fk1.other W167 (Or.inl ne_a1_b3)
    have F171 := Fk2.other W167 (Or.inl ne_a1_b3)
    have F172 := Fk3.other W167 (Or.inl ne_a1_b3)
    have F173 := Fk4.other W167 (Or.inl ne_a1_b3)
    have F174 := Fk5.other W167 (Or.inl ne_a1_b3)
    have Z175 : n0 ≤ h167.size := Nat.le_trans Z0 (Nat.le_of_eq W167.size.symm)
    have N176 := Fr.snoc X167 N0 ge_b3
    have K177 := K0.wr W167 (Or.inl (List.mem_of_getElem? (i := 1) rfl))
    have k178 : ∀ t, Steps p.tables e below (T167.setTop (mkF m 10 #[.val (.ref a1), .val (.int (2 : Int32)), .val (.double v1), .second] [])) t → Steps p.tables e below (s₁.setTop (entryFrame m #[(.ref a1), (.int (2 : Int32)), (.double v1)] 4)) t := fun t k => k166 t (st167 t k)
    have k179 : ∀ t, Steps p.tables e below (T167.setTop (mkF m 12 #[.val (.ref a1), .val (.int (2 : Int32)), .val (.double v1), .second] [(.int (1 : Int32)), (.ref a1)])) t → Steps p.tables e below (s₁.setTop (entryFrame m #[(.ref a1), (.int (2 : Int32)), (.double v1)] 4)) t := fun t k => k178 t (by
      show Steps p.tables e below (T167.setTop (mkF m 10 #[.val (.ref a1), .val (.int (2 : Int32)), .val (.double v1), .second] [])) _
      refine XS.aloadN X167.here hx rfl (hb hby d5_10) rfl rfl ?_
      show Steps p.tables e below (T167.setTop (mkF m 11 #[.val (.ref a1), .val (.int (2 : Int32)), .val (.double v1), .second] [(.ref a1)])) _
      refine XS.iconst X167.here hx rfl (hb hby d5_11) ?_
      exact k)
    obtain ⟨T180, h180, X180, e180, W180, st180⟩ := putF X167 hx hZ hown (host := "") (Or.inl (hw _ (List.mem_of_getElem? (i := 37) rfl))) Via.refl e167 F174 F169 (Or.inl (hw _ (List.mem_of_getElem? (i := 38) rfl))) (hw _ (List.mem_of_getElem? (i := 2) rfl)) (ty := .boolean) (by decide) rfl rfl (g := (mkF m 12 #[.val (.ref a1), .val (.int (2 : Int32)), .val (.double v1), .second] [(.int (1 : Int32)), (.ref a1)])) rfl rfl (hb hby d5_12)
    have F181 := F174.same W180
    have F182 := F169.wr W180
    have F183 := F170.other W180 (Or.inr (slot_ne (Or.inl (hw _ (List.mem_of_getElem? (i := 12) rfl))) (Or.inl (hw _ (List.mem_of_getElem? (i := 38) rfl))) (by decide) (t := (.array .int)) (t' := .boolean) (by decide) (by decide)))
    have F184 := F171.other W180 (Or.inr (slot_ne (Or.inl (hw _ (List.mem_of_getElem? (i := 15) rfl))) (Or.inl (hw _ (List.mem_of_getElem? (i := 38) rfl))) (by decide) (t := (.array .double)) (t' := .boolean) (by decide) (by decide)))
    have F185 := F172.other W180 (Or.inr (slot_ne (Or.inr (hw _ (List.mem_of_getElem? (i := 17) rfl))) (Or.inl (hw _ (List.mem_of_getElem? (i := 38) rfl))) (by decide) (t := (.array .double)) (t' := .boolean) (by decide) (by decide)))
    have F186 := F173.other W180 (Or.inr (slot_ne (Or.inl (hw _ (List.mem_of_getElem? (i := 24) rfl))) (Or.inl (hw _ (List.mem_of_getElem? (i := 38) rfl))) (by decide) (t := .int) (t' := .boolean) (by decide) (by decide)))
    have F187 := V168.other W180 (Ne.symm ne_a1_b3)
    have Z188 : n0 ≤ h180.size := Nat.le_trans Z175 (Nat.le_of_eq W180.size.symm)
    have N189 := Fr.snoc X180 N176 ge_a1
    have K190 := K177.wr W180 (Or.inl (List.mem_of_getElem? (i := 0) rfl))
    have k191 : ∀ t, Steps p.tables e below (T180.setTop (mkF m 15 #[.val (.ref a1), .val (.int (2 : Int32)), .val (.double v1), .second] [])) t → Steps p.tables e below (s₁.setTop (entryFrame m #[(.ref a1), (.int (2 : Int32)), (.double v1)] 4)) t := fun t k => k179 t (st180 t k)
    obtain ⟨fs, hr, hrun, hended, hW, hsame⟩ := X180.leave (v := none) (fun _ => rfl)
    refine ⟨_, _, k191 _ (X180.returnOut hx Bd.returns (hb hby d5_15) hr), hrun, hended, _, _, rfl, ?_, ⟨_, rfl⟩, hW, hsame.mono (by decide) (by decide)⟩
    show Q_fl3 Z a1 b1 b2 b3 k3 (2 : Int32) v1 x0 y0 u0 u1 u2 h0 n0 _ T180.heap _
    rw [e180]
    exact ⟨rfl, N189, K190, F182, F183, F184, F185, F186, F181, F187⟩
theorem ef_7_II (m : MethodId) (x0 : Int32) (x1 : Int32) : entryFrame m #[(.int x0), (.int x1)] 2 = mkF m 0 #[.val (.int x0), .val (.int x1)] [] := by first | (simp [entryFrame, mkF, argsToLocals, Value.category]; done) | rfl
theorem d7_0 : decode jdk_29_method_69_code 0 = .ok (.iload_n 0, 1) := by decide +kernel
theorem d7_1 : decode jdk_29_method_69_code 1 = .ok (.iload_n 1, 1) := by decide +kernel
theorem d7_2 : decode jdk_29_method_69_code 2 = .ok (.if_icmp .gt 7, 3) := by decide +kernel
theorem d7_5 : decode jdk_29_method_69_code 5 = .ok (.iload_n 0, 1) := by decide +kernel
theorem d7_6 : decode jdk_29_method_69_code 6 = .ok (.goto 4, 3) := by decide +kernel
theorem d7_10 : decode jdk_29_method_69_code 10 = .ok (.ireturn, 1) := by decide +kernel
def Q_min48 (Z : State)  (h0 : Heap) (n0 : Nat) (v : Option Value) (h : Heap) (L : List Loc) : Prop := v = some (.int 4) ∧ Fr n0 L ∧ h = h0
set_option maxRecDepth 65536 in
set_option maxHeartbeats 40000000 in
theorem min48 (l : Launch) (Z : State) (a0 : Array Value) (hw : ∀ d ∈ tables_1, d.before a0 Z = true) (ws : List Jvm.Cond)  (h0 : Heap) (n0 : Nat) (Z0 : n0 ≤ h0.size) :
    MetFree l (⟨"java/lang/Math", "min", "(II)I"⟩ : MethodName) (head1 (Jvm.Cond.code (⟨"java/lang/Math", "min", "(II)I"⟩ : MethodName) jdk_29_method_69_code 2 (some .int) :: ws) ({ frames := 0, cells := 0, slots := 0, locals := 0 } : Room)) (fun a U => a = #[(.int (4 : Int32)), (.int (8 : Int32))] ∧ Z.Warmed39 U.vm ∧ U.heap = h0) (fun _ _ _ _ _ => True) (fun _ U o U' => ∃ v L, o = .returned v ∧ Q_min48 Z  h0 n0 v U'.heap L ∧ FrameEnd U o U' L ({ frames := 0, cells := 0, slots := 0, locals := 0 } : Room).cells ({ frames := 0, cells := 0, slots := 0, locals := 0 } : Room).slots) := by
  refine MetFree.of_bodySF (Jvm.Free.JP.mathPlain rfl (by decide +kernel)) hisR ?_
  intro p e s m args below meth c s₁ Bd hml0 hP hK
  obtain ⟨rfl, hZ, hh⟩ := hP
  have hx := Bd.exec
  have hby := Bd.bytes
  have hml : c.maxLocals = 2 := hml0
  have hown : s.vm.findClass "java/lang/Math" = some m.cls := findClass_of_methodNamed Bd.named
  have hnm := (name_of_methodNamed Bd.named Bd.method).1
  have X0 : Stand p l e ({ frames := 0, cells := 0, slots := 0, locals := 0 } : Room) s m #[(.int (4 : Int32)), (.int (8 : Int32))] below meth c s₁ [] 0 0 := Stand.of_body Bd
  have e0 : s₁.heap = h0 := by rw [← hh, Bd.state]; rfl
  have N0 := Fr.nil n0
  have k0 : ∀ t, Steps p.tables e below (s₁.setTop (mkF m 0 #[.val (.int (4 : Int32)), .val (.int (8 : Int32))] [])) t → Steps p.tables e below (s₁.setTop (entryFrame m #[(.int (4 : Int32)), (.int (8 : Int32))] 2)) t := fun t k => castTop (ef_7_II m (4 : Int32) (8 : Int32)) k
  have k101 : ∀ t, Steps p.tables e below (s₁.setTop (mkF m 10 #[.val (.int (4 : Int32)), .val (.int (8 : Int32))] [(.int (4 : Int32))])) t → Steps p.tables e below (s₁.setTop (entryFrame m #[(.int (4 : Int32)), (.int (8 : Int32))] 2)) t := fun t k => k0 t (by
    show Steps p.tables e below (s₁.setTop (mkF m 0 #[.val (.int (4 : Int32)), .val (.int (8 : Int32))] [])) _
    refine XS.iloadN X0.here hx rfl (hb hby d7_0) rfl ?_
    show Steps p.tables e below (s₁.setTop (mkF m 1 #[.val (.int (4 : Int32)), .val (.int (8 : Int32))] [(.int (4 : Int32))])) _
    refine XS.iloadN X0.here hx rfl (hb hby d7_1) rfl ?_
    show Steps p.tables e below (s₁.setTop (mkF m 2 #[.val (.int (4 : Int32)), .val (.int (8 : Int32))] [(.int (8 : Int32)), (.int (4 : Int32))])) _
    refine XS.icmpNo X0.here hx rfl (hb hby d7_2) rfl (flt (by decide)).2.2.1 ?_
    show Steps p.tables e below (s₁.setTop (mkF m 5 #[.val (.int (4 : Int32)), .val (.int (8 : Int32))] [])) _
    refine XS.iloadN X0.here hx rfl (hb hby d7_5) rfl ?_
    show Steps p.tables e below (s₁.setTop (mkF m 6 #[.val (.int (4 : Int32)), .val (.int (8 : Int32))] [(.int (4 : Int32))])) _
    refine XS.goto X0.here hx rfl (pc0 := 6) (pc' := 10) rfl (hb hby d7_6) (by decide) (by decide) ?_
    exact k)
  obtain ⟨fs, hr, hrun, hended, hW, hsame⟩ := X0.leave (v := some (.int (4 : Int32))) (fun h => by rw [Bd.returns] at h; cases h)
  refine ⟨_, _, k101 _ (retOut X0 hx (t := .int) Bd.returns rfl (Or.inl ⟨rfl, Or.inl rfl, _, rfl⟩) (hb hby d7_10) hr), hrun, hended, _, _, rfl, ?_, ⟨_, rfl⟩, hW, hsame.mono (by decide) (by decide)⟩
  show Q_min48 Z h0 n0 _ s₁.heap _
  rw [e0]
  exact ⟨rfl, N0, rfl⟩
theorem ef_6_RI (m : MethodId) (x0 : Addr) (x1 : Int32) : entryFrame m #[(.ref x0), (.int x1)] 3 = mkF m 0 #[.val (.ref x0), .val (.int x1), .unset] [] := by first | (simp [entryFrame, mkF, argsToLocals, Value.category]; done) | rfl
theorem d6_0 : decode jdk_65_method_123_code 0 = .ok (.iload_n 1, 1) := by decide +kernel
theorem d6_1 : decode jdk_65_method_123_code 1 = .ok (.aload_n 0, 1) := by decide +kernel
theorem d6_2 : decode jdk_65_method_123_code 2 = .ok (.arraylength, 1) := by decide +kernel
theorem d6_3 : decode jdk_65_method_123_code 3 = .ok (.if_icmp .ne 11, 3) := by decide +kernel
theorem d6_14 : decode jdk_65_method_123_code 14 = .ok (.iload_n 1, 1) := by decide +kernel
theorem d6_15 : decode jdk_65_method_123_code 15 = .ok (.newarray .int, 2) := by decide +kernel
theorem d6_17 : decode jdk_65_method_123_code 17 = .ok (.astore_n 2, 1) := by decide +kernel
theorem d6_18 : decode jdk_65_method_123_code 18 = .ok (.aload_n 0, 1) := by decide +kernel
theorem d6_19 : decode jdk_65_method_123_code 19 = .ok (.iconst 0, 1) := by decide +kernel
theorem d6_20 : decode jdk_65_method_123_code 20 = .ok (.aload_n 2, 1) := by decide +kernel
theorem d6_21 : decode jdk_65_method_123_code 21 = .ok (.iconst 0, 1) := by decide +kernel
theorem d6_22 : decode jdk_65_method_123_code 22 = .ok (.aload_n 0, 1) := by decide +kernel
theorem d6_23 : decode jdk_65_method_123_code 23 = .ok (.arraylength, 1) := by decide +kernel
theorem d6_24 : decode jdk_65_method_123_code 24 = .ok (.iload_n 1, 1) := by decide +kernel
theorem d6_25 : decode jdk_65_method_123_code 25 = .ok (.invokestatic 304, 3) := by decide +kernel
theorem pd__28II_29I : parseMethodDescriptor "(II)I" = some ⟨[.int, .int], some .int⟩ := by decide +kernel
theorem d6_28 : decode jdk_65_method_123_code 28 = .ok (.invokestatic 150, 3) := by decide +kernel
theorem d6_31 : decode jdk_65_method_123_code 31 = .ok (.aload_n 2, 1) := by decide +kernel
theorem d6_32 : decode jdk_65_method_123_code 32 = .ok (.areturn, 1) := by decide +kernel
def Q_cpI (Z : State) (a1 : Addr) (k1 : ClassId) (es0 : Int32) (es1 : Int32) (es2 : Int32) (es3 : Int32) (h0 : Heap) (n0 : Nat) (v : Option Value) (h : Heap) (L : List Loc) : Prop := ∃ (b : Addr) (k : ClassId), v = some (.ref b) ∧ Fr n0 L ∧ b = h0.size ∧ Keep h0 h [] ∧ Arv Z h b k .int (8 : Int32) [(.int es0), (.int es1), (.int es2), (.int es3), (.int (0 : Int32)), (.int (0 : Int32)), (.int (0 : Int32)), (.int (0 : Int32))] (.int (0 : Int32))
theorem pn_java_2futil_2fArrays : plainName "java/util/Arrays" = true := by first | (simp [plainName, overriddenIn]; done) | decide +kernel
set_option maxRecDepth 65536 in
set_option maxHeartbeats 40000000 in
theorem cpI (l : Launch) (Z : State) (a0 : Array Value) (hw : ∀ d ∈ tables_1, d.before a0 Z = true) (ws : List Jvm.Cond) (a1 : Addr) (k1 : ClassId) (es0 : Int32) (es1 : Int32) (es2 : Int32) (es3 : Int32) (h0 : Heap) (n0 : Nat) (Z0 : n0 ≤ h0.size) (V1 : Arv Z h0 a1 k1 .int (4 : Int32) [(.int es0), (.int es1), (.int es2), (.int es3)] (.int (0 : Int32))) :
    MetFree l (⟨"java/util/Arrays", "copyOf", "([II)[I"⟩ : MethodName) (head1 (Jvm.Cond.code (⟨"java/util/Arrays", "copyOf", "([II)[I"⟩ : MethodName) jdk_65_method_123_code 3 (some (.array .int)) :: ws) ({ frames := 1, cells := 1, slots := 8, locals := 18 } : Room)) (fun a U => a = #[(.ref a1), (.int (8 : Int32))] ∧ Z.Warmed39 U.vm ∧ U.heap = h0) (fun _ _ _ _ _ => True) (fun _ U o U' => ∃ v L, o = .returned v ∧ Q_cpI Z a1 k1 es0 es1 es2 es3 h0 n0 v U'.heap L ∧ FrameEnd U o U' L ({ frames := 1, cells := 1, slots := 8, locals := 18 } : Room).cells ({ frames := 1, cells := 1, slots := 8, locals := 18 } : Room).slots) := by
  refine MetFree.of_bodySF (plainFor_of_name pn_java_2futil_2fArrays) hisR ?_
  intro p e s m args below meth c s₁ Bd hml0 hP hK
  obtain ⟨rfl, hZ, hh⟩ := hP
  have hx := Bd.exec
  have hby := Bd.bytes
  have hml : c.maxLocals = 3 := hml0
  have hown : s.vm.findClass "java/util/Arrays" = some m.cls := findClass_of_methodNamed Bd.named
  have hnm := (name_of_methodNamed Bd.named Bd.method).1
  have X0 : Stand p l e ({ frames := 1, cells := 1, slots := 8, locals := 18 } : Room) s m #[(.ref a1), (.int (8 : Int32))] below meth c s₁ [] 0 0 := Stand.of_body Bd
  have e0 : s₁.heap = h0 := by rw [← hh, Bd.state]; rfl
  have N0 := Fr.nil n0
  have k0 : ∀ t, Steps p.tables e below (s₁.setTop (mkF m 0 #[.val (.ref a1), .val (.int (8 : Int32)), .unset] [])) t → Steps p.tables e below (s₁.setTop (entryFrame m #[(.ref a1), (.int (8 : Int32))] 3)) t := fun t k => castTop (ef_6_RI m a1 (8 : Int32)) k
  have K0 : Keep h0 h0 [] := Keep.refl h0 []
  have k101 : ∀ t, Steps p.tables e below (s₁.setTop (mkF m 2 #[.val (.ref a1), .val (.int (8 : Int32)), .unset] [(.ref a1), (.int (8 : Int32))])) t → Steps p.tables e below (s₁.setTop (entryFrame m #[(.ref a1), (.int (8 : Int32))] 3)) t := fun t k => k0 t (by
    show Steps p.tables e below (s₁.setTop (mkF m 0 #[.val (.ref a1), .val (.int (8 : Int32)), .unset] [])) _
    refine XS.iloadN X0.here hx rfl (hb hby d6_0) rfl ?_
    show Steps p.tables e below (s₁.setTop (mkF m 1 #[.val (.ref a1), .val (.int (8 : Int32)), .unset] [(.int (8 : Int32))])) _
    refine XS.aloadN X0.here hx rfl (hb hby d6_1) rfl rfl ?_
    exact k)
  obtain ⟨c102, Ar102, -, As102, An102, -, -⟩ := id V1
  have k103 : ∀ t, Steps p.tables e below (s₁.setTop (mkF m 15 #[.val (.ref a1), .val (.int (8 : Int32)), .unset] [(.int (8 : Int32))])) t → Steps p.tables e below (s₁.setTop (entryFrame m #[(.ref a1), (.int (8 : Int32))] 3)) t := fun t k => k101 t (by
    show Steps p.tables e below (s₁.setTop (mkF m 2 #[.val (.ref a1), .val (.int (8 : Int32)), .unset] [(.ref a1), (.int (8 : Int32))])) _
    refine X0.arraylength hx (by rw [e0]; exact Ar102.1) (State.isArrayOf_alike hZ.alike Ar102.2.1) (g := (mkF m 2 #[.val (.ref a1), .val (.int (8 : Int32)), .unset] [(.ref a1), (.int (8 : Int32))])) rfl rfl (hb hby d6_2) _ ?_
    rw [len_of As102 An102]
    show Steps p.tables e below (s₁.setTop (mkF m 3 #[.val (.ref a1), .val (.int (8 : Int32)), .unset] [(.int (4 : Int32)), (.int (8 : Int32))])) _
    refine XS.icmpYes X0.here hx rfl (pc0 := 3) (pc' := 14) rfl (hb hby d6_3) rfl (feq (by decide)).2 (by decide) (by decide) ?_
    show Steps p.tables e below (s₁.setTop (mkF m 14 #[.val (.ref a1), .val (.int (8 : Int32)), .unset] [])) _
    refine XS.iloadN X0.here hx rfl (hb hby d6_14) rfl ?_
    exact k)
  obtain ⟨T104, h104, k104, X104, e104, E104, A104, st104⟩ := newP X0 hx hZ (hw _ (List.mem_of_getElem? (i := 10) rfl)) e0 (g := (mkF m 15 #[.val (.ref a1), .val (.int (8 : Int32)), .unset] [(.int (8 : Int32))])) rfl (hb hby d6_15) rfl (by decide) (cap := 8) (by decide) (by decide) (by decide) (by decide)
  obtain ⟨b104, g104⟩ : ∃ z, z = h0.size := ⟨_, rfl⟩
  rw [← g104] at A104 st104
  have n105 : a1 ≠ b104 := Nat.ne_of_lt (Nat.lt_of_lt_of_le V1.lt (Nat.le_of_eq g104.symm))
  have g106 : n0 ≤ b104 := Nat.le_trans Z0 (Nat.le_of_eq g104.symm)
  have z107 : h0.size ≤ b104 := Nat.le_trans K0.1 (Nat.le_of_eq g104.symm)
  have F108 := V1.ext E104
  have Z109 : n0 ≤ h104.size := Nat.le_trans Z0 E104.1
  have K110 := K0.ext E104
  have V111 : Arv Z h104 b104 k104 .int (8 : Int32) [(.int (0 : Int32)), (.int (0 : Int32)), (.int (0 : Int32)), (.int (0 : Int32)), (.int (0 : Int32)), (.int (0 : Int32)), (.int (0 : Int32)), (.int (0 : Int32))] (.int (0 : Int32)) := (Arv.new A104 (by decide)).pad (pad_rep [] (.int (0 : Int32)) 8)
  have k112 : ∀ t, Steps p.tables e below (T104.setTop (mkF m 17 #[.val (.ref a1), .val (.int (8 : Int32)), .unset] [(.ref b104)])) t → Steps p.tables e below (s₁.setTop (entryFrame m #[(.ref a1), (.int (8 : Int32))] 3)) t := fun t k => k103 t (st104 t k)
  have k113 : ∀ t, Steps p.tables e below (T104.setTop (mkF m 23 #[.val (.ref a1), .val (.int (8 : Int32)), .val (.ref b104)] [(.ref a1), (.int (0 : Int32)), (.ref b104), (.int (0 : Int32)), (.ref a1)])) t → Steps p.tables e below (s₁.setTop (entryFrame m #[(.ref a1), (.int (8 : Int32))] 3)) t := fun t k => k112 t (by
    show Steps p.tables e below (T104.setTop (mkF m 17 #[.val (.ref a1), .val (.int (8 : Int32)), .unset] [(.ref b104)])) _
    refine XS.astoreN X104.here hx rfl (hb hby d6_17) rfl rfl (l' := #[.val (.ref a1), .val (.int (8 : Int32)), .val (.ref b104)]) rfl ?_
    show Steps p.tables e below (T104.setTop (mkF m 18 #[.val (.ref a1), .val (.int (8 : Int32)), .val (.ref b104)] [])) _
    refine XS.aloadN X104.here hx rfl (hb hby d6_18) rfl rfl ?_
    show Steps p.tables e below (T104.setTop (mkF m 19 #[.val (.ref a1), .val (.int (8 : Int32)), .val (.ref b104)] [(.ref a1)])) _
    refine XS.iconst X104.here hx rfl (hb hby d6_19) ?_
    show Steps p.tables e below (T104.setTop (mkF m 20 #[.val (.ref a1), .val (.int (8 : Int32)), .val (.ref b104)] [(.int (0 : Int32)), (.ref a1)])) _
    refine XS.aloadN X104.here hx rfl (hb hby d6_20) rfl rfl ?_
    show Steps p.tables e below (T104.setTop (mkF m 21 #[.val (.ref a1), .val (.int (8 : Int32)), .val (.ref b104)] [(.ref b104), (.int (0 : Int32)), (.ref a1)])) _
    refine XS.iconst X104.here hx rfl (hb hby d6_21) ?_
    show Steps p.tables e below (T104.setTop (mkF m 22 #[.val (.ref a1), .val (.int (8 : Int32)), .val (.ref b104)] [(.int (0 : Int32)), (.ref b104), (.int (0 : Int32)), (.ref a1)])) _
    refine XS.aloadN X104.here hx rfl (hb hby d6_22) rfl rfl ?_
    exact k)
  obtain ⟨c114, Ar114, -, As114, An114, -, -⟩ := id F108
  have k115 : ∀ t, Steps p.tables e below (T104.setTop (mkF m 25 #[.val (.ref a1), .val (.int (8 : Int32)), .val (.ref b104)] [(.int (8 : Int32)), (.int (4 : Int32)), (.int (0 : Int32)), (.ref b104), (.int (0 : Int32)), (.ref a1)])) t → Steps p.tables e below (s₁.setTop (entryFrame m #[(.ref a1), (.int (8 : Int32))] 3)) t := fun t k => k113 t (by
    show Steps p.tables e below (T104.setTop (mkF m 23 #[.val (.ref a1), .val (.int (8 : Int32)), .val (.ref b104)] [(.ref a1), (.int (0 : Int32)), (.ref b104), (.int (0 : Int32)), (.ref a1)])) _
    refine X104.arraylength hx (by rw [e104]; exact Ar114.1) (State.isArrayOf_alike hZ.alike Ar114.2.1) (g := (mkF m 23 #[.val (.ref a1), .val (.int (8 : Int32)), .val (.ref b104)] [(.ref a1), (.int (0 : Int32)), (.ref b104), (.int (0 : Int32)), (.ref a1)])) rfl rfl (hb hby d6_23) _ ?_
    rw [len_of As114 An114]
    show Steps p.tables e below (T104.setTop (mkF m 24 #[.val (.ref a1), .val (.int (8 : Int32)), .val (.ref b104)] [(.int (4 : Int32)), (.int (0 : Int32)), (.ref b104), (.int (0 : Int32)), (.ref a1)])) _
    refine XS.iloadN X104.here hx rfl (hb hby d6_24) rfl ?_
    exact k)
  obtain ⟨_, _, ⟨T116, L116, k116, n116⟩, -, X116, ⟨Lc116, hQ116, l116, y116, z116⟩, st116⟩ := Jvm.LawKit.callS X104 hx (y := (⟨"java/lang/Math", "min", "(II)I"⟩ : MethodName)) hown (mvT hZ (hw _ (List.mem_of_getElem? (i := 45) rfl))) (mvT hZ (hw _ (List.mem_of_getElem? (i := 46) rfl))) (mvT hZ (hw _ (List.mem_of_getElem? (i := 47) rfl))) (mvT hZ (hw _ (List.mem_of_getElem? (i := 48) rfl))) (by decide) (backOf (W := 4) (min48 l Z a0 hw []  h104 n0 Z109 ) hZ (hw _ (List.mem_of_getElem? (i := 48) rfl)) (hw _ (List.mem_of_getElem? (i := 47) rfl)) (by decide) (by decide)) (g := (mkF m 25 #[.val (.ref a1), .val (.int (8 : Int32)), .val (.ref b104)] [(.int (8 : Int32)), (.int (4 : Int32)), (.int (0 : Int32)), (.ref b104), (.int (0 : Int32)), (.ref a1)])) rfl (by rw [hml]; rfl) (argsL := [(.int (4 : Int32)), (.int (8 : Int32))]) (rest := [(.int (0 : Int32)), (.ref b104), (.int (0 : Int32)), (.ref a1)]) (lenOf pd__28II_29I rfl) rfl (by show 2 * 0 + _ ≤ _; exact Nat.le_of_eq rfl) (hb hby d6_25) (fun _ _ => ⟨rfl, e104, (by decide : 1 + 0 ≤ _), (by decide : 8 + 0 ≤ _)⟩)
  dsimp only [Pt.U, Pt.locs, Pt.cells, Pt.slots] at X116 l116 y116 z116 st116 hQ116
  subst l116 y116 z116
  obtain ⟨rfl, N116q, e116⟩ := hQ116
  have N117 := Fr.app N0 N116q
  have k118 : ∀ t, Steps p.tables e below (T116.setTop (mkF m 28 #[.val (.ref a1), .val (.int (8 : Int32)), .val (.ref b104)] [(.int (4 : Int32)), (.int (0 : Int32)), (.ref b104), (.int (0 : Int32)), (.ref a1)])) t → Steps p.tables e below (s₁.setTop (entryFrame m #[(.ref a1), (.int (8 : Int32))] 3)) t := fun t k => k115 t (st116 t k)
  obtain ⟨T119, h119, Lc119, X119, e119, N119, K119, Vc119, st119⟩ := cpA X116 hx hZ hown (hw _ (List.mem_of_getElem? (i := 49) rfl)) (hw _ (List.mem_of_getElem? (i := 52) rfl)) (hw _ (List.mem_of_getElem? (i := 50) rfl)) (hw _ (List.mem_of_getElem? (i := 51) rfl)) e116 F108 V111 (Or.inl ⟨rfl, rfl⟩) (sp := (0 : Int32)) (dp := (0 : Int32)) (nn := (4 : Int32)) (us := [(.int es0), (.int es1), (.int es2), (.int es3)]) (by decide) (by decide) (by decide) (by decide) (by decide) rfl (Nat.le_of_ble_eq_true rfl) N117 g106 (g := (mkF m 28 #[.val (.ref a1), .val (.int (8 : Int32)), .val (.ref b104)] [(.int (4 : Int32)), (.int (0 : Int32)), (.ref b104), (.int (0 : Int32)), (.ref a1)])) rfl (by rw [hml]; rfl) rfl (hb hby d6_28) (by decide) (W := 0) (by show 2 * 0 + _ ≤ _; exact Nat.le_of_eq rfl) (by decide)
  have V120 : Arv Z h119 b104 k104 .int (8 : Int32) [(.int es0), (.int es1), (.int es2), (.int es3), (.int (0 : Int32)), (.int (0 : Int32)), (.int (0 : Int32)), (.int (0 : Int32))] (.int (0 : Int32)) := Vc119
  have F121 := F108.keep K119 (ninS n105 nin0)
  have Z122 : n0 ≤ h119.size := Nat.le_trans Z109 K119.1
  have K123 := Keep.trans K110 K119 (allS (Or.inr z107) all0)
  have k124 : ∀ t, Steps p.tables e below (T119.setTop (mkF m 31 #[.val (.ref a1), .val (.int (8 : Int32)), .val (.ref b104)] [])) t → Steps p.tables e below (s₁.setTop (entryFrame m #[(.ref a1), (.int (8 : Int32))] 3)) t := fun t k => k118 t (st119 t k)
  have k125 : ∀ t, Steps p.tables e below (T119.setTop (mkF m 32 #[.val (.ref a1), .val (.int (8 : Int32)), .val (.ref b104)] [(.ref b104)])) t → Steps p.tables e below (s₁.setTop (entryFrame m #[(.ref a1), (.int (8 : Int32))] 3)) t := fun t k => k124 t (by
    show Steps p.tables e below (T119.setTop (mkF m 31 #[.val (.ref a1), .val (.int (8 : Int32)), .val (.ref b104)] [])) _
    refine XS.aloadN X119.here hx rfl (hb hby d6_31) rfl rfl ?_
    exact k)
  obtain ⟨fs, hr, hrun, hended, hW, hsame⟩ := X119.leave (v := some (.ref b104)) (fun h => by rw [Bd.returns] at h; cases h)
  refine ⟨_, _, k125 _ (retOut X119 hx (t := (.array .int)) Bd.returns rfl (Or.inr (Or.inr (Or.inr (Or.inr ⟨rfl, rfl, rfl⟩)))) (hb hby d6_32) hr), hrun, hended, _, _, rfl, ?_, ⟨_, rfl⟩, hW, hsame.mono (by decide) (by decide)⟩
  show Q_cpI Z a1 k1 es0 es1 es2 es3 h0 n0 _ T119.heap _
  rw [e119]
  exact ⟨b104, k104, rfl, N119, g104, K123, V120⟩
theorem ef_8_RI (m : MethodId) (x0 : Addr) (x1 : Int32) : entryFrame m #[(.ref x0), (.int x1)] 3 = mkF m 0 #[.val (.ref x0), .val (.int x1), .unset] [] := by first | (simp [entryFrame, mkF, argsToLocals, Value.category]; done) | rfl
theorem d8_0 : decode jdk_65_method_127_code 0 = .ok (.iload_n 1, 1) := by decide +kernel
theorem d8_1 : decode jdk_65_method_127_code 1 = .ok (.aload_n 0, 1) := by decide +kernel
theorem d8_2 : decode jdk_65_method_127_code 2 = .ok (.arraylength, 1) := by decide +kernel
theorem d8_3 : decode jdk_65_method_127_code 3 = .ok (.if_icmp .ne 11, 3) := by decide +kernel
theorem d8_14 : decode jdk_65_method_127_code 14 = .ok (.iload_n 1, 1) := by decide +kernel
theorem d8_15 : decode jdk_65_method_127_code 15 = .ok (.newarray .double, 2) := by decide +kernel
theorem d8_17 : decode jdk_65_method_127_code 17 = .ok (.astore_n 2, 1) := by decide +kernel
theorem d8_18 : decode jdk_65_method_127_code 18 = .ok (.aload_n 0, 1) := by decide +kernel
theorem d8_19 : decode jdk_65_method_127_code 19 = .ok (.iconst 0, 1) := by decide +kernel
theorem d8_20 : decode jdk_65_method_127_code 20 = .ok (.aload_n 2, 1) := by decide +kernel
theorem d8_21 : decode jdk_65_method_127_code 21 = .ok (.iconst 0, 1) := by decide +kernel
theorem d8_22 : decode jdk_65_method_127_code 22 = .ok (.aload_n 0, 1) := by decide +kernel
theorem d8_23 : decode jdk_65_method_127_code 23 = .ok (.arraylength, 1) := by decide +kernel
theorem d8_24 : decode jdk_65_method_127_code 24 = .ok (.iload_n 1, 1) := by decide +kernel
theorem d8_25 : decode jdk_65_method_127_code 25 = .ok (.invokestatic 304, 3) := by decide +kernel
theorem d8_28 : decode jdk_65_method_127_code 28 = .ok (.invokestatic 150, 3) := by decide +kernel
theorem d8_31 : decode jdk_65_method_127_code 31 = .ok (.aload_n 2, 1) := by decide +kernel
theorem d8_32 : decode jdk_65_method_127_code 32 = .ok (.areturn, 1) := by decide +kernel
def Q_cpD (Z : State) (a1 : Addr) (k1 : ClassId) (es0 : UInt64) (es1 : UInt64) (es2 : UInt64) (es3 : UInt64) (h0 : Heap) (n0 : Nat) (v : Option Value) (h : Heap) (L : List Loc) : Prop := ∃ (b : Addr) (k : ClassId), v = some (.ref b) ∧ Fr n0 L ∧ b = h0.size ∧ Keep h0 h [] ∧ Arv Z h b k .double (8 : Int32) [(.double es0), (.double es1), (.double es2), (.double es3), (.double (0 : UInt64)), (.double (0 : UInt64)), (.double (0 : UInt64)), (.double (0 : UInt64))] (.double (0 : UInt64))
set_option maxRecDepth 65536 in
set_option maxHeartbeats 40000000 in
theorem cpD (l : Launch) (Z : State) (a0 : Array Value) (hw : ∀ d ∈ tables_1, d.before a0 Z = true) (ws : List Jvm.Cond) (a1 : Addr) (k1 : ClassId) (es0 : UInt64) (es1 : UInt64) (es2 : UInt64) (es3 : UInt64) (h0 : Heap) (n0 : Nat) (Z0 : n0 ≤ h0.size) (V1 : Arv Z h0 a1 k1 .double (4 : Int32) [(.double es0), (.double es1), (.double es2), (.double es3)] (.double (0 : UInt64))) :
    MetFree l (⟨"java/util/Arrays", "copyOf", "([DI)[D"⟩ : MethodName) (head1 (Jvm.Cond.code (⟨"java/util/Arrays", "copyOf", "([DI)[D"⟩ : MethodName) jdk_65_method_127_code 3 (some (.array .double)) :: ws) ({ frames := 1, cells := 1, slots := 8, locals := 18 } : Room)) (fun a U => a = #[(.ref a1), (.int (8 : Int32))] ∧ Z.Warmed39 U.vm ∧ U.heap = h0) (fun _ _ _ _ _ => True) (fun _ U o U' => ∃ v L, o = .returned v ∧ Q_cpD Z a1 k1 es0 es1 es2 es3 h0 n0 v U'.heap L ∧ FrameEnd U o U' L ({ frames := 1, cells := 1, slots := 8, locals := 18 } : Room).cells ({ frames := 1, cells := 1, slots := 8, locals := 18 } : Room).slots) := by
  refine MetFree.of_bodySF (plainFor_of_name pn_java_2futil_2fArrays) hisR ?_
  intro p e s m args below meth c s₁ Bd hml0 hP hK
  obtain ⟨rfl, hZ, hh⟩ := hP
  have hx := Bd.exec
  have hby := Bd.bytes
  have hml : c.maxLocals = 3 := hml0
  have hown : s.vm.findClass "java/util/Arrays" = some m.cls := findClass_of_methodNamed Bd.named
  have hnm := (name_of_methodNamed Bd.named Bd.method).1
  have X0 : Stand p l e ({ frames := 1, cells := 1, slots := 8, locals := 18 } : Room) s m #[(.ref a1), (.int (8 : Int32))] below meth c s₁ [] 0 0 := Stand.of_body Bd
  have e0 : s₁.heap = h0 := by rw [← hh, Bd.state]; rfl
  have N0 := Fr.nil n0
  have k0 : ∀ t, Steps p.tables e below (s₁.setTop (mkF m 0 #[.val (.ref a1), .val (.int (8 : Int32)), .unset] [])) t → Steps p.tables e below (s₁.setTop (entryFrame m #[(.ref a1), (.int (8 : Int32))] 3)) t := fun t k => castTop (ef_8_RI m a1 (8 : Int32)) k
  have K0 : Keep h0 h0 [] := Keep.refl h0 []
  have k101 : ∀ t, Steps p.tables e below (s₁.setTop (mkF m 2 #[.val (.ref a1), .val (.int (8 : Int32)), .unset] [(.ref a1), (.int (8 : Int32))])) t → Steps p.tables e below (s₁.setTop (entryFrame m #[(.ref a1), (.int (8 : Int32))] 3)) t := fun t k => k0 t (by
    show Steps p.tables e below (s₁.setTop (mkF m 0 #[.val (.ref a1), .val (.int (8 : Int32)), .unset] [])) _
    refine XS.iloadN X0.here hx rfl (hb hby d8_0) rfl ?_
    show Steps p.tables e below (s₁.setTop (mkF m 1 #[.val (.ref a1), .val (.int (8 : Int32)), .unset] [(.int (8 : Int32))])) _
    refine XS.aloadN X0.here hx rfl (hb hby d8_1) rfl rfl ?_
    exact k)
  obtain ⟨c102, Ar102, -, As102, An102, -, -⟩ := id V1
  have k103 : ∀ t, Steps p.tables e below (s₁.setTop (mkF m 15 #[.val (.ref a1), .val (.int (8 : Int32)), .unset] [(.int (8 : Int32))])) t → Steps p.tables e below (s₁.setTop (entryFrame m #[(.ref a1), (.int (8 : Int32))] 3)) t := fun t k => k101 t (by
    show Steps p.tables e below (s₁.setTop (mkF m 2 #[.val (.ref a1), .val (.int (8 : Int32)), .unset] [(.ref a1), (.int (8 : Int32))])) _
    refine X0.arraylength hx (by rw [e0]; exact Ar102.1) (State.isArrayOf_alike hZ.alike Ar102.2.1) (g := (mkF m 2 #[.val (.ref a1), .val (.int (8 : Int32)), .unset] [(.ref a1), (.int (8 : Int32))])) rfl rfl (hb hby d8_2) _ ?_
    rw [len_of As102 An102]
    show Steps p.tables e below (s₁.setTop (mkF m 3 #[.val (.ref a1), .val (.int (8 : Int32)), .unset] [(.int (4 : Int32)), (.int (8 : Int32))])) _
    refine XS.icmpYes X0.here hx rfl (pc0 := 3) (pc' := 14) rfl (hb hby d8_3) rfl (feq (by decide)).2 (by decide) (by decide) ?_
    show Steps p.tables e below (s₁.setTop (mkF m 14 #[.val (.ref a1), .val (.int (8 : Int32)), .unset] [])) _
    refine XS.iloadN X0.here hx rfl (hb hby d8_14) rfl ?_
    exact k)
  obtain ⟨T104, h104, k104, X104, e104, E104, A104, st104⟩ := newP X0 hx hZ (hw _ (List.mem_of_getElem? (i := 13) rfl)) e0 (g := (mkF m 15 #[.val (.ref a1), .val (.int (8 : Int32)), .unset] [(.int (8 : Int32))])) rfl (hb hby d8_15) rfl (by decide) (cap := 8) (by decide) (by decide) (by decide) (by decide)
  obtain ⟨b104, g104⟩ : ∃ z, z = h0.size := ⟨_, rfl⟩
  rw [← g104] at A104 st104
  have n105 : a1 ≠ b104 := Nat.ne_of_lt (Nat.lt_of_lt_of_le V1.lt (Nat.le_of_eq g104.symm))
  have g106 : n0 ≤ b104 := Nat.le_trans Z0 (Nat.le_of_eq g104.symm)
  have z107 : h0.size ≤ b104 := Nat.le_trans K0.1 (Nat.le_of_eq g104.symm)
  have F108 := V1.ext E104
  have Z109 : n0 ≤ h104.size := Nat.le_trans Z0 E104.1
  have K110 := K0.ext E104
  have V111 : Arv Z h104 b104 k104 .double (8 : Int32) [(.double (0 : UInt64)), (.double (0 : UInt64)), (.double (0 : UInt64)), (.double (0 : UInt64)), (.double (0 : UInt64)), (.double (0 : UInt64)), (.double (0 : UInt64)), (.double (0 : UInt64))] (.double (0 : UInt64)) := (Arv.new A104 (by decide)).pad (pad_rep [] (.double (0 : UInt64)) 8)
  have k112 : ∀ t, Steps p.tables e below (T104.setTop (mkF m 17 #[.val (.ref a1), .val (.int (8 : Int32)), .unset] [(.ref b104)])) t → Steps p.tables e below (s₁.setTop (entryFrame m #[(.ref a1), (.int (8 : Int32))] 3)) t := fun t k => k103 t (st104 t k)
  have k113 : ∀ t, Steps p.tables e below (T104.setTop (mkF m 23 #[.val (.ref a1), .val (.int (8 : Int32)), .val (.ref b104)] [(.ref a1), (.int (0 : Int32)), (.ref b104), (.int (0 : Int32)), (.ref a1)])) t → Steps p.tables e below (s₁.setTop (entryFrame m #[(.ref a1), (.int (8 : Int32))] 3)) t := fun t k => k112 t (by
    show Steps p.tables e below (T104.setTop (mkF m 17 #[.val (.ref a1), .val (.int (8 : Int32)), .unset] [(.ref b104)])) _
    refine XS.astoreN X104.here hx rfl (hb hby d8_17) rfl rfl (l' := #[.val (.ref a1), .val (.int (8 : Int32)), .val (.ref b104)]) rfl ?_
    show Steps p.tables e below (T104.setTop (mkF m 18 #[.val (.ref a1), .val (.int (8 : Int32)), .val (.ref b104)] [])) _
    refine XS.aloadN X104.here hx rfl (hb hby d8_18) rfl rfl ?_
    show Steps p.tables e below (T104.setTop (mkF m 19 #[.val (.ref a1), .val (.int (8 : Int32)), .val (.ref b104)] [(.ref a1)])) _
    refine XS.iconst X104.here hx rfl (hb hby d8_19) ?_
    show Steps p.tables e below (T104.setTop (mkF m 20 #[.val (.ref a1), .val (.int (8 : Int32)), .val (.ref b104)] [(.int (0 : Int32)), (.ref a1)])) _
    refine XS.aloadN X104.here hx rfl (hb hby d8_20) rfl rfl ?_
    show Steps p.tables e below (T104.setTop (mkF m 21 #[.val (.ref a1), .val (.int (8 : Int32)), .val (.ref b104)] [(.ref b104), (.int (0 : Int32)), (.ref a1)])) _
    refine XS.iconst X104.here hx rfl (hb hby d8_21) ?_
    show Steps p.tables e below (T104.setTop (mkF m 22 #[.val (.ref a1), .val (.int (8 : Int32)), .val (.ref b104)] [(.int (0 : Int32)), (.ref b104), (.int (0 : Int32)), (.ref a1)])) _
    refine XS.aloadN X104.here hx rfl (hb hby d8_22) rfl rfl ?_
    exact k)
  obtain ⟨c114, Ar114, -, As114, An114, -, -⟩ := id F108
  have k115 : ∀ t, Steps p.tables e below (T104.setTop (mkF m 25 #[.val (.ref a1), .val (.int (8 : Int32)), .val (.ref b104)] [(.int (8 : Int32)), (.int (4 : Int32)), (.int (0 : Int32)), (.ref b104), (.int (0 : Int32)), (.ref a1)])) t → Steps p.tables e below (s₁.setTop (entryFrame m #[(.ref a1), (.int (8 : Int32))] 3)) t := fun t k => k113 t (by
    show Steps p.tables e below (T104.setTop (mkF m 23 #[.val (.ref a1), .val (.int (8 : Int32)), .val (.ref b104)] [(.ref a1), (.int (0 : Int32)), (.ref b104), (.int (0 : Int32)), (.ref a1)])) _
    refine X104.arraylength hx (by rw [e104]; exact Ar114.1) (State.isArrayOf_alike hZ.alike Ar114.2.1) (g := (mkF m 23 #[.val (.ref a1), .val (.int (8 : Int32)), .val (.ref b104)] [(.ref a1), (.int (0 : Int32)), (.ref b104), (.int (0 : Int32)), (.ref a1)])) rfl rfl (hb hby d8_23) _ ?_
    rw [len_of As114 An114]
    show Steps p.tables e below (T104.setTop (mkF m 24 #[.val (.ref a1), .val (.int (8 : Int32)), .val (.ref b104)] [(.int (4 : Int32)), (.int (0 : Int32)), (.ref b104), (.int (0 : Int32)), (.ref a1)])) _
    refine XS.iloadN X104.here hx rfl (hb hby d8_24) rfl ?_
    exact k)
  obtain ⟨_, _, ⟨T116, L116, k116, n116⟩, -, X116, ⟨Lc116, hQ116, l116, y116, z116⟩, st116⟩ := Jvm.LawKit.callS X104 hx (y := (⟨"java/lang/Math", "min", "(II)I"⟩ : MethodName)) hown (mvT hZ (hw _ (List.mem_of_getElem? (i := 45) rfl))) (mvT hZ (hw _ (List.mem_of_getElem? (i := 46) rfl))) (mvT hZ (hw _ (List.mem_of_getElem? (i := 47) rfl))) (mvT hZ (hw _ (List.mem_of_getElem? (i := 48) rfl))) (by decide) (backOf (W := 4) (min48 l Z a0 hw []  h104 n0 Z109 ) hZ (hw _ (List.mem_of_getElem? (i := 48) rfl)) (hw _ (List.mem_of_getElem? (i := 47) rfl)) (by decide) (by decide)) (g := (mkF m 25 #[.val (.ref a1), .val (.int (8 : Int32)), .val (.ref b104)] [(.int (8 : Int32)), (.int (4 : Int32)), (.int (0 : Int32)), (.ref b104), (.int (0 : Int32)), (.ref a1)])) rfl (by rw [hml]; rfl) (argsL := [(.int (4 : Int32)), (.int (8 : Int32))]) (rest := [(.int (0 : Int32)), (.ref b104), (.int (0 : Int32)), (.ref a1)]) (lenOf pd__28II_29I rfl) rfl (by show 2 * 0 + _ ≤ _; exact Nat.le_of_eq rfl) (hb hby d8_25) (fun _ _ => ⟨rfl, e104, (by decide : 1 + 0 ≤ _), (by decide : 8 + 0 ≤ _)⟩)
  dsimp only [Pt.U, Pt.locs, Pt.cells, Pt.slots] at X116 l116 y116 z116 st116 hQ116
  subst l116 y116 z116
  obtain ⟨rfl, N116q, e116⟩ := hQ116
  have N117 := Fr.app N0 N116q
  have k118 : ∀ t, Steps p.tables e below (T116.setTop (mkF m 28 #[.val (.ref a1), .val (.int (8 : Int32)), .val (.ref b104)] [(.int (4 : Int32)), (.int (0 : Int32)), (.ref b104), (.int (0 : Int32)), (.ref a1)])) t → Steps p.tables e below (s₁.setTop (entryFrame m #[(.ref a1), (.int (8 : Int32))] 3)) t := fun t k => k115 t (st116 t k)
  obtain ⟨T119, h119, Lc119, X119, e119, N119, K119, Vc119, st119⟩ := cpA X116 hx hZ hown (hw _ (List.mem_of_getElem? (i := 49) rfl)) (hw _ (List.mem_of_getElem? (i := 52) rfl)) (hw _ (List.mem_of_getElem? (i := 50) rfl)) (hw _ (List.mem_of_getElem? (i := 51) rfl)) e116 F108 V111 (Or.inl ⟨rfl, rfl⟩) (sp := (0 : Int32)) (dp := (0 : Int32)) (nn := (4 : Int32)) (us := [(.double es0), (.double es1), (.double es2), (.double es3)]) (by decide) (by decide) (by decide) (by decide) (by decide) rfl (Nat.le_of_ble_eq_true rfl) N117 g106 (g := (mkF m 28 #[.val (.ref a1), .val (.int (8 : Int32)), .val (.ref b104)] [(.int (4 : Int32)), (.int (0 : Int32)), (.ref b104), (.int (0 : Int32)), (.ref a1)])) rfl (by rw [hml]; rfl) rfl (hb hby d8_28) (by decide) (W := 0) (by show 2 * 0 + _ ≤ _; exact Nat.le_of_eq rfl) (by decide)
  have V120 : Arv Z h119 b104 k104 .double (8 : Int32) [(.double es0), (.double es1), (.double es2), (.double es3), (.double (0 : UInt64)), (.double (0 : UInt64)), (.double (0 : UInt64)), (.double (0 : UInt64))] (.double (0 : UInt64)) := Vc119
  have F121 := F108.keep K119 (ninS n105 nin0)
  have Z122 : n0 ≤ h119.size := Nat.le_trans Z109 K119.1
  have K123 := Keep.trans K110 K119 (allS (Or.inr z107) all0)
  have k124 : ∀ t, Steps p.tables e below (T119.setTop (mkF m 31 #[.val (.ref a1), .val (.int (8 : Int32)), .val (.ref b104)] [])) t → Steps p.tables e below (s₁.setTop (entryFrame m #[(.ref a1), (.int (8 : Int32))] 3)) t := fun t k => k118 t (st119 t k)
  have k125 : ∀ t, Steps p.tables e below (T119.setTop (mkF m 32 #[.val (.ref a1), .val (.int (8 : Int32)), .val (.ref b104)] [(.ref b104)])) t → Steps p.tables e below (s₁.setTop (entryFrame m #[(.ref a1), (.int (8 : Int32))] 3)) t := fun t k => k124 t (by
    show Steps p.tables e below (T119.setTop (mkF m 31 #[.val (.ref a1), .val (.int (8 : Int32)), .val (.ref b104)] [])) _
    refine XS.aloadN X119.here hx rfl (hb hby d8_31) rfl rfl ?_
    exact k)
  obtain ⟨fs, hr, hrun, hended, hW, hsame⟩ := X119.leave (v := some (.ref b104)) (fun h => by rw [Bd.returns] at h; cases h)
  refine ⟨_, _, k125 _ (retOut X119 hx (t := (.array .double)) Bd.returns rfl (Or.inr (Or.inr (Or.inr (Or.inr ⟨rfl, rfl, rfl⟩)))) (hb hby d8_32) hr), hrun, hended, _, _, rfl, ?_, ⟨_, rfl⟩, hW, hsame.mono (by decide) (by decide)⟩
  show Q_cpD Z a1 k1 es0 es1 es2 es3 h0 n0 _ T119.heap _
  rw [e119]
  exact ⟨b104, k104, rfl, N119, g104, K123, V120⟩
theorem ef_3_RID (m : MethodId) (x0 : Addr) (x1 : Int32) (x2 : UInt64) : entryFrame m #[(.ref x0), (.int x1), (.double x2)] 4 = mkF m 0 #[.val (.ref x0), .val (.int x1), .val (.double x2), .second] [] := by first | (simp [entryFrame, mkF, argsToLocals, Value.category]; done) | rfl
theorem d3_0 : decode prog_54_method_6_code 0 = .ok (.aload_n 0, 1) := by decide +kernel
theorem d3_1 : decode prog_54_method_6_code 1 = .ok (.getfield 39, 3) := by decide +kernel
theorem d3_4 : decode prog_54_method_6_code 4 = .ok (.aload_n 0, 1) := by decide +kernel
theorem d3_5 : decode prog_54_method_6_code 5 = .ok (.getfield 9, 3) := by decide +kernel
theorem d3_8 : decode prog_54_method_6_code 8 = .ok (.arraylength, 1) := by decide +kernel
theorem d3_9 : decode prog_54_method_6_code 9 = .ok (.if_icmp .ne 37, 3) := by decide +kernel
theorem d3_46 : decode prog_54_method_6_code 46 = .ok (.aload_n 0, 1) := by decide +kernel
theorem d3_47 : decode prog_54_method_6_code 47 = .ok (.getfield 9, 3) := by decide +kernel
theorem d3_50 : decode prog_54_method_6_code 50 = .ok (.aload_n 0, 1) := by decide +kernel
theorem d3_51 : decode prog_54_method_6_code 51 = .ok (.getfield 39, 3) := by decide +kernel
theorem d3_54 : decode prog_54_method_6_code 54 = .ok (.iload_n 1, 1) := by decide +kernel
theorem d3_55 : decode prog_54_method_6_code 55 = .ok (.iastore, 1) := by decide +kernel
theorem d3_56 : decode prog_54_method_6_code 56 = .ok (.aload_n 0, 1) := by decide +kernel
theorem d3_57 : decode prog_54_method_6_code 57 = .ok (.getfield 13, 3) := by decide +kernel
theorem d3_60 : decode prog_54_method_6_code 60 = .ok (.aload_n 0, 1) := by decide +kernel
theorem d3_61 : decode prog_54_method_6_code 61 = .ok (.getfield 39, 3) := by decide +kernel
theorem d3_64 : decode prog_54_method_6_code 64 = .ok (.dload_n 2, 1) := by decide +kernel
theorem d3_65 : decode prog_54_method_6_code 65 = .ok (.dastore, 1) := by decide +kernel
theorem d3_66 : decode prog_54_method_6_code 66 = .ok (.aload_n 0, 1) := by decide +kernel
theorem d3_67 : decode prog_54_method_6_code 67 = .ok (.dup, 1) := by decide +kernel
theorem d3_68 : decode prog_54_method_6_code 68 = .ok (.getfield 39, 3) := by decide +kernel
theorem d3_71 : decode prog_54_method_6_code 71 = .ok (.iconst 1, 1) := by decide +kernel
theorem d3_72 : decode prog_54_method_6_code 72 = .ok (.iadd, 1) := by decide +kernel
theorem d3_73 : decode prog_54_method_6_code 73 = .ok (.putfield 39, 3) := by decide +kernel
theorem d3_76 : decode prog_54_method_6_code 76 = .ok (.return_, 1) := by decide +kernel
def Q_av0 (Z : State) (a1 : Addr) (b1 : Addr) (b2 : Addr) (b3 : Addr) (k1 : ClassId) (k2 : ClassId) (p1 : Int32) (v1 : UInt64) (y0 : Int32) (es0 : Int32) (es1 : Int32) (es2 : Int32) (es3 : Int32) (g0 : UInt64) (g1 : UInt64) (g2 : UInt64) (g3 : UInt64) (h0 : Heap) (n0 : Nat) (v : Option Value) (h : Heap) (L : List Loc) : Prop := v = none ∧ Fr n0 L ∧ Keep h0 h [a1, b1, b2] ∧ Exa Z h a1 "com/example/istra/istra/model/Transfer" ∧ Fld Z h a1 "com/example/istra/istra/model/Transfer" "vehicleStates" "[I" (.ref b1) ∧ Fld Z h a1 "com/example/istra/istra/model/Transfer" "crossingS" "[D" (.ref b2) ∧ Fld Z h a1 "com/example/istra/istra/model/Transfer" "fluid" "[D" (.ref b3) ∧ Fld Z h a1 "com/example/istra/istra/model/Transfer" "vehicles" "I" (.int (1 : Int32)) ∧ Fld Z h a1 "com/example/istra/istra/model/Transfer" "holdsFluid" "Z" (.int y0) ∧ Arv Z h b1 k1 .int (4 : Int32) [(.int p1), (.int es1), (.int es2), (.int es3)] (.int (0 : Int32)) ∧ Arv Z h b2 k2 .double (4 : Int32) [(.double v1), (.double g1), (.double g2), (.double g3)] (.double (0 : UInt64))
set_option maxRecDepth 65536 in
set_option maxHeartbeats 40000000 in
theorem av0 (l : Launch) (Z : State) (a0 : Array Value) (hw : ∀ d ∈ tables_1, d.before a0 Z = true) (ws : List Jvm.Cond) (a1 : Addr) (b1 : Addr) (b2 : Addr) (b3 : Addr) (k1 : ClassId) (k2 : ClassId) (p1 : Int32) (v1 : UInt64) (y0 : Int32) (es0 : Int32) (es1 : Int32) (es2 : Int32) (es3 : Int32) (g0 : UInt64) (g1 : UInt64) (g2 : UInt64) (g3 : UInt64) (h0 : Heap) (n0 : Nat) (Z0 : n0 ≤ h0.size) (Fk0 : Exa Z h0 a1 "com/example/istra/istra/model/Transfer") (Fk1 : Fld Z h0 a1 "com/example/istra/istra/model/Transfer" "vehicleStates" "[I" (.ref b1)) (Fk2 : Fld Z h0 a1 "com/example/istra/istra/model/Transfer" "crossingS" "[D" (.ref b2)) (Fk3 : Fld Z h0 a1 "com/example/istra/istra/model/Transfer" "fluid" "[D" (.ref b3)) (Fk4 : Fld Z h0 a1 "com/example/istra/istra/model/Transfer" "vehicles" "I" (.int (0 : Int32))) (Fk5 : Fld Z h0 a1 "com/example/istra/istra/model/Transfer" "holdsFluid" "Z" (.int y0)) (Fk6 : Arv Z h0 b1 k1 .int (4 : Int32) [(.int es0), (.int es1), (.int es2), (.int es3)] (.int (0 : Int32))) (Fk7 : Arv Z h0 b2 k2 .double (4 : Int32) [(.double g0), (.double g1), (.double g2), (.double g3)] (.double (0 : UInt64))) (ge_a1 : n0 ≤ a1) (ge_b1 : n0 ≤ b1) (ge_b2 : n0 ≤ b2) (ne_a1_b1 : a1 ≠ b1) (ne_a1_b2 : a1 ≠ b2) (ne_b1_b2 : b1 ≠ b2) :
    MetFree l (⟨"com/example/istra/istra/model/Transfer", "addVehicle", "(ID)V"⟩ : MethodName) (head1 (Jvm.Cond.code (⟨"com/example/istra/istra/model/Transfer", "addVehicle", "(ID)V"⟩ : MethodName) prog_54_method_6_code 4 none :: ws) ({ frames := 0, cells := 0, slots := 0, locals := 0 } : Room)) (fun a U => a = #[(.ref a1), (.int p1), (.double v1)] ∧ Z.Warmed39 U.vm ∧ U.heap = h0) (fun _ _ _ _ _ => True) (fun _ U o U' => ∃ v L, o = .returned v ∧ Q_av0 Z a1 b1 b2 b3 k1 k2 p1 v1 y0 es0 es1 es2 es3 g0 g1 g2 g3 h0 n0 v U'.heap L ∧ FrameEnd U o U' L ({ frames := 0, cells := 0, slots := 0, locals := 0 } : Room).cells ({ frames := 0, cells := 0, slots := 0, locals := 0 } : Room).slots) := by
  refine MetFree.of_bodySF (plainFor_of_name pn_com_2fexample_2fistra_2fistra_2fmodel_2fTransfer) hisR ?_
  intro p e s m args below meth c s₁ Bd hml0 hP hK
  obtain ⟨rfl, hZ, hh⟩ := hP
  have hx := Bd.exec
  have hby := Bd.bytes
  have hml : c.maxLocals = 4 := hml0
  have hown : s.vm.findClass "com/example/istra/istra/model/Transfer" = some m.cls := findClass_of_methodNamed Bd.named
  have hnm := (name_of_methodNamed Bd.named Bd.method).1
  have X0 : Stand p l e ({ frames := 0, cells := 0, slots := 0, locals := 0 } : Room) s m #[(.ref a1), (.int p1), (.double v1)] below meth c s₁ [] 0 0 := Stand.of_body Bd
  have e0 : s₁.heap = h0 := by rw [← hh, Bd.state]; rfl
  have N0 := Fr.nil n0
  have k0 : ∀ t, Steps p.tables e below (s₁.setTop (mkF m 0 #[.val (.ref a1), .val (.int p1), .val (.double v1), .second] [])) t → Steps p.tables e below (s₁.setTop (entryFrame m #[(.ref a1), (.int p1), (.double v1)] 4)) t := fun t k => castTop (ef_3_RID m a1 p1 v1) k
  have K0 := Keep.refl h0 [a1, b1, b2]
  have k101 : ∀ t, Steps p.tables e below (s₁.setTop (mkF m 1 #[.val (.ref a1), .val (.int p1), .val (.double v1), .second] [(.ref a1)])) t → Steps p.tables e below (s₁.setTop (entryFrame m #[(.ref a1), (.int p1), (.double v1)] 4)) t := fun t k => k0 t (by
    show Steps p.tables e below (s₁.setTop (mkF m 0 #[.val (.ref a1), .val (.int p1), .val (.double v1), .second] [])) _
    refine XS.aloadN X0.here hx rfl (hb hby d3_0) rfl rfl ?_
    exact k)
  obtain ⟨T102, X102, e102, st102⟩ := getF X0 hx hZ hown (host := "") (Or.inl (hw _ (List.mem_of_getElem? (i := 23) rfl))) Via.refl e0 Fk4 (g := (mkF m 1 #[.val (.ref a1), .val (.int p1), .val (.double v1), .second] [(.ref a1)])) rfl rfl (hb hby d3_1)
  have k103 : ∀ t, Steps p.tables e below (T102.setTop (mkF m 4 #[.val (.ref a1), .val (.int p1), .val (.double v1), .second] [(.int (0 : Int32))])) t → Steps p.tables e below (s₁.setTop (entryFrame m #[(.ref a1), (.int p1), (.double v1)] 4)) t := fun t k => k101 t (st102 t k)
  have k104 : ∀ t, Steps p.tables e below (T102.setTop (mkF m 5 #[.val (.ref a1), .val (.int p1), .val (.double v1), .second] [(.ref a1), (.int (0 : Int32))])) t → Steps p.tables e below (s₁.setTop (entryFrame m #[(.ref a1), (.int p1), (.double v1)] 4)) t := fun t k => k103 t (by
    show Steps p.tables e below (T102.setTop (mkF m 4 #[.val (.ref a1), .val (.int p1), .val (.double v1), .second] [(.int (0 : Int32))])) _
    refine XS.aloadN X102.here hx rfl (hb hby d3_4) rfl rfl ?_
    exact k)
  obtain ⟨T105, X105, e105, st105⟩ := getF X102 hx hZ hown (host := "") (Or.inl (hw _ (List.mem_of_getElem? (i := 11) rfl))) Via.refl e102 Fk1 (g := (mkF m 5 #[.val (.ref a1), .val (.int p1), .val (.double v1), .second] [(.ref a1), (.int (0 : Int32))])) rfl rfl (hb hby d3_5)
  have k106 : ∀ t, Steps p.tables e below (T105.setTop (mkF m 8 #[.val (.ref a1), .val (.int p1), .val (.double v1), .second] [(.ref b1), (.int (0 : Int32))])) t → Steps p.tables e below (s₁.setTop (entryFrame m #[(.ref a1), (.int p1), (.double v1)] 4)) t := fun t k => k104 t (st105 t k)
  obtain ⟨c107, Ar107, -, As107, An107, -, -⟩ := id Fk6
  have k108 : ∀ t, Steps p.tables e below (T105.setTop (mkF m 47 #[.val (.ref a1), .val (.int p1), .val (.double v1), .second] [(.ref a1)])) t → Steps p.tables e below (s₁.setTop (entryFrame m #[(.ref a1), (.int p1), (.double v1)] 4)) t := fun t k => k106 t (by
    show Steps p.tables e below (T105.setTop (mkF m 8 #[.val (.ref a1), .val (.int p1), .val (.double v1), .second] [(.ref b1), (.int (0 : Int32))])) _
    refine X105.arraylength hx (by rw [e105]; exact Ar107.1) (State.isArrayOf_alike hZ.alike Ar107.2.1) (g := (mkF m 8 #[.val (.ref a1), .val (.int p1), .val (.double v1), .second] [(.ref b1), (.int (0 : Int32))])) rfl rfl (hb hby d3_8) _ ?_
    rw [len_of As107 An107]
    show Steps p.tables e below (T105.setTop (mkF m 9 #[.val (.ref a1), .val (.int p1), .val (.double v1), .second] [(.int (4 : Int32)), (.int (0 : Int32))])) _
    refine XS.icmpYes X105.here hx rfl (pc0 := 9) (pc' := 46) rfl (hb hby d3_9) rfl (feq (by decide)).2 (by decide) (by decide) ?_
    show Steps p.tables e below (T105.setTop (mkF m 46 #[.val (.ref a1), .val (.int p1), .val (.double v1), .second] [])) _
    refine XS.aloadN X105.here hx rfl (hb hby d3_46) rfl rfl ?_
    exact k)
  obtain ⟨T109, X109, e109, st109⟩ := getF X105 hx hZ hown (host := "") (Or.inl (hw _ (List.mem_of_getElem? (i := 11) rfl))) Via.refl e105 Fk1 (g := (mkF m 47 #[.val (.ref a1), .val (.int p1), .val (.double v1), .second] [(.ref a1)])) rfl rfl (hb hby d3_47)
  have k110 : ∀ t, Steps p.tables e below (T109.setTop (mkF m 50 #[.val (.ref a1), .val (.int p1), .val (.double v1), .second] [(.ref b1)])) t → Steps p.tables e below (s₁.setTop (entryFrame m #[(.ref a1), (.int p1), (.double v1)] 4)) t := fun t k => k108 t (st109 t k)
  have k111 : ∀ t, Steps p.tables e below (T109.setTop (mkF m 51 #[.val (.ref a1), .val (.int p1), .val (.double v1), .second] [(.ref a1), (.ref b1)])) t → Steps p.tables e below (s₁.setTop (entryFrame m #[(.ref a1), (.int p1), (.double v1)] 4)) t := fun t k => k110 t (by
    show Steps p.tables e below (T109.setTop (mkF m 50 #[.val (.ref a1), .val (.int p1), .val (.double v1), .second] [(.ref b1)])) _
    refine XS.aloadN X109.here hx rfl (hb hby d3_50) rfl rfl ?_
    exact k)
  obtain ⟨T112, X112, e112, st112⟩ := getF X109 hx hZ hown (host := "") (Or.inl (hw _ (List.mem_of_getElem? (i := 23) rfl))) Via.refl e109 Fk4 (g := (mkF m 51 #[.val (.ref a1), .val (.int p1), .val (.double v1), .second] [(.ref a1), (.ref b1)])) rfl rfl (hb hby d3_51)
  have k113 : ∀ t, Steps p.tables e below (T112.setTop (mkF m 54 #[.val (.ref a1), .val (.int p1), .val (.double v1), .second] [(.int (0 : Int32)), (.ref b1)])) t → Steps p.tables e below (s₁.setTop (entryFrame m #[(.ref a1), (.int p1), (.double v1)] 4)) t := fun t k => k111 t (st112 t k)
  have k114 : ∀ t, Steps p.tables e below (T112.setTop (mkF m 55 #[.val (.ref a1), .val (.int p1), .val (.double v1), .second] [(.int p1), (.int (0 : Int32)), (.ref b1)])) t → Steps p.tables e below (s₁.setTop (entryFrame m #[(.ref a1), (.int p1), (.double v1)] 4)) t := fun t k => k113 t (by
    show Steps p.tables e below (T112.setTop (mkF m 54 #[.val (.ref a1), .val (.int p1), .val (.double v1), .second] [(.int (0 : Int32)), (.ref b1)])) _
    refine XS.iloadN X112.here hx rfl (hb hby d3_54) rfl ?_
    exact k)
  obtain ⟨c115, Ar115, Aq115, As115, An115, Ah115, Ag115⟩ := id Fk6
  have hin115 : ¬ ((0 : Int32) < 0 ∨ c115.slots.size ≤ ((0 : Int32)).toNatClampNeg) := inb_of As115 ⟨by decide, by decide⟩
  obtain ⟨T115, h115, X115, e115, W115, st115⟩ := stI X112 hx hZ e112 Ar115 (j := (0 : Int32)) hin115 (g := (mkF m 55 #[.val (.ref a1), .val (.int p1), .val (.double v1), .second] [(.int p1), (.int (0 : Int32)), (.ref b1)])) rfl rfl (hb hby d3_55)
  have V116 := Arv.set Ar115 Aq115 As115 An115 Ah115 Ag115 rfl W115 0 rfl (Nat.le_of_ble_eq_true rfl)
  have F117 := Fk0.wr W115
  have F118 := Fk1.other W115 (Or.inl ne_a1_b1)
  have F119 := Fk2.other W115 (Or.inl ne_a1_b1)
  have F120 := Fk3.other W115 (Or.inl ne_a1_b1)
  have F121 := Fk4.other W115 (Or.inl ne_a1_b1)
  have F122 := Fk5.other W115 (Or.inl ne_a1_b1)
  have F123 := Fk7.other W115 (Ne.symm ne_b1_b2)
  have Z124 : n0 ≤ h115.size := Nat.le_trans Z0 (Nat.le_of_eq W115.size.symm)
  have N125 := Fr.snoc X115 N0 ge_b1
  have K126 := K0.wr W115 (Or.inl (List.mem_of_getElem? (i := 1) rfl))
  have k127 : ∀ t, Steps p.tables e below (T115.setTop (mkF m 56 #[.val (.ref a1), .val (.int p1), .val (.double v1), .second] [])) t → Steps p.tables e below (s₁.setTop (entryFrame m #[(.ref a1), (.int p1), (.double v1)] 4)) t := fun t k => k114 t (st115 t k)
  have k128 : ∀ t, Steps p.tables e below (T115.setTop (mkF m 57 #[.val (.ref a1), .val (.int p1), .val (.double v1), .second] [(.ref a1)])) t → Steps p.tables e below (s₁.setTop (entryFrame m #[(.ref a1), (.int p1), (.double v1)] 4)) t := fun t k => k127 t (by
    show Steps p.tables e below (T115.setTop (mkF m 56 #[.val (.ref a1), .val (.int p1), .val (.double v1), .second] [])) _
    refine XS.aloadN X115.here hx rfl (hb hby d3_56) rfl rfl ?_
    exact k)
  obtain ⟨T129, X129, e129, st129⟩ := getF X115 hx hZ hown (host := "") (Or.inl (hw _ (List.mem_of_getElem? (i := 14) rfl))) Via.refl e115 F119 (g := (mkF m 57 #[.val (.ref a1), .val (.int p1), .val (.double v1), .second] [(.ref a1)])) rfl rfl (hb hby d3_57)
  have k130 : ∀ t, Steps p.tables e below (T129.setTop (mkF m 60 #[.val (.ref a1), .val (.int p1), .val (.double v1), .second] [(.ref b2)])) t → Steps p.tables e below (s₁.setTop (entryFrame m #[(.ref a1), (.int p1), (.double v1)] 4)) t := fun t k => k128 t (st129 t k)
  have k131 : ∀ t, Steps p.tables e below (T129.setTop (mkF m 61 #[.val (.ref a1), .val (.int p1), .val (.double v1), .second] [(.ref a1), (.ref b2)])) t → Steps p.tables e below (s₁.setTop (entryFrame m #[(.ref a1), (.int p1), (.double v1)] 4)) t := fun t k => k130 t (by
    show Steps p.tables e below (T129.setTop (mkF m 60 #[.val (.ref a1), .val (.int p1), .val (.double v1), .second] [(.ref b2)])) _
    refine XS.aloadN X129.here hx rfl (hb hby d3_60) rfl rfl ?_
    exact k)
  obtain ⟨T132, X132, e132, st132⟩ := getF X129 hx hZ hown (host := "") (Or.inl (hw _ (List.mem_of_getElem? (i := 23) rfl))) Via.refl e129 F121 (g := (mkF m 61 #[.val (.ref a1), .val (.int p1), .val (.double v1), .second] [(.ref a1), (.ref b2)])) rfl rfl (hb hby d3_61)
  have k133 : ∀ t, Steps p.tables e below (T132.setTop (mkF m 64 #[.val (.ref a1), .val (.int p1), .val (.double v1), .second] [(.int (0 : Int32)), (.ref b2)])) t → Steps p.tables e below (s₁.setTop (entryFrame m #[(.ref a1), (.int p1), (.double v1)] 4)) t := fun t k => k131 t (st132 t k)
  have k134 : ∀ t, Steps p.tables e below (T132.setTop (mkF m 65 #[.val (.ref a1), .val (.int p1), .val (.double v1), .second] [(.double v1), (.int (0 : Int32)), (.ref b2)])) t → Steps p.tables e below (s₁.setTop (entryFrame m #[(.ref a1), (.int p1), (.double v1)] 4)) t := fun t k => k133 t (by
    show Steps p.tables e below (T132.setTop (mkF m 64 #[.val (.ref a1), .val (.int p1), .val (.double v1), .second] [(.int (0 : Int32)), (.ref b2)])) _
    refine XS.dloadN X132.here hx rfl (hb hby d3_64) rfl ?_
    exact k)
  obtain ⟨c135, Ar135, Aq135, As135, An135, Ah135, Ag135⟩ := id F123
  have hin135 : ¬ ((0 : Int32) < 0 ∨ c135.slots.size ≤ ((0 : Int32)).toNatClampNeg) := inb_of As135 ⟨by decide, by decide⟩
  obtain ⟨T135, h135, X135, e135, W135, st135⟩ := stD X132 hx hZ e132 Ar135 (j := (0 : Int32)) hin135 (g := (mkF m 65 #[.val (.ref a1), .val (.int p1), .val (.double v1), .second] [(.double v1), (.int (0 : Int32)), (.ref b2)])) rfl rfl (hb hby d3_65)
  have V136 := Arv.set Ar135 Aq135 As135 An135 Ah135 Ag135 rfl W135 0 rfl (Nat.le_of_ble_eq_true rfl)
  have F137 := F117.wr W135
  have F138 := F118.other W135 (Or.inl ne_a1_b2)
  have F139 := F119.other W135 (Or.inl ne_a1_b2)
  have F140 := F120.other W135 (Or.inl ne_a1_b2)
  have F141 := F121.other W135 (Or.inl ne_a1_b2)
  have F142 := F122.other W135 (Or.inl ne_a1_b2)
  have F143 := V116.other W135 ne_b1_b2
  have Z144 : n0 ≤ h135.size := Nat.le_trans Z124 (Nat.le_of_eq W135.size.symm)
  have N145 := Fr.snoc X135 N125 ge_b2
  have K146 := K126.wr W135 (Or.inl (List.mem_of_getElem? (i := 2) rfl))
  have k147 : ∀ t, Steps p.tables e below (T135.setTop (mkF m 66 #[.val (.ref a1), .val (.int p1), .val (.double v1), .second] [])) t → Steps p.tables e below (s₁.setTop (entryFrame m #[(.ref a1), (.int p1), (.double v1)] 4)) t := fun t k => k134 t (st135 t k)
  have k148 : ∀ t, Steps p.tables e below (T135.setTop (mkF m 68 #[.val (.ref a1), .val (.int p1), .val (.double v1), .second] [(.ref a1), (.ref a1)])) t → Steps p.tables e below (s₁.setTop (entryFrame m #[(.ref a1), (.int p1), (.double v1)] 4)) t := fun t k => k147 t (by
    show Steps p.tables e below (T135.setTop (mkF m 66 #[.val (.ref a1), .val (.int p1), .val (.double v1), .second] [])) _
    refine XS.aloadN X135.here hx rfl (hb hby d3_66) rfl rfl ?_
    show Steps p.tables e below (T135.setTop (mkF m 67 #[.val (.ref a1), .val (.int p1), .val (.double v1), .second] [(.ref a1)])) _
    refine XS.dup X135.here hx rfl (hb hby d3_67) rfl rfl ?_
    exact k)
  obtain ⟨T149, X149, e149, st149⟩ := getF X135 hx hZ hown (host := "") (Or.inl (hw _ (List.mem_of_getElem? (i := 23) rfl))) Via.refl e135 F141 (g := (mkF m 68 #[.val (.ref a1), .val (.int p1), .val (.double v1), .second] [(.ref a1), (.ref a1)])) rfl rfl (hb hby d3_68)
  have k150 : ∀ t, Steps p.tables e below (T149.setTop (mkF m 71 #[.val (.ref a1), .val (.int p1), .val (.double v1), .second] [(.int (0 : Int32)), (.ref a1)])) t → Steps p.tables e below (s₁.setTop (entryFrame m #[(.ref a1), (.int p1), (.double v1)] 4)) t := fun t k => k148 t (st149 t k)
  have k151 : ∀ t, Steps p.tables e below (T149.setTop (mkF m 73 #[.val (.ref a1), .val (.int p1), .val (.double v1), .second] [(.int (1 : Int32)), (.ref a1)])) t → Steps p.tables e below (s₁.setTop (entryFrame m #[(.ref a1), (.int p1), (.double v1)] 4)) t := fun t k => k150 t (by
    show Steps p.tables e below (T149.setTop (mkF m 71 #[.val (.ref a1), .val (.int p1), .val (.double v1), .second] [(.int (0 : Int32)), (.ref a1)])) _
    refine XS.iconst X149.here hx rfl (hb hby d3_71) ?_
    show Steps p.tables e below (T149.setTop (mkF m 72 #[.val (.ref a1), .val (.int p1), .val (.double v1), .second] [(.int (1 : Int32)), (.int (0 : Int32)), (.ref a1)])) _
    refine XS.iadd X149.here hx rfl (hb hby d3_72) rfl ?_
    show Steps p.tables e below (T149.setTop (mkF m 73 #[.val (.ref a1), .val (.int p1), .val (.double v1), .second] [(.int ((0 : Int32) + (1 : Int32))), (.ref a1)])) _
    refine castTop (g' := (mkF m 73 #[.val (.ref a1), .val (.int p1), .val (.double v1), .second] [(.int (1 : Int32)), (.ref a1)])) (by rw [show ((0 : Int32) + (1 : Int32)) = (1 : Int32) by decide]) ?_
    exact k)
  obtain ⟨T152, h152, X152, e152, W152, st152⟩ := putF X149 hx hZ hown (host := "") (Or.inl (hw _ (List.mem_of_getElem? (i := 23) rfl))) Via.refl e149 F141 F137 (Or.inl (hw _ (List.mem_of_getElem? (i := 24) rfl))) (hw _ (List.mem_of_getElem? (i := 2) rfl)) (ty := .int) (by decide) rfl rfl (g := (mkF m 73 #[.val (.ref a1), .val (.int p1), .val (.double v1), .second] [(.int (1 : Int32)), (.ref a1)])) rfl rfl (hb hby d3_73)
  have F153 := F141.same W152
  have F154 := F137.wr W152
  have F155 := F138.other W152 (Or.inr (slot_ne (Or.inl (hw _ (List.mem_of_getElem? (i := 12) rfl))) (Or.inl (hw _ (List.mem_of_getElem? (i := 24) rfl))) (by decide) (t := (.array .int)) (t' := .int) (by decide) (by decide)))
  have F156 := F139.other W152 (Or.inr (slot_ne (Or.inl (hw _ (List.mem_of_getElem? (i := 15) rfl))) (Or.inl (hw _ (List.mem_of_getElem? (i := 24) rfl))) (by decide) (t := (.array .double)) (t' := .int) (by decide) (by decide)))
  have F157 := F140.other W152 (Or.inr (slot_ne (Or.inr (hw _ (List.mem_of_getElem? (i := 17) rfl))) (Or.inl (hw _ (List.mem_of_getElem? (i := 24) rfl))) (by decide) (t := (.array .double)) (t' := .int) (by decide) (by decide)))
  have F158 := F142.other W152 (Or.inr (slot_ne (Or.inl (hw _ (List.mem_of_getElem? (i := 38) rfl))) (Or.inl (hw _ (List.mem_of_getElem? (i := 24) rfl))) (by decide) (t := .boolean) (t' := .int) (by decide) (by decide)))
  have F159 := F143.other W152 (Ne.symm ne_a1_b1)
  have F160 := V136.other W152 (Ne.symm ne_a1_b2)
  have Z161 : n0 ≤ h152.size := Nat.le_trans Z144 (Nat.le_of_eq W152.size.symm)
  have N162 := Fr.snoc X152 N145 ge_a1
  have K163 := K146.wr W152 (Or.inl (List.mem_of_getElem? (i := 0) rfl))
  have k164 : ∀ t, Steps p.tables e below (T152.setTop (mkF m 76 #[.val (.ref a1), .val (.int p1), .val (.double v1), .second] [])) t → Steps p.tables e below (s₁.setTop (entryFrame m #[(.ref a1), (.int p1), (.double v1)] 4)) t := fun t k => k151 t (st152 t k)
  obtain ⟨fs, hr, hrun, hended, hW, hsame⟩ := X152.leave (v := none) (fun _ => rfl)
  refine ⟨_, _, k164 _ (X152.returnOut hx Bd.returns (hb hby d3_76) hr), hrun, hended, _, _, rfl, ?_, ⟨_, rfl⟩, hW, hsame.mono (by decide) (by decide)⟩
  show Q_av0 Z a1 b1 b2 b3 k1 k2 p1 v1 y0 es0 es1 es2 es3 g0 g1 g2 g3 h0 n0 _ T152.heap _
  rw [e152]
  exact ⟨rfl, N162, K163, F154, F155, F156, F157, F153, F158, F159, F160⟩
def Q_av1 (Z : State) (a1 : Addr) (b1 : Addr) (b2 : Addr) (b3 : Addr) (k1 : ClassId) (k2 : ClassId) (p1 : Int32) (v1 : UInt64) (y0 : Int32) (es0 : Int32) (es1 : Int32) (es2 : Int32) (es3 : Int32) (g0 : UInt64) (g1 : UInt64) (g2 : UInt64) (g3 : UInt64) (h0 : Heap) (n0 : Nat) (v : Option Value) (h : Heap) (L : List Loc) : Prop := v = none ∧ Fr n0 L ∧ Keep h0 h [a1, b1, b2] ∧ Exa Z h a1 "com/example/istra/istra/model/Transfer" ∧ Fld Z h a1 "com/example/istra/istra/model/Transfer" "vehicleStates" "[I" (.ref b1) ∧ Fld Z h a1 "com/example/istra/istra/model/Transfer" "crossingS" "[D" (.ref b2) ∧ Fld Z h a1 "com/example/istra/istra/model/Transfer" "fluid" "[D" (.ref b3) ∧ Fld Z h a1 "com/example/istra/istra/model/Transfer" "vehicles" "I" (.int (2 : Int32)) ∧ Fld Z h a1 "com/example/istra/istra/model/Transfer" "holdsFluid" "Z" (.int y0) ∧ Arv Z h b1 k1 .int (4 : Int32) [(.int es0), (.int p1), (.int es2), (.int es3)] (.int (0 : Int32)) ∧ Arv Z h b2 k2 .double (4 : Int32) [(.double g0), (.double v1), (.double g2), (.double g3)] (.double (0 : UInt64))
set_option maxRecDepth 65536 in
set_option maxHeartbeats 40000000 in
theorem av1 (l : Launch) (Z : State) (a0 : Array Value) (hw : ∀ d ∈ tables_1, d.before a0 Z = true) (ws : List Jvm.Cond) (a1 : Addr) (b1 : Addr) (b2 : Addr) (b3 : Addr) (k1 : ClassId) (k2 : ClassId) (p1 : Int32) (v1 : UInt64) (y0 : Int32) (es0 : Int32) (es1 : Int32) (es2 : Int32) (es3 : Int32) (g0 : UInt64) (g1 : UInt64) (g2 : UInt64) (g3 : UInt64) (h0 : Heap) (n0 : Nat) (Z0 : n0 ≤ h0.size) (Fk0 : Exa Z h0 a1 "com/example/istra/istra/model/Transfer") (Fk1 : Fld Z h0 a1 "com/example/istra/istra/model/Transfer" "vehicleStates" "[I" (.ref b1)) (Fk2 : Fld Z h0 a1 "com/example/istra/istra/model/Transfer" "crossingS" "[D" (.ref b2)) (Fk3 : Fld Z h0 a1 "com/example/istra/istra/model/Transfer" "fluid" "[D" (.ref b3)) (Fk4 : Fld Z h0 a1 "com/example/istra/istra/model/Transfer" "vehicles" "I" (.int (1 : Int32))) (Fk5 : Fld Z h0 a1 "com/example/istra/istra/model/Transfer" "holdsFluid" "Z" (.int y0)) (Fk6 : Arv Z h0 b1 k1 .int (4 : Int32) [(.int es0), (.int es1), (.int es2), (.int es3)] (.int (0 : Int32))) (Fk7 : Arv Z h0 b2 k2 .double (4 : Int32) [(.double g0), (.double g1), (.double g2), (.double g3)] (.double (0 : UInt64))) (ge_a1 : n0 ≤ a1) (ge_b1 : n0 ≤ b1) (ge_b2 : n0 ≤ b2) (ne_a1_b1 : a1 ≠ b1) (ne_a1_b2 : a1 ≠ b2) (ne_b1_b2 : b1 ≠ b2) :
    MetFree l (⟨"com/example/istra/istra/model/Transfer", "addVehicle", "(ID)V"⟩ : MethodName) (head1 (Jvm.Cond.code (⟨"com/example/istra/istra/model/Transfer", "addVehicle", "(ID)V"⟩ : MethodName) prog_54_method_6_code 4 none :: ws) ({ frames := 0, cells := 0, slots := 0, locals := 0 } : Room)) (fun a U => a = #[(.ref a1), (.int p1), (.double v1)] ∧ Z.Warmed39 U.vm ∧ U.heap = h0) (fun _ _ _ _ _ => True) (fun _ U o U' => ∃ v L, o = .returned v ∧ Q_av1 Z a1 b1 b2 b3 k1 k2 p1 v1 y0 es0 es1 es2 es3 g0 g1 g2 g3 h0 n0 v U'.heap L ∧ FrameEnd U o U' L ({ frames := 0, cells := 0, slots := 0, locals := 0 } : Room).cells ({ frames := 0, cells := 0, slots := 0, locals := 0 } : Room).slots) := by
  refine MetFree.of_bodySF (plainFor_of_name pn_com_2fexample_2fistra_2fistra_2fmodel_2fTransfer) hisR ?_
  intro p e s m args below meth c s₁ Bd hml0 hP hK
  obtain ⟨rfl, hZ, hh⟩ := hP
  have hx := Bd.exec
  have hby := Bd.bytes
  have hml : c.maxLocals = 4 := hml0
  have hown : s.vm.findClass "com/example/istra/istra/model/Transfer" = some m.cls := findClass_of_methodNamed Bd.named
  have hnm := (name_of_methodNamed Bd.named Bd.method).1
  have X0 : Stand p l e ({ frames := 0, cells := 0, slots := 0, locals := 0 } : Room) s m #[(.ref a1), (.int p1), (.double v1)] below meth c s₁ [] 0 0 := Stand.of_body Bd
  have e0 : s₁.heap = h0 := by rw [← hh, Bd.state]; rfl
  have N0 := Fr.nil n0
  have k0 : ∀ t, Steps p.tables e below (s₁.setTop (mkF m 0 #[.val (.ref a1), .val (.int p1), .val (.double v1), .second] [])) t → Steps p.tables e below (s₁.setTop (entryFrame m #[(.ref a1), (.int p1), (.double v1)] 4)) t := fun t k => castTop (ef_3_RID m a1 p1 v1) k
  have K0 := Keep.refl h0 [a1, b1, b2]
  have k101 : ∀ t, Steps p.tables e below (s₁.setTop (mkF m 1 #[.val (.ref a1), .val (.int p1), .val (.double v1), .second] [(.ref a1)])) t → Steps p.tables e below (s₁.setTop (entryFrame m #[(.ref a1), (.int p1), (.double v1)] 4)) t := fun t k => k0 t (by
    show Steps p.tables e below (s₁.setTop (mkF m 0 #[.val (.ref a1), .val (.int p1), .val (.double v1), .second] [])) _
    refine XS.aloadN X0.here hx rfl (hb hby d3_0) rfl rfl ?_
    exact k)
  obtain ⟨T102, X102, e102, st102⟩ := getF X0 hx hZ hown (host := "") (Or.inl (hw _ (List.mem_of_getElem? (i := 23) rfl))) Via.refl e0 Fk4 (g := (mkF m 1 #[.val (.ref a1), .val (.int p1), .val (.double v1), .second] [(.ref a1)])) rfl rfl (hb hby d3_1)
  have k103 : ∀ t, Steps p.tables e below (T102.setTop (mkF m 4 #[.val (.ref a1), .val (.int p1), .val (.double v1), .second] [(.int (1 : Int32))])) t → Steps p.tables e below (s₁.setTop (entryFrame m #[(.ref a1), (.int p1), (.double v1)] 4)) t := fun t k => k101 t (st102 t k)
  have k104 : ∀ t, Steps p.tables e below (T102.setTop (mkF m 5 #[.val (.ref a1), .val (.int p1), .val (.double v1), .second] [(.ref a1), (.int (1 : Int32))])) t → Steps p.tables e below (s₁.setTop (entryFrame m #[(.ref a1), (.int p1), (.double v1)] 4)) t := fun t k => k103 t (by
    show Steps p.tables e below (T102.setTop (mkF m 4 #[.val (.ref a1), .val (.int p1), .val (.double v1), .second] [(.int (1 : Int32))])) _
    refine XS.aloadN X102.here hx rfl (hb hby d3_4) rfl rfl ?_
    exact k)
  obtain ⟨T105, X105, e105, st105⟩ := getF X102 hx hZ hown (host := "") (Or.inl (hw _ (List.mem_of_getElem? (i := 11) rfl))) Via.refl e102 Fk1 (g := (mkF m 5 #[.val (.ref a1), .val (.int p1), .val (.double v1), .second] [(.ref a1), (.int (1 : Int32))])) rfl rfl (hb hby d3_5)
  have k106 : ∀ t, Steps p.tables e below (T105.setTop (mkF m 8 #[.val (.ref a1), .val (.int p1), .val (.double v1), .second] [(.ref b1), (.int (1 : Int32))])) t → Steps p.tables e below (s₁.setTop (entryFrame m #[(.ref a1), (.int p1), (.double v1)] 4)) t := fun t k => k104 t (st105 t k)
  obtain ⟨c107, Ar107, -, As107, An107, -, -⟩ := id Fk6
  have k108 : ∀ t, Steps p.tables e below (T105.setTop (mkF m 47 #[.val (.ref a1), .val (.int p1), .val (.double v1), .second] [(.ref a1)])) t → Steps p.tables e below (s₁.setTop (entryFrame m #[(.ref a1), (.int p1), (.double v1)] 4)) t := fun t k => k106 t (by
    show Steps p.tables e below (T105.setTop (mkF m 8 #[.val (.ref a1), .val (.int p1), .val (.double v1), .second] [(.ref b1), (.int (1 : Int32))])) _
    refine X105.arraylength hx (by rw [e105]; exact Ar107.1) (State.isArrayOf_alike hZ.alike Ar107.2.1) (g := (mkF m 8 #[.val (.ref a1), .val (.int p1), .val (.double v1), .second] [(.ref b1), (.int (1 : Int32))])) rfl rfl (hb hby d3_8) _ ?_
    rw [len_of As107 An107]
    show Steps p.tables e below (T105.setTop (mkF m 9 #[.val (.ref a1), .val (.int p1), .val (.double v1), .second] [(.int (4 : Int32)), (.int (1 : Int32))])) _
    refine XS.icmpYes X105.here hx rfl (pc0 := 9) (pc' := 46) rfl (hb hby d3_9) rfl (feq (by decide)).2 (by decide) (by decide) ?_
    show Steps p.tables e below (T105.setTop (mkF m 46 #[.val (.ref a1), .val (.int p1), .val (.double v1), .second] [])) _
    refine XS.aloadN X105.here hx rfl (hb hby d3_46) rfl rfl ?_
    exact k)
  obtain ⟨T109, X109, e109, st109⟩ := getF X105 hx hZ hown (host := "") (Or.inl (hw _ (List.mem_of_getElem? (i := 11) rfl))) Via.refl e105 Fk1 (g := (mkF m 47 #[.val (.ref a1), .val (.int p1), .val (.double v1), .second] [(.ref a1)])) rfl rfl (hb hby d3_47)
  have k110 : ∀ t, Steps p.tables e below (T109.setTop (mkF m 50 #[.val (.ref a1), .val (.int p1), .val (.double v1), .second] [(.ref b1)])) t → Steps p.tables e below (s₁.setTop (entryFrame m #[(.ref a1), (.int p1), (.double v1)] 4)) t := fun t k => k108 t (st109 t k)
  have k111 : ∀ t, Steps p.tables e below (T109.setTop (mkF m 51 #[.val (.ref a1), .val (.int p1), .val (.double v1), .second] [(.ref a1), (.ref b1)])) t → Steps p.tables e below (s₁.setTop (entryFrame m #[(.ref a1), (.int p1), (.double v1)] 4)) t := fun t k => k110 t (by
    show Steps p.tables e below (T109.setTop (mkF m 50 #[.val (.ref a1), .val (.int p1), .val (.double v1), .second] [(.ref b1)])) _
    refine XS.aloadN X109.here hx rfl (hb hby d3_50) rfl rfl ?_
    exact k)
  obtain ⟨T112, X112, e112, st112⟩ := getF X109 hx hZ hown (host := "") (Or.inl (hw _ (List.mem_of_getElem? (i := 23) rfl))) Via.refl e109 Fk4 (g := (mkF m 51 #[.val (.ref a1), .val (.int p1), .val (.double v1), .second] [(.ref a1), (.ref b1)])) rfl rfl (hb hby d3_51)
  have k113 : ∀ t, Steps p.tables e below (T112.setTop (mkF m 54 #[.val (.ref a1), .val (.int p1), .val (.double v1), .second] [(.int (1 : Int32)), (.ref b1)])) t → Steps p.tables e below (s₁.setTop (entryFrame m #[(.ref a1), (.int p1), (.double v1)] 4)) t := fun t k => k111 t (st112 t k)
  have k114 : ∀ t, Steps p.tables e below (T112.setTop (mkF m 55 #[.val (.ref a1), .val (.int p1), .val (.double v1), .second] [(.int p1), (.int (1 : Int32)), (.ref b1)])) t → Steps p.tables e below (s₁.setTop (entryFrame m #[(.ref a1), (.int p1), (.double v1)] 4)) t := fun t k => k113 t (by
    show Steps p.tables e below (T112.setTop (mkF m 54 #[.val (.ref a1), .val (.int p1), .val (.double v1), .second] [(.int (1 : Int32)), (.ref b1)])) _
    refine XS.iloadN X112.here hx rfl (hb hby d3_54) rfl ?_
    exact k)
  obtain ⟨c115, Ar115, Aq115, As115, An115, Ah115, Ag115⟩ := id Fk6
  have hin115 : ¬ ((1 : Int32) < 0 ∨ c115.slots.size ≤ ((1 : Int32)).toNatClampNeg) := inb_of As115 ⟨by decide, by decide⟩
  obtain ⟨T115, h115, X115, e115, W115, st115⟩ := stI X112 hx hZ e112 Ar115 (j := (1 : Int32)) hin115 (g := (mkF m 55 #[.val (.ref a1), .val (.int p1), .val (.double v1), .second] [(.int p1), (.int (1 : Int32)), (.ref b1)])) rfl rfl (hb hby d3_55)
  have V116 := Arv.set Ar115 Aq115 As115 An115 Ah115 Ag115 rfl W115 1 rfl (Nat.le_of_ble_eq_true rfl)
  have F117 := Fk0.wr W115
  have F118 := Fk1.other W115 (Or.inl ne_a1_b1)
  have F119 := Fk2.other W115 (Or.inl ne_a1_b1)
  have F120 := Fk3.other W115 (Or.inl ne_a1_b1)
  have F121 := Fk4.other W115 (Or.inl ne_a1_b1)
  have F122 := Fk5.other W115 (Or.inl ne_a1_b1)
  have F123 := Fk7.other W115 (Ne.symm ne_b1_b2)
  have Z124 : n0 ≤ h115.size := Nat.le_trans Z0 (Nat.le_of_eq W115.size.symm)
  have N125 := Fr.snoc X115 N0 ge_b1
  have K126 := K0.wr W115 (Or.inl (List.mem_of_getElem? (i := 1) rfl))
  have k127 : ∀ t, Steps p.tables e below (T115.setTop (mkF m 56 #[.val (.ref a1), .val (.int p1), .val (.double v1), .second] [])) t → Steps p.tables e below (s₁.setTop (entryFrame m #[(.ref a1), (.int p1), (.double v1)] 4)) t := fun t k => k114 t (st115 t k)
  have k128 : ∀ t, Steps p.tables e below (T115.setTop (mkF m 57 #[.val (.ref a1), .val (.int p1), .val (.double v1), .second] [(.ref a1)])) t → Steps p.tables e below (s₁.setTop (entryFrame m #[(.ref a1), (.int p1), (.double v1)] 4)) t := fun t k => k127 t (by
    show Steps p.tables e below (T115.setTop (mkF m 56 #[.val (.ref a1), .val (.int p1), .val (.double v1), .second] [])) _
    refine XS.aloadN X115.here hx rfl (hb hby d3_56) rfl rfl ?_
    exact k)
  obtain ⟨T129, X129, e129, st129⟩ := getF X115 hx hZ hown (host := "") (Or.inl (hw _ (List.mem_of_getElem? (i := 14) rfl))) Via.refl e115 F119 (g := (mkF m 57 #[.val (.ref a1), .val (.int p1), .val (.double v1), .second] [(.ref a1)])) rfl rfl (hb hby d3_57)
  have k130 : ∀ t, Steps p.tables e below (T129.setTop (mkF m 60 #[.val (.ref a1), .val (.int p1), .val (.double v1), .second] [(.ref b2)])) t → Steps p.tables e below (s₁.setTop (entryFrame m #[(.ref a1), (.int p1), (.double v1)] 4)) t := fun t k => k128 t (st129 t k)
  have k131 : ∀ t, Steps p.tables e below (T129.setTop (mkF m 61 #[.val (.ref a1), .val (.int p1), .val (.double v1), .second] [(.ref a1), (.ref b2)])) t → Steps p.tables e below (s₁.setTop (entryFrame m #[(.ref a1), (.int p1), (.double v1)] 4)) t := fun t k => k130 t (by
    show Steps p.tables e below (T129.setTop (mkF m 60 #[.val (.ref a1), .val (.int p1), .val (.double v1), .second] [(.ref b2)])) _
    refine XS.aloadN X129.here hx rfl (hb hby d3_60) rfl rfl ?_
    exact k)
  obtain ⟨T132, X132, e132, st132⟩ := getF X129 hx hZ hown (host := "") (Or.inl (hw _ (List.mem_of_getElem? (i := 23) rfl))) Via.refl e129 F121 (g := (mkF m 61 #[.val (.ref a1), .val (.int p1), .val (.double v1), .second] [(.ref a1), (.ref b2)])) rfl rfl (hb hby d3_61)
  have k133 : ∀ t, Steps p.tables e below (T132.setTop (mkF m 64 #[.val (.ref a1), .val (.int p1), .val (.double v1), .second] [(.int (1 : Int32)), (.ref b2)])) t → Steps p.tables e below (s₁.setTop (entryFrame m #[(.ref a1), (.int p1), (.double v1)] 4)) t := fun t k => k131 t (st132 t k)
  have k134 : ∀ t, Steps p.tables e below (T132.setTop (mkF m 65 #[.val (.ref a1), .val (.int p1), .val (.double v1), .second] [(.double v1), (.int (1 : Int32)), (.ref b2)])) t → Steps p.tables e below (s₁.setTop (entryFrame m #[(.ref a1), (.int p1), (.double v1)] 4)) t := fun t k => k133 t (by
    show Steps p.tables e below (T132.setTop (mkF m 64 #[.val (.ref a1), .val (.int p1), .val (.double v1), .second] [(.int (1 : Int32)), (.ref b2)])) _
    refine XS.dloadN X132.here hx rfl (hb hby d3_64) rfl ?_
    exact k)
  obtain ⟨c135, Ar135, Aq135, As135, An135, Ah135, Ag135⟩ := id F123
  have hin135 : ¬ ((1 : Int32) < 0 ∨ c135.slots.size ≤ ((1 : Int32)).toNatClampNeg) := inb_of As135 ⟨by decide, by decide⟩
  obtain ⟨T135, h135, X135, e135, W135, st135⟩ := stD X132 hx hZ e132 Ar135 (j := (1 : Int32)) hin135 (g := (mkF m 65 #[.val (.ref a1), .val (.int p1), .val (.double v1), .second] [(.double v1), (.int (1 : Int32)), (.ref b2)])) rfl rfl (hb hby d3_65)
  have V136 := Arv.set Ar135 Aq135 As135 An135 Ah135 Ag135 rfl W135 1 rfl (Nat.le_of_ble_eq_true rfl)
  have F137 := F117.wr W135
  have F138 := F118.other W135 (Or.inl ne_a1_b2)
  have F139 := F119.other W135 (Or.inl ne_a1_b2)
  have F140 := F120.other W135 (Or.inl ne_a1_b2)
  have F141 := F121.other W135 (Or.inl ne_a1_b2)
  have F142 := F122.other W135 (Or.inl ne_a1_b2)
  have F143 := V116.other W135 ne_b1_b2
  have Z144 : n0 ≤ h135.size := Nat.le_trans Z124 (Nat.le_of_eq W135.size.symm)
  have N145 := Fr.snoc X135 N125 ge_b2
  have K146 := K126.wr W135 (Or.inl (List.mem_of_getElem? (i := 2) rfl))
  have k147 : ∀ t, Steps p.tables e below (T135.setTop (mkF m 66 #[.val (.ref a1), .val (.int p1), .val (.double v1), .second] [])) t → Steps p.tables e below (s₁.setTop (entryFrame m #[(.ref a1), (.int p1), (.double v1)] 4)) t := fun t k => k134 t (st135 t k)
  have k148 : ∀ t, Steps p.tables e below (T135.setTop (mkF m 68 #[.val (.ref a1), .val (.int p1), .val (.double v1), .second] [(.ref a1), (.ref a1)])) t → Steps p.tables e below (s₁.setTop (entryFrame m #[(.ref a1), (.int p1), (.double v1)] 4)) t := fun t k => k147 t (by
    show Steps p.tables e below (T135.setTop (mkF m 66 #[.val (.ref a1), .val (.int p1), .val (.double v1), .second] [])) _
    refine XS.aloadN X135.here hx rfl (hb hby d3_66) rfl rfl ?_
    show Steps p.tables e below (T135.setTop (mkF m 67 #[.val (.ref a1), .val (.int p1), .val (.double v1), .second] [(.ref a1)])) _
    refine XS.dup X135.here hx rfl (hb hby d3_67) rfl rfl ?_
    exact k)
  obtain ⟨T149, X149, e149, st149⟩ := getF X135 hx hZ hown (host := "") (Or.inl (hw _ (List.mem_of_getElem? (i := 23) rfl))) Via.refl e135 F141 (g := (mkF m 68 #[.val (.ref a1), .val (.int p1), .val (.double v1), .second] [(.ref a1), (.ref a1)])) rfl rfl (hb hby d3_68)
  have k150 : ∀ t, Steps p.tables e below (T149.setTop (mkF m 71 #[.val (.ref a1), .val (.int p1), .val (.double v1), .second] [(.int (1 : Int32)), (.ref a1)])) t → Steps p.tables e below (s₁.setTop (entryFrame m #[(.ref a1), (.int p1), (.double v1)] 4)) t := fun t k => k148 t (st149 t k)
  have k151 : ∀ t, Steps p.tables e below (T149.setTop (mkF m 73 #[.val (.ref a1), .val (.int p1), .val (.double v1), .second] [(.int (2 : Int32)), (.ref a1)])) t → Steps p.tables e below (s₁.setTop (entryFrame m #[(.ref a1), (.int p1), (.double v1)] 4)) t := fun t k => k150 t (by
    show Steps p.tables e below (T149.setTop (mkF m 71 #[.val (.ref a1), .val (.int p1), .val (.double v1), .second] [(.int (1 : Int32)), (.ref a1)])) _
    refine XS.iconst X149.here hx rfl (hb hby d3_71) ?_
    show Steps p.tables e below (T149.setTop (mkF m 72 #[.val (.ref a1), .val (.int p1), .val (.double v1), .second] [(.int (1 : Int32)), (.int (1 : Int32)), (.ref a1)])) _
    refine XS.iadd X149.here hx rfl (hb hby d3_72) rfl ?_
    show Steps p.tables e below (T149.setTop (mkF m 73 #[.val (.ref a1), .val (.int p1), .val (.double v1), .second] [(.int ((1 : Int32) + (1 : Int32))), (.ref a1)])) _
    refine castTop (g' := (mkF m 73 #[.val (.ref a1), .val (.int p1), .val (.double v1), .second] [(.int (2 : Int32)), (.ref a1)])) (by rw [show ((1 : Int32) + (1 : Int32)) = (2 : Int32) by decide]) ?_
    exact k)
  obtain ⟨T152, h152, X152, e152, W152, st152⟩ := putF X149 hx hZ hown (host := "") (Or.inl (hw _ (List.mem_of_getElem? (i := 23) rfl))) Via.refl e149 F141 F137 (Or.inl (hw _ (List.mem_of_getElem? (i := 24) rfl))) (hw _ (List.mem_of_getElem? (i := 2) rfl)) (ty := .int) (by decide) rfl rfl (g := (mkF m 73 #[.val (.ref a1), .val (.int p1), .val (.double v1), .second] [(.int (2 : Int32)), (.ref a1)])) rfl rfl (hb hby d3_73)
  have F153 := F141.same W152
  have F154 := F137.wr W152
  have F155 := F138.other W152 (Or.inr (slot_ne (Or.inl (hw _ (List.mem_of_getElem? (i := 12) rfl))) (Or.inl (hw _ (List.mem_of_getElem? (i := 24) rfl))) (by decide) (t := (.array .int)) (t' := .int) (by decide) (by decide)))
  have F156 := F139.other W152 (Or.inr (slot_ne (Or.inl (hw _ (List.mem_of_getElem? (i := 15) rfl))) (Or.inl (hw _ (List.mem_of_getElem? (i := 24) rfl))) (by decide) (t := (.array .double)) (t' := .int) (by decide) (by decide)))
  have F157 := F140.other W152 (Or.inr (slot_ne (Or.inr (hw _ (List.mem_of_getElem? (i := 17) rfl))) (Or.inl (hw _ (List.mem_of_getElem? (i := 24) rfl))) (by decide) (t := (.array .double)) (t' := .int) (by decide) (by decide)))
  have F158 := F142.other W152 (Or.inr (slot_ne (Or.inl (hw _ (List.mem_of_getElem? (i := 38) rfl))) (Or.inl (hw _ (List.mem_of_getElem? (i := 24) rfl))) (by decide) (t := .boolean) (t' := .int) (by decide) (by decide)))
  have F159 := F143.other W152 (Ne.symm ne_a1_b1)
  have F160 := V136.other W152 (Ne.symm ne_a1_b2)
  have Z161 : n0 ≤ h152.size := Nat.le_trans Z144 (Nat.le_of_eq W152.size.symm)
  have N162 := Fr.snoc X152 N145 ge_a1
  have K163 := K146.wr W152 (Or.inl (List.mem_of_getElem? (i := 0) rfl))
  have k164 : ∀ t, Steps p.tables e below (T152.setTop (mkF m 76 #[.val (.ref a1), .val (.int p1), .val (.double v1), .second] [])) t → Steps p.tables e below (s₁.setTop (entryFrame m #[(.ref a1), (.int p1), (.double v1)] 4)) t := fun t k => k151 t (st152 t k)
  obtain ⟨fs, hr, hrun, hended, hW, hsame⟩ := X152.leave (v := none) (fun _ => rfl)
  refine ⟨_, _, k164 _ (X152.returnOut hx Bd.returns (hb hby d3_76) hr), hrun, hended, _, _, rfl, ?_, ⟨_, rfl⟩, hW, hsame.mono (by decide) (by decide)⟩
  show Q_av1 Z a1 b1 b2 b3 k1 k2 p1 v1 y0 es0 es1 es2 es3 g0 g1 g2 g3 h0 n0 _ T152.heap _
  rw [e152]
  exact ⟨rfl, N162, K163, F154, F155, F156, F157, F153, F158, F159, F160⟩
def Q_av2 (Z : State) (a1 : Addr) (b1 : Addr) (b2 : Addr) (b3 : Addr) (k1 : ClassId) (k2 : ClassId) (p1 : Int32) (v1 : UInt64) (y0 : Int32) (es0 : Int32) (es1 : Int32) (es2 : Int32) (es3 : Int32) (g0 : UInt64) (g1 : UInt64) (g2 : UInt64) (g3 : UInt64) (h0 : Heap) (n0 : Nat) (v : Option Value) (h : Heap) (L : List Loc) : Prop := v = none ∧ Fr n0 L ∧ Keep h0 h [a1, b1, b2] ∧ Exa Z h a1 "com/example/istra/istra/model/Transfer" ∧ Fld Z h a1 "com/example/istra/istra/model/Transfer" "vehicleStates" "[I" (.ref b1) ∧ Fld Z h a1 "com/example/istra/istra/model/Transfer" "crossingS" "[D" (.ref b2) ∧ Fld Z h a1 "com/example/istra/istra/model/Transfer" "fluid" "[D" (.ref b3) ∧ Fld Z h a1 "com/example/istra/istra/model/Transfer" "vehicles" "I" (.int (3 : Int32)) ∧ Fld Z h a1 "com/example/istra/istra/model/Transfer" "holdsFluid" "Z" (.int y0) ∧ Arv Z h b1 k1 .int (4 : Int32) [(.int es0), (.int es1), (.int p1), (.int es3)] (.int (0 : Int32)) ∧ Arv Z h b2 k2 .double (4 : Int32) [(.double g0), (.double g1), (.double v1), (.double g3)] (.double (0 : UInt64))
set_option maxRecDepth 65536 in
set_option maxHeartbeats 40000000 in
theorem av2 (l : Launch) (Z : State) (a0 : Array Value) (hw : ∀ d ∈ tables_1, d.before a0 Z = true) (ws : List Jvm.Cond) (a1 : Addr) (b1 : Addr) (b2 : Addr) (b3 : Addr) (k1 : ClassId) (k2 : ClassId) (p1 : Int32) (v1 : UInt64) (y0 : Int32) (es0 : Int32) (es1 : Int32) (es2 : Int32) (es3 : Int32) (g0 : UInt64) (g1 : UInt64) (g2 : UInt64) (g3 : UInt64) (h0 : Heap) (n0 : Nat) (Z0 : n0 ≤ h0.size) (Fk0 : Exa Z h0 a1 "com/example/istra/istra/model/Transfer") (Fk1 : Fld Z h0 a1 "com/example/istra/istra/model/Transfer" "vehicleStates" "[I" (.ref b1)) (Fk2 : Fld Z h0 a1 "com/example/istra/istra/model/Transfer" "crossingS" "[D" (.ref b2)) (Fk3 : Fld Z h0 a1 "com/example/istra/istra/model/Transfer" "fluid" "[D" (.ref b3)) (Fk4 : Fld Z h0 a1 "com/example/istra/istra/model/Transfer" "vehicles" "I" (.int (2 : Int32))) (Fk5 : Fld Z h0 a1 "com/example/istra/istra/model/Transfer" "holdsFluid" "Z" (.int y0)) (Fk6 : Arv Z h0 b1 k1 .int (4 : Int32) [(.int es0), (.int es1), (.int es2), (.int es3)] (.int (0 : Int32))) (Fk7 : Arv Z h0 b2 k2 .double (4 : Int32) [(.double g0), (.double g1), (.double g2), (.double g3)] (.double (0 : UInt64))) (ge_a1 : n0 ≤ a1) (ge_b1 : n0 ≤ b1) (ge_b2 : n0 ≤ b2) (ne_a1_b1 : a1 ≠ b1) (ne_a1_b2 : a1 ≠ b2) (ne_b1_b2 : b1 ≠ b2) :
    MetFree l (⟨"com/example/istra/istra/model/Transfer", "addVehicle", "(ID)V"⟩ : MethodName) (head1 (Jvm.Cond.code (⟨"com/example/istra/istra/model/Transfer", "addVehicle", "(ID)V"⟩ : MethodName) prog_54_method_6_code 4 none :: ws) ({ frames := 0, cells := 0, slots := 0, locals := 0 } : Room)) (fun a U => a = #[(.ref a1), (.int p1), (.double v1)] ∧ Z.Warmed39 U.vm ∧ U.heap = h0) (fun _ _ _ _ _ => True) (fun _ U o U' => ∃ v L, o = .returned v ∧ Q_av2 Z a1 b1 b2 b3 k1 k2 p1 v1 y0 es0 es1 es2 es3 g0 g1 g2 g3 h0 n0 v U'.heap L ∧ FrameEnd U o U' L ({ frames := 0, cells := 0, slots := 0, locals := 0 } : Room).cells ({ frames := 0, cells := 0, slots := 0, locals := 0 } : Room).slots) := by
  refine MetFree.of_bodySF (plainFor_of_name pn_com_2fexample_2fistra_2fistra_2fmodel_2fTransfer) hisR ?_
  intro p e s m args below meth c s₁ Bd hml0 hP hK
  obtain ⟨rfl, hZ, hh⟩ := hP
  have hx := Bd.exec
  have hby := Bd.bytes
  have hml : c.maxLocals = 4 := hml0
  have hown : s.vm.findClass "com/example/istra/istra/model/Transfer" = some m.cls := findClass_of_methodNamed Bd.named
  have hnm := (name_of_methodNamed Bd.named Bd.method).1
  have X0 : Stand p l e ({ frames := 0, cells := 0, slots := 0, locals := 0 } : Room) s m #[(.ref a1), (.int p1), (.double v1)] below meth c s₁ [] 0 0 := Stand.of_body Bd
  have e0 : s₁.heap = h0 := by rw [← hh, Bd.state]; rfl
  have N0 := Fr.nil n0
  have k0 : ∀ t, Steps p.tables e below (s₁.setTop (mkF m 0 #[.val (.ref a1), .val (.int p1), .val (.double v1), .second] [])) t → Steps p.tables e below (s₁.setTop (entryFrame m #[(.ref a1), (.int p1), (.double v1)] 4)) t := fun t k => castTop (ef_3_RID m a1 p1 v1) k
  have K0 := Keep.refl h0 [a1, b1, b2]
  have k101 : ∀ t, Steps p.tables e below (s₁.setTop (mkF m 1 #[.val (.ref a1), .val (.int p1), .val (.double v1), .second] [(.ref a1)])) t → Steps p.tables e below (s₁.setTop (entryFrame m #[(.ref a1), (.int p1), (.double v1)] 4)) t := fun t k => k0 t (by
    show Steps p.tables e below (s₁.setTop (mkF m 0 #[.val (.ref a1), .val (.int p1), .val (.double v1), .second] [])) _
    refine XS.aloadN X0.here hx rfl (hb hby d3_0) rfl rfl ?_
    exact k)
  obtain ⟨T102, X102, e102, st102⟩ := getF X0 hx hZ hown (host := "") (Or.inl (hw _ (List.mem_of_getElem? (i := 23) rfl))) Via.refl e0 Fk4 (g := (mkF m 1 #[.val (.ref a1), .val (.int p1), .val (.double v1), .second] [(.ref a1)])) rfl rfl (hb hby d3_1)
  have k103 : ∀ t, Steps p.tables e below (T102.setTop (mkF m 4 #[.val (.ref a1), .val (.int p1), .val (.double v1), .second] [(.int (2 : Int32))])) t → Steps p.tables e below (s₁.setTop (entryFrame m #[(.ref a1), (.int p1), (.double v1)] 4)) t := fun t k => k101 t (st102 t k)
  have k104 : ∀ t, Steps p.tables e below (T102.setTop (mkF m 5 #[.val (.ref a1), .val (.int p1), .val (.double v1), .second] [(.ref a1), (.int (2 : Int32))])) t → Steps p.tables e below (s₁.setTop (entryFrame m #[(.ref a1), (.int p1), (.double v1)] 4)) t := fun t k => k103 t (by
    show Steps p.tables e below (T102.setTop (mkF m 4 #[.val (.ref a1), .val (.int p1), .val (.double v1), .second] [(.int (2 : Int32))])) _
    refine XS.aloadN X102.here hx rfl (hb hby d3_4) rfl rfl ?_
    exact k)
  obtain ⟨T105, X105, e105, st105⟩ := getF X102 hx hZ hown (host := "") (Or.inl (hw _ (List.mem_of_getElem? (i := 11) rfl))) Via.refl e102 Fk1 (g := (mkF m 5 #[.val (.ref a1), .val (.int p1), .val (.double v1), .second] [(.ref a1), (.int (2 : Int32))])) rfl rfl (hb hby d3_5)
  have k106 : ∀ t, Steps p.tables e below (T105.setTop (mkF m 8 #[.val (.ref a1), .val (.int p1), .val (.double v1), .second] [(.ref b1), (.int (2 : Int32))])) t → Steps p.tables e below (s₁.setTop (entryFrame m #[(.ref a1), (.int p1), (.double v1)] 4)) t := fun t k => k104 t (st105 t k)
  obtain ⟨c107, Ar107, -, As107, An107, -, -⟩ := id Fk6
  have k108 : ∀ t, Steps p.tables e below (T105.setTop (mkF m 47 #[.val (.ref a1), .val (.int p1), .val (.double v1), .second] [(.ref a1)])) t → Steps p.tables e below (s₁.setTop (entryFrame m #[(.ref a1), (.int p1), (.double v1)] 4)) t := fun t k => k106 t (by
    show Steps p.tables e below (T105.setTop (mkF m 8 #[.val (.ref a1), .val (.int p1), .val (.double v1), .second] [(.ref b1), (.int (2 : Int32))])) _
    refine X105.arraylength hx (by rw [e105]; exact Ar107.1) (State.isArrayOf_alike hZ.alike Ar107.2.1) (g := (mkF m 8 #[.val (.ref a1), .val (.int p1), .val (.double v1), .second] [(.ref b1), (.int (2 : Int32))])) rfl rfl (hb hby d3_8) _ ?_
    rw [len_of As107 An107]
    show Steps p.tables e below (T105.setTop (mkF m 9 #[.val (.ref a1), .val (.int p1), .val (.double v1), .second] [(.int (4 : Int32)), (.int (2 : Int32))])) _
    refine XS.icmpYes X105.here hx rfl (pc0 := 9) (pc' := 46) rfl (hb hby d3_9) rfl (feq (by decide)).2 (by decide) (by decide) ?_
    show Steps p.tables e below (T105.setTop (mkF m 46 #[.val (.ref a1), .val (.int p1), .val (.double v1), .second] [])) _
    refine XS.aloadN X105.here hx rfl (hb hby d3_46) rfl rfl ?_
    exact k)
  obtain ⟨T109, X109, e109, st109⟩ := getF X105 hx hZ hown (host := "") (Or.inl (hw _ (List.mem_of_getElem? (i := 11) rfl))) Via.refl e105 Fk1 (g := (mkF m 47 #[.val (.ref a1), .val (.int p1), .val (.double v1), .second] [(.ref a1)])) rfl rfl (hb hby d3_47)
  have k110 : ∀ t, Steps p.tables e below (T109.setTop (mkF m 50 #[.val (.ref a1), .val (.int p1), .val (.double v1), .second] [(.ref b1)])) t → Steps p.tables e below (s₁.setTop (entryFrame m #[(.ref a1), (.int p1), (.double v1)] 4)) t := fun t k => k108 t (st109 t k)
  have k111 : ∀ t, Steps p.tables e below (T109.setTop (mkF m 51 #[.val (.ref a1), .val (.int p1), .val (.double v1), .second] [(.ref a1), (.ref b1)])) t → Steps p.tables e below (s₁.setTop (entryFrame m #[(.ref a1), (.int p1), (.double v1)] 4)) t := fun t k => k110 t (by
    show Steps p.tables e below (T109.setTop (mkF m 50 #[.val (.ref a1), .val (.int p1), .val (.double v1), .second] [(.ref b1)])) _
    refine XS.aloadN X109.here hx rfl (hb hby d3_50) rfl rfl ?_
    exact k)
  obtain ⟨T112, X112, e112, st112⟩ := getF X109 hx hZ hown (host := "") (Or.inl (hw _ (List.mem_of_getElem? (i := 23) rfl))) Via.refl e109 Fk4 (g := (mkF m 51 #[.val (.ref a1), .val (.int p1), .val (.double v1), .second] [(.ref a1), (.ref b1)])) rfl rfl (hb hby d3_51)
  have k113 : ∀ t, Steps p.tables e below (T112.setTop (mkF m 54 #[.val (.ref a1), .val (.int p1), .val (.double v1), .second] [(.int (2 : Int32)), (.ref b1)])) t → Steps p.tables e below (s₁.setTop (entryFrame m #[(.ref a1), (.int p1), (.double v1)] 4)) t := fun t k => k111 t (st112 t k)
  have k114 : ∀ t, Steps p.tables e below (T112.setTop (mkF m 55 #[.val (.ref a1), .val (.int p1), .val (.double v1), .second] [(.int p1), (.int (2 : Int32)), (.ref b1)])) t → Steps p.tables e below (s₁.setTop (entryFrame m #[(.ref a1), (.int p1), (.double v1)] 4)) t := fun t k => k113 t (by
    show Steps p.tables e below (T112.setTop (mkF m 54 #[.val (.ref a1), .val (.int p1), .val (.double v1), .second] [(.int (2 : Int32)), (.ref b1)])) _
    refine XS.iloadN X112.here hx rfl (hb hby d3_54) rfl ?_
    exact k)
  obtain ⟨c115, Ar115, Aq115, As115, An115, Ah115, Ag115⟩ := id Fk6
  have hin115 : ¬ ((2 : Int32) < 0 ∨ c115.slots.size ≤ ((2 : Int32)).toNatClampNeg) := inb_of As115 ⟨by decide, by decide⟩
  obtain ⟨T115, h115, X115, e115, W115, st115⟩ := stI X112 hx hZ e112 Ar115 (j := (2 : Int32)) hin115 (g := (mkF m 55 #[.val (.ref a1), .val (.int p1), .val (.double v1), .second] [(.int p1), (.int (2 : Int32)), (.ref b1)])) rfl rfl (hb hby d3_55)
  have V116 := Arv.set Ar115 Aq115 As115 An115 Ah115 Ag115 rfl W115 2 rfl (Nat.le_of_ble_eq_true rfl)
  have F117 := Fk0.wr W115
  have F118 := Fk1.other W115 (Or.inl ne_a1_b1)
  have F119 := Fk2.other W115 (Or.inl ne_a1_b1)
  have F120 := Fk3.other W115 (Or.inl ne_a1_b1)
  have F121 := Fk4.other W115 (Or.inl ne_a1_b1)
  have F122 := Fk5.other W115 (Or.inl ne_a1_b1)
  have F123 := Fk7.other W115 (Ne.symm ne_b1_b2)
  have Z124 : n0 ≤ h115.size := Nat.le_trans Z0 (Nat.le_of_eq W115.size.symm)
  have N125 := Fr.snoc X115 N0 ge_b1
  have K126 := K0.wr W115 (Or.inl (List.mem_of_getElem? (i := 1) rfl))
  have k127 : ∀ t, Steps p.tables e below (T115.setTop (mkF m 56 #[.val (.ref a1), .val (.int p1), .val (.double v1), .second] [])) t → Steps p.tables e below (s₁.setTop (entryFrame m #[(.ref a1), (.int p1), (.double v1)] 4)) t := fun t k => k114 t (st115 t k)
  have k128 : ∀ t, Steps p.tables e below (T115.setTop (mkF m 57 #[.val (.ref a1), .val (.int p1), .val (.double v1), .second] [(.ref a1)])) t → Steps p.tables e below (s₁.setTop (entryFrame m #[(.ref a1), (.int p1), (.double v1)] 4)) t := fun t k => k127 t (by
    show Steps p.tables e below (T115.setTop (mkF m 56 #[.val (.ref a1), .val (.int p1), .val (.double v1), .second] [])) _
    refine XS.aloadN X115.here hx rfl (hb hby d3_56) rfl rfl ?_
    exact k)
  obtain ⟨T129, X129, e129, st129⟩ := getF X115 hx hZ hown (host := "") (Or.inl (hw _ (List.mem_of_getElem? (i := 14) rfl))) Via.refl e115 F119 (g := (mkF m 57 #[.val (.ref a1), .val (.int p1), .val (.double v1), .second] [(.ref a1)])) rfl rfl (hb hby d3_57)
  have k130 : ∀ t, Steps p.tables e below (T129.setTop (mkF m 60 #[.val (.ref a1), .val (.int p1), .val (.double v1), .second] [(.ref b2)])) t → Steps p.tables e below (s₁.setTop (entryFrame m #[(.ref a1), (.int p1), (.double v1)] 4)) t := fun t k => k128 t (st129 t k)
  have k131 : ∀ t, Steps p.tables e below (T129.setTop (mkF m 61 #[.val (.ref a1), .val (.int p1), .val (.double v1), .second] [(.ref a1), (.ref b2)])) t → Steps p.tables e below (s₁.setTop (entryFrame m #[(.ref a1), (.int p1), (.double v1)] 4)) t := fun t k => k130 t (by
    show Steps p.tables e below (T129.setTop (mkF m 60 #[.val (.ref a1), .val (.int p1), .val (.double v1), .second] [(.ref b2)])) _
    refine XS.aloadN X129.here hx rfl (hb hby d3_60) rfl rfl ?_
    exact k)
  obtain ⟨T132, X132, e132, st132⟩ := getF X129 hx hZ hown (host := "") (Or.inl (hw _ (List.mem_of_getElem? (i := 23) rfl))) Via.refl e129 F121 (g := (mkF m 61 #[.val (.ref a1), .val (.int p1), .val (.double v1), .second] [(.ref a1), (.ref b2)])) rfl rfl (hb hby d3_61)
  have k133 : ∀ t, Steps p.tables e below (T132.setTop (mkF m 64 #[.val (.ref a1), .val (.int p1), .val (.double v1), .second] [(.int (2 : Int32)), (.ref b2)])) t → Steps p.tables e below (s₁.setTop (entryFrame m #[(.ref a1), (.int p1), (.double v1)] 4)) t := fun t k => k131 t (st132 t k)
  have k134 : ∀ t, Steps p.tables e below (T132.setTop (mkF m 65 #[.val (.ref a1), .val (.int p1), .val (.double v1), .second] [(.double v1), (.int (2 : Int32)), (.ref b2)])) t → Steps p.tables e below (s₁.setTop (entryFrame m #[(.ref a1), (.int p1), (.double v1)] 4)) t := fun t k => k133 t (by
    show Steps p.tables e below (T132.setTop (mkF m 64 #[.val (.ref a1), .val (.int p1), .val (.double v1), .second] [(.int (2 : Int32)), (.ref b2)])) _
    refine XS.dloadN X132.here hx rfl (hb hby d3_64) rfl ?_
    exact k)
  obtain ⟨c135, Ar135, Aq135, As135, An135, Ah135, Ag135⟩ := id F123
  have hin135 : ¬ ((2 : Int32) < 0 ∨ c135.slots.size ≤ ((2 : Int32)).toNatClampNeg) := inb_of As135 ⟨by decide, by decide⟩
  obtain ⟨T135, h135, X135, e135, W135, st135⟩ := stD X132 hx hZ e132 Ar135 (j := (2 : Int32)) hin135 (g := (mkF m 65 #[.val (.ref a1), .val (.int p1), .val (.double v1), .second] [(.double v1), (.int (2 : Int32)), (.ref b2)])) rfl rfl (hb hby d3_65)
  have V136 := Arv.set Ar135 Aq135 As135 An135 Ah135 Ag135 rfl W135 2 rfl (Nat.le_of_ble_eq_true rfl)
  have F137 := F117.wr W135
  have F138 := F118.other W135 (Or.inl ne_a1_b2)
  have F139 := F119.other W135 (Or.inl ne_a1_b2)
  have F140 := F120.other W135 (Or.inl ne_a1_b2)
  have F141 := F121.other W135 (Or.inl ne_a1_b2)
  have F142 := F122.other W135 (Or.inl ne_a1_b2)
  have F143 := V116.other W135 ne_b1_b2
  have Z144 : n0 ≤ h135.size := Nat.le_trans Z124 (Nat.le_of_eq W135.size.symm)
  have N145 := Fr.snoc X135 N125 ge_b2
  have K146 := K126.wr W135 (Or.inl (List.mem_of_getElem? (i := 2) rfl))
  have k147 : ∀ t, Steps p.tables e below (T135.setTop (mkF m 66 #[.val (.ref a1), .val (.int p1), .val (.double v1), .second] [])) t → Steps p.tables e below (s₁.setTop (entryFrame m #[(.ref a1), (.int p1), (.double v1)] 4)) t := fun t k => k134 t (st135 t k)
  have k148 : ∀ t, Steps p.tables e below (T135.setTop (mkF m 68 #[.val (.ref a1), .val (.int p1), .val (.double v1), .second] [(.ref a1), (.ref a1)])) t → Steps p.tables e below (s₁.setTop (entryFrame m #[(.ref a1), (.int p1), (.double v1)] 4)) t := fun t k => k147 t (by
    show Steps p.tables e below (T135.setTop (mkF m 66 #[.val (.ref a1), .val (.int p1), .val (.double v1), .second] [])) _
    refine XS.aloadN X135.here hx rfl (hb hby d3_66) rfl rfl ?_
    show Steps p.tables e below (T135.setTop (mkF m 67 #[.val (.ref a1), .val (.int p1), .val (.double v1), .second] [(.ref a1)])) _
    refine XS.dup X135.here hx rfl (hb hby d3_67) rfl rfl ?_
    exact k)
  obtain ⟨T149, X149, e149, st149⟩ := getF X135 hx hZ hown (host := "") (Or.inl (hw _ (List.mem_of_getElem? (i := 23) rfl))) Via.refl e135 F141 (g := (mkF m 68 #[.val (.ref a1), .val (.int p1), .val (.double v1), .second] [(.ref a1), (.ref a1)])) rfl rfl (hb hby d3_68)
  have k150 : ∀ t, Steps p.tables e below (T149.setTop (mkF m 71 #[.val (.ref a1), .val (.int p1), .val (.double v1), .second] [(.int (2 : Int32)), (.ref a1)])) t → Steps p.tables e below (s₁.setTop (entryFrame m #[(.ref a1), (.int p1), (.double v1)] 4)) t := fun t k => k148 t (st149 t k)
  have k151 : ∀ t, Steps p.tables e below (T149.setTop (mkF m 73 #[.val (.ref a1), .val (.int p1), .val (.double v1), .second] [(.int (3 : Int32)), (.ref a1)])) t → Steps p.tables e below (s₁.setTop (entryFrame m #[(.ref a1), (.int p1), (.double v1)] 4)) t := fun t k => k150 t (by
    show Steps p.tables e below (T149.setTop (mkF m 71 #[.val (.ref a1), .val (.int p1), .val (.double v1), .second] [(.int (2 : Int32)), (.ref a1)])) _
    refine XS.iconst X149.here hx rfl (hb hby d3_71) ?_
    show Steps p.tables e below (T149.setTop (mkF m 72 #[.val (.ref a1), .val (.int p1), .val (.double v1), .second] [(.int (1 : Int32)), (.int (2 : Int32)), (.ref a1)])) _
    refine XS.iadd X149.here hx rfl (hb hby d3_72) rfl ?_
    show Steps p.tables e below (T149.setTop (mkF m 73 #[.val (.ref a1), .val (.int p1), .val (.double v1), .second] [(.int ((2 : Int32) + (1 : Int32))), (.ref a1)])) _
    refine castTop (g' := (mkF m 73 #[.val (.ref a1), .val (.int p1), .val (.double v1), .second] [(.int (3 : Int32)), (.ref a1)])) (by rw [show ((2 : Int32) + (1 : Int32)) = (3 : Int32) by decide]) ?_
    exact k)
  obtain ⟨T152, h152, X152, e152, W152, st152⟩ := putF X149 hx hZ hown (host := "") (Or.inl (hw _ (List.mem_of_getElem? (i := 23) rfl))) Via.refl e149 F141 F137 (Or.inl (hw _ (List.mem_of_getElem? (i := 24) rfl))) (hw _ (List.mem_of_getElem? (i := 2) rfl)) (ty := .int) (by decide) rfl rfl (g := (mkF m 73 #[.val (.ref a1), .val (.int p1), .val (.double v1), .second] [(.int (3 : Int32)), (.ref a1)])) rfl rfl (hb hby d3_73)
  have F153 := F141.same W152
  have F154 := F137.wr W152
  have F155 := F138.other W152 (Or.inr (slot_ne (Or.inl (hw _ (List.mem_of_getElem? (i := 12) rfl))) (Or.inl (hw _ (List.mem_of_getElem? (i := 24) rfl))) (by decide) (t := (.array .int)) (t' := .int) (by decide) (by decide)))
  have F156 := F139.other W152 (Or.inr (slot_ne (Or.inl (hw _ (List.mem_of_getElem? (i := 15) rfl))) (Or.inl (hw _ (List.mem_of_getElem? (i := 24) rfl))) (by decide) (t := (.array .double)) (t' := .int) (by decide) (by decide)))
  have F157 := F140.other W152 (Or.inr (slot_ne (Or.inr (hw _ (List.mem_of_getElem? (i := 17) rfl))) (Or.inl (hw _ (List.mem_of_getElem? (i := 24) rfl))) (by decide) (t := (.array .double)) (t' := .int) (by decide) (by decide)))
  have F158 := F142.other W152 (Or.inr (slot_ne (Or.inl (hw _ (List.mem_of_getElem? (i := 38) rfl))) (Or.inl (hw _ (List.mem_of_getElem? (i := 24) rfl))) (by decide) (t := .boolean) (t' := .int) (by decide) (by decide)))
  have F159 := F143.other W152 (Ne.symm ne_a1_b1)
  have F160 := V136.other W152 (Ne.symm ne_a1_b2)
  have Z161 : n0 ≤ h152.size := Nat.le_trans Z144 (Nat.le_of_eq W152.size.symm)
  have N162 := Fr.snoc X152 N145 ge_a1
  have K163 := K146.wr W152 (Or.inl (List.mem_of_getElem? (i := 0) rfl))
  have k164 : ∀ t, Steps p.tables e below (T152.setTop (mkF m 76 #[.val (.ref a1), .val (.int p1), .val (.double v1), .second] [])) t → Steps p.tables e below (s₁.setTop (entryFrame m #[(.ref a1), (.int p1), (.double v1)] 4)) t := fun t k => k151 t (st152 t k)
  obtain ⟨fs, hr, hrun, hended, hW, hsame⟩ := X152.leave (v := none) (fun _ => rfl)
  refine ⟨_, _, k164 _ (X152.returnOut hx Bd.returns (hb hby d3_76) hr), hrun, hended, _, _, rfl, ?_, ⟨_, rfl⟩, hW, hsame.mono (by decide) (by decide)⟩
  show Q_av2 Z a1 b1 b2 b3 k1 k2 p1 v1 y0 es0 es1 es2 es3 g0 g1 g2 g3 h0 n0 _ T152.heap _
  rw [e152]
  exact ⟨rfl, N162, K163, F154, F155, F156, F157, F153, F158, F159, F160⟩
def Q_av3 (Z : State) (a1 : Addr) (b1 : Addr) (b2 : Addr) (b3 : Addr) (k1 : ClassId) (k2 : ClassId) (p1 : Int32) (v1 : UInt64) (y0 : Int32) (es0 : Int32) (es1 : Int32) (es2 : Int32) (es3 : Int32) (g0 : UInt64) (g1 : UInt64) (g2 : UInt64) (g3 : UInt64) (h0 : Heap) (n0 : Nat) (v : Option Value) (h : Heap) (L : List Loc) : Prop := v = none ∧ Fr n0 L ∧ Keep h0 h [a1, b1, b2] ∧ Exa Z h a1 "com/example/istra/istra/model/Transfer" ∧ Fld Z h a1 "com/example/istra/istra/model/Transfer" "vehicleStates" "[I" (.ref b1) ∧ Fld Z h a1 "com/example/istra/istra/model/Transfer" "crossingS" "[D" (.ref b2) ∧ Fld Z h a1 "com/example/istra/istra/model/Transfer" "fluid" "[D" (.ref b3) ∧ Fld Z h a1 "com/example/istra/istra/model/Transfer" "vehicles" "I" (.int (4 : Int32)) ∧ Fld Z h a1 "com/example/istra/istra/model/Transfer" "holdsFluid" "Z" (.int y0) ∧ Arv Z h b1 k1 .int (4 : Int32) [(.int es0), (.int es1), (.int es2), (.int p1)] (.int (0 : Int32)) ∧ Arv Z h b2 k2 .double (4 : Int32) [(.double g0), (.double g1), (.double g2), (.double v1)] (.double (0 : UInt64))
set_option maxRecDepth 65536 in
set_option maxHeartbeats 40000000 in
theorem av3 (l : Launch) (Z : State) (a0 : Array Value) (hw : ∀ d ∈ tables_1, d.before a0 Z = true) (ws : List Jvm.Cond) (a1 : Addr) (b1 : Addr) (b2 : Addr) (b3 : Addr) (k1 : ClassId) (k2 : ClassId) (p1 : Int32) (v1 : UInt64) (y0 : Int32) (es0 : Int32) (es1 : Int32) (es2 : Int32) (es3 : Int32) (g0 : UInt64) (g1 : UInt64) (g2 : UInt64) (g3 : UInt64) (h0 : Heap) (n0 : Nat) (Z0 : n0 ≤ h0.size) (Fk0 : Exa Z h0 a1 "com/example/istra/istra/model/Transfer") (Fk1 : Fld Z h0 a1 "com/example/istra/istra/model/Transfer" "vehicleStates" "[I" (.ref b1)) (Fk2 : Fld Z h0 a1 "com/example/istra/istra/model/Transfer" "crossingS" "[D" (.ref b2)) (Fk3 : Fld Z h0 a1 "com/example/istra/istra/model/Transfer" "fluid" "[D" (.ref b3)) (Fk4 : Fld Z h0 a1 "com/example/istra/istra/model/Transfer" "vehicles" "I" (.int (3 : Int32))) (Fk5 : Fld Z h0 a1 "com/example/istra/istra/model/Transfer" "holdsFluid" "Z" (.int y0)) (Fk6 : Arv Z h0 b1 k1 .int (4 : Int32) [(.int es0), (.int es1), (.int es2), (.int es3)] (.int (0 : Int32))) (Fk7 : Arv Z h0 b2 k2 .double (4 : Int32) [(.double g0), (.double g1), (.double g2), (.double g3)] (.double (0 : UInt64))) (ge_a1 : n0 ≤ a1) (ge_b1 : n0 ≤ b1) (ge_b2 : n0 ≤ b2) (ne_a1_b1 : a1 ≠ b1) (ne_a1_b2 : a1 ≠ b2) (ne_b1_b2 : b1 ≠ b2) :
    MetFree l (⟨"com/example/istra/istra/model/Transfer", "addVehicle", "(ID)V"⟩ : MethodName) (head1 (Jvm.Cond.code (⟨"com/example/istra/istra/model/Transfer", "addVehicle", "(ID)V"⟩ : MethodName) prog_54_method_6_code 4 none :: ws) ({ frames := 0, cells := 0, slots := 0, locals := 0 } : Room)) (fun a U => a = #[(.ref a1), (.int p1), (.double v1)] ∧ Z.Warmed39 U.vm ∧ U.heap = h0) (fun _ _ _ _ _ => True) (fun _ U o U' => ∃ v L, o = .returned v ∧ Q_av3 Z a1 b1 b2 b3 k1 k2 p1 v1 y0 es0 es1 es2 es3 g0 g1 g2 g3 h0 n0 v U'.heap L ∧ FrameEnd U o U' L ({ frames := 0, cells := 0, slots := 0, locals := 0 } : Room).cells ({ frames := 0, cells := 0, slots := 0, locals := 0 } : Room).slots) := by
  refine MetFree.of_bodySF (plainFor_of_name pn_com_2fexample_2fistra_2fistra_2fmodel_2fTransfer) hisR ?_
  intro p e s m args below meth c s₁ Bd hml0 hP hK
  obtain ⟨rfl, hZ, hh⟩ := hP
  have hx := Bd.exec
  have hby := Bd.bytes
  have hml : c.maxLocals = 4 := hml0
  have hown : s.vm.findClass "com/example/istra/istra/model/Transfer" = some m.cls := findClass_of_methodNamed Bd.named
  have hnm := (name_of_methodNamed Bd.named Bd.method).1
  have X0 : Stand p l e ({ frames := 0, cells := 0, slots := 0, locals := 0 } : Room) s m #[(.ref a1), (.int p1), (.double v1)] below meth c s₁ [] 0 0 := Stand.of_body Bd
  have e0 : s₁.heap = h0 := by rw [← hh, Bd.state]; rfl
  have N0 := Fr.nil n0
  have k0 : ∀ t, Steps p.tables e below (s₁.setTop (mkF m 0 #[.val (.ref a1), .val (.int p1), .val (.double v1), .second] [])) t → Steps p.tables e below (s₁.setTop (entryFrame m #[(.ref a1), (.int p1), (.double v1)] 4)) t := fun t k => castTop (ef_3_RID m a1 p1 v1) k
  have K0 := Keep.refl h0 [a1, b1, b2]
  have k101 : ∀ t, Steps p.tables e below (s₁.setTop (mkF m 1 #[.val (.ref a1), .val (.int p1), .val (.double v1), .second] [(.ref a1)])) t → Steps p.tables e below (s₁.setTop (entryFrame m #[(.ref a1), (.int p1), (.double v1)] 4)) t := fun t k => k0 t (by
    show Steps p.tables e below (s₁.setTop (mkF m 0 #[.val (.ref a1), .val (.int p1), .val (.double v1), .second] [])) _
    refine XS.aloadN X0.here hx rfl (hb hby d3_0) rfl rfl ?_
    exact k)
  obtain ⟨T102, X102, e102, st102⟩ := getF X0 hx hZ hown (host := "") (Or.inl (hw _ (List.mem_of_getElem? (i := 23) rfl))) Via.refl e0 Fk4 (g := (mkF m 1 #[.val (.ref a1), .val (.int p1), .val (.double v1), .second] [(.ref a1)])) rfl rfl (hb hby d3_1)
  have k103 : ∀ t, Steps p.tables e below (T102.setTop (mkF m 4 #[.val (.ref a1), .val (.int p1), .val (.double v1), .second] [(.int (3 : Int32))])) t → Steps p.tables e below (s₁.setTop (entryFrame m #[(.ref a1), (.int p1), (.double v1)] 4)) t := fun t k => k101 t (st102 t k)
  have k104 : ∀ t, Steps p.tables e below (T102.setTop (mkF m 5 #[.val (.ref a1), .val (.int p1), .val (.double v1), .second] [(.ref a1), (.int (3 : Int32))])) t → Steps p.tables e below (s₁.setTop (entryFrame m #[(.ref a1), (.int p1), (.double v1)] 4)) t := fun t k => k103 t (by
    show Steps p.tables e below (T102.setTop (mkF m 4 #[.val (.ref a1), .val (.int p1), .val (.double v1), .second] [(.int (3 : Int32))])) _
    refine XS.aloadN X102.here hx rfl (hb hby d3_4) rfl rfl ?_
    exact k)
  obtain ⟨T105, X105, e105, st105⟩ := getF X102 hx hZ hown (host := "") (Or.inl (hw _ (List.mem_of_getElem? (i := 11) rfl))) Via.refl e102 Fk1 (g := (mkF m 5 #[.val (.ref a1), .val (.int p1), .val (.double v1), .second] [(.ref a1), (.int (3 : Int32))])) rfl rfl (hb hby d3_5)
  have k106 : ∀ t, Steps p.tables e below (T105.setTop (mkF m 8 #[.val (.ref a1), .val (.int p1), .val (.double v1), .second] [(.ref b1), (.int (3 : Int32))])) t → Steps p.tables e below (s₁.setTop (entryFrame m #[(.ref a1), (.int p1), (.double v1)] 4)) t := fun t k => k104 t (st105 t k)
  obtain ⟨c107, Ar107, -, As107, An107, -, -⟩ := id Fk6
  have k108 : ∀ t, Steps p.tables e below (T105.setTop (mkF m 47 #[.val (.ref a1), .val (.int p1), .val (.double v1), .second] [(.ref a1)])) t → Steps p.tables e below (s₁.setTop (entryFrame m #[(.ref a1), (.int p1), (.double v1)] 4)) t := fun t k => k106 t (by
    show Steps p.tables e below (T105.setTop (mkF m 8 #[.val (.ref a1), .val (.int p1), .val (.double v1), .second] [(.ref b1), (.int (3 : Int32))])) _
    refine X105.arraylength hx (by rw [e105]; exact Ar107.1) (State.isArrayOf_alike hZ.alike Ar107.2.1) (g := (mkF m 8 #[.val (.ref a1), .val (.int p1), .val (.double v1), .second] [(.ref b1), (.int (3 : Int32))])) rfl rfl (hb hby d3_8) _ ?_
    rw [len_of As107 An107]
    show Steps p.tables e below (T105.setTop (mkF m 9 #[.val (.ref a1), .val (.int p1), .val (.double v1), .second] [(.int (4 : Int32)), (.int (3 : Int32))])) _
    refine XS.icmpYes X105.here hx rfl (pc0 := 9) (pc' := 46) rfl (hb hby d3_9) rfl (feq (by decide)).2 (by decide) (by decide) ?_
    show Steps p.tables e below (T105.setTop (mkF m 46 #[.val (.ref a1), .val (.int p1), .val (.double v1), .second] [])) _
    refine XS.aloadN X105.here hx rfl (hb hby d3_46) rfl rfl ?_
    exact k)
  obtain ⟨T109, X109, e109, st109⟩ := getF X105 hx hZ hown (host := "") (Or.inl (hw _ (List.mem_of_getElem? (i := 11) rfl))) Via.refl e105 Fk1 (g := (mkF m 47 #[.val (.ref a1), .val (.int p1), .val (.double v1), .second] [(.ref a1)])) rfl rfl (hb hby d3_47)
  have k110 : ∀ t, Steps p.tables e below (T109.setTop (mkF m 50 #[.val (.ref a1), .val (.int p1), .val (.double v1), .second] [(.ref b1)])) t → Steps p.tables e below (s₁.setTop (entryFrame m #[(.ref a1), (.int p1), (.double v1)] 4)) t := fun t k => k108 t (st109 t k)
  have k111 : ∀ t, Steps p.tables e below (T109.setTop (mkF m 51 #[.val (.ref a1), .val (.int p1), .val (.double v1), .second] [(.ref a1), (.ref b1)])) t → Steps p.tables e below (s₁.setTop (entryFrame m #[(.ref a1), (.int p1), (.double v1)] 4)) t := fun t k => k110 t (by
    show Steps p.tables e below (T109.setTop (mkF m 50 #[.val (.ref a1), .val (.int p1), .val (.double v1), .second] [(.ref b1)])) _
    refine XS.aloadN X109.here hx rfl (hb hby d3_50) rfl rfl ?_
    exact k)
  obtain ⟨T112, X112, e112, st112⟩ := getF X109 hx hZ hown (host := "") (Or.inl (hw _ (List.mem_of_getElem? (i := 23) rfl))) Via.refl e109 Fk4 (g := (mkF m 51 #[.val (.ref a1), .val (.int p1), .val (.double v1), .second] [(.ref a1), (.ref b1)])) rfl rfl (hb hby d3_51)
  have k113 : ∀ t, Steps p.tables e below (T112.setTop (mkF m 54 #[.val (.ref a1), .val (.int p1), .val (.double v1), .second] [(.int (3 : Int32)), (.ref b1)])) t → Steps p.tables e below (s₁.setTop (entryFrame m #[(.ref a1), (.int p1), (.double v1)] 4)) t := fun t k => k111 t (st112 t k)
  have k114 : ∀ t, Steps p.tables e below (T112.setTop (mkF m 55 #[.val (.ref a1), .val (.int p1), .val (.double v1), .second] [(.int p1), (.int (3 : Int32)), (.ref b1)])) t → Steps p.tables e below (s₁.setTop (entryFrame m #[(.ref a1), (.int p1), (.double v1)] 4)) t := fun t k => k113 t (by
    show Steps p.tables e below (T112.setTop (mkF m 54 #[.val (.ref a1), .val (.int p1), .val (.double v1), .second] [(.int (3 : Int32)), (.ref b1)])) _
    refine XS.iloadN X112.here hx rfl (hb hby d3_54) rfl ?_
    exact k)
  obtain ⟨c115, Ar115, Aq115, As115, An115, Ah115, Ag115⟩ := id Fk6
  have hin115 : ¬ ((3 : Int32) < 0 ∨ c115.slots.size ≤ ((3 : Int32)).toNatClampNeg) := inb_of As115 ⟨by decide, by decide⟩
  obtain ⟨T115, h115, X115, e115, W115, st115⟩ := stI X112 hx hZ e112 Ar115 (j := (3 : Int32)) hin115 (g := (mkF m 55 #[.val (.ref a1), .val (.int p1), .val (.double v1), .second] [(.int p1), (.int (3 : Int32)), (.ref b1)])) rfl rfl (hb hby d3_55)
  have V116 := Arv.set Ar115 Aq115 As115 An115 Ah115 Ag115 rfl W115 3 rfl (Nat.le_of_ble_eq_true rfl)
  have F117 := Fk0.wr W115
  have F118 := Fk1.other W115 (Or.inl ne_a1_b1)
  have F119 := Fk2.other W115 (Or.inl ne_a1_b1)
  have F120 := Fk3.other W115 (Or.inl ne_a1_b1)
  have F121 := Fk4.other W115 (Or.inl ne_a1_b1)
  have F122 := Fk5.other W115 (Or.inl ne_a1_b1)
  have F123 := Fk7.other W115 (Ne.symm ne_b1_b2)
  have Z124 : n0 ≤ h115.size := Nat.le_trans Z0 (Nat.le_of_eq W115.size.symm)
  have N125 := Fr.snoc X115 N0 ge_b1
  have K126 := K0.wr W115 (Or.inl (List.mem_of_getElem? (i := 1) rfl))
  have k127 : ∀ t, Steps p.tables e below (T115.setTop (mkF m 56 #[.val (.ref a1), .val (.int p1), .val (.double v1), .second] [])) t → Steps p.tables e below (s₁.setTop (entryFrame m #[(.ref a1), (.int p1), (.double v1)] 4)) t := fun t k => k114 t (st115 t k)
  have k128 : ∀ t, Steps p.tables e below (T115.setTop (mkF m 57 #[.val (.ref a1), .val (.int p1), .val (.double v1), .second] [(.ref a1)])) t → Steps p.tables e below (s₁.setTop (entryFrame m #[(.ref a1), (.int p1), (.double v1)] 4)) t := fun t k => k127 t (by
    show Steps p.tables e below (T115.setTop (mkF m 56 #[.val (.ref a1), .val (.int p1), .val (.double v1), .second] [])) _
    refine XS.aloadN X115.here hx rfl (hb hby d3_56) rfl rfl ?_
    exact k)
  obtain ⟨T129, X129, e129, st129⟩ := getF X115 hx hZ hown (host := "") (Or.inl (hw _ (List.mem_of_getElem? (i := 14) rfl))) Via.refl e115 F119 (g := (mkF m 57 #[.val (.ref a1), .val (.int p1), .val (.double v1), .second] [(.ref a1)])) rfl rfl (hb hby d3_57)
  have k130 : ∀ t, Steps p.tables e below (T129.setTop (mkF m 60 #[.val (.ref a1), .val (.int p1), .val (.double v1), .second] [(.ref b2)])) t → Steps p.tables e below (s₁.setTop (entryFrame m #[(.ref a1), (.int p1), (.double v1)] 4)) t := fun t k => k128 t (st129 t k)
  have k131 : ∀ t, Steps p.tables e below (T129.setTop (mkF m 61 #[.val (.ref a1), .val (.int p1), .val (.double v1), .second] [(.ref a1), (.ref b2)])) t → Steps p.tables e below (s₁.setTop (entryFrame m #[(.ref a1), (.int p1), (.double v1)] 4)) t := fun t k => k130 t (by
    show Steps p.tables e below (T129.setTop (mkF m 60 #[.val (.ref a1), .val (.int p1), .val (.double v1), .second] [(.ref b2)])) _
    refine XS.aloadN X129.here hx rfl (hb hby d3_60) rfl rfl ?_
    exact k)
  obtain ⟨T132, X132, e132, st132⟩ := getF X129 hx hZ hown (host := "") (Or.inl (hw _ (List.mem_of_getElem? (i := 23) rfl))) Via.refl e129 F121 (g := (mkF m 61 #[.val (.ref a1), .val (.int p1), .val (.double v1), .second] [(.ref a1), (.ref b2)])) rfl rfl (hb hby d3_61)
  have k133 : ∀ t, Steps p.tables e below (T132.setTop (mkF m 64 #[.val (.ref a1), .val (.int p1), .val (.double v1), .second] [(.int (3 : Int32)), (.ref b2)])) t → Steps p.tables e below (s₁.setTop (entryFrame m #[(.ref a1), (.int p1), (.double v1)] 4)) t := fun t k => k131 t (st132 t k)
  have k134 : ∀ t, Steps p.tables e below (T132.setTop (mkF m 65 #[.val (.ref a1), .val (.int p1), .val (.double v1), .second] [(.double v1), (.int (3 : Int32)), (.ref b2)])) t → Steps p.tables e below (s₁.setTop (entryFrame m #[(.ref a1), (.int p1), (.double v1)] 4)) t := fun t k => k133 t (by
    show Steps p.tables e below (T132.setTop (mkF m 64 #[.val (.ref a1), .val (.int p1), .val (.double v1), .second] [(.int (3 : Int32)), (.ref b2)])) _
    refine XS.dloadN X132.here hx rfl (hb hby d3_64) rfl ?_
    exact k)
  obtain ⟨c135, Ar135, Aq135, As135, An135, Ah135, Ag135⟩ := id F123
  have hin135 : ¬ ((3 : Int32) < 0 ∨ c135.slots.size ≤ ((3 : Int32)).toNatClampNeg) := inb_of As135 ⟨by decide, by decide⟩
  obtain ⟨T135, h135, X135, e135, W135, st135⟩ := stD X132 hx hZ e132 Ar135 (j := (3 : Int32)) hin135 (g := (mkF m 65 #[.val (.ref a1), .val (.int p1), .val (.double v1), .second] [(.double v1), (.int (3 : Int32)), (.ref b2)])) rfl rfl (hb hby d3_65)
  have V136 := Arv.set Ar135 Aq135 As135 An135 Ah135 Ag135 rfl W135 3 rfl (Nat.le_of_ble_eq_true rfl)
  have F137 := F117.wr W135
  have F138 := F118.other W135 (Or.inl ne_a1_b2)
  have F139 := F119.other W135 (Or.inl ne_a1_b2)
  have F140 := F120.other W135 (Or.inl ne_a1_b2)
  have F141 := F121.other W135 (Or.inl ne_a1_b2)
  have F142 := F122.other W135 (Or.inl ne_a1_b2)
  have F143 := V116.other W135 ne_b1_b2
  have Z144 : n0 ≤ h135.size := Nat.le_trans Z124 (Nat.le_of_eq W135.size.symm)
  have N145 := Fr.snoc X135 N125 ge_b2
  have K146 := K126.wr W135 (Or.inl (List.mem_of_getElem? (i := 2) rfl))
  have k147 : ∀ t, Steps p.tables e below (T135.setTop (mkF m 66 #[.val (.ref a1), .val (.int p1), .val (.double v1), .second] [])) t → Steps p.tables e below (s₁.setTop (entryFrame m #[(.ref a1), (.int p1), (.double v1)] 4)) t := fun t k => k134 t (st135 t k)
  have k148 : ∀ t, Steps p.tables e below (T135.setTop (mkF m 68 #[.val (.ref a1), .val (.int p1), .val (.double v1), .second] [(.ref a1), (.ref a1)])) t → Steps p.tables e below (s₁.setTop (entryFrame m #[(.ref a1), (.int p1), (.double v1)] 4)) t := fun t k => k147 t (by
    show Steps p.tables e below (T135.setTop (mkF m 66 #[.val (.ref a1), .val (.int p1), .val (.double v1), .second] [])) _
    refine XS.aloadN X135.here hx rfl (hb hby d3_66) rfl rfl ?_
    show Steps p.tables e below (T135.setTop (mkF m 67 #[.val (.ref a1), .val (.int p1), .val (.double v1), .second] [(.ref a1)])) _
    refine XS.dup X135.here hx rfl (hb hby d3_67) rfl rfl ?_
    exact k)
  obtain ⟨T149, X149, e149, st149⟩ := getF X135 hx hZ hown (host := "") (Or.inl (hw _ (List.mem_of_getElem? (i := 23) rfl))) Via.refl e135 F141 (g := (mkF m 68 #[.val (.ref a1), .val (.int p1), .val (.double v1), .second] [(.ref a1), (.ref a1)])) rfl rfl (hb hby d3_68)
  have k150 : ∀ t, Steps p.tables e below (T149.setTop (mkF m 71 #[.val (.ref a1), .val (.int p1), .val (.double v1), .second] [(.int (3 : Int32)), (.ref a1)])) t → Steps p.tables e below (s₁.setTop (entryFrame m #[(.ref a1), (.int p1), (.double v1)] 4)) t := fun t k => k148 t (st149 t k)
  have k151 : ∀ t, Steps p.tables e below (T149.setTop (mkF m 73 #[.val (.ref a1), .val (.int p1), .val (.double v1), .second] [(.int (4 : Int32)), (.ref a1)])) t → Steps p.tables e below (s₁.setTop (entryFrame m #[(.ref a1), (.int p1), (.double v1)] 4)) t := fun t k => k150 t (by
    show Steps p.tables e below (T149.setTop (mkF m 71 #[.val (.ref a1), .val (.int p1), .val (.double v1), .second] [(.int (3 : Int32)), (.ref a1)])) _
    refine XS.iconst X149.here hx rfl (hb hby d3_71) ?_
    show Steps p.tables e below (T149.setTop (mkF m 72 #[.val (.ref a1), .val (.int p1), .val (.double v1), .second] [(.int (1 : Int32)), (.int (3 : Int32)), (.ref a1)])) _
    refine XS.iadd X149.here hx rfl (hb hby d3_72) rfl ?_
    show Steps p.tables e below (T149.setTop (mkF m 73 #[.val (.ref a1), .val (.int p1), .val (.double v1), .second] [(.int ((3 : Int32) + (1 : Int32))), (.ref a1)])) _
    refine castTop (g' := (mkF m 73 #[.val (.ref a1), .val (.int p1), .val (.double v1), .second] [(.int (4 : Int32)), (.ref a1)])) (by rw [show ((3 : Int32) + (1 : Int32)) = (4 : Int32) by decide]) ?_
    exact k)
  obtain ⟨T152, h152, X152, e152, W152, st152⟩ := putF X149 hx hZ hown (host := "") (Or.inl (hw _ (List.mem_of_getElem? (i := 23) rfl))) Via.refl e149 F141 F137 (Or.inl (hw _ (List.mem_of_getElem? (i := 24) rfl))) (hw _ (List.mem_of_getElem? (i := 2) rfl)) (ty := .int) (by decide) rfl rfl (g := (mkF m 73 #[.val (.ref a1), .val (.int p1), .val (.double v1), .second] [(.int (4 : Int32)), (.ref a1)])) rfl rfl (hb hby d3_73)
  have F153 := F141.same W152
  have F154 := F137.wr W152
  have F155 := F138.other W152 (Or.inr (slot_ne (Or.inl (hw _ (List.mem_of_getElem? (i := 12) rfl))) (Or.inl (hw _ (List.mem_of_getElem? (i := 24) rfl))) (by decide) (t := (.array .int)) (t' := .int) (by decide) (by decide)))
  have F156 := F139.other W152 (Or.inr (slot_ne (Or.inl (hw _ (List.mem_of_getElem? (i := 15) rfl))) (Or.inl (hw _ (List.mem_of_getElem? (i := 24) rfl))) (by decide) (t := (.array .double)) (t' := .int) (by decide) (by decide)))
  have F157 := F140.other W152 (Or.inr (slot_ne (Or.inr (hw _ (List.mem_of_getElem? (i := 17) rfl))) (Or.inl (hw _ (List.mem_of_getElem? (i := 24) rfl))) (by decide) (t := (.array .double)) (t' := .int) (by decide) (by decide)))
  have F158 := F142.other W152 (Or.inr (slot_ne (Or.inl (hw _ (List.mem_of_getElem? (i := 38) rfl))) (Or.inl (hw _ (List.mem_of_getElem? (i := 24) rfl))) (by decide) (t := .boolean) (t' := .int) (by decide) (by decide)))
  have F159 := F143.other W152 (Ne.symm ne_a1_b1)
  have F160 := V136.other W152 (Ne.symm ne_a1_b2)
  have Z161 : n0 ≤ h152.size := Nat.le_trans Z144 (Nat.le_of_eq W152.size.symm)
  have N162 := Fr.snoc X152 N145 ge_a1
  have K163 := K146.wr W152 (Or.inl (List.mem_of_getElem? (i := 0) rfl))
  have k164 : ∀ t, Steps p.tables e below (T152.setTop (mkF m 76 #[.val (.ref a1), .val (.int p1), .val (.double v1), .second] [])) t → Steps p.tables e below (s₁.setTop (entryFrame m #[(.ref a1), (.int p1), (.double v1)] 4)) t := fun t k => k151 t (st152 t k)
  obtain ⟨fs, hr, hrun, hended, hW, hsame⟩ := X152.leave (v := none) (fun _ => rfl)
  refine ⟨_, _, k164 _ (X152.returnOut hx Bd.returns (hb hby d3_76) hr), hrun, hended, _, _, rfl, ?_, ⟨_, rfl⟩, hW, hsame.mono (by decide) (by decide)⟩
  show Q_av3 Z a1 b1 b2 b3 k1 k2 p1 v1 y0 es0 es1 es2 es3 g0 g1 g2 g3 h0 n0 _ T152.heap _
  rw [e152]
  exact ⟨rfl, N162, K163, F154, F155, F156, F157, F153, F158, F159, F160⟩
theorem d3_12 : decode prog_54_method_6_code 12 = .ok (.aload_n 0, 1) := by decide +kernel
theorem d3_13 : decode prog_54_method_6_code 13 = .ok (.aload_n 0, 1) := by decide +kernel
theorem d3_14 : decode prog_54_method_6_code 14 = .ok (.getfield 9, 3) := by decide +kernel
theorem d3_17 : decode prog_54_method_6_code 17 = .ok (.iconst 2, 1) := by decide +kernel
theorem d3_18 : decode prog_54_method_6_code 18 = .ok (.aload_n 0, 1) := by decide +kernel
theorem d3_19 : decode prog_54_method_6_code 19 = .ok (.getfield 39, 3) := by decide +kernel
theorem d3_22 : decode prog_54_method_6_code 22 = .ok (.imul, 1) := by decide +kernel
theorem d3_23 : decode prog_54_method_6_code 23 = .ok (.invokestatic 43, 3) := by decide +kernel
theorem pd__28_5bII_29_5bI : parseMethodDescriptor "([II)[I" = some ⟨[(.array .int), .int], some (.array .int)⟩ := by decide +kernel
theorem d3_26 : decode prog_54_method_6_code 26 = .ok (.putfield 9, 3) := by decide +kernel
theorem d3_29 : decode prog_54_method_6_code 29 = .ok (.aload_n 0, 1) := by decide +kernel
theorem d3_30 : decode prog_54_method_6_code 30 = .ok (.aload_n 0, 1) := by decide +kernel
theorem d3_31 : decode prog_54_method_6_code 31 = .ok (.getfield 13, 3) := by decide +kernel
theorem d3_34 : decode prog_54_method_6_code 34 = .ok (.iconst 2, 1) := by decide +kernel
theorem d3_35 : decode prog_54_method_6_code 35 = .ok (.aload_n 0, 1) := by decide +kernel
theorem d3_36 : decode prog_54_method_6_code 36 = .ok (.getfield 39, 3) := by decide +kernel
theorem d3_39 : decode prog_54_method_6_code 39 = .ok (.imul, 1) := by decide +kernel
theorem d3_40 : decode prog_54_method_6_code 40 = .ok (.invokestatic 47, 3) := by decide +kernel
theorem pd__28_5bDI_29_5bD : parseMethodDescriptor "([DI)[D" = some ⟨[(.array .double), .int], some (.array .double)⟩ := by decide +kernel
theorem d3_43 : decode prog_54_method_6_code 43 = .ok (.putfield 13, 3) := by decide +kernel
def Q_av4 (Z : State) (a1 : Addr) (b1 : Addr) (b2 : Addr) (b3 : Addr) (k1 : ClassId) (k2 : ClassId) (p1 : Int32) (v1 : UInt64) (y0 : Int32) (es0 : Int32) (es1 : Int32) (es2 : Int32) (es3 : Int32) (g0 : UInt64) (g1 : UInt64) (g2 : UInt64) (g3 : UInt64) (h0 : Heap) (n0 : Nat) (v : Option Value) (h : Heap) (L : List Loc) : Prop := v = none ∧ Fr n0 L ∧ Keep h0 h [a1, b1, b2] ∧ Exa Z h a1 "com/example/istra/istra/model/Transfer" ∧ Fld Z h a1 "com/example/istra/istra/model/Transfer" "fluid" "[D" (.ref b3) ∧ Fld Z h a1 "com/example/istra/istra/model/Transfer" "vehicles" "I" (.int (5 : Int32)) ∧ Fld Z h a1 "com/example/istra/istra/model/Transfer" "holdsFluid" "Z" (.int y0)
set_option maxRecDepth 65536 in
set_option maxHeartbeats 40000000 in
theorem av4 (l : Launch) (Z : State) (a0 : Array Value) (hw : ∀ d ∈ tables_1, d.before a0 Z = true) (ws : List Jvm.Cond) (a1 : Addr) (b1 : Addr) (b2 : Addr) (b3 : Addr) (k1 : ClassId) (k2 : ClassId) (p1 : Int32) (v1 : UInt64) (y0 : Int32) (es0 : Int32) (es1 : Int32) (es2 : Int32) (es3 : Int32) (g0 : UInt64) (g1 : UInt64) (g2 : UInt64) (g3 : UInt64) (h0 : Heap) (n0 : Nat) (Z0 : n0 ≤ h0.size) (Fk0 : Exa Z h0 a1 "com/example/istra/istra/model/Transfer") (Fk1 : Fld Z h0 a1 "com/example/istra/istra/model/Transfer" "vehicleStates" "[I" (.ref b1)) (Fk2 : Fld Z h0 a1 "com/example/istra/istra/model/Transfer" "crossingS" "[D" (.ref b2)) (Fk3 : Fld Z h0 a1 "com/example/istra/istra/model/Transfer" "fluid" "[D" (.ref b3)) (Fk4 : Fld Z h0 a1 "com/example/istra/istra/model/Transfer" "vehicles" "I" (.int (4 : Int32))) (Fk5 : Fld Z h0 a1 "com/example/istra/istra/model/Transfer" "holdsFluid" "Z" (.int y0)) (Fk6 : Arv Z h0 b1 k1 .int (4 : Int32) [(.int es0), (.int es1), (.int es2), (.int es3)] (.int (0 : Int32))) (Fk7 : Arv Z h0 b2 k2 .double (4 : Int32) [(.double g0), (.double g1), (.double g2), (.double g3)] (.double (0 : UInt64))) (ge_a1 : n0 ≤ a1) (ge_b1 : n0 ≤ b1) (ge_b2 : n0 ≤ b2) (ne_a1_b1 : a1 ≠ b1) (ne_a1_b2 : a1 ≠ b2) (ne_b1_b2 : b1 ≠ b2) :
    MetFree l (⟨"com/example/istra/istra/model/Transfer", "addVehicle", "(ID)V"⟩ : MethodName) (head1 (Jvm.Cond.code (⟨"com/example/istra/istra/model/Transfer", "addVehicle", "(ID)V"⟩ : MethodName) prog_54_method_6_code 4 none :: ws) ({ frames := 2, cells := 2, slots := 16, locals := 33 } : Room)) (fun a U => a = #[(.ref a1), (.int p1), (.double v1)] ∧ Z.Warmed39 U.vm ∧ U.heap = h0) (fun _ _ _ _ _ => True) (fun _ U o U' => ∃ v L, o = .returned v ∧ Q_av4 Z a1 b1 b2 b3 k1 k2 p1 v1 y0 es0 es1 es2 es3 g0 g1 g2 g3 h0 n0 v U'.heap L ∧ FrameEnd U o U' L ({ frames := 2, cells := 2, slots := 16, locals := 33 } : Room).cells ({ frames := 2, cells := 2, slots := 16, locals := 33 } : Room).slots) := by
  refine MetFree.of_bodySF (plainFor_of_name pn_com_2fexample_2fistra_2fistra_2fmodel_2fTransfer) hisR ?_
  intro p e s m args below meth c s₁ Bd hml0 hP hK
  obtain ⟨rfl, hZ, hh⟩ := hP
  have hx := Bd.exec
  have hby := Bd.bytes
  have hml : c.maxLocals = 4 := hml0
  have hown : s.vm.findClass "com/example/istra/istra/model/Transfer" = some m.cls := findClass_of_methodNamed Bd.named
  have hnm := (name_of_methodNamed Bd.named Bd.method).1
  have X0 : Stand p l e ({ frames := 2, cells := 2, slots := 16, locals := 33 } : Room) s m #[(.ref a1), (.int p1), (.double v1)] below meth c s₁ [] 0 0 := Stand.of_body Bd
  have e0 : s₁.heap = h0 := by rw [← hh, Bd.state]; rfl
  have N0 := Fr.nil n0
  have k0 : ∀ t, Steps p.tables e below (s₁.setTop (mkF m 0 #[.val (.ref a1), .val (.int p1), .val (.double v1), .second] [])) t → Steps p.tables e below (s₁.setTop (entryFrame m #[(.ref a1), (.int p1), (.double v1)] 4)) t := fun t k => castTop (ef_3_RID m a1 p1 v1) k
  have K0 := Keep.refl h0 [a1, b1, b2]
  have k101 : ∀ t, Steps p.tables e below (s₁.setTop (mkF m 1 #[.val (.ref a1), .val (.int p1), .val (.double v1), .second] [(.ref a1)])) t → Steps p.tables e below (s₁.setTop (entryFrame m #[(.ref a1), (.int p1), (.double v1)] 4)) t := fun t k => k0 t (by
    show Steps p.tables e below (s₁.setTop (mkF m 0 #[.val (.ref a1), .val (.int p1), .val (.double v1), .second] [])) _
    refine XS.aloadN X0.here hx rfl (hb hby d3_0) rfl rfl ?_
    exact k)
  obtain ⟨T102, X102, e102, st102⟩ := getF X0 hx hZ hown (host := "") (Or.inl (hw _ (List.mem_of_getElem? (i := 23) rfl))) Via.refl e0 Fk4 (g := (mkF m 1 #[.val (.ref a1), .val (.int p1), .val (.double v1), .second] [(.ref a1)])) rfl rfl (hb hby d3_1)
  have k103 : ∀ t, Steps p.tables e below (T102.setTop (mkF m 4 #[.val (.ref a1), .val (.int p1), .val (.double v1), .second] [(.int (4 : Int32))])) t → Steps p.tables e below (s₁.setTop (entryFrame m #[(.ref a1), (.int p1), (.double v1)] 4)) t := fun t k => k101 t (st102 t k)
  have k104 : ∀ t, Steps p.tables e below (T102.setTop (mkF m 5 #[.val (.ref a1), .val (.int p1), .val (.double v1), .second] [(.ref a1), (.int (4 : Int32))])) t → Steps p.tables e below (s₁.setTop (entryFrame m #[(.ref a1), (.int p1), (.double v1)] 4)) t := fun t k => k103 t (by
    show Steps p.tables e below (T102.setTop (mkF m 4 #[.val (.ref a1), .val (.int p1), .val (.double v1), .second] [(.int (4 : Int32))])) _
    refine XS.aloadN X102.here hx rfl (hb hby d3_4) rfl rfl ?_
    exact k)
  obtain ⟨T105, X105, e105, st105⟩ := getF X102 hx hZ hown (host := "") (Or.inl (hw _ (List.mem_of_getElem? (i := 11) rfl))) Via.refl e102 Fk1 (g := (mkF m 5 #[.val (.ref a1), .val (.int p1), .val (.double v1), .second] [(.ref a1), (.int (4 : Int32))])) rfl rfl (hb hby d3_5)
  have k106 : ∀ t, Steps p.tables e below (T105.setTop (mkF m 8 #[.val (.ref a1), .val (.int p1), .val (.double v1), .second] [(.ref b1), (.int (4 : Int32))])) t → Steps p.tables e below (s₁.setTop (entryFrame m #[(.ref a1), (.int p1), (.double v1)] 4)) t := fun t k => k104 t (st105 t k)
  obtain ⟨c107, Ar107, -, As107, An107, -, -⟩ := id Fk6
  have k108 : ∀ t, Steps p.tables e below (T105.setTop (mkF m 14 #[.val (.ref a1), .val (.int p1), .val (.double v1), .second] [(.ref a1), (.ref a1)])) t → Steps p.tables e below (s₁.setTop (entryFrame m #[(.ref a1), (.int p1), (.double v1)] 4)) t := fun t k => k106 t (by
    show Steps p.tables e below (T105.setTop (mkF m 8 #[.val (.ref a1), .val (.int p1), .val (.double v1), .second] [(.ref b1), (.int (4 : Int32))])) _
    refine X105.arraylength hx (by rw [e105]; exact Ar107.1) (State.isArrayOf_alike hZ.alike Ar107.2.1) (g := (mkF m 8 #[.val (.ref a1), .val (.int p1), .val (.double v1), .second] [(.ref b1), (.int (4 : Int32))])) rfl rfl (hb hby d3_8) _ ?_
    rw [len_of As107 An107]
    show Steps p.tables e below (T105.setTop (mkF m 9 #[.val (.ref a1), .val (.int p1), .val (.double v1), .second] [(.int (4 : Int32)), (.int (4 : Int32))])) _
    refine XS.icmpNo X105.here hx rfl (hb hby d3_9) rfl (teq (by decide)).2 ?_
    show Steps p.tables e below (T105.setTop (mkF m 12 #[.val (.ref a1), .val (.int p1), .val (.double v1), .second] [])) _
    refine XS.aloadN X105.here hx rfl (hb hby d3_12) rfl rfl ?_
    show Steps p.tables e below (T105.setTop (mkF m 13 #[.val (.ref a1), .val (.int p1), .val (.double v1), .second] [(.ref a1)])) _
    refine XS.aloadN X105.here hx rfl (hb hby d3_13) rfl rfl ?_
    exact k)
  obtain ⟨T109, X109, e109, st109⟩ := getF X105 hx hZ hown (host := "") (Or.inl (hw _ (List.mem_of_getElem? (i := 11) rfl))) Via.refl e105 Fk1 (g := (mkF m 14 #[.val (.ref a1), .val (.int p1), .val (.double v1), .second] [(.ref a1), (.ref a1)])) rfl rfl (hb hby d3_14)
  have k110 : ∀ t, Steps p.tables e below (T109.setTop (mkF m 17 #[.val (.ref a1), .val (.int p1), .val (.double v1), .second] [(.ref b1), (.ref a1)])) t → Steps p.tables e below (s₁.setTop (entryFrame m #[(.ref a1), (.int p1), (.double v1)] 4)) t := fun t k => k108 t (st109 t k)
  have k111 : ∀ t, Steps p.tables e below (T109.setTop (mkF m 19 #[.val (.ref a1), .val (.int p1), .val (.double v1), .second] [(.ref a1), (.int (2 : Int32)), (.ref b1), (.ref a1)])) t → Steps p.tables e below (s₁.setTop (entryFrame m #[(.ref a1), (.int p1), (.double v1)] 4)) t := fun t k => k110 t (by
    show Steps p.tables e below (T109.setTop (mkF m 17 #[.val (.ref a1), .val (.int p1), .val (.double v1), .second] [(.ref b1), (.ref a1)])) _
    refine XS.iconst X109.here hx rfl (hb hby d3_17) ?_
    show Steps p.tables e below (T109.setTop (mkF m 18 #[.val (.ref a1), .val (.int p1), .val (.double v1), .second] [(.int (2 : Int32)), (.ref b1), (.ref a1)])) _
    refine XS.aloadN X109.here hx rfl (hb hby d3_18) rfl rfl ?_
    exact k)
  obtain ⟨T112, X112, e112, st112⟩ := getF X109 hx hZ hown (host := "") (Or.inl (hw _ (List.mem_of_getElem? (i := 23) rfl))) Via.refl e109 Fk4 (g := (mkF m 19 #[.val (.ref a1), .val (.int p1), .val (.double v1), .second] [(.ref a1), (.int (2 : Int32)), (.ref b1), (.ref a1)])) rfl rfl (hb hby d3_19)
  have k113 : ∀ t, Steps p.tables e below (T112.setTop (mkF m 22 #[.val (.ref a1), .val (.int p1), .val (.double v1), .second] [(.int (4 : Int32)), (.int (2 : Int32)), (.ref b1), (.ref a1)])) t → Steps p.tables e below (s₁.setTop (entryFrame m #[(.ref a1), (.int p1), (.double v1)] 4)) t := fun t k => k111 t (st112 t k)
  have k114 : ∀ t, Steps p.tables e below (T112.setTop (mkF m 23 #[.val (.ref a1), .val (.int p1), .val (.double v1), .second] [(.int (8 : Int32)), (.ref b1), (.ref a1)])) t → Steps p.tables e below (s₁.setTop (entryFrame m #[(.ref a1), (.int p1), (.double v1)] 4)) t := fun t k => k113 t (by
    show Steps p.tables e below (T112.setTop (mkF m 22 #[.val (.ref a1), .val (.int p1), .val (.double v1), .second] [(.int (4 : Int32)), (.int (2 : Int32)), (.ref b1), (.ref a1)])) _
    refine XS.imul X112.here hx rfl (hb hby d3_22) rfl ?_
    show Steps p.tables e below (T112.setTop (mkF m 23 #[.val (.ref a1), .val (.int p1), .val (.double v1), .second] [(.int ((2 : Int32) * (4 : Int32))), (.ref b1), (.ref a1)])) _
    refine castTop (g' := (mkF m 23 #[.val (.ref a1), .val (.int p1), .val (.double v1), .second] [(.int (8 : Int32)), (.ref b1), (.ref a1)])) (by rw [show ((2 : Int32) * (4 : Int32)) = (8 : Int32) by decide]) ?_
    exact k)
  obtain ⟨_, _, ⟨T115, L115, k115, n115⟩, -, X115, ⟨Lc115, hQ115, l115, y115, z115⟩, st115⟩ := Jvm.LawKit.callS X112 hx (y := (⟨"java/util/Arrays", "copyOf", "([II)[I"⟩ : MethodName)) hown (mvT hZ (hw _ (List.mem_of_getElem? (i := 41) rfl))) (mvT hZ (hw _ (List.mem_of_getElem? (i := 42) rfl))) (mvT hZ (hw _ (List.mem_of_getElem? (i := 43) rfl))) (mvT hZ (hw _ (List.mem_of_getElem? (i := 44) rfl))) (by decide) (backOf (W := 1) (cpI l Z a0 hw [] b1 k1 es0 es1 es2 es3 h0 n0 Z0 Fk6) hZ (hw _ (List.mem_of_getElem? (i := 44) rfl)) (hw _ (List.mem_of_getElem? (i := 43) rfl)) (by decide) (by decide)) (g := (mkF m 23 #[.val (.ref a1), .val (.int p1), .val (.double v1), .second] [(.int (8 : Int32)), (.ref b1), (.ref a1)])) rfl (by rw [hml]; rfl) (argsL := [(.ref b1), (.int (8 : Int32))]) (rest := [(.ref a1)]) (lenOf pd__28_5bII_29_5bI rfl) rfl (by show 2 * 0 + _ ≤ _; exact Nat.le_of_eq rfl) (hb hby d3_23) (fun _ _ => ⟨rfl, e112, (by decide : 0 + 1 ≤ _), (by decide : 0 + 8 ≤ _)⟩)
  dsimp only [Pt.U, Pt.locs, Pt.cells, Pt.slots] at X115 l115 y115 z115 st115 hQ115
  subst l115 y115 z115
  obtain ⟨h115, e115⟩ : ∃ h', T115.heap = h' := ⟨_, rfl⟩
  rw [e115] at hQ115
  obtain ⟨b115, kk115, rfl, N115q, gb115, K115, V115⟩ := hQ115
  have N116 := Fr.app N0 N115q
  have k117 : ∀ t, Steps p.tables e below (T115.setTop (mkF m 26 #[.val (.ref a1), .val (.int p1), .val (.double v1), .second] [(.ref b115), (.ref a1)])) t → Steps p.tables e below (s₁.setTop (entryFrame m #[(.ref a1), (.int p1), (.double v1)] 4)) t := fun t k => k114 t (st115 t k)
  have n118 : a1 ≠ b115 := Nat.ne_of_lt (Nat.lt_of_lt_of_le Fk0.lt (Nat.le_of_eq gb115.symm))
  have n119 : b1 ≠ b115 := Nat.ne_of_lt (Nat.lt_of_lt_of_le Fk6.lt (Nat.le_of_eq gb115.symm))
  have n120 : b2 ≠ b115 := Nat.ne_of_lt (Nat.lt_of_lt_of_le Fk7.lt (Nat.le_of_eq gb115.symm))
  have g121 : n0 ≤ b115 := Nat.le_trans Z0 (Nat.le_of_eq gb115.symm)
  have z122 : h0.size ≤ b115 := Nat.le_trans K0.1 (Nat.le_of_eq gb115.symm)
  have F123 := Fk0.keep K115
  have F124 := Fk1.keep K115 nin0
  have F125 := Fk2.keep K115 nin0
  have F126 := Fk3.keep K115 nin0
  have F127 := Fk4.keep K115 nin0
  have F128 := Fk5.keep K115 nin0
  have F129 := Fk6.keep K115 nin0
  have F130 := Fk7.keep K115 nin0
  have Z131 : n0 ≤ h115.size := Nat.le_trans Z0 K115.1
  have K132 := Keep.trans K0 K115 all0
  obtain ⟨T133, h133, X133, e133, W133, st133⟩ := putF X115 hx hZ hown (host := "") (Or.inl (hw _ (List.mem_of_getElem? (i := 11) rfl))) Via.refl e115 F124 F123 (Or.inl (hw _ (List.mem_of_getElem? (i := 12) rfl))) (hw _ (List.mem_of_getElem? (i := 2) rfl)) (ty := (.array .int)) (by decide) rfl rfl (g := (mkF m 26 #[.val (.ref a1), .val (.int p1), .val (.double v1), .second] [(.ref b115), (.ref a1)])) rfl rfl (hb hby d3_26)
  have F134 := F124.same W133
  have F135 := F123.wr W133
  have F136 := F125.other W133 (Or.inr (slot_ne (Or.inl (hw _ (List.mem_of_getElem? (i := 15) rfl))) (Or.inl (hw _ (List.mem_of_getElem? (i := 12) rfl))) (by decide) (t := (.array .double)) (t' := (.array .int)) (by decide) (by decide)))
  have F137 := F126.other W133 (Or.inr (slot_ne (Or.inr (hw _ (List.mem_of_getElem? (i := 17) rfl))) (Or.inl (hw _ (List.mem_of_getElem? (i := 12) rfl))) (by decide) (t := (.array .double)) (t' := (.array .int)) (by decide) (by decide)))
  have F138 := F127.other W133 (Or.inr (slot_ne (Or.inl (hw _ (List.mem_of_getElem? (i := 24) rfl))) (Or.inl (hw _ (List.mem_of_getElem? (i := 12) rfl))) (by decide) (t := .int) (t' := (.array .int)) (by decide) (by decide)))
  have F139 := F128.other W133 (Or.inr (slot_ne (Or.inl (hw _ (List.mem_of_getElem? (i := 38) rfl))) (Or.inl (hw _ (List.mem_of_getElem? (i := 12) rfl))) (by decide) (t := .boolean) (t' := (.array .int)) (by decide) (by decide)))
  have F140 := F129.other W133 (Ne.symm ne_a1_b1)
  have F141 := F130.other W133 (Ne.symm ne_a1_b2)
  have F142 := V115.other W133 (Ne.symm n118)
  have Z143 : n0 ≤ h133.size := Nat.le_trans Z131 (Nat.le_of_eq W133.size.symm)
  have N144 := Fr.snoc X133 N116 ge_a1
  have K145 := K132.wr W133 (Or.inl (List.mem_of_getElem? (i := 0) rfl))
  have k146 : ∀ t, Steps p.tables e below (T133.setTop (mkF m 29 #[.val (.ref a1), .val (.int p1), .val (.double v1), .second] [])) t → Steps p.tables e below (s₁.setTop (entryFrame m #[(.ref a1), (.int p1), (.double v1)] 4)) t := fun t k => k117 t (st133 t k)
  have k147 : ∀ t, Steps p.tables e below (T133.setTop (mkF m 31 #[.val (.ref a1), .val (.int p1), .val (.double v1), .second] [(.ref a1), (.ref a1)])) t → Steps p.tables e below (s₁.setTop (entryFrame m #[(.ref a1), (.int p1), (.double v1)] 4)) t := fun t k => k146 t (by
    show Steps p.tables e below (T133.setTop (mkF m 29 #[.val (.ref a1), .val (.int p1), .val (.double v1), .second] [])) _
    refine XS.aloadN X133.here hx rfl (hb hby d3_29) rfl rfl ?_
    show Steps p.tables e below (T133.setTop (mkF m 30 #[.val (.ref a1), .val (.int p1), .val (.double v1), .second] [(.ref a1)])) _
    refine XS.aloadN X133.here hx rfl (hb hby d3_30) rfl rfl ?_
    exact k)
  obtain ⟨T148, X148, e148, st148⟩ := getF X133 hx hZ hown (host := "") (Or.inl (hw _ (List.mem_of_getElem? (i := 14) rfl))) Via.refl e133 F136 (g := (mkF m 31 #[.val (.ref a1), .val (.int p1), .val (.double v1), .second] [(.ref a1), (.ref a1)])) rfl rfl (hb hby d3_31)
  have k149 : ∀ t, Steps p.tables e below (T148.setTop (mkF m 34 #[.val (.ref a1), .val (.int p1), .val (.double v1), .second] [(.ref b2), (.ref a1)])) t → Steps p.tables e below (s₁.setTop (entryFrame m #[(.ref a1), (.int p1), (.double v1)] 4)) t := fun t k => k147 t (st148 t k)
  have k150 : ∀ t, Steps p.tables e below (T148.setTop (mkF m 36 #[.val (.ref a1), .val (.int p1), .val (.double v1), .second] [(.ref a1), (.int (2 : Int32)), (.ref b2), (.ref a1)])) t → Steps p.tables e below (s₁.setTop (entryFrame m #[(.ref a1), (.int p1), (.double v1)] 4)) t := fun t k => k149 t (by
    show Steps p.tables e below (T148.setTop (mkF m 34 #[.val (.ref a1), .val (.int p1), .val (.double v1), .second] [(.ref b2), (.ref a1)])) _
    refine XS.iconst X148.here hx rfl (hb hby d3_34) ?_
    show Steps p.tables e below (T148.setTop (mkF m 35 #[.val (.ref a1), .val (.int p1), .val (.double v1), .second] [(.int (2 : Int32)), (.ref b2), (.ref a1)])) _
    refine XS.aloadN X148.here hx rfl (hb hby d3_35) rfl rfl ?_
    exact k)
  obtain ⟨T151, X151, e151, st151⟩ := getF X148 hx hZ hown (host := "") (Or.inl (hw _ (List.mem_of_getElem? (i := 23) rfl))) Via.refl e148 F138 (g := (mkF m 36 #[.val (.ref a1), .val (.int p1), .val (.double v1), .second] [(.ref a1), (.int (2 : Int32)), (.ref b2), (.ref a1)])) rfl rfl (hb hby d3_36)
  have k152 : ∀ t, Steps p.tables e below (T151.setTop (mkF m 39 #[.val (.ref a1), .val (.int p1), .val (.double v1), .second] [(.int (4 : Int32)), (.int (2 : Int32)), (.ref b2), (.ref a1)])) t → Steps p.tables e below (s₁.setTop (entryFrame m #[(.ref a1), (.int p1), (.double v1)] 4)) t := fun t k => k150 t (st151 t k)
  have k153 : ∀ t, Steps p.tables e below (T151.setTop (mkF m 40 #[.val (.ref a1), .val (.int p1), .val (.double v1), .second] [(.int (8 : Int32)), (.ref b2), (.ref a1)])) t → Steps p.tables e below (s₁.setTop (entryFrame m #[(.ref a1), (.int p1), (.double v1)] 4)) t := fun t k => k152 t (by
    show Steps p.tables e below (T151.setTop (mkF m 39 #[.val (.ref a1), .val (.int p1), .val (.double v1), .second] [(.int (4 : Int32)), (.int (2 : Int32)), (.ref b2), (.ref a1)])) _
    refine XS.imul X151.here hx rfl (hb hby d3_39) rfl ?_
    show Steps p.tables e below (T151.setTop (mkF m 40 #[.val (.ref a1), .val (.int p1), .val (.double v1), .second] [(.int ((2 : Int32) * (4 : Int32))), (.ref b2), (.ref a1)])) _
    refine castTop (g' := (mkF m 40 #[.val (.ref a1), .val (.int p1), .val (.double v1), .second] [(.int (8 : Int32)), (.ref b2), (.ref a1)])) (by rw [show ((2 : Int32) * (4 : Int32)) = (8 : Int32) by decide]) ?_
    exact k)
  obtain ⟨_, _, ⟨T154, L154, k154, n154⟩, -, X154, ⟨Lc154, hQ154, l154, y154, z154⟩, st154⟩ := Jvm.LawKit.callS X151 hx (y := (⟨"java/util/Arrays", "copyOf", "([DI)[D"⟩ : MethodName)) hown (mvT hZ (hw _ (List.mem_of_getElem? (i := 53) rfl))) (mvT hZ (hw _ (List.mem_of_getElem? (i := 54) rfl))) (mvT hZ (hw _ (List.mem_of_getElem? (i := 43) rfl))) (mvT hZ (hw _ (List.mem_of_getElem? (i := 55) rfl))) (by decide) (backOf (W := 1) (cpD l Z a0 hw [] b2 k2 g0 g1 g2 g3 h133 n0 Z143 F141) hZ (hw _ (List.mem_of_getElem? (i := 55) rfl)) (hw _ (List.mem_of_getElem? (i := 43) rfl)) (by decide) (by decide)) (g := (mkF m 40 #[.val (.ref a1), .val (.int p1), .val (.double v1), .second] [(.int (8 : Int32)), (.ref b2), (.ref a1)])) rfl (by rw [hml]; rfl) (argsL := [(.ref b2), (.int (8 : Int32))]) (rest := [(.ref a1)]) (lenOf pd__28_5bDI_29_5bD rfl) rfl (by show 2 * 0 + _ ≤ _; exact Nat.le_of_eq rfl) (hb hby d3_40) (fun _ _ => ⟨rfl, e151, (by decide : 1 + 1 ≤ _), (by decide : 8 + 8 ≤ _)⟩)
  dsimp only [Pt.U, Pt.locs, Pt.cells, Pt.slots] at X154 l154 y154 z154 st154 hQ154
  subst l154 y154 z154
  obtain ⟨h154, e154⟩ : ∃ h', T154.heap = h' := ⟨_, rfl⟩
  rw [e154] at hQ154
  obtain ⟨b154, kk154, rfl, N154q, gb154, K154, V154⟩ := hQ154
  have N155 := Fr.app N144 N154q
  have k156 : ∀ t, Steps p.tables e below (T154.setTop (mkF m 43 #[.val (.ref a1), .val (.int p1), .val (.double v1), .second] [(.ref b154), (.ref a1)])) t → Steps p.tables e below (s₁.setTop (entryFrame m #[(.ref a1), (.int p1), (.double v1)] 4)) t := fun t k => k153 t (st154 t k)
  have n157 : a1 ≠ b154 := Nat.ne_of_lt (Nat.lt_of_lt_of_le F135.lt (Nat.le_of_eq gb154.symm))
  have n158 : b1 ≠ b154 := Nat.ne_of_lt (Nat.lt_of_lt_of_le F140.lt (Nat.le_of_eq gb154.symm))
  have n159 : b2 ≠ b154 := Nat.ne_of_lt (Nat.lt_of_lt_of_le F141.lt (Nat.le_of_eq gb154.symm))
  have n160 : b115 ≠ b154 := Nat.ne_of_lt (Nat.lt_of_lt_of_le F142.lt (Nat.le_of_eq gb154.symm))
  have g161 : n0 ≤ b154 := Nat.le_trans Z143 (Nat.le_of_eq gb154.symm)
  have z162 : h0.size ≤ b154 := Nat.le_trans K145.1 (Nat.le_of_eq gb154.symm)
  have F163 := F135.keep K154
  have F164 := F136.keep K154 nin0
  have F165 := F137.keep K154 nin0
  have F166 := F138.keep K154 nin0
  have F167 := F139.keep K154 nin0
  have F168 := F140.keep K154 nin0
  have F169 := F141.keep K154 nin0
  have F170 := F142.keep K154 nin0
  have F171 := F134.keep K154 nin0
  have Z172 : n0 ≤ h154.size := Nat.le_trans Z143 K154.1
  have K173 := Keep.trans K145 K154 all0
  obtain ⟨T174, h174, X174, e174, W174, st174⟩ := putF X154 hx hZ hown (host := "") (Or.inl (hw _ (List.mem_of_getElem? (i := 14) rfl))) Via.refl e154 F164 F163 (Or.inl (hw _ (List.mem_of_getElem? (i := 15) rfl))) (hw _ (List.mem_of_getElem? (i := 2) rfl)) (ty := (.array .double)) (by decide) rfl rfl (g := (mkF m 43 #[.val (.ref a1), .val (.int p1), .val (.double v1), .second] [(.ref b154), (.ref a1)])) rfl rfl (hb hby d3_43)
  have F175 := F164.same W174
  have F176 := F163.wr W174
  have F177 := F165.other W174 (Or.inr (slot_ne (Or.inr (hw _ (List.mem_of_getElem? (i := 17) rfl))) (Or.inl (hw _ (List.mem_of_getElem? (i := 15) rfl))) (by decide) (t := (.array .double)) (t' := (.array .double)) (by decide) (by decide)))
  have F178 := F166.other W174 (Or.inr (slot_ne (Or.inl (hw _ (List.mem_of_getElem? (i := 24) rfl))) (Or.inl (hw _ (List.mem_of_getElem? (i := 15) rfl))) (by decide) (t := .int) (t' := (.array .double)) (by decide) (by decide)))
  have F179 := F167.other W174 (Or.inr (slot_ne (Or.inl (hw _ (List.mem_of_getElem? (i := 38) rfl))) (Or.inl (hw _ (List.mem_of_getElem? (i := 15) rfl))) (by decide) (t := .boolean) (t' := (.array .double)) (by decide) (by decide)))
  have F180 := F168.other W174 (Ne.symm ne_a1_b1)
  have F181 := F169.other W174 (Ne.symm ne_a1_b2)
  have F182 := F170.other W174 (Ne.symm n118)
  have F183 := F171.other W174 (Or.inr (slot_ne (Or.inl (hw _ (List.mem_of_getElem? (i := 12) rfl))) (Or.inl (hw _ (List.mem_of_getElem? (i := 15) rfl))) (by decide) (t := (.array .int)) (t' := (.array .double)) (by decide) (by decide)))
  have F184 := V154.other W174 (Ne.symm n157)
  have Z185 : n0 ≤ h174.size := Nat.le_trans Z172 (Nat.le_of_eq W174.size.symm)
  have N186 := Fr.snoc X174 N155 ge_a1
  have K187 := K173.wr W174 (Or.inl (List.mem_of_getElem? (i := 0) rfl))
  have k188 : ∀ t, Steps p.tables e below (T174.setTop (mkF m 46 #[.val (.ref a1), .val (.int p1), .val (.double v1), .second] [])) t → Steps p.tables e below (s₁.setTop (entryFrame m #[(.ref a1), (.int p1), (.double v1)] 4)) t := fun t k => k156 t (st174 t k)
  have k189 : ∀ t, Steps p.tables e below (T174.setTop (mkF m 47 #[.val (.ref a1), .val (.int p1), .val (.double v1), .second] [(.ref a1)])) t → Steps p.tables e below (s₁.setTop (entryFrame m #[(.ref a1), (.int p1), (.double v1)] 4)) t := fun t k => k188 t (by
    show Steps p.tables e below (T174.setTop (mkF m 46 #[.val (.ref a1), .val (.int p1), .val (.double v1), .second] [])) _
    refine XS.aloadN X174.here hx rfl (hb hby d3_46) rfl rfl ?_
    exact k)
  obtain ⟨T190, X190, e190, st190⟩ := getF X174 hx hZ hown (host := "") (Or.inl (hw _ (List.mem_of_getElem? (i := 11) rfl))) Via.refl e174 F183 (g := (mkF m 47 #[.val (.ref a1), .val (.int p1), .val (.double v1), .second] [(.ref a1)])) rfl rfl (hb hby d3_47)
  have k191 : ∀ t, Steps p.tables e below (T190.setTop (mkF m 50 #[.val (.ref a1), .val (.int p1), .val (.double v1), .second] [(.ref b115)])) t → Steps p.tables e below (s₁.setTop (entryFrame m #[(.ref a1), (.int p1), (.double v1)] 4)) t := fun t k => k189 t (st190 t k)
  have k192 : ∀ t, Steps p.tables e below (T190.setTop (mkF m 51 #[.val (.ref a1), .val (.int p1), .val (.double v1), .second] [(.ref a1), (.ref b115)])) t → Steps p.tables e below (s₁.setTop (entryFrame m #[(.ref a1), (.int p1), (.double v1)] 4)) t := fun t k => k191 t (by
    show Steps p.tables e below (T190.setTop (mkF m 50 #[.val (.ref a1), .val (.int p1), .val (.double v1), .second] [(.ref b115)])) _
    refine XS.aloadN X190.here hx rfl (hb hby d3_50) rfl rfl ?_
    exact k)
  obtain ⟨T193, X193, e193, st193⟩ := getF X190 hx hZ hown (host := "") (Or.inl (hw _ (List.mem_of_getElem? (i := 23) rfl))) Via.refl e190 F178 (g := (mkF m 51 #[.val (.ref a1), .val (.int p1), .val (.double v1), .second] [(.ref a1), (.ref b115)])) rfl rfl (hb hby d3_51)
  have k194 : ∀ t, Steps p.tables e below (T193.setTop (mkF m 54 #[.val (.ref a1), .val (.int p1), .val (.double v1), .second] [(.int (4 : Int32)), (.ref b115)])) t → Steps p.tables e below (s₁.setTop (entryFrame m #[(.ref a1), (.int p1), (.double v1)] 4)) t := fun t k => k192 t (st193 t k)
  have k195 : ∀ t, Steps p.tables e below (T193.setTop (mkF m 55 #[.val (.ref a1), .val (.int p1), .val (.double v1), .second] [(.int p1), (.int (4 : Int32)), (.ref b115)])) t → Steps p.tables e below (s₁.setTop (entryFrame m #[(.ref a1), (.int p1), (.double v1)] 4)) t := fun t k => k194 t (by
    show Steps p.tables e below (T193.setTop (mkF m 54 #[.val (.ref a1), .val (.int p1), .val (.double v1), .second] [(.int (4 : Int32)), (.ref b115)])) _
    refine XS.iloadN X193.here hx rfl (hb hby d3_54) rfl ?_
    exact k)
  obtain ⟨c196, Ar196, Aq196, As196, An196, Ah196, Ag196⟩ := id F182
  have hin196 : ¬ ((4 : Int32) < 0 ∨ c196.slots.size ≤ ((4 : Int32)).toNatClampNeg) := inb_of As196 ⟨by decide, by decide⟩
  obtain ⟨T196, h196, X196, e196, W196, st196⟩ := stI X193 hx hZ e193 Ar196 (j := (4 : Int32)) hin196 (g := (mkF m 55 #[.val (.ref a1), .val (.int p1), .val (.double v1), .second] [(.int p1), (.int (4 : Int32)), (.ref b115)])) rfl rfl (hb hby d3_55)
  have V197 := Arv.set Ar196 Aq196 As196 An196 Ah196 Ag196 rfl W196 4 rfl (Nat.le_of_ble_eq_true rfl)
  have F198 := F176.wr W196
  have F199 := F177.other W196 (Or.inl n118)
  have F200 := F178.other W196 (Or.inl n118)
  have F201 := F179.other W196 (Or.inl n118)
  have F202 := F180.other W196 n119
  have F203 := F181.other W196 n120
  have F204 := F183.other W196 (Or.inl n118)
  have F205 := F184.other W196 (Ne.symm n160)
  have F206 := F175.other W196 (Or.inl n118)
  have Z207 : n0 ≤ h196.size := Nat.le_trans Z185 (Nat.le_of_eq W196.size.symm)
  have N208 := Fr.snoc X196 N186 g121
  have K209 := K187.wr W196 (Or.inr z122)
  have k210 : ∀ t, Steps p.tables e below (T196.setTop (mkF m 56 #[.val (.ref a1), .val (.int p1), .val (.double v1), .second] [])) t → Steps p.tables e below (s₁.setTop (entryFrame m #[(.ref a1), (.int p1), (.double v1)] 4)) t := fun t k => k195 t (st196 t k)
  have k211 : ∀ t, Steps p.tables e below (T196.setTop (mkF m 57 #[.val (.ref a1), .val (.int p1), .val (.double v1), .second] [(.ref a1)])) t → Steps p.tables e below (s₁.setTop (entryFrame m #[(.ref a1), (.int p1), (.double v1)] 4)) t := fun t k => k210 t (by
    show Steps p.tables e below (T196.setTop (mkF m 56 #[.val (.ref a1), .val (.int p1), .val (.double v1), .second] [])) _
    refine XS.aloadN X196.here hx rfl (hb hby d3_56) rfl rfl ?_
    exact k)
  obtain ⟨T212, X212, e212, st212⟩ := getF X196 hx hZ hown (host := "") (Or.inl (hw _ (List.mem_of_getElem? (i := 14) rfl))) Via.refl e196 F206 (g := (mkF m 57 #[.val (.ref a1), .val (.int p1), .val (.double v1), .second] [(.ref a1)])) rfl rfl (hb hby d3_57)
  have k213 : ∀ t, Steps p.tables e below (T212.setTop (mkF m 60 #[.val (.ref a1), .val (.int p1), .val (.double v1), .second] [(.ref b154)])) t → Steps p.tables e below (s₁.setTop (entryFrame m #[(.ref a1), (.int p1), (.double v1)] 4)) t := fun t k => k211 t (st212 t k)
  have k214 : ∀ t, Steps p.tables e below (T212.setTop (mkF m 61 #[.val (.ref a1), .val (.int p1), .val (.double v1), .second] [(.ref a1), (.ref b154)])) t → Steps p.tables e below (s₁.setTop (entryFrame m #[(.ref a1), (.int p1), (.double v1)] 4)) t := fun t k => k213 t (by
    show Steps p.tables e below (T212.setTop (mkF m 60 #[.val (.ref a1), .val (.int p1), .val (.double v1), .second] [(.ref b154)])) _
    refine XS.aloadN X212.here hx rfl (hb hby d3_60) rfl rfl ?_
    exact k)
  obtain ⟨T215, X215, e215, st215⟩ := getF X212 hx hZ hown (host := "") (Or.inl (hw _ (List.mem_of_getElem? (i := 23) rfl))) Via.refl e212 F200 (g := (mkF m 61 #[.val (.ref a1), .val (.int p1), .val (.double v1), .second] [(.ref a1), (.ref b154)])) rfl rfl (hb hby d3_61)
  have k216 : ∀ t, Steps p.tables e below (T215.setTop (mkF m 64 #[.val (.ref a1), .val (.int p1), .val (.double v1), .second] [(.int (4 : Int32)), (.ref b154)])) t → Steps p.tables e below (s₁.setTop (entryFrame m #[(.ref a1), (.int p1), (.double v1)] 4)) t := fun t k => k214 t (st215 t k)
  have k217 : ∀ t, Steps p.tables e below (T215.setTop (mkF m 65 #[.val (.ref a1), .val (.int p1), .val (.double v1), .second] [(.double v1), (.int (4 : Int32)), (.ref b154)])) t → Steps p.tables e below (s₁.setTop (entryFrame m #[(.ref a1), (.int p1), (.double v1)] 4)) t := fun t k => k216 t (by
    show Steps p.tables e below (T215.setTop (mkF m 64 #[.val (.ref a1), .val (.int p1), .val (.double v1), .second] [(.int (4 : Int32)), (.ref b154)])) _
    refine XS.dloadN X215.here hx rfl (hb hby d3_64) rfl ?_
    exact k)
  obtain ⟨c218, Ar218, Aq218, As218, An218, Ah218, Ag218⟩ := id F205
  have hin218 : ¬ ((4 : Int32) < 0 ∨ c218.slots.size ≤ ((4 : Int32)).toNatClampNeg) := inb_of As218 ⟨by decide, by decide⟩
  obtain ⟨T218, h218, X218, e218, W218, st218⟩ := stD X215 hx hZ e215 Ar218 (j := (4 : Int32)) hin218 (g := (mkF m 65 #[.val (.ref a1), .val (.int p1), .val (.double v1), .second] [(.double v1), (.int (4 : Int32)), (.ref b154)])) rfl rfl (hb hby d3_65)
  have V219 := Arv.set Ar218 Aq218 As218 An218 Ah218 Ag218 rfl W218 4 rfl (Nat.le_of_ble_eq_true rfl)
  have F220 := F198.wr W218
  have F221 := F199.other W218 (Or.inl n157)
  have F222 := F200.other W218 (Or.inl n157)
  have F223 := F201.other W218 (Or.inl n157)
  have F224 := F202.other W218 n158
  have F225 := F203.other W218 n159
  have F226 := F204.other W218 (Or.inl n157)
  have F227 := F206.other W218 (Or.inl n157)
  have F228 := V197.other W218 n160
  have Z229 : n0 ≤ h218.size := Nat.le_trans Z207 (Nat.le_of_eq W218.size.symm)
  have N230 := Fr.snoc X218 N208 g161
  have K231 := K209.wr W218 (Or.inr z162)
  have k232 : ∀ t, Steps p.tables e below (T218.setTop (mkF m 66 #[.val (.ref a1), .val (.int p1), .val (.double v1), .second] [])) t → Steps p.tables e below (s₁.setTop (entryFrame m #[(.ref a1), (.int p1), (.double v1)] 4)) t := fun t k => k217 t (st218 t k)
  have k233 : ∀ t, Steps p.tables e below (T218.setTop (mkF m 68 #[.val (.ref a1), .val (.int p1), .val (.double v1), .second] [(.ref a1), (.ref a1)])) t → Steps p.tables e below (s₁.setTop (entryFrame m #[(.ref a1), (.int p1), (.double v1)] 4)) t := fun t k => k232 t (by
    show Steps p.tables e below (T218.setTop (mkF m 66 #[.val (.ref a1), .val (.int p1), .val (.double v1), .second] [])) _
    refine XS.aloadN X218.here hx rfl (hb hby d3_66) rfl rfl ?_
    show Steps p.tables e below (T218.setTop (mkF m 67 #[.val (.ref a1), .val (.int p1), .val (.double v1), .second] [(.ref a1)])) _
    refine XS.dup X218.here hx rfl (hb hby d3_67) rfl rfl ?_
    exact k)
  obtain ⟨T234, X234, e234, st234⟩ := getF X218 hx hZ hown (host := "") (Or.inl (hw _ (List.mem_of_getElem? (i := 23) rfl))) Via.refl e218 F222 (g := (mkF m 68 #[.val (.ref a1), .val (.int p1), .val (.double v1), .second] [(.ref a1), (.ref a1)])) rfl rfl (hb hby d3_68)
  have k235 : ∀ t, Steps p.tables e below (T234.setTop (mkF m 71 #[.val (.ref a1), .val (.int p1), .val (.double v1), .second] [(.int (4 : Int32)), (.ref a1)])) t → Steps p.tables e below (s₁.setTop (entryFrame m #[(.ref a1), (.int p1), (.double v1)] 4)) t := fun t k => k233 t (st234 t k)
  have k236 : ∀ t, Steps p.tables e below (T234.setTop (mkF m 73 #[.val (.ref a1), .val (.int p1), .val (.double v1), .second] [(.int (5 : Int32)), (.ref a1)])) t → Steps p.tables e below (s₁.setTop (entryFrame m #[(.ref a1), (.int p1), (.double v1)] 4)) t := fun t k => k235 t (by
    show Steps p.tables e below (T234.setTop (mkF m 71 #[.val (.ref a1), .val (.int p1), .val (.double v1), .second] [(.int (4 : Int32)), (.ref a1)])) _
    refine XS.iconst X234.here hx rfl (hb hby d3_71) ?_
    show Steps p.tables e below (T234.setTop (mkF m 72 #[.val (.ref a1), .val (.int p1), .val (.double v1), .second] [(.int (1 : Int32)), (.int (4 : Int32)), (.ref a1)])) _
    refine XS.iadd X234.here hx rfl (hb hby d3_72) rfl ?_
    show Steps p.tables e below (T234.setTop (mkF m 73 #[.val (.ref a1), .val (.int p1), .val (.double v1), .second] [(.int ((4 : Int32) + (1 : Int32))), (.ref a1)])) _
    refine castTop (g' := (mkF m 73 #[.val (.ref a1), .val (.int p1), .val (.double v1), .second] [(.int (5 : Int32)), (.ref a1)])) (by rw [show ((4 : Int32) + (1 : Int32)) = (5 : Int32) by decide]) ?_
    exact k)
  obtain ⟨T237, h237, X237, e237, W237, st237⟩ := putF X234 hx hZ hown (host := "") (Or.inl (hw _ (List.mem_of_getElem? (i := 23) rfl))) Via.refl e234 F222 F220 (Or.inl (hw _ (List.mem_of_getElem? (i := 24) rfl))) (hw _ (List.mem_of_getElem? (i := 2) rfl)) (ty := .int) (by decide) rfl rfl (g := (mkF m 73 #[.val (.ref a1), .val (.int p1), .val (.double v1), .second] [(.int (5 : Int32)), (.ref a1)])) rfl rfl (hb hby d3_73)
  have F238 := F222.same W237
  have F239 := F220.wr W237
  have F240 := F221.other W237 (Or.inr (slot_ne (Or.inr (hw _ (List.mem_of_getElem? (i := 17) rfl))) (Or.inl (hw _ (List.mem_of_getElem? (i := 24) rfl))) (by decide) (t := (.array .double)) (t' := .int) (by decide) (by decide)))
  have F241 := F223.other W237 (Or.inr (slot_ne (Or.inl (hw _ (List.mem_of_getElem? (i := 38) rfl))) (Or.inl (hw _ (List.mem_of_getElem? (i := 24) rfl))) (by decide) (t := .boolean) (t' := .int) (by decide) (by decide)))
  have F242 := F224.other W237 (Ne.symm ne_a1_b1)
  have F243 := F225.other W237 (Ne.symm ne_a1_b2)
  have F244 := F226.other W237 (Or.inr (slot_ne (Or.inl (hw _ (List.mem_of_getElem? (i := 12) rfl))) (Or.inl (hw _ (List.mem_of_getElem? (i := 24) rfl))) (by decide) (t := (.array .int)) (t' := .int) (by decide) (by decide)))
  have F245 := F227.other W237 (Or.inr (slot_ne (Or.inl (hw _ (List.mem_of_getElem? (i := 15) rfl))) (Or.inl (hw _ (List.mem_of_getElem? (i := 24) rfl))) (by decide) (t := (.array .double)) (t' := .int) (by decide) (by decide)))
  have F246 := F228.other W237 (Ne.symm n118)
  have F247 := V219.other W237 (Ne.symm n157)
  have Z248 : n0 ≤ h237.size := Nat.le_trans Z229 (Nat.le_of_eq W237.size.symm)
  have N249 := Fr.snoc X237 N230 ge_a1
  have K250 := K231.wr W237 (Or.inl (List.mem_of_getElem? (i := 0) rfl))
  have k251 : ∀ t, Steps p.tables e below (T237.setTop (mkF m 76 #[.val (.ref a1), .val (.int p1), .val (.double v1), .second] [])) t → Steps p.tables e below (s₁.setTop (entryFrame m #[(.ref a1), (.int p1), (.double v1)] 4)) t := fun t k => k236 t (st237 t k)
  obtain ⟨fs, hr, hrun, hended, hW, hsame⟩ := X237.leave (v := none) (fun _ => rfl)
  refine ⟨_, _, k251 _ (X237.returnOut hx Bd.returns (hb hby d3_76) hr), hrun, hended, _, _, rfl, ?_, ⟨_, rfl⟩, hW, hsame.mono (by decide) (by decide)⟩
  show Q_av4 Z a1 b1 b2 b3 k1 k2 p1 v1 y0 es0 es1 es2 es3 g0 g1 g2 g3 h0 n0 _ T237.heap _
  rw [e237]
  exact ⟨rfl, N249, K250, F239, F240, F238, F241⟩
theorem ef_4_R (m : MethodId) (x0 : Addr) : entryFrame m #[(.ref x0)] 8 = mkF m 0 #[.val (.ref x0), .unset, .unset, .unset, .unset, .unset, .unset, .unset] [] := by first | (simp [entryFrame, mkF, argsToLocals, Value.category]; done) | rfl
theorem d4_0 : decode prog_54_method_10_code 0 = .ok (.aload_n 0, 1) := by decide +kernel
theorem d4_1 : decode prog_54_method_10_code 1 = .ok (.getfield 39, 3) := by decide +kernel
theorem d4_4 : decode prog_54_method_10_code 4 = .ok (.i2d, 1) := by decide +kernel
theorem d4_5 : decode prog_54_method_10_code 5 = .ok (.dstore_n 1, 1) := by decide +kernel
theorem d4_6 : decode prog_54_method_10_code 6 = .ok (.aload_n 0, 1) := by decide +kernel
theorem d4_7 : decode prog_54_method_10_code 7 = .ok (.getfield 26, 3) := by decide +kernel
theorem d4_10 : decode prog_54_method_10_code 10 = .ok (.astore_n 3, 1) := by decide +kernel
theorem d4_11 : decode prog_54_method_10_code 11 = .ok (.aload_n 3, 1) := by decide +kernel
theorem d4_12 : decode prog_54_method_10_code 12 = .ok (.arraylength, 1) := by decide +kernel
theorem d4_13 : decode prog_54_method_10_code 13 = .ok (.istore 4, 2) := by decide +kernel
theorem d4_15 : decode prog_54_method_10_code 15 = .ok (.iconst 0, 1) := by decide +kernel
theorem d4_16 : decode prog_54_method_10_code 16 = .ok (.istore 5, 2) := by decide +kernel
theorem d4_18 : decode prog_54_method_10_code 18 = .ok (.iload 5, 2) := by decide +kernel
theorem d4_20 : decode prog_54_method_10_code 20 = .ok (.iload 4, 2) := by decide +kernel
theorem d4_22 : decode prog_54_method_10_code 22 = .ok (.if_icmp .ge 20, 3) := by decide +kernel
theorem d4_42 : decode prog_54_method_10_code 42 = .ok (.dload_n 1, 1) := by decide +kernel
theorem d4_43 : decode prog_54_method_10_code 43 = .ok (.dreturn, 1) := by decide +kernel
def Q_tot0 (Z : State) (a1 : Addr) (b3 : Addr) (k3 : ClassId) (p2 : Int32) (h0 : Heap) (n0 : Nat) (v : Option Value) (h : Heap) (L : List Loc) : Prop := v = some (.double (FP.i2d p2)) ∧ Fr n0 L ∧ h = h0
set_option maxRecDepth 65536 in
set_option maxHeartbeats 40000000 in
theorem tot0 (l : Launch) (Z : State) (a0 : Array Value) (hw : ∀ d ∈ tables_1, d.before a0 Z = true) (ws : List Jvm.Cond) (a1 : Addr) (b3 : Addr) (k3 : ClassId) (p2 : Int32) (h0 : Heap) (n0 : Nat) (Z0 : n0 ≤ h0.size) (Fk0 : Fld Z h0 a1 "com/example/istra/istra/model/Transfer" "fluid" "[D" (.ref b3)) (Fk1 : Fld Z h0 a1 "com/example/istra/istra/model/Transfer" "vehicles" "I" (.int p2)) (Fk2 : Arv Z h0 b3 k3 .double (0 : Int32) [] (.double (0 : UInt64))) :
    MetFree l (⟨"com/example/istra/istra/model/Transfer", "total", "()D"⟩ : MethodName) (head1 (Jvm.Cond.code (⟨"com/example/istra/istra/model/Transfer", "total", "()D"⟩ : MethodName) prog_54_method_10_code 8 (some .double) :: ws) ({ frames := 0, cells := 0, slots := 0, locals := 0 } : Room)) (fun a U => a = #[(.ref a1)] ∧ Z.Warmed39 U.vm ∧ U.heap = h0) (fun _ _ _ _ _ => True) (fun _ U o U' => ∃ v L, o = .returned v ∧ Q_tot0 Z a1 b3 k3 p2 h0 n0 v U'.heap L ∧ FrameEnd U o U' L ({ frames := 0, cells := 0, slots := 0, locals := 0 } : Room).cells ({ frames := 0, cells := 0, slots := 0, locals := 0 } : Room).slots) := by
  refine MetFree.of_bodySF (plainFor_of_name pn_com_2fexample_2fistra_2fistra_2fmodel_2fTransfer) hisR ?_
  intro p e s m args below meth c s₁ Bd hml0 hP hK
  obtain ⟨rfl, hZ, hh⟩ := hP
  have hx := Bd.exec
  have hby := Bd.bytes
  have hml : c.maxLocals = 8 := hml0
  have hown : s.vm.findClass "com/example/istra/istra/model/Transfer" = some m.cls := findClass_of_methodNamed Bd.named
  have hnm := (name_of_methodNamed Bd.named Bd.method).1
  have X0 : Stand p l e ({ frames := 0, cells := 0, slots := 0, locals := 0 } : Room) s m #[(.ref a1)] below meth c s₁ [] 0 0 := Stand.of_body Bd
  have e0 : s₁.heap = h0 := by rw [← hh, Bd.state]; rfl
  have N0 := Fr.nil n0
  have k0 : ∀ t, Steps p.tables e below (s₁.setTop (mkF m 0 #[.val (.ref a1), .unset, .unset, .unset, .unset, .unset, .unset, .unset] [])) t → Steps p.tables e below (s₁.setTop (entryFrame m #[(.ref a1)] 8)) t := fun t k => castTop (ef_4_R m a1) k
  have k101 : ∀ t, Steps p.tables e below (s₁.setTop (mkF m 1 #[.val (.ref a1), .unset, .unset, .unset, .unset, .unset, .unset, .unset] [(.ref a1)])) t → Steps p.tables e below (s₁.setTop (entryFrame m #[(.ref a1)] 8)) t := fun t k => k0 t (by
    show Steps p.tables e below (s₁.setTop (mkF m 0 #[.val (.ref a1), .unset, .unset, .unset, .unset, .unset, .unset, .unset] [])) _
    refine XS.aloadN X0.here hx rfl (hb hby d4_0) rfl rfl ?_
    exact k)
  obtain ⟨T102, X102, e102, st102⟩ := getF X0 hx hZ hown (host := "") (Or.inl (hw _ (List.mem_of_getElem? (i := 23) rfl))) Via.refl e0 Fk1 (g := (mkF m 1 #[.val (.ref a1), .unset, .unset, .unset, .unset, .unset, .unset, .unset] [(.ref a1)])) rfl rfl (hb hby d4_1)
  have k103 : ∀ t, Steps p.tables e below (T102.setTop (mkF m 4 #[.val (.ref a1), .unset, .unset, .unset, .unset, .unset, .unset, .unset] [(.int p2)])) t → Steps p.tables e below (s₁.setTop (entryFrame m #[(.ref a1)] 8)) t := fun t k => k101 t (st102 t k)
  have k104 : ∀ t, Steps p.tables e below (T102.setTop (mkF m 7 #[.val (.ref a1), .val (.double (FP.i2d p2)), .second, .unset, .unset, .unset, .unset, .unset] [(.ref a1)])) t → Steps p.tables e below (s₁.setTop (entryFrame m #[(.ref a1)] 8)) t := fun t k => k103 t (by
    show Steps p.tables e below (T102.setTop (mkF m 4 #[.val (.ref a1), .unset, .unset, .unset, .unset, .unset, .unset, .unset] [(.int p2)])) _
    refine XS.i2dS X102.here hx rfl (hb hby d4_4) rfl rfl ?_
    show Steps p.tables e below (T102.setTop (mkF m 5 #[.val (.ref a1), .unset, .unset, .unset, .unset, .unset, .unset, .unset] [(.double (FP.i2d p2))])) _
    refine XS.dstoreN X102.here hx rfl (hb hby d4_5) rfl (l' := #[.val (.ref a1), .val (.double (FP.i2d p2)), .second, .unset, .unset, .unset, .unset, .unset]) rfl ?_
    show Steps p.tables e below (T102.setTop (mkF m 6 #[.val (.ref a1), .val (.double (FP.i2d p2)), .second, .unset, .unset, .unset, .unset, .unset] [])) _
    refine XS.aloadN X102.here hx rfl (hb hby d4_6) rfl rfl ?_
    exact k)
  obtain ⟨T105, X105, e105, st105⟩ := getF X102 hx hZ hown (host := "") (Or.inl (hw _ (List.mem_of_getElem? (i := 16) rfl))) Via.refl e102 Fk0 (g := (mkF m 7 #[.val (.ref a1), .val (.double (FP.i2d p2)), .second, .unset, .unset, .unset, .unset, .unset] [(.ref a1)])) rfl rfl (hb hby d4_7)
  have k106 : ∀ t, Steps p.tables e below (T105.setTop (mkF m 10 #[.val (.ref a1), .val (.double (FP.i2d p2)), .second, .unset, .unset, .unset, .unset, .unset] [(.ref b3)])) t → Steps p.tables e below (s₁.setTop (entryFrame m #[(.ref a1)] 8)) t := fun t k => k104 t (st105 t k)
  have k107 : ∀ t, Steps p.tables e below (T105.setTop (mkF m 12 #[.val (.ref a1), .val (.double (FP.i2d p2)), .second, .val (.ref b3), .unset, .unset, .unset, .unset] [(.ref b3)])) t → Steps p.tables e below (s₁.setTop (entryFrame m #[(.ref a1)] 8)) t := fun t k => k106 t (by
    show Steps p.tables e below (T105.setTop (mkF m 10 #[.val (.ref a1), .val (.double (FP.i2d p2)), .second, .unset, .unset, .unset, .unset, .unset] [(.ref b3)])) _
    refine XS.astoreN X105.here hx rfl (hb hby d4_10) rfl rfl (l' := #[.val (.ref a1), .val (.double (FP.i2d p2)), .second, .val (.ref b3), .unset, .unset, .unset, .unset]) rfl ?_
    show Steps p.tables e below (T105.setTop (mkF m 11 #[.val (.ref a1), .val (.double (FP.i2d p2)), .second, .val (.ref b3), .unset, .unset, .unset, .unset] [])) _
    refine XS.aloadN X105.here hx rfl (hb hby d4_11) rfl rfl ?_
    exact k)
  obtain ⟨c108, Ar108, -, As108, An108, -, -⟩ := id Fk2
  have k109 : ∀ t, Steps p.tables e below (T105.setTop (mkF m 43 #[.val (.ref a1), .val (.double (FP.i2d p2)), .second, .val (.ref b3), .val (.int (0 : Int32)), .val (.int (0 : Int32)), .unset, .unset] [(.double (FP.i2d p2))])) t → Steps p.tables e below (s₁.setTop (entryFrame m #[(.ref a1)] 8)) t := fun t k => k107 t (by
    show Steps p.tables e below (T105.setTop (mkF m 12 #[.val (.ref a1), .val (.double (FP.i2d p2)), .second, .val (.ref b3), .unset, .unset, .unset, .unset] [(.ref b3)])) _
    refine X105.arraylength hx (by rw [e105]; exact Ar108.1) (State.isArrayOf_alike hZ.alike Ar108.2.1) (g := (mkF m 12 #[.val (.ref a1), .val (.double (FP.i2d p2)), .second, .val (.ref b3), .unset, .unset, .unset, .unset] [(.ref b3)])) rfl rfl (hb hby d4_12) _ ?_
    rw [len_of As108 An108]
    show Steps p.tables e below (T105.setTop (mkF m 13 #[.val (.ref a1), .val (.double (FP.i2d p2)), .second, .val (.ref b3), .unset, .unset, .unset, .unset] [(.int (0 : Int32))])) _
    refine XS.istore X105.here hx rfl (hb hby d4_13) rfl (l' := #[.val (.ref a1), .val (.double (FP.i2d p2)), .second, .val (.ref b3), .val (.int (0 : Int32)), .unset, .unset, .unset]) rfl ?_
    show Steps p.tables e below (T105.setTop (mkF m 15 #[.val (.ref a1), .val (.double (FP.i2d p2)), .second, .val (.ref b3), .val (.int (0 : Int32)), .unset, .unset, .unset] [])) _
    refine XS.iconst X105.here hx rfl (hb hby d4_15) ?_
    show Steps p.tables e below (T105.setTop (mkF m 16 #[.val (.ref a1), .val (.double (FP.i2d p2)), .second, .val (.ref b3), .val (.int (0 : Int32)), .unset, .unset, .unset] [(.int (0 : Int32))])) _
    refine XS.istore X105.here hx rfl (hb hby d4_16) rfl (l' := #[.val (.ref a1), .val (.double (FP.i2d p2)), .second, .val (.ref b3), .val (.int (0 : Int32)), .val (.int (0 : Int32)), .unset, .unset]) rfl ?_
    show Steps p.tables e below (T105.setTop (mkF m 18 #[.val (.ref a1), .val (.double (FP.i2d p2)), .second, .val (.ref b3), .val (.int (0 : Int32)), .val (.int (0 : Int32)), .unset, .unset] [])) _
    refine XS.iload X105.here hx rfl (hb hby d4_18) rfl ?_
    show Steps p.tables e below (T105.setTop (mkF m 20 #[.val (.ref a1), .val (.double (FP.i2d p2)), .second, .val (.ref b3), .val (.int (0 : Int32)), .val (.int (0 : Int32)), .unset, .unset] [(.int (0 : Int32))])) _
    refine XS.iload X105.here hx rfl (hb hby d4_20) rfl ?_
    show Steps p.tables e below (T105.setTop (mkF m 22 #[.val (.ref a1), .val (.double (FP.i2d p2)), .second, .val (.ref b3), .val (.int (0 : Int32)), .val (.int (0 : Int32)), .unset, .unset] [(.int (0 : Int32)), (.int (0 : Int32))])) _
    refine XS.icmpYes X105.here hx rfl (pc0 := 22) (pc' := 42) rfl (hb hby d4_22) rfl (flt (by decide)).2.1 (by decide) (by decide) ?_
    show Steps p.tables e below (T105.setTop (mkF m 42 #[.val (.ref a1), .val (.double (FP.i2d p2)), .second, .val (.ref b3), .val (.int (0 : Int32)), .val (.int (0 : Int32)), .unset, .unset] [])) _
    refine XS.dloadN X105.here hx rfl (hb hby d4_42) rfl ?_
    exact k)
  obtain ⟨fs, hr, hrun, hended, hW, hsame⟩ := X105.leave (v := some (.double (FP.i2d p2))) (fun h => by rw [Bd.returns] at h; cases h)
  refine ⟨_, _, k109 _ (retOut X105 hx (t := .double) Bd.returns rfl (Or.inr (Or.inr (Or.inl ⟨rfl, rfl, _, rfl⟩))) (hb hby d4_43) hr), hrun, hended, _, _, rfl, ?_, ⟨_, rfl⟩, hW, hsame.mono (by decide) (by decide)⟩
  show Q_tot0 Z a1 b3 k3 p2 h0 n0 _ T105.heap _
  rw [e105]
  exact ⟨rfl, N0, rfl⟩
theorem d4_25 : decode prog_54_method_10_code 25 = .ok (.aload_n 3, 1) := by decide +kernel
theorem d4_26 : decode prog_54_method_10_code 26 = .ok (.iload 5, 2) := by decide +kernel
theorem d4_28 : decode prog_54_method_10_code 28 = .ok (.daload, 1) := by decide +kernel
theorem d4_29 : decode prog_54_method_10_code 29 = .ok (.dstore 6, 2) := by decide +kernel
theorem d4_31 : decode prog_54_method_10_code 31 = .ok (.dload_n 1, 1) := by decide +kernel
theorem d4_32 : decode prog_54_method_10_code 32 = .ok (.dload 6, 2) := by decide +kernel
theorem d4_34 : decode prog_54_method_10_code 34 = .ok (.dadd, 1) := by decide +kernel
theorem d4_35 : decode prog_54_method_10_code 35 = .ok (.dstore_n 1, 1) := by decide +kernel
theorem d4_36 : decode prog_54_method_10_code 36 = .ok (.iinc 5 1, 3) := by decide +kernel
theorem d4_39 : decode prog_54_method_10_code 39 = .ok (.goto (-21), 3) := by decide +kernel
def Q_tot1 (Z : State) (a1 : Addr) (b3 : Addr) (k3 : ClassId) (p2 : Int32) (u0 : UInt64) (h0 : Heap) (n0 : Nat) (v : Option Value) (h : Heap) (L : List Loc) : Prop := v = some (.double (FP.dadd (FP.i2d p2) u0)) ∧ Fr n0 L ∧ h = h0
set_option maxRecDepth 65536 in
set_option maxHeartbeats 40000000 in
theorem tot1 (l : Launch) (Z : State) (a0 : Array Value) (hw : ∀ d ∈ tables_1, d.before a0 Z = true) (ws : List Jvm.Cond) (a1 : Addr) (b3 : Addr) (k3 : ClassId) (p2 : Int32) (u0 : UInt64) (h0 : Heap) (n0 : Nat) (Z0 : n0 ≤ h0.size) (Fk0 : Fld Z h0 a1 "com/example/istra/istra/model/Transfer" "fluid" "[D" (.ref b3)) (Fk1 : Fld Z h0 a1 "com/example/istra/istra/model/Transfer" "vehicles" "I" (.int p2)) (Fk2 : Arv Z h0 b3 k3 .double (1 : Int32) [(.double u0)] (.double (0 : UInt64))) (na0 : Jvm.Free.Fl.NoNaN64 (FP.dadd (FP.i2d p2) u0)) :
    MetFree l (⟨"com/example/istra/istra/model/Transfer", "total", "()D"⟩ : MethodName) (head1 (Jvm.Cond.code (⟨"com/example/istra/istra/model/Transfer", "total", "()D"⟩ : MethodName) prog_54_method_10_code 8 (some .double) :: ws) ({ frames := 0, cells := 0, slots := 0, locals := 0 } : Room)) (fun a U => a = #[(.ref a1)] ∧ Z.Warmed39 U.vm ∧ U.heap = h0) (fun _ _ _ _ _ => True) (fun _ U o U' => ∃ v L, o = .returned v ∧ Q_tot1 Z a1 b3 k3 p2 u0 h0 n0 v U'.heap L ∧ FrameEnd U o U' L ({ frames := 0, cells := 0, slots := 0, locals := 0 } : Room).cells ({ frames := 0, cells := 0, slots := 0, locals := 0 } : Room).slots) := by
  refine MetFree.of_bodySF (plainFor_of_name pn_com_2fexample_2fistra_2fistra_2fmodel_2fTransfer) hisR ?_
  intro p e s m args below meth c s₁ Bd hml0 hP hK
  obtain ⟨rfl, hZ, hh⟩ := hP
  have hx := Bd.exec
  have hby := Bd.bytes
  have hml : c.maxLocals = 8 := hml0
  have hown : s.vm.findClass "com/example/istra/istra/model/Transfer" = some m.cls := findClass_of_methodNamed Bd.named
  have hnm := (name_of_methodNamed Bd.named Bd.method).1
  have X0 : Stand p l e ({ frames := 0, cells := 0, slots := 0, locals := 0 } : Room) s m #[(.ref a1)] below meth c s₁ [] 0 0 := Stand.of_body Bd
  have e0 : s₁.heap = h0 := by rw [← hh, Bd.state]; rfl
  have N0 := Fr.nil n0
  have k0 : ∀ t, Steps p.tables e below (s₁.setTop (mkF m 0 #[.val (.ref a1), .unset, .unset, .unset, .unset, .unset, .unset, .unset] [])) t → Steps p.tables e below (s₁.setTop (entryFrame m #[(.ref a1)] 8)) t := fun t k => castTop (ef_4_R m a1) k
  have k101 : ∀ t, Steps p.tables e below (s₁.setTop (mkF m 1 #[.val (.ref a1), .unset, .unset, .unset, .unset, .unset, .unset, .unset] [(.ref a1)])) t → Steps p.tables e below (s₁.setTop (entryFrame m #[(.ref a1)] 8)) t := fun t k => k0 t (by
    show Steps p.tables e below (s₁.setTop (mkF m 0 #[.val (.ref a1), .unset, .unset, .unset, .unset, .unset, .unset, .unset] [])) _
    refine XS.aloadN X0.here hx rfl (hb hby d4_0) rfl rfl ?_
    exact k)
  obtain ⟨T102, X102, e102, st102⟩ := getF X0 hx hZ hown (host := "") (Or.inl (hw _ (List.mem_of_getElem? (i := 23) rfl))) Via.refl e0 Fk1 (g := (mkF m 1 #[.val (.ref a1), .unset, .unset, .unset, .unset, .unset, .unset, .unset] [(.ref a1)])) rfl rfl (hb hby d4_1)
  have k103 : ∀ t, Steps p.tables e below (T102.setTop (mkF m 4 #[.val (.ref a1), .unset, .unset, .unset, .unset, .unset, .unset, .unset] [(.int p2)])) t → Steps p.tables e below (s₁.setTop (entryFrame m #[(.ref a1)] 8)) t := fun t k => k101 t (st102 t k)
  have k104 : ∀ t, Steps p.tables e below (T102.setTop (mkF m 7 #[.val (.ref a1), .val (.double (FP.i2d p2)), .second, .unset, .unset, .unset, .unset, .unset] [(.ref a1)])) t → Steps p.tables e below (s₁.setTop (entryFrame m #[(.ref a1)] 8)) t := fun t k => k103 t (by
    show Steps p.tables e below (T102.setTop (mkF m 4 #[.val (.ref a1), .unset, .unset, .unset, .unset, .unset, .unset, .unset] [(.int p2)])) _
    refine XS.i2dS X102.here hx rfl (hb hby d4_4) rfl rfl ?_
    show Steps p.tables e below (T102.setTop (mkF m 5 #[.val (.ref a1), .unset, .unset, .unset, .unset, .unset, .unset, .unset] [(.double (FP.i2d p2))])) _
    refine XS.dstoreN X102.here hx rfl (hb hby d4_5) rfl (l' := #[.val (.ref a1), .val (.double (FP.i2d p2)), .second, .unset, .unset, .unset, .unset, .unset]) rfl ?_
    show Steps p.tables e below (T102.setTop (mkF m 6 #[.val (.ref a1), .val (.double (FP.i2d p2)), .second, .unset, .unset, .unset, .unset, .unset] [])) _
    refine XS.aloadN X102.here hx rfl (hb hby d4_6) rfl rfl ?_
    exact k)
  obtain ⟨T105, X105, e105, st105⟩ := getF X102 hx hZ hown (host := "") (Or.inl (hw _ (List.mem_of_getElem? (i := 16) rfl))) Via.refl e102 Fk0 (g := (mkF m 7 #[.val (.ref a1), .val (.double (FP.i2d p2)), .second, .unset, .unset, .unset, .unset, .unset] [(.ref a1)])) rfl rfl (hb hby d4_7)
  have k106 : ∀ t, Steps p.tables e below (T105.setTop (mkF m 10 #[.val (.ref a1), .val (.double (FP.i2d p2)), .second, .unset, .unset, .unset, .unset, .unset] [(.ref b3)])) t → Steps p.tables e below (s₁.setTop (entryFrame m #[(.ref a1)] 8)) t := fun t k => k104 t (st105 t k)
  have k107 : ∀ t, Steps p.tables e below (T105.setTop (mkF m 12 #[.val (.ref a1), .val (.double (FP.i2d p2)), .second, .val (.ref b3), .unset, .unset, .unset, .unset] [(.ref b3)])) t → Steps p.tables e below (s₁.setTop (entryFrame m #[(.ref a1)] 8)) t := fun t k => k106 t (by
    show Steps p.tables e below (T105.setTop (mkF m 10 #[.val (.ref a1), .val (.double (FP.i2d p2)), .second, .unset, .unset, .unset, .unset, .unset] [(.ref b3)])) _
    refine XS.astoreN X105.here hx rfl (hb hby d4_10) rfl rfl (l' := #[.val (.ref a1), .val (.double (FP.i2d p2)), .second, .val (.ref b3), .unset, .unset, .unset, .unset]) rfl ?_
    show Steps p.tables e below (T105.setTop (mkF m 11 #[.val (.ref a1), .val (.double (FP.i2d p2)), .second, .val (.ref b3), .unset, .unset, .unset, .unset] [])) _
    refine XS.aloadN X105.here hx rfl (hb hby d4_11) rfl rfl ?_
    exact k)
  obtain ⟨c108, Ar108, -, As108, An108, -, -⟩ := id Fk2
  have k109 : ∀ t, Steps p.tables e below (T105.setTop (mkF m 28 #[.val (.ref a1), .val (.double (FP.i2d p2)), .second, .val (.ref b3), .val (.int (1 : Int32)), .val (.int (0 : Int32)), .unset, .unset] [(.int (0 : Int32)), (.ref b3)])) t → Steps p.tables e below (s₁.setTop (entryFrame m #[(.ref a1)] 8)) t := fun t k => k107 t (by
    show Steps p.tables e below (T105.setTop (mkF m 12 #[.val (.ref a1), .val (.double (FP.i2d p2)), .second, .val (.ref b3), .unset, .unset, .unset, .unset] [(.ref b3)])) _
    refine X105.arraylength hx (by rw [e105]; exact Ar108.1) (State.isArrayOf_alike hZ.alike Ar108.2.1) (g := (mkF m 12 #[.val (.ref a1), .val (.double (FP.i2d p2)), .second, .val (.ref b3), .unset, .unset, .unset, .unset] [(.ref b3)])) rfl rfl (hb hby d4_12) _ ?_
    rw [len_of As108 An108]
    show Steps p.tables e below (T105.setTop (mkF m 13 #[.val (.ref a1), .val (.double (FP.i2d p2)), .second, .val (.ref b3), .unset, .unset, .unset, .unset] [(.int (1 : Int32))])) _
    refine XS.istore X105.here hx rfl (hb hby d4_13) rfl (l' := #[.val (.ref a1), .val (.double (FP.i2d p2)), .second, .val (.ref b3), .val (.int (1 : Int32)), .unset, .unset, .unset]) rfl ?_
    show Steps p.tables e below (T105.setTop (mkF m 15 #[.val (.ref a1), .val (.double (FP.i2d p2)), .second, .val (.ref b3), .val (.int (1 : Int32)), .unset, .unset, .unset] [])) _
    refine XS.iconst X105.here hx rfl (hb hby d4_15) ?_
    show Steps p.tables e below (T105.setTop (mkF m 16 #[.val (.ref a1), .val (.double (FP.i2d p2)), .second, .val (.ref b3), .val (.int (1 : Int32)), .unset, .unset, .unset] [(.int (0 : Int32))])) _
    refine XS.istore X105.here hx rfl (hb hby d4_16) rfl (l' := #[.val (.ref a1), .val (.double (FP.i2d p2)), .second, .val (.ref b3), .val (.int (1 : Int32)), .val (.int (0 : Int32)), .unset, .unset]) rfl ?_
    show Steps p.tables e below (T105.setTop (mkF m 18 #[.val (.ref a1), .val (.double (FP.i2d p2)), .second, .val (.ref b3), .val (.int (1 : Int32)), .val (.int (0 : Int32)), .unset, .unset] [])) _
    refine XS.iload X105.here hx rfl (hb hby d4_18) rfl ?_
    show Steps p.tables e below (T105.setTop (mkF m 20 #[.val (.ref a1), .val (.double (FP.i2d p2)), .second, .val (.ref b3), .val (.int (1 : Int32)), .val (.int (0 : Int32)), .unset, .unset] [(.int (0 : Int32))])) _
    refine XS.iload X105.here hx rfl (hb hby d4_20) rfl ?_
    show Steps p.tables e below (T105.setTop (mkF m 22 #[.val (.ref a1), .val (.double (FP.i2d p2)), .second, .val (.ref b3), .val (.int (1 : Int32)), .val (.int (0 : Int32)), .unset, .unset] [(.int (1 : Int32)), (.int (0 : Int32))])) _
    refine XS.icmpNo X105.here hx rfl (hb hby d4_22) rfl (tlt (by decide)).2.1 ?_
    show Steps p.tables e below (T105.setTop (mkF m 25 #[.val (.ref a1), .val (.double (FP.i2d p2)), .second, .val (.ref b3), .val (.int (1 : Int32)), .val (.int (0 : Int32)), .unset, .unset] [])) _
    refine XS.aloadN X105.here hx rfl (hb hby d4_25) rfl rfl ?_
    show Steps p.tables e below (T105.setTop (mkF m 26 #[.val (.ref a1), .val (.double (FP.i2d p2)), .second, .val (.ref b3), .val (.int (1 : Int32)), .val (.int (0 : Int32)), .unset, .unset] [(.ref b3)])) _
    refine XS.iload X105.here hx rfl (hb hby d4_26) rfl ?_
    exact k)
  obtain ⟨c110, Ar110, -, As110, An110, Ah110, -⟩ := id Fk2
  have hin110 : ¬ ((0 : Int32) < 0 ∨ c110.slots.size ≤ ((0 : Int32)).toNatClampNeg) := inb_of As110 ⟨by decide, by decide⟩
  have hat110 : c110.slots[((0 : Int32)).toNatClampNeg]? = some (.double u0) := Has.at Ah110 hin110 rfl
  have k111 : ∀ t, Steps p.tables e below (T105.setTop (mkF m 43 #[.val (.ref a1), .val (.double (FP.dadd (FP.i2d p2) u0)), .second, .val (.ref b3), .val (.int (1 : Int32)), .val (.int (1 : Int32)), .val (.double u0), .second] [(.double (FP.dadd (FP.i2d p2) u0))])) t → Steps p.tables e below (s₁.setTop (entryFrame m #[(.ref a1)] 8)) t := fun t k => k109 t (by
    show Steps p.tables e below (T105.setTop (mkF m 28 #[.val (.ref a1), .val (.double (FP.i2d p2)), .second, .val (.ref b3), .val (.int (1 : Int32)), .val (.int (0 : Int32)), .unset, .unset] [(.int (0 : Int32)), (.ref b3)])) _
    refine X105.daload hx (j := (0 : Int32)) (v := (.double u0)) (by rw [e105]; exact Ar110.1) (State.isArrayOf_alike hZ.alike Ar110.2.1) Ar110.2.2 hin110 hat110 (g := (mkF m 28 #[.val (.ref a1), .val (.double (FP.i2d p2)), .second, .val (.ref b3), .val (.int (1 : Int32)), .val (.int (0 : Int32)), .unset, .unset] [(.int (0 : Int32)), (.ref b3)])) rfl rfl (hb hby d4_28) _ ?_
    show Steps p.tables e below (T105.setTop (mkF m 29 #[.val (.ref a1), .val (.double (FP.i2d p2)), .second, .val (.ref b3), .val (.int (1 : Int32)), .val (.int (0 : Int32)), .unset, .unset] [(.double u0)])) _
    refine XS.dstore X105.here hx rfl (hb hby d4_29) rfl (l' := #[.val (.ref a1), .val (.double (FP.i2d p2)), .second, .val (.ref b3), .val (.int (1 : Int32)), .val (.int (0 : Int32)), .val (.double u0), .second]) rfl ?_
    show Steps p.tables e below (T105.setTop (mkF m 31 #[.val (.ref a1), .val (.double (FP.i2d p2)), .second, .val (.ref b3), .val (.int (1 : Int32)), .val (.int (0 : Int32)), .val (.double u0), .second] [])) _
    refine XS.dloadN X105.here hx rfl (hb hby d4_31) rfl ?_
    show Steps p.tables e below (T105.setTop (mkF m 32 #[.val (.ref a1), .val (.double (FP.i2d p2)), .second, .val (.ref b3), .val (.int (1 : Int32)), .val (.int (0 : Int32)), .val (.double u0), .second] [(.double (FP.i2d p2))])) _
    refine XS.dload X105.here hx rfl (hb hby d4_32) rfl ?_
    show Steps p.tables e below (T105.setTop (mkF m 34 #[.val (.ref a1), .val (.double (FP.i2d p2)), .second, .val (.ref b3), .val (.int (1 : Int32)), .val (.int (0 : Int32)), .val (.double u0), .second] [(.double u0), (.double (FP.i2d p2))])) _
    refine XS.daddS X105.here hx rfl (hb hby d4_34) rfl (na0) rfl ?_
    show Steps p.tables e below (T105.setTop (mkF m 35 #[.val (.ref a1), .val (.double (FP.i2d p2)), .second, .val (.ref b3), .val (.int (1 : Int32)), .val (.int (0 : Int32)), .val (.double u0), .second] [(.double (FP.dadd (FP.i2d p2) u0))])) _
    refine XS.dstoreN X105.here hx rfl (hb hby d4_35) rfl (l' := #[.val (.ref a1), .val (.double (FP.dadd (FP.i2d p2) u0)), .second, .val (.ref b3), .val (.int (1 : Int32)), .val (.int (0 : Int32)), .val (.double u0), .second]) rfl ?_
    show Steps p.tables e below (T105.setTop (mkF m 36 #[.val (.ref a1), .val (.double (FP.dadd (FP.i2d p2) u0)), .second, .val (.ref b3), .val (.int (1 : Int32)), .val (.int (0 : Int32)), .val (.double u0), .second] [])) _
    refine XS.iinc X105.here hx rfl (hb hby d4_36) rfl (l' := #[.val (.ref a1), .val (.double (FP.dadd (FP.i2d p2) u0)), .second, .val (.ref b3), .val (.int (1 : Int32)), .val (.int (1 : Int32)), .val (.double u0), .second]) rfl ?_
    show Steps p.tables e below (T105.setTop (mkF m 39 #[.val (.ref a1), .val (.double (FP.dadd (FP.i2d p2) u0)), .second, .val (.ref b3), .val (.int (1 : Int32)), .val (.int (1 : Int32)), .val (.double u0), .second] [])) _
    refine XS.goto X105.here hx rfl (pc0 := 39) (pc' := 18) rfl (hb hby d4_39) (by decide) (by decide) ?_
    show Steps p.tables e below (T105.setTop (mkF m 18 #[.val (.ref a1), .val (.double (FP.dadd (FP.i2d p2) u0)), .second, .val (.ref b3), .val (.int (1 : Int32)), .val (.int (1 : Int32)), .val (.double u0), .second] [])) _
    refine XS.iload X105.here hx rfl (hb hby d4_18) rfl ?_
    show Steps p.tables e below (T105.setTop (mkF m 20 #[.val (.ref a1), .val (.double (FP.dadd (FP.i2d p2) u0)), .second, .val (.ref b3), .val (.int (1 : Int32)), .val (.int (1 : Int32)), .val (.double u0), .second] [(.int (1 : Int32))])) _
    refine XS.iload X105.here hx rfl (hb hby d4_20) rfl ?_
    show Steps p.tables e below (T105.setTop (mkF m 22 #[.val (.ref a1), .val (.double (FP.dadd (FP.i2d p2) u0)), .second, .val (.ref b3), .val (.int (1 : Int32)), .val (.int (1 : Int32)), .val (.double u0), .second] [(.int (1 : Int32)), (.int (1 : Int32))])) _
    refine XS.icmpYes X105.here hx rfl (pc0 := 22) (pc' := 42) rfl (hb hby d4_22) rfl (flt (by decide)).2.1 (by decide) (by decide) ?_
    show Steps p.tables e below (T105.setTop (mkF m 42 #[.val (.ref a1), .val (.double (FP.dadd (FP.i2d p2) u0)), .second, .val (.ref b3), .val (.int (1 : Int32)), .val (.int (1 : Int32)), .val (.double u0), .second] [])) _
    refine XS.dloadN X105.here hx rfl (hb hby d4_42) rfl ?_
    exact k)
  obtain ⟨fs, hr, hrun, hended, hW, hsame⟩ := X105.leave (v := some (.double (FP.dadd (FP.i2d p2) u0))) (fun h => by rw [Bd.returns] at h; cases h)
  refine ⟨_, _, k111 _ (retOut X105 hx (t := .double) Bd.returns rfl (Or.inr (Or.inr (Or.inl ⟨rfl, rfl, _, rfl⟩))) (hb hby d4_43) hr), hrun, hended, _, _, rfl, ?_, ⟨_, rfl⟩, hW, hsame.mono (by decide) (by decide)⟩
  show Q_tot1 Z a1 b3 k3 p2 u0 h0 n0 _ T105.heap _
  rw [e105]
  exact ⟨rfl, N0, rfl⟩
def Q_tot2 (Z : State) (a1 : Addr) (b3 : Addr) (k3 : ClassId) (p2 : Int32) (u0 : UInt64) (u1 : UInt64) (h0 : Heap) (n0 : Nat) (v : Option Value) (h : Heap) (L : List Loc) : Prop := v = some (.double (FP.dadd (FP.dadd (FP.i2d p2) u0) u1)) ∧ Fr n0 L ∧ h = h0
set_option maxRecDepth 65536 in
set_option maxHeartbeats 40000000 in
theorem tot2 (l : Launch) (Z : State) (a0 : Array Value) (hw : ∀ d ∈ tables_1, d.before a0 Z = true) (ws : List Jvm.Cond) (a1 : Addr) (b3 : Addr) (k3 : ClassId) (p2 : Int32) (u0 : UInt64) (u1 : UInt64) (h0 : Heap) (n0 : Nat) (Z0 : n0 ≤ h0.size) (Fk0 : Fld Z h0 a1 "com/example/istra/istra/model/Transfer" "fluid" "[D" (.ref b3)) (Fk1 : Fld Z h0 a1 "com/example/istra/istra/model/Transfer" "vehicles" "I" (.int p2)) (Fk2 : Arv Z h0 b3 k3 .double (2 : Int32) [(.double u0), (.double u1)] (.double (0 : UInt64))) (na0 : Jvm.Free.Fl.NoNaN64 (FP.dadd (FP.i2d p2) u0)) (na1 : Jvm.Free.Fl.NoNaN64 (FP.dadd (FP.dadd (FP.i2d p2) u0) u1)) :
    MetFree l (⟨"com/example/istra/istra/model/Transfer", "total", "()D"⟩ : MethodName) (head1 (Jvm.Cond.code (⟨"com/example/istra/istra/model/Transfer", "total", "()D"⟩ : MethodName) prog_54_method_10_code 8 (some .double) :: ws) ({ frames := 0, cells := 0, slots := 0, locals := 0 } : Room)) (fun a U => a = #[(.ref a1)] ∧ Z.Warmed39 U.vm ∧ U.heap = h0) (fun _ _ _ _ _ => True) (fun _ U o U' => ∃ v L, o = .returned v ∧ Q_tot2 Z a1 b3 k3 p2 u0 u1 h0 n0 v U'.heap L ∧ FrameEnd U o U' L ({ frames := 0, cells := 0, slots := 0, locals := 0 } : Room).cells ({ frames := 0, cells := 0, slots := 0, locals := 0 } : Room).slots) := by
  refine MetFree.of_bodySF (plainFor_of_name pn_com_2fexample_2fistra_2fistra_2fmodel_2fTransfer) hisR ?_
  intro p e s m args below meth c s₁ Bd hml0 hP hK
  obtain ⟨rfl, hZ, hh⟩ := hP
  have hx := Bd.exec
  have hby := Bd.bytes
  have hml : c.maxLocals = 8 := hml0
  have hown : s.vm.findClass "com/example/istra/istra/model/Transfer" = some m.cls := findClass_of_methodNamed Bd.named
  have hnm := (name_of_methodNamed Bd.named Bd.method).1
  have X0 : Stand p l e ({ frames := 0, cells := 0, slots := 0, locals := 0 } : Room) s m #[(.ref a1)] below meth c s₁ [] 0 0 := Stand.of_body Bd
  have e0 : s₁.heap = h0 := by rw [← hh, Bd.state]; rfl
  have N0 := Fr.nil n0
  have k0 : ∀ t, Steps p.tables e below (s₁.setTop (mkF m 0 #[.val (.ref a1), .unset, .unset, .unset, .unset, .unset, .unset, .unset] [])) t → Steps p.tables e below (s₁.setTop (entryFrame m #[(.ref a1)] 8)) t := fun t k => castTop (ef_4_R m a1) k
  have k101 : ∀ t, Steps p.tables e below (s₁.setTop (mkF m 1 #[.val (.ref a1), .unset, .unset, .unset, .unset, .unset, .unset, .unset] [(.ref a1)])) t → Steps p.tables e below (s₁.setTop (entryFrame m #[(.ref a1)] 8)) t := fun t k => k0 t (by
    show Steps p.tables e below (s₁.setTop (mkF m 0 #[.val (.ref a1), .unset, .unset, .unset, .unset, .unset, .unset, .unset] [])) _
    refine XS.aloadN X0.here hx rfl (hb hby d4_0) rfl rfl ?_
    exact k)
  obtain ⟨T102, X102, e102, st102⟩ := getF X0 hx hZ hown (host := "") (Or.inl (hw _ (List.mem_of_getElem? (i := 23) rfl))) Via.refl e0 Fk1 (g := (mkF m 1 #[.val (.ref a1), .unset, .unset, .unset, .unset, .unset, .unset, .unset] [(.ref a1)])) rfl rfl (hb hby d4_1)
  have k103 : ∀ t, Steps p.tables e below (T102.setTop (mkF m 4 #[.val (.ref a1), .unset, .unset, .unset, .unset, .unset, .unset, .unset] [(.int p2)])) t → Steps p.tables e below (s₁.setTop (entryFrame m #[(.ref a1)] 8)) t := fun t k => k101 t (st102 t k)
  have k104 : ∀ t, Steps p.tables e below (T102.setTop (mkF m 7 #[.val (.ref a1), .val (.double (FP.i2d p2)), .second, .unset, .unset, .unset, .unset, .unset] [(.ref a1)])) t → Steps p.tables e below (s₁.setTop (entryFrame m #[(.ref a1)] 8)) t := fun t k => k103 t (by
    show Steps p.tables e below (T102.setTop (mkF m 4 #[.val (.ref a1), .unset, .unset, .unset, .unset, .unset, .unset, .unset] [(.int p2)])) _
    refine XS.i2dS X102.here hx rfl (hb hby d4_4) rfl rfl ?_
    show Steps p.tables e below (T102.setTop (mkF m 5 #[.val (.ref a1), .unset, .unset, .unset, .unset, .unset, .unset, .unset] [(.double (FP.i2d p2))])) _
    refine XS.dstoreN X102.here hx rfl (hb hby d4_5) rfl (l' := #[.val (.ref a1), .val (.double (FP.i2d p2)), .second, .unset, .unset, .unset, .unset, .unset]) rfl ?_
    show Steps p.tables e below (T102.setTop (mkF m 6 #[.val (.ref a1), .val (.double (FP.i2d p2)), .second, .unset, .unset, .unset, .unset, .unset] [])) _
    refine XS.aloadN X102.here hx rfl (hb hby d4_6) rfl rfl ?_
    exact k)
  obtain ⟨T105, X105, e105, st105⟩ := getF X102 hx hZ hown (host := "") (Or.inl (hw _ (List.mem_of_getElem? (i := 16) rfl))) Via.refl e102 Fk0 (g := (mkF m 7 #[.val (.ref a1), .val (.double (FP.i2d p2)), .second, .unset, .unset, .unset, .unset, .unset] [(.ref a1)])) rfl rfl (hb hby d4_7)
  have k106 : ∀ t, Steps p.tables e below (T105.setTop (mkF m 10 #[.val (.ref a1), .val (.double (FP.i2d p2)), .second, .unset, .unset, .unset, .unset, .unset] [(.ref b3)])) t → Steps p.tables e below (s₁.setTop (entryFrame m #[(.ref a1)] 8)) t := fun t k => k104 t (st105 t k)
  have k107 : ∀ t, Steps p.tables e below (T105.setTop (mkF m 12 #[.val (.ref a1), .val (.double (FP.i2d p2)), .second, .val (.ref b3), .unset, .unset, .unset, .unset] [(.ref b3)])) t → Steps p.tables e below (s₁.setTop (entryFrame m #[(.ref a1)] 8)) t := fun t k => k106 t (by
    show Steps p.tables e below (T105.setTop (mkF m 10 #[.val (.ref a1), .val (.double (FP.i2d p2)), .second, .unset, .unset, .unset, .unset, .unset] [(.ref b3)])) _
    refine XS.astoreN X105.here hx rfl (hb hby d4_10) rfl rfl (l' := #[.val (.ref a1), .val (.double (FP.i2d p2)), .second, .val (.ref b3), .unset, .unset, .unset, .unset]) rfl ?_
    show Steps p.tables e below (T105.setTop (mkF m 11 #[.val (.ref a1), .val (.double (FP.i2d p2)), .second, .val (.ref b3), .unset, .unset, .unset, .unset] [])) _
    refine XS.aloadN X105.here hx rfl (hb hby d4_11) rfl rfl ?_
    exact k)
  obtain ⟨c108, Ar108, -, As108, An108, -, -⟩ := id Fk2
  have k109 : ∀ t, Steps p.tables e below (T105.setTop (mkF m 28 #[.val (.ref a1), .val (.double (FP.i2d p2)), .second, .val (.ref b3), .val (.int (2 : Int32)), .val (.int (0 : Int32)), .unset, .unset] [(.int (0 : Int32)), (.ref b3)])) t → Steps p.tables e below (s₁.setTop (entryFrame m #[(.ref a1)] 8)) t := fun t k => k107 t (by
    show Steps p.tables e below (T105.setTop (mkF m 12 #[.val (.ref a1), .val (.double (FP.i2d p2)), .second, .val (.ref b3), .unset, .unset, .unset, .unset] [(.ref b3)])) _
    refine X105.arraylength hx (by rw [e105]; exact Ar108.1) (State.isArrayOf_alike hZ.alike Ar108.2.1) (g := (mkF m 12 #[.val (.ref a1), .val (.double (FP.i2d p2)), .second, .val (.ref b3), .unset, .unset, .unset, .unset] [(.ref b3)])) rfl rfl (hb hby d4_12) _ ?_
    rw [len_of As108 An108]
    show Steps p.tables e below (T105.setTop (mkF m 13 #[.val (.ref a1), .val (.double (FP.i2d p2)), .second, .val (.ref b3), .unset, .unset, .unset, .unset] [(.int (2 : Int32))])) _
    refine XS.istore X105.here hx rfl (hb hby d4_13) rfl (l' := #[.val (.ref a1), .val (.double (FP.i2d p2)), .second, .val (.ref b3), .val (.int (2 : Int32)), .unset, .unset, .unset]) rfl ?_
    show Steps p.tables e below (T105.setTop (mkF m 15 #[.val (.ref a1), .val (.double (FP.i2d p2)), .second, .val (.ref b3), .val (.int (2 : Int32)), .unset, .unset, .unset] [])) _
    refine XS.iconst X105.here hx rfl (hb hby d4_15) ?_
    show Steps p.tables e below (T105.setTop (mkF m 16 #[.val (.ref a1), .val (.double (FP.i2d p2)), .second, .val (.ref b3), .val (.int (2 : Int32)), .unset, .unset, .unset] [(.int (0 : Int32))])) _
    refine XS.istore X105.here hx rfl (hb hby d4_16) rfl (l' := #[.val (.ref a1), .val (.double (FP.i2d p2)), .second, .val (.ref b3), .val (.int (2 : Int32)), .val (.int (0 : Int32)), .unset, .unset]) rfl ?_
    show Steps p.tables e below (T105.setTop (mkF m 18 #[.val (.ref a1), .val (.double (FP.i2d p2)), .second, .val (.ref b3), .val (.int (2 : Int32)), .val (.int (0 : Int32)), .unset, .unset] [])) _
    refine XS.iload X105.here hx rfl (hb hby d4_18) rfl ?_
    show Steps p.tables e below (T105.setTop (mkF m 20 #[.val (.ref a1), .val (.double (FP.i2d p2)), .second, .val (.ref b3), .val (.int (2 : Int32)), .val (.int (0 : Int32)), .unset, .unset] [(.int (0 : Int32))])) _
    refine XS.iload X105.here hx rfl (hb hby d4_20) rfl ?_
    show Steps p.tables e below (T105.setTop (mkF m 22 #[.val (.ref a1), .val (.double (FP.i2d p2)), .second, .val (.ref b3), .val (.int (2 : Int32)), .val (.int (0 : Int32)), .unset, .unset] [(.int (2 : Int32)), (.int (0 : Int32))])) _
    refine XS.icmpNo X105.here hx rfl (hb hby d4_22) rfl (tlt (by decide)).2.1 ?_
    show Steps p.tables e below (T105.setTop (mkF m 25 #[.val (.ref a1), .val (.double (FP.i2d p2)), .second, .val (.ref b3), .val (.int (2 : Int32)), .val (.int (0 : Int32)), .unset, .unset] [])) _
    refine XS.aloadN X105.here hx rfl (hb hby d4_25) rfl rfl ?_
    show Steps p.tables e below (T105.setTop (mkF m 26 #[.val (.ref a1), .val (.double (FP.i2d p2)), .second, .val (.ref b3), .val (.int (2 : Int32)), .val (.int (0 : Int32)), .unset, .unset] [(.ref b3)])) _
    refine XS.iload X105.here hx rfl (hb hby d4_26) rfl ?_
    exact k)
  obtain ⟨c110, Ar110, -, As110, An110, Ah110, -⟩ := id Fk2
  have hin110 : ¬ ((0 : Int32) < 0 ∨ c110.slots.size ≤ ((0 : Int32)).toNatClampNeg) := inb_of As110 ⟨by decide, by decide⟩
  have hat110 : c110.slots[((0 : Int32)).toNatClampNeg]? = some (.double u0) := Has.at Ah110 hin110 rfl
  have k111 : ∀ t, Steps p.tables e below (T105.setTop (mkF m 28 #[.val (.ref a1), .val (.double (FP.dadd (FP.i2d p2) u0)), .second, .val (.ref b3), .val (.int (2 : Int32)), .val (.int (1 : Int32)), .val (.double u0), .second] [(.int (1 : Int32)), (.ref b3)])) t → Steps p.tables e below (s₁.setTop (entryFrame m #[(.ref a1)] 8)) t := fun t k => k109 t (by
    show Steps p.tables e below (T105.setTop (mkF m 28 #[.val (.ref a1), .val (.double (FP.i2d p2)), .second, .val (.ref b3), .val (.int (2 : Int32)), .val (.int (0 : Int32)), .unset, .unset] [(.int (0 : Int32)), (.ref b3)])) _
    refine X105.daload hx (j := (0 : Int32)) (v := (.double u0)) (by rw [e105]; exact Ar110.1) (State.isArrayOf_alike hZ.alike Ar110.2.1) Ar110.2.2 hin110 hat110 (g := (mkF m 28 #[.val (.ref a1), .val (.double (FP.i2d p2)), .second, .val (.ref b3), .val (.int (2 : Int32)), .val (.int (0 : Int32)), .unset, .unset] [(.int (0 : Int32)), (.ref b3)])) rfl rfl (hb hby d4_28) _ ?_
    show Steps p.tables e below (T105.setTop (mkF m 29 #[.val (.ref a1), .val (.double (FP.i2d p2)), .second, .val (.ref b3), .val (.int (2 : Int32)), .val (.int (0 : Int32)), .unset, .unset] [(.double u0)])) _
    refine XS.dstore X105.here hx rfl (hb hby d4_29) rfl (l' := #[.val (.ref a1), .val (.double (FP.i2d p2)), .second, .val (.ref b3), .val (.int (2 : Int32)), .val (.int (0 : Int32)), .val (.double u0), .second]) rfl ?_
    show Steps p.tables e below (T105.setTop (mkF m 31 #[.val (.ref a1), .val (.double (FP.i2d p2)), .second, .val (.ref b3), .val (.int (2 : Int32)), .val (.int (0 : Int32)), .val (.double u0), .second] [])) _
    refine XS.dloadN X105.here hx rfl (hb hby d4_31) rfl ?_
    show Steps p.tables e below (T105.setTop (mkF m 32 #[.val (.ref a1), .val (.double (FP.i2d p2)), .second, .val (.ref b3), .val (.int (2 : Int32)), .val (.int (0 : Int32)), .val (.double u0), .second] [(.double (FP.i2d p2))])) _
    refine XS.dload X105.here hx rfl (hb hby d4_32) rfl ?_
    show Steps p.tables e below (T105.setTop (mkF m 34 #[.val (.ref a1), .val (.double (FP.i2d p2)), .second, .val (.ref b3), .val (.int (2 : Int32)), .val (.int (0 : Int32)), .val (.double u0), .second] [(.double u0), (.double (FP.i2d p2))])) _
    refine XS.daddS X105.here hx rfl (hb hby d4_34) rfl (na0) rfl ?_
    show Steps p.tables e below (T105.setTop (mkF m 35 #[.val (.ref a1), .val (.double (FP.i2d p2)), .second, .val (.ref b3), .val (.int (2 : Int32)), .val (.int (0 : Int32)), .val (.double u0), .second] [(.double (FP.dadd (FP.i2d p2) u0))])) _
    refine XS.dstoreN X105.here hx rfl (hb hby d4_35) rfl (l' := #[.val (.ref a1), .val (.double (FP.dadd (FP.i2d p2) u0)), .second, .val (.ref b3), .val (.int (2 : Int32)), .val (.int (0 : Int32)), .val (.double u0), .second]) rfl ?_
    show Steps p.tables e below (T105.setTop (mkF m 36 #[.val (.ref a1), .val (.double (FP.dadd (FP.i2d p2) u0)), .second, .val (.ref b3), .val (.int (2 : Int32)), .val (.int (0 : Int32)), .val (.double u0), .second] [])) _
    refine XS.iinc X105.here hx rfl (hb hby d4_36) rfl (l' := #[.val (.ref a1), .val (.double (FP.dadd (FP.i2d p2) u0)), .second, .val (.ref b3), .val (.int (2 : Int32)), .val (.int (1 : Int32)), .val (.double u0), .second]) rfl ?_
    show Steps p.tables e below (T105.setTop (mkF m 39 #[.val (.ref a1), .val (.double (FP.dadd (FP.i2d p2) u0)), .second, .val (.ref b3), .val (.int (2 : Int32)), .val (.int (1 : Int32)), .val (.double u0), .second] [])) _
    refine XS.goto X105.here hx rfl (pc0 := 39) (pc' := 18) rfl (hb hby d4_39) (by decide) (by decide) ?_
    show Steps p.tables e below (T105.setTop (mkF m 18 #[.val (.ref a1), .val (.double (FP.dadd (FP.i2d p2) u0)), .second, .val (.ref b3), .val (.int (2 : Int32)), .val (.int (1 : Int32)), .val (.double u0), .second] [])) _
    refine XS.iload X105.here hx rfl (hb hby d4_18) rfl ?_
    show Steps p.tables e below (T105.setTop (mkF m 20 #[.val (.ref a1), .val (.double (FP.dadd (FP.i2d p2) u0)), .second, .val (.ref b3), .val (.int (2 : Int32)), .val (.int (1 : Int32)), .val (.double u0), .second] [(.int (1 : Int32))])) _
    refine XS.iload X105.here hx rfl (hb hby d4_20) rfl ?_
    show Steps p.tables e below (T105.setTop (mkF m 22 #[.val (.ref a1), .val (.double (FP.dadd (FP.i2d p2) u0)), .second, .val (.ref b3), .val (.int (2 : Int32)), .val (.int (1 : Int32)), .val (.double u0), .second] [(.int (2 : Int32)), (.int (1 : Int32))])) _
    refine XS.icmpNo X105.here hx rfl (hb hby d4_22) rfl (tlt (by decide)).2.1 ?_
    show Steps p.tables e below (T105.setTop (mkF m 25 #[.val (.ref a1), .val (.double (FP.dadd (FP.i2d p2) u0)), .second, .val (.ref b3), .val (.int (2 : Int32)), .val (.int (1 : Int32)), .val (.double u0), .second] [])) _
    refine XS.aloadN X105.here hx rfl (hb hby d4_25) rfl rfl ?_
    show Steps p.tables e below (T105.setTop (mkF m 26 #[.val (.ref a1), .val (.double (FP.dadd (FP.i2d p2) u0)), .second, .val (.ref b3), .val (.int (2 : Int32)), .val (.int (1 : Int32)), .val (.double u0), .second] [(.ref b3)])) _
    refine XS.iload X105.here hx rfl (hb hby d4_26) rfl ?_
    exact k)
  obtain ⟨c112, Ar112, -, As112, An112, Ah112, -⟩ := id Fk2
  have hin112 : ¬ ((1 : Int32) < 0 ∨ c112.slots.size ≤ ((1 : Int32)).toNatClampNeg) := inb_of As112 ⟨by decide, by decide⟩
  have hat112 : c112.slots[((1 : Int32)).toNatClampNeg]? = some (.double u1) := Has.at Ah112 hin112 rfl
  have k113 : ∀ t, Steps p.tables e below (T105.setTop (mkF m 43 #[.val (.ref a1), .val (.double (FP.dadd (FP.dadd (FP.i2d p2) u0) u1)), .second, .val (.ref b3), .val (.int (2 : Int32)), .val (.int (2 : Int32)), .val (.double u1), .second] [(.double (FP.dadd (FP.dadd (FP.i2d p2) u0) u1))])) t → Steps p.tables e below (s₁.setTop (entryFrame m #[(.ref a1)] 8)) t := fun t k => k111 t (by
    show Steps p.tables e below (T105.setTop (mkF m 28 #[.val (.ref a1), .val (.double (FP.dadd (FP.i2d p2) u0)), .second, .val (.ref b3), .val (.int (2 : Int32)), .val (.int (1 : Int32)), .val (.double u0), .second] [(.int (1 : Int32)), (.ref b3)])) _
    refine X105.daload hx (j := (1 : Int32)) (v := (.double u1)) (by rw [e105]; exact Ar112.1) (State.isArrayOf_alike hZ.alike Ar112.2.1) Ar112.2.2 hin112 hat112 (g := (mkF m 28 #[.val (.ref a1), .val (.double (FP.dadd (FP.i2d p2) u0)), .second, .val (.ref b3), .val (.int (2 : Int32)), .val (.int (1 : Int32)), .val (.double u0), .second] [(.int (1 : Int32)), (.ref b3)])) rfl rfl (hb hby d4_28) _ ?_
    show Steps p.tables e below (T105.setTop (mkF m 29 #[.val (.ref a1), .val (.double (FP.dadd (FP.i2d p2) u0)), .second, .val (.ref b3), .val (.int (2 : Int32)), .val (.int (1 : Int32)), .val (.double u0), .second] [(.double u1)])) _
    refine XS.dstore X105.here hx rfl (hb hby d4_29) rfl (l' := #[.val (.ref a1), .val (.double (FP.dadd (FP.i2d p2) u0)), .second, .val (.ref b3), .val (.int (2 : Int32)), .val (.int (1 : Int32)), .val (.double u1), .second]) rfl ?_
    show Steps p.tables e below (T105.setTop (mkF m 31 #[.val (.ref a1), .val (.double (FP.dadd (FP.i2d p2) u0)), .second, .val (.ref b3), .val (.int (2 : Int32)), .val (.int (1 : Int32)), .val (.double u1), .second] [])) _
    refine XS.dloadN X105.here hx rfl (hb hby d4_31) rfl ?_
    show Steps p.tables e below (T105.setTop (mkF m 32 #[.val (.ref a1), .val (.double (FP.dadd (FP.i2d p2) u0)), .second, .val (.ref b3), .val (.int (2 : Int32)), .val (.int (1 : Int32)), .val (.double u1), .second] [(.double (FP.dadd (FP.i2d p2) u0))])) _
    refine XS.dload X105.here hx rfl (hb hby d4_32) rfl ?_
    show Steps p.tables e below (T105.setTop (mkF m 34 #[.val (.ref a1), .val (.double (FP.dadd (FP.i2d p2) u0)), .second, .val (.ref b3), .val (.int (2 : Int32)), .val (.int (1 : Int32)), .val (.double u1), .second] [(.double u1), (.double (FP.dadd (FP.i2d p2) u0))])) _
    refine XS.daddS X105.here hx rfl (hb hby d4_34) rfl (na1) rfl ?_
    show Steps p.tables e below (T105.setTop (mkF m 35 #[.val (.ref a1), .val (.double (FP.dadd (FP.i2d p2) u0)), .second, .val (.ref b3), .val (.int (2 : Int32)), .val (.int (1 : Int32)), .val (.double u1), .second] [(.double (FP.dadd (FP.dadd (FP.i2d p2) u0) u1))])) _
    refine XS.dstoreN X105.here hx rfl (hb hby d4_35) rfl (l' := #[.val (.ref a1), .val (.double (FP.dadd (FP.dadd (FP.i2d p2) u0) u1)), .second, .val (.ref b3), .val (.int (2 : Int32)), .val (.int (1 : Int32)), .val (.double u1), .second]) rfl ?_
    show Steps p.tables e below (T105.setTop (mkF m 36 #[.val (.ref a1), .val (.double (FP.dadd (FP.dadd (FP.i2d p2) u0) u1)), .second, .val (.ref b3), .val (.int (2 : Int32)), .val (.int (1 : Int32)), .val (.double u1), .second] [])) _
    refine XS.iinc X105.here hx rfl (hb hby d4_36) rfl (l' := #[.val (.ref a1), .val (.double (FP.dadd (FP.dadd (FP.i2d p2) u0) u1)), .second, .val (.ref b3), .val (.int (2 : Int32)), .val (.int (2 : Int32)), .val (.double u1), .second]) rfl ?_
    show Steps p.tables e below (T105.setTop (mkF m 39 #[.val (.ref a1), .val (.double (FP.dadd (FP.dadd (FP.i2d p2) u0) u1)), .second, .val (.ref b3), .val (.int (2 : Int32)), .val (.int (2 : Int32)), .val (.double u1), .second] [])) _
    refine XS.goto X105.here hx rfl (pc0 := 39) (pc' := 18) rfl (hb hby d4_39) (by decide) (by decide) ?_
    show Steps p.tables e below (T105.setTop (mkF m 18 #[.val (.ref a1), .val (.double (FP.dadd (FP.dadd (FP.i2d p2) u0) u1)), .second, .val (.ref b3), .val (.int (2 : Int32)), .val (.int (2 : Int32)), .val (.double u1), .second] [])) _
    refine XS.iload X105.here hx rfl (hb hby d4_18) rfl ?_
    show Steps p.tables e below (T105.setTop (mkF m 20 #[.val (.ref a1), .val (.double (FP.dadd (FP.dadd (FP.i2d p2) u0) u1)), .second, .val (.ref b3), .val (.int (2 : Int32)), .val (.int (2 : Int32)), .val (.double u1), .second] [(.int (2 : Int32))])) _
    refine XS.iload X105.here hx rfl (hb hby d4_20) rfl ?_
    show Steps p.tables e below (T105.setTop (mkF m 22 #[.val (.ref a1), .val (.double (FP.dadd (FP.dadd (FP.i2d p2) u0) u1)), .second, .val (.ref b3), .val (.int (2 : Int32)), .val (.int (2 : Int32)), .val (.double u1), .second] [(.int (2 : Int32)), (.int (2 : Int32))])) _
    refine XS.icmpYes X105.here hx rfl (pc0 := 22) (pc' := 42) rfl (hb hby d4_22) rfl (flt (by decide)).2.1 (by decide) (by decide) ?_
    show Steps p.tables e below (T105.setTop (mkF m 42 #[.val (.ref a1), .val (.double (FP.dadd (FP.dadd (FP.i2d p2) u0) u1)), .second, .val (.ref b3), .val (.int (2 : Int32)), .val (.int (2 : Int32)), .val (.double u1), .second] [])) _
    refine XS.dloadN X105.here hx rfl (hb hby d4_42) rfl ?_
    exact k)
  obtain ⟨fs, hr, hrun, hended, hW, hsame⟩ := X105.leave (v := some (.double (FP.dadd (FP.dadd (FP.i2d p2) u0) u1))) (fun h => by rw [Bd.returns] at h; cases h)
  refine ⟨_, _, k113 _ (retOut X105 hx (t := .double) Bd.returns rfl (Or.inr (Or.inr (Or.inl ⟨rfl, rfl, _, rfl⟩))) (hb hby d4_43) hr), hrun, hended, _, _, rfl, ?_, ⟨_, rfl⟩, hW, hsame.mono (by decide) (by decide)⟩
  show Q_tot2 Z a1 b3 k3 p2 u0 u1 h0 n0 _ T105.heap _
  rw [e105]
  exact ⟨rfl, N0, rfl⟩
def Q_tot3 (Z : State) (a1 : Addr) (b3 : Addr) (k3 : ClassId) (p2 : Int32) (u0 : UInt64) (u1 : UInt64) (u2 : UInt64) (h0 : Heap) (n0 : Nat) (v : Option Value) (h : Heap) (L : List Loc) : Prop := v = some (.double (FP.dadd (FP.dadd (FP.dadd (FP.i2d p2) u0) u1) u2)) ∧ Fr n0 L ∧ h = h0
set_option maxRecDepth 65536 in
set_option maxHeartbeats 40000000 in
theorem tot3 (l : Launch) (Z : State) (a0 : Array Value) (hw : ∀ d ∈ tables_1, d.before a0 Z = true) (ws : List Jvm.Cond) (a1 : Addr) (b3 : Addr) (k3 : ClassId) (p2 : Int32) (u0 : UInt64) (u1 : UInt64) (u2 : UInt64) (h0 : Heap) (n0 : Nat) (Z0 : n0 ≤ h0.size) (Fk0 : Fld Z h0 a1 "com/example/istra/istra/model/Transfer" "fluid" "[D" (.ref b3)) (Fk1 : Fld Z h0 a1 "com/example/istra/istra/model/Transfer" "vehicles" "I" (.int p2)) (Fk2 : Arv Z h0 b3 k3 .double (3 : Int32) [(.double u0), (.double u1), (.double u2)] (.double (0 : UInt64))) (na0 : Jvm.Free.Fl.NoNaN64 (FP.dadd (FP.i2d p2) u0)) (na1 : Jvm.Free.Fl.NoNaN64 (FP.dadd (FP.dadd (FP.i2d p2) u0) u1)) (na2 : Jvm.Free.Fl.NoNaN64 (FP.dadd (FP.dadd (FP.dadd (FP.i2d p2) u0) u1) u2)) :
    MetFree l (⟨"com/example/istra/istra/model/Transfer", "total", "()D"⟩ : MethodName) (head1 (Jvm.Cond.code (⟨"com/example/istra/istra/model/Transfer", "total", "()D"⟩ : MethodName) prog_54_method_10_code 8 (some .double) :: ws) ({ frames := 0, cells := 0, slots := 0, locals := 0 } : Room)) (fun a U => a = #[(.ref a1)] ∧ Z.Warmed39 U.vm ∧ U.heap = h0) (fun _ _ _ _ _ => True) (fun _ U o U' => ∃ v L, o = .returned v ∧ Q_tot3 Z a1 b3 k3 p2 u0 u1 u2 h0 n0 v U'.heap L ∧ FrameEnd U o U' L ({ frames := 0, cells := 0, slots := 0, locals := 0 } : Room).cells ({ frames := 0, cells := 0, slots := 0, locals := 0 } : Room).slots) := by
  refine MetFree.of_bodySF (plainFor_of_name pn_com_2fexample_2fistra_2fistra_2fmodel_2fTransfer) hisR ?_
  intro p e s m args below meth c s₁ Bd hml0 hP hK
  obtain ⟨rfl, hZ, hh⟩ := hP
  have hx := Bd.exec
  have hby := Bd.bytes
  have hml : c.maxLocals = 8 := hml0
  have hown : s.vm.findClass "com/example/istra/istra/model/Transfer" = some m.cls := findClass_of_methodNamed Bd.named
  have hnm := (name_of_methodNamed Bd.named Bd.method).1
  have X0 : Stand p l e ({ frames := 0, cells := 0, slots := 0, locals := 0 } : Room) s m #[(.ref a1)] below meth c s₁ [] 0 0 := Stand.of_body Bd
  have e0 : s₁.heap = h0 := by rw [← hh, Bd.state]; rfl
  have N0 := Fr.nil n0
  have k0 : ∀ t, Steps p.tables e below (s₁.setTop (mkF m 0 #[.val (.ref a1), .unset, .unset, .unset, .unset, .unset, .unset, .unset] [])) t → Steps p.tables e below (s₁.setTop (entryFrame m #[(.ref a1)] 8)) t := fun t k => castTop (ef_4_R m a1) k
  have k101 : ∀ t, Steps p.tables e below (s₁.setTop (mkF m 1 #[.val (.ref a1), .unset, .unset, .unset, .unset, .unset, .unset, .unset] [(.ref a1)])) t → Steps p.tables e below (s₁.setTop (entryFrame m #[(.ref a1)] 8)) t := fun t k => k0 t (by
    show Steps p.tables e below (s₁.setTop (mkF m 0 #[.val (.ref a1), .unset, .unset, .unset, .unset, .unset, .unset, .unset] [])) _
    refine XS.aloadN X0.here hx rfl (hb hby d4_0) rfl rfl ?_
    exact k)
  obtain ⟨T102, X102, e102, st102⟩ := getF X0 hx hZ hown (host := "") (Or.inl (hw _ (List.mem_of_getElem? (i := 23) rfl))) Via.refl e0 Fk1 (g := (mkF m 1 #[.val (.ref a1), .unset, .unset, .unset, .unset, .unset, .unset, .unset] [(.ref a1)])) rfl rfl (hb hby d4_1)
  have k103 : ∀ t, Steps p.tables e below (T102.setTop (mkF m 4 #[.val (.ref a1), .unset, .unset, .unset, .unset, .unset, .unset, .unset] [(.int p2)])) t → Steps p.tables e below (s₁.setTop (entryFrame m #[(.ref a1)] 8)) t := fun t k => k101 t (st102 t k)
  have k104 : ∀ t, Steps p.tables e below (T102.setTop (mkF m 7 #[.val (.ref a1), .val (.double (FP.i2d p2)), .second, .unset, .unset, .unset, .unset, .unset] [(.ref a1)])) t → Steps p.tables e below (s₁.setTop (entryFrame m #[(.ref a1)] 8)) t := fun t k => k103 t (by
    show Steps p.tables e below (T102.setTop (mkF m 4 #[.val (.ref a1), .unset, .unset, .unset, .unset, .unset, .unset, .unset] [(.int p2)])) _
    refine XS.i2dS X102.here hx rfl (hb hby d4_4) rfl rfl ?_
    show Steps p.tables e below (T102.setTop (mkF m 5 #[.val (.ref a1), .unset, .unset, .unset, .unset, .unset, .unset, .unset] [(.double (FP.i2d p2))])) _
    refine XS.dstoreN X102.here hx rfl (hb hby d4_5) rfl (l' := #[.val (.ref a1), .val (.double (FP.i2d p2)), .second, .unset, .unset, .unset, .unset, .unset]) rfl ?_
    show Steps p.tables e below (T102.setTop (mkF m 6 #[.val (.ref a1), .val (.double (FP.i2d p2)), .second, .unset, .unset, .unset, .unset, .unset] [])) _
    refine XS.aloadN X102.here hx rfl (hb hby d4_6) rfl rfl ?_
    exact k)
  obtain ⟨T105, X105, e105, st105⟩ := getF X102 hx hZ hown (host := "") (Or.inl (hw _ (List.mem_of_getElem? (i := 16) rfl))) Via.refl e102 Fk0 (g := (mkF m 7 #[.val (.ref a1), .val (.double (FP.i2d p2)), .second, .unset, .unset, .unset, .unset, .unset] [(.ref a1)])) rfl rfl (hb hby d4_7)
  have k106 : ∀ t, Steps p.tables e below (T105.setTop (mkF m 10 #[.val (.ref a1), .val (.double (FP.i2d p2)), .second, .unset, .unset, .unset, .unset, .unset] [(.ref b3)])) t → Steps p.tables e below (s₁.setTop (entryFrame m #[(.ref a1)] 8)) t := fun t k => k104 t (st105 t k)
  have k107 : ∀ t, Steps p.tables e below (T105.setTop (mkF m 12 #[.val (.ref a1), .val (.double (FP.i2d p2)), .second, .val (.ref b3), .unset, .unset, .unset, .unset] [(.ref b3)])) t → Steps p.tables e below (s₁.setTop (entryFrame m #[(.ref a1)] 8)) t := fun t k => k106 t (by
    show Steps p.tables e below (T105.setTop (mkF m 10 #[.val (.ref a1), .val (.double (FP.i2d p2)), .second, .unset, .unset, .unset, .unset, .unset] [(.ref b3)])) _
    refine XS.astoreN X105.here hx rfl (hb hby d4_10) rfl rfl (l' := #[.val (.ref a1), .val (.double (FP.i2d p2)), .second, .val (.ref b3), .unset, .unset, .unset, .unset]) rfl ?_
    show Steps p.tables e below (T105.setTop (mkF m 11 #[.val (.ref a1), .val (.double (FP.i2d p2)), .second, .val (.ref b3), .unset, .unset, .unset, .unset] [])) _
    refine XS.aloadN X105.here hx rfl (hb hby d4_11) rfl rfl ?_
    exact k)
  obtain ⟨c108, Ar108, -, As108, An108, -, -⟩ := id Fk2
  have k109 : ∀ t, Steps p.tables e below (T105.setTop (mkF m 28 #[.val (.ref a1), .val (.double (FP.i2d p2)), .second, .val (.ref b3), .val (.int (3 : Int32)), .val (.int (0 : Int32)), .unset, .unset] [(.int (0 : Int32)), (.ref b3)])) t → Steps p.tables e below (s₁.setTop (entryFrame m #[(.ref a1)] 8)) t := fun t k => k107 t (by
    show Steps p.tables e below (T105.setTop (mkF m 12 #[.val (.ref a1), .val (.double (FP.i2d p2)), .second, .val (.ref b3), .unset, .unset, .unset, .unset] [(.ref b3)])) _
    refine X105.arraylength hx (by rw [e105]; exact Ar108.1) (State.isArrayOf_alike hZ.alike Ar108.2.1) (g := (mkF m 12 #[.val (.ref a1), .val (.double (FP.i2d p2)), .second, .val (.ref b3), .unset, .unset, .unset, .unset] [(.ref b3)])) rfl rfl (hb hby d4_12) _ ?_
    rw [len_of As108 An108]
    show Steps p.tables e below (T105.setTop (mkF m 13 #[.val (.ref a1), .val (.double (FP.i2d p2)), .second, .val (.ref b3), .unset, .unset, .unset, .unset] [(.int (3 : Int32))])) _
    refine XS.istore X105.here hx rfl (hb hby d4_13) rfl (l' := #[.val (.ref a1), .val (.double (FP.i2d p2)), .second, .val (.ref b3), .val (.int (3 : Int32)), .unset, .unset, .unset]) rfl ?_
    show Steps p.tables e below (T105.setTop (mkF m 15 #[.val (.ref a1), .val (.double (FP.i2d p2)), .second, .val (.ref b3), .val (.int (3 : Int32)), .unset, .unset, .unset] [])) _
    refine XS.iconst X105.here hx rfl (hb hby d4_15) ?_
    show Steps p.tables e below (T105.setTop (mkF m 16 #[.val (.ref a1), .val (.double (FP.i2d p2)), .second, .val (.ref b3), .val (.int (3 : Int32)), .unset, .unset, .unset] [(.int (0 : Int32))])) _
    refine XS.istore X105.here hx rfl (hb hby d4_16) rfl (l' := #[.val (.ref a1), .val (.double (FP.i2d p2)), .second, .val (.ref b3), .val (.int (3 : Int32)), .val (.int (0 : Int32)), .unset, .unset]) rfl ?_
    show Steps p.tables e below (T105.setTop (mkF m 18 #[.val (.ref a1), .val (.double (FP.i2d p2)), .second, .val (.ref b3), .val (.int (3 : Int32)), .val (.int (0 : Int32)), .unset, .unset] [])) _
    refine XS.iload X105.here hx rfl (hb hby d4_18) rfl ?_
    show Steps p.tables e below (T105.setTop (mkF m 20 #[.val (.ref a1), .val (.double (FP.i2d p2)), .second, .val (.ref b3), .val (.int (3 : Int32)), .val (.int (0 : Int32)), .unset, .unset] [(.int (0 : Int32))])) _
    refine XS.iload X105.here hx rfl (hb hby d4_20) rfl ?_
    show Steps p.tables e below (T105.setTop (mkF m 22 #[.val (.ref a1), .val (.double (FP.i2d p2)), .second, .val (.ref b3), .val (.int (3 : Int32)), .val (.int (0 : Int32)), .unset, .unset] [(.int (3 : Int32)), (.int (0 : Int32))])) _
    refine XS.icmpNo X105.here hx rfl (hb hby d4_22) rfl (tlt (by decide)).2.1 ?_
    show Steps p.tables e below (T105.setTop (mkF m 25 #[.val (.ref a1), .val (.double (FP.i2d p2)), .second, .val (.ref b3), .val (.int (3 : Int32)), .val (.int (0 : Int32)), .unset, .unset] [])) _
    refine XS.aloadN X105.here hx rfl (hb hby d4_25) rfl rfl ?_
    show Steps p.tables e below (T105.setTop (mkF m 26 #[.val (.ref a1), .val (.double (FP.i2d p2)), .second, .val (.ref b3), .val (.int (3 : Int32)), .val (.int (0 : Int32)), .unset, .unset] [(.ref b3)])) _
    refine XS.iload X105.here hx rfl (hb hby d4_26) rfl ?_
    exact k)
  obtain ⟨c110, Ar110, -, As110, An110, Ah110, -⟩ := id Fk2
  have hin110 : ¬ ((0 : Int32) < 0 ∨ c110.slots.size ≤ ((0 : Int32)).toNatClampNeg) := inb_of As110 ⟨by decide, by decide⟩
  have hat110 : c110.slots[((0 : Int32)).toNatClampNeg]? = some (.double u0) := Has.at Ah110 hin110 rfl
  have k111 : ∀ t, Steps p.tables e below (T105.setTop (mkF m 28 #[.val (.ref a1), .val (.double (FP.dadd (FP.i2d p2) u0)), .second, .val (.ref b3), .val (.int (3 : Int32)), .val (.int (1 : Int32)), .val (.double u0), .second] [(.int (1 : Int32)), (.ref b3)])) t → Steps p.tables e below (s₁.setTop (entryFrame m #[(.ref a1)] 8)) t := fun t k => k109 t (by
    show Steps p.tables e below (T105.setTop (mkF m 28 #[.val (.ref a1), .val (.double (FP.i2d p2)), .second, .val (.ref b3), .val (.int (3 : Int32)), .val (.int (0 : Int32)), .unset, .unset] [(.int (0 : Int32)), (.ref b3)])) _
    refine X105.daload hx (j := (0 : Int32)) (v := (.double u0)) (by rw [e105]; exact Ar110.1) (State.isArrayOf_alike hZ.alike Ar110.2.1) Ar110.2.2 hin110 hat110 (g := (mkF m 28 #[.val (.ref a1), .val (.double (FP.i2d p2)), .second, .val (.ref b3), .val (.int (3 : Int32)), .val (.int (0 : Int32)), .unset, .unset] [(.int (0 : Int32)), (.ref b3)])) rfl rfl (hb hby d4_28) _ ?_
    show Steps p.tables e below (T105.setTop (mkF m 29 #[.val (.ref a1), .val (.double (FP.i2d p2)), .second, .val (.ref b3), .val (.int (3 : Int32)), .val (.int (0 : Int32)), .unset, .unset] [(.double u0)])) _
    refine XS.dstore X105.here hx rfl (hb hby d4_29) rfl (l' := #[.val (.ref a1), .val (.double (FP.i2d p2)), .second, .val (.ref b3), .val (.int (3 : Int32)), .val (.int (0 : Int32)), .val (.double u0), .second]) rfl ?_
    show Steps p.tables e below (T105.setTop (mkF m 31 #[.val (.ref a1), .val (.double (FP.i2d p2)), .second, .val (.ref b3), .val (.int (3 : Int32)), .val (.int (0 : Int32)), .val (.double u0), .second] [])) _
    refine XS.dloadN X105.here hx rfl (hb hby d4_31) rfl ?_
    show Steps p.tables e below (T105.setTop (mkF m 32 #[.val (.ref a1), .val (.double (FP.i2d p2)), .second, .val (.ref b3), .val (.int (3 : Int32)), .val (.int (0 : Int32)), .val (.double u0), .second] [(.double (FP.i2d p2))])) _
    refine XS.dload X105.here hx rfl (hb hby d4_32) rfl ?_
    show Steps p.tables e below (T105.setTop (mkF m 34 #[.val (.ref a1), .val (.double (FP.i2d p2)), .second, .val (.ref b3), .val (.int (3 : Int32)), .val (.int (0 : Int32)), .val (.double u0), .second] [(.double u0), (.double (FP.i2d p2))])) _
    refine XS.daddS X105.here hx rfl (hb hby d4_34) rfl (na0) rfl ?_
    show Steps p.tables e below (T105.setTop (mkF m 35 #[.val (.ref a1), .val (.double (FP.i2d p2)), .second, .val (.ref b3), .val (.int (3 : Int32)), .val (.int (0 : Int32)), .val (.double u0), .second] [(.double (FP.dadd (FP.i2d p2) u0))])) _
    refine XS.dstoreN X105.here hx rfl (hb hby d4_35) rfl (l' := #[.val (.ref a1), .val (.double (FP.dadd (FP.i2d p2) u0)), .second, .val (.ref b3), .val (.int (3 : Int32)), .val (.int (0 : Int32)), .val (.double u0), .second]) rfl ?_
    show Steps p.tables e below (T105.setTop (mkF m 36 #[.val (.ref a1), .val (.double (FP.dadd (FP.i2d p2) u0)), .second, .val (.ref b3), .val (.int (3 : Int32)), .val (.int (0 : Int32)), .val (.double u0), .second] [])) _
    refine XS.iinc X105.here hx rfl (hb hby d4_36) rfl (l' := #[.val (.ref a1), .val (.double (FP.dadd (FP.i2d p2) u0)), .second, .val (.ref b3), .val (.int (3 : Int32)), .val (.int (1 : Int32)), .val (.double u0), .second]) rfl ?_
    show Steps p.tables e below (T105.setTop (mkF m 39 #[.val (.ref a1), .val (.double (FP.dadd (FP.i2d p2) u0)), .second, .val (.ref b3), .val (.int (3 : Int32)), .val (.int (1 : Int32)), .val (.double u0), .second] [])) _
    refine XS.goto X105.here hx rfl (pc0 := 39) (pc' := 18) rfl (hb hby d4_39) (by decide) (by decide) ?_
    show Steps p.tables e below (T105.setTop (mkF m 18 #[.val (.ref a1), .val (.double (FP.dadd (FP.i2d p2) u0)), .second, .val (.ref b3), .val (.int (3 : Int32)), .val (.int (1 : Int32)), .val (.double u0), .second] [])) _
    refine XS.iload X105.here hx rfl (hb hby d4_18) rfl ?_
    show Steps p.tables e below (T105.setTop (mkF m 20 #[.val (.ref a1), .val (.double (FP.dadd (FP.i2d p2) u0)), .second, .val (.ref b3), .val (.int (3 : Int32)), .val (.int (1 : Int32)), .val (.double u0), .second] [(.int (1 : Int32))])) _
    refine XS.iload X105.here hx rfl (hb hby d4_20) rfl ?_
    show Steps p.tables e below (T105.setTop (mkF m 22 #[.val (.ref a1), .val (.double (FP.dadd (FP.i2d p2) u0)), .second, .val (.ref b3), .val (.int (3 : Int32)), .val (.int (1 : Int32)), .val (.double u0), .second] [(.int (3 : Int32)), (.int (1 : Int32))])) _
    refine XS.icmpNo X105.here hx rfl (hb hby d4_22) rfl (tlt (by decide)).2.1 ?_
    show Steps p.tables e below (T105.setTop (mkF m 25 #[.val (.ref a1), .val (.double (FP.dadd (FP.i2d p2) u0)), .second, .val (.ref b3), .val (.int (3 : Int32)), .val (.int (1 : Int32)), .val (.double u0), .second] [])) _
    refine XS.aloadN X105.here hx rfl (hb hby d4_25) rfl rfl ?_
    show Steps p.tables e below (T105.setTop (mkF m 26 #[.val (.ref a1), .val (.double (FP.dadd (FP.i2d p2) u0)), .second, .val (.ref b3), .val (.int (3 : Int32)), .val (.int (1 : Int32)), .val (.double u0), .second] [(.ref b3)])) _
    refine XS.iload X105.here hx rfl (hb hby d4_26) rfl ?_
    exact k)
  obtain ⟨c112, Ar112, -, As112, An112, Ah112, -⟩ := id Fk2
  have hin112 : ¬ ((1 : Int32) < 0 ∨ c112.slots.size ≤ ((1 : Int32)).toNatClampNeg) := inb_of As112 ⟨by decide, by decide⟩
  have hat112 : c112.slots[((1 : Int32)).toNatClampNeg]? = some (.double u1) := Has.at Ah112 hin112 rfl
  have k113 : ∀ t, Steps p.tables e below (T105.setTop (mkF m 28 #[.val (.ref a1), .val (.double (FP.dadd (FP.dadd (FP.i2d p2) u0) u1)), .second, .val (.ref b3), .val (.int (3 : Int32)), .val (.int (2 : Int32)), .val (.double u1), .second] [(.int (2 : Int32)), (.ref b3)])) t → Steps p.tables e below (s₁.setTop (entryFrame m #[(.ref a1)] 8)) t := fun t k => k111 t (by
    show Steps p.tables e below (T105.setTop (mkF m 28 #[.val (.ref a1), .val (.double (FP.dadd (FP.i2d p2) u0)), .second, .val (.ref b3), .val (.int (3 : Int32)), .val (.int (1 : Int32)), .val (.double u0), .second] [(.int (1 : Int32)), (.ref b3)])) _
    refine X105.daload hx (j := (1 : Int32)) (v := (.double u1)) (by rw [e105]; exact Ar112.1) (State.isArrayOf_alike hZ.alike Ar112.2.1) Ar112.2.2 hin112 hat112 (g := (mkF m 28 #[.val (.ref a1), .val (.double (FP.dadd (FP.i2d p2) u0)), .second, .val (.ref b3), .val (.int (3 : Int32)), .val (.int (1 : Int32)), .val (.double u0), .second] [(.int (1 : Int32)), (.ref b3)])) rfl rfl (hb hby d4_28) _ ?_
    show Steps p.tables e below (T105.setTop (mkF m 29 #[.val (.ref a1), .val (.double (FP.dadd (FP.i2d p2) u0)), .second, .val (.ref b3), .val (.int (3 : Int32)), .val (.int (1 : Int32)), .val (.double u0), .second] [(.double u1)])) _
    refine XS.dstore X105.here hx rfl (hb hby d4_29) rfl (l' := #[.val (.ref a1), .val (.double (FP.dadd (FP.i2d p2) u0)), .second, .val (.ref b3), .val (.int (3 : Int32)), .val (.int (1 : Int32)), .val (.double u1), .second]) rfl ?_
    show Steps p.tables e below (T105.setTop (mkF m 31 #[.val (.ref a1), .val (.double (FP.dadd (FP.i2d p2) u0)), .second, .val (.ref b3), .val (.int (3 : Int32)), .val (.int (1 : Int32)), .val (.double u1), .second] [])) _
    refine XS.dloadN X105.here hx rfl (hb hby d4_31) rfl ?_
    show Steps p.tables e below (T105.setTop (mkF m 32 #[.val (.ref a1), .val (.double (FP.dadd (FP.i2d p2) u0)), .second, .val (.ref b3), .val (.int (3 : Int32)), .val (.int (1 : Int32)), .val (.double u1), .second] [(.double (FP.dadd (FP.i2d p2) u0))])) _
    refine XS.dload X105.here hx rfl (hb hby d4_32) rfl ?_
    show Steps p.tables e below (T105.setTop (mkF m 34 #[.val (.ref a1), .val (.double (FP.dadd (FP.i2d p2) u0)), .second, .val (.ref b3), .val (.int (3 : Int32)), .val (.int (1 : Int32)), .val (.double u1), .second] [(.double u1), (.double (FP.dadd (FP.i2d p2) u0))])) _
    refine XS.daddS X105.here hx rfl (hb hby d4_34) rfl (na1) rfl ?_
    show Steps p.tables e below (T105.setTop (mkF m 35 #[.val (.ref a1), .val (.double (FP.dadd (FP.i2d p2) u0)), .second, .val (.ref b3), .val (.int (3 : Int32)), .val (.int (1 : Int32)), .val (.double u1), .second] [(.double (FP.dadd (FP.dadd (FP.i2d p2) u0) u1))])) _
    refine XS.dstoreN X105.here hx rfl (hb hby d4_35) rfl (l' := #[.val (.ref a1), .val (.double (FP.dadd (FP.dadd (FP.i2d p2) u0) u1)), .second, .val (.ref b3), .val (.int (3 : Int32)), .val (.int (1 : Int32)), .val (.double u1), .second]) rfl ?_
    show Steps p.tables e below (T105.setTop (mkF m 36 #[.val (.ref a1), .val (.double (FP.dadd (FP.dadd (FP.i2d p2) u0) u1)), .second, .val (.ref b3), .val (.int (3 : Int32)), .val (.int (1 : Int32)), .val (.double u1), .second] [])) _
    refine XS.iinc X105.here hx rfl (hb hby d4_36) rfl (l' := #[.val (.ref a1), .val (.double (FP.dadd (FP.dadd (FP.i2d p2) u0) u1)), .second, .val (.ref b3), .val (.int (3 : Int32)), .val (.int (2 : Int32)), .val (.double u1), .second]) rfl ?_
    show Steps p.tables e below (T105.setTop (mkF m 39 #[.val (.ref a1), .val (.double (FP.dadd (FP.dadd (FP.i2d p2) u0) u1)), .second, .val (.ref b3), .val (.int (3 : Int32)), .val (.int (2 : Int32)), .val (.double u1), .second] [])) _
    refine XS.goto X105.here hx rfl (pc0 := 39) (pc' := 18) rfl (hb hby d4_39) (by decide) (by decide) ?_
    show Steps p.tables e below (T105.setTop (mkF m 18 #[.val (.ref a1), .val (.double (FP.dadd (FP.dadd (FP.i2d p2) u0) u1)), .second, .val (.ref b3), .val (.int (3 : Int32)), .val (.int (2 : Int32)), .val (.double u1), .second] [])) _
    refine XS.iload X105.here hx rfl (hb hby d4_18) rfl ?_
    show Steps p.tables e below (T105.setTop (mkF m 20 #[.val (.ref a1), .val (.double (FP.dadd (FP.dadd (FP.i2d p2) u0) u1)), .second, .val (.ref b3), .val (.int (3 : Int32)), .val (.int (2 : Int32)), .val (.double u1), .second] [(.int (2 : Int32))])) _
    refine XS.iload X105.here hx rfl (hb hby d4_20) rfl ?_
    show Steps p.tables e below (T105.setTop (mkF m 22 #[.val (.ref a1), .val (.double (FP.dadd (FP.dadd (FP.i2d p2) u0) u1)), .second, .val (.ref b3), .val (.int (3 : Int32)), .val (.int (2 : Int32)), .val (.double u1), .second] [(.int (3 : Int32)), (.int (2 : Int32))])) _
    refine XS.icmpNo X105.here hx rfl (hb hby d4_22) rfl (tlt (by decide)).2.1 ?_
    show Steps p.tables e below (T105.setTop (mkF m 25 #[.val (.ref a1), .val (.double (FP.dadd (FP.dadd (FP.i2d p2) u0) u1)), .second, .val (.ref b3), .val (.int (3 : Int32)), .val (.int (2 : Int32)), .val (.double u1), .second] [])) _
    refine XS.aloadN X105.here hx rfl (hb hby d4_25) rfl rfl ?_
    show Steps p.tables e below (T105.setTop (mkF m 26 #[.val (.ref a1), .val (.double (FP.dadd (FP.dadd (FP.i2d p2) u0) u1)), .second, .val (.ref b3), .val (.int (3 : Int32)), .val (.int (2 : Int32)), .val (.double u1), .second] [(.ref b3)])) _
    refine XS.iload X105.here hx rfl (hb hby d4_26) rfl ?_
    exact k)
  obtain ⟨c114, Ar114, -, As114, An114, Ah114, -⟩ := id Fk2
  have hin114 : ¬ ((2 : Int32) < 0 ∨ c114.slots.size ≤ ((2 : Int32)).toNatClampNeg) := inb_of As114 ⟨by decide, by decide⟩
  have hat114 : c114.slots[((2 : Int32)).toNatClampNeg]? = some (.double u2) := Has.at Ah114 hin114 rfl
  have k115 : ∀ t, Steps p.tables e below (T105.setTop (mkF m 43 #[.val (.ref a1), .val (.double (FP.dadd (FP.dadd (FP.dadd (FP.i2d p2) u0) u1) u2)), .second, .val (.ref b3), .val (.int (3 : Int32)), .val (.int (3 : Int32)), .val (.double u2), .second] [(.double (FP.dadd (FP.dadd (FP.dadd (FP.i2d p2) u0) u1) u2))])) t → Steps p.tables e below (s₁.setTop (entryFrame m #[(.ref a1)] 8)) t := fun t k => k113 t (by
    show Steps p.tables e below (T105.setTop (mkF m 28 #[.val (.ref a1), .val (.double (FP.dadd (FP.dadd (FP.i2d p2) u0) u1)), .second, .val (.ref b3), .val (.int (3 : Int32)), .val (.int (2 : Int32)), .val (.double u1), .second] [(.int (2 : Int32)), (.ref b3)])) _
    refine X105.daload hx (j := (2 : Int32)) (v := (.double u2)) (by rw [e105]; exact Ar114.1) (State.isArrayOf_alike hZ.alike Ar114.2.1) Ar114.2.2 hin114 hat114 (g := (mkF m 28 #[.val (.ref a1), .val (.double (FP.dadd (FP.dadd (FP.i2d p2) u0) u1)), .second, .val (.ref b3), .val (.int (3 : Int32)), .val (.int (2 : Int32)), .val (.double u1), .second] [(.int (2 : Int32)), (.ref b3)])) rfl rfl (hb hby d4_28) _ ?_
    show Steps p.tables e below (T105.setTop (mkF m 29 #[.val (.ref a1), .val (.double (FP.dadd (FP.dadd (FP.i2d p2) u0) u1)), .second, .val (.ref b3), .val (.int (3 : Int32)), .val (.int (2 : Int32)), .val (.double u1), .second] [(.double u2)])) _
    refine XS.dstore X105.here hx rfl (hb hby d4_29) rfl (l' := #[.val (.ref a1), .val (.double (FP.dadd (FP.dadd (FP.i2d p2) u0) u1)), .second, .val (.ref b3), .val (.int (3 : Int32)), .val (.int (2 : Int32)), .val (.double u2), .second]) rfl ?_
    show Steps p.tables e below (T105.setTop (mkF m 31 #[.val (.ref a1), .val (.double (FP.dadd (FP.dadd (FP.i2d p2) u0) u1)), .second, .val (.ref b3), .val (.int (3 : Int32)), .val (.int (2 : Int32)), .val (.double u2), .second] [])) _
    refine XS.dloadN X105.here hx rfl (hb hby d4_31) rfl ?_
    show Steps p.tables e below (T105.setTop (mkF m 32 #[.val (.ref a1), .val (.double (FP.dadd (FP.dadd (FP.i2d p2) u0) u1)), .second, .val (.ref b3), .val (.int (3 : Int32)), .val (.int (2 : Int32)), .val (.double u2), .second] [(.double (FP.dadd (FP.dadd (FP.i2d p2) u0) u1))])) _
    refine XS.dload X105.here hx rfl (hb hby d4_32) rfl ?_
    show Steps p.tables e below (T105.setTop (mkF m 34 #[.val (.ref a1), .val (.double (FP.dadd (FP.dadd (FP.i2d p2) u0) u1)), .second, .val (.ref b3), .val (.int (3 : Int32)), .val (.int (2 : Int32)), .val (.double u2), .second] [(.double u2), (.double (FP.dadd (FP.dadd (FP.i2d p2) u0) u1))])) _
    refine XS.daddS X105.here hx rfl (hb hby d4_34) rfl (na2) rfl ?_
    show Steps p.tables e below (T105.setTop (mkF m 35 #[.val (.ref a1), .val (.double (FP.dadd (FP.dadd (FP.i2d p2) u0) u1)), .second, .val (.ref b3), .val (.int (3 : Int32)), .val (.int (2 : Int32)), .val (.double u2), .second] [(.double (FP.dadd (FP.dadd (FP.dadd (FP.i2d p2) u0) u1) u2))])) _
    refine XS.dstoreN X105.here hx rfl (hb hby d4_35) rfl (l' := #[.val (.ref a1), .val (.double (FP.dadd (FP.dadd (FP.dadd (FP.i2d p2) u0) u1) u2)), .second, .val (.ref b3), .val (.int (3 : Int32)), .val (.int (2 : Int32)), .val (.double u2), .second]) rfl ?_
    show Steps p.tables e below (T105.setTop (mkF m 36 #[.val (.ref a1), .val (.double (FP.dadd (FP.dadd (FP.dadd (FP.i2d p2) u0) u1) u2)), .second, .val (.ref b3), .val (.int (3 : Int32)), .val (.int (2 : Int32)), .val (.double u2), .second] [])) _
    refine XS.iinc X105.here hx rfl (hb hby d4_36) rfl (l' := #[.val (.ref a1), .val (.double (FP.dadd (FP.dadd (FP.dadd (FP.i2d p2) u0) u1) u2)), .second, .val (.ref b3), .val (.int (3 : Int32)), .val (.int (3 : Int32)), .val (.double u2), .second]) rfl ?_
    show Steps p.tables e below (T105.setTop (mkF m 39 #[.val (.ref a1), .val (.double (FP.dadd (FP.dadd (FP.dadd (FP.i2d p2) u0) u1) u2)), .second, .val (.ref b3), .val (.int (3 : Int32)), .val (.int (3 : Int32)), .val (.double u2), .second] [])) _
    refine XS.goto X105.here hx rfl (pc0 := 39) (pc' := 18) rfl (hb hby d4_39) (by decide) (by decide) ?_
    show Steps p.tables e below (T105.setTop (mkF m 18 #[.val (.ref a1), .val (.double (FP.dadd (FP.dadd (FP.dadd (FP.i2d p2) u0) u1) u2)), .second, .val (.ref b3), .val (.int (3 : Int32)), .val (.int (3 : Int32)), .val (.double u2), .second] [])) _
    refine XS.iload X105.here hx rfl (hb hby d4_18) rfl ?_
    show Steps p.tables e below (T105.setTop (mkF m 20 #[.val (.ref a1), .val (.double (FP.dadd (FP.dadd (FP.dadd (FP.i2d p2) u0) u1) u2)), .second, .val (.ref b3), .val (.int (3 : Int32)), .val (.int (3 : Int32)), .val (.double u2), .second] [(.int (3 : Int32))])) _
    refine XS.iload X105.here hx rfl (hb hby d4_20) rfl ?_
    show Steps p.tables e below (T105.setTop (mkF m 22 #[.val (.ref a1), .val (.double (FP.dadd (FP.dadd (FP.dadd (FP.i2d p2) u0) u1) u2)), .second, .val (.ref b3), .val (.int (3 : Int32)), .val (.int (3 : Int32)), .val (.double u2), .second] [(.int (3 : Int32)), (.int (3 : Int32))])) _
    refine XS.icmpYes X105.here hx rfl (pc0 := 22) (pc' := 42) rfl (hb hby d4_22) rfl (flt (by decide)).2.1 (by decide) (by decide) ?_
    show Steps p.tables e below (T105.setTop (mkF m 42 #[.val (.ref a1), .val (.double (FP.dadd (FP.dadd (FP.dadd (FP.i2d p2) u0) u1) u2)), .second, .val (.ref b3), .val (.int (3 : Int32)), .val (.int (3 : Int32)), .val (.double u2), .second] [])) _
    refine XS.dloadN X105.here hx rfl (hb hby d4_42) rfl ?_
    exact k)
  obtain ⟨fs, hr, hrun, hended, hW, hsame⟩ := X105.leave (v := some (.double (FP.dadd (FP.dadd (FP.dadd (FP.i2d p2) u0) u1) u2))) (fun h => by rw [Bd.returns] at h; cases h)
  refine ⟨_, _, k115 _ (retOut X105 hx (t := .double) Bd.returns rfl (Or.inr (Or.inr (Or.inl ⟨rfl, rfl, _, rfl⟩))) (hb hby d4_43) hr), hrun, hended, _, _, rfl, ?_, ⟨_, rfl⟩, hW, hsame.mono (by decide) (by decide)⟩
  show Q_tot3 Z a1 b3 k3 p2 u0 u1 u2 h0 n0 _ T105.heap _
  rw [e105]
  exact ⟨rfl, N0, rfl⟩
theorem ef_0_IIIIII (m : MethodId) (x0 : Int32) (x1 : Int32) (x2 : Int32) (x3 : Int32) (x4 : Int32) (x5 : Int32) : entryFrame m #[(.int x0), (.int x1), (.int x2), (.int x3), (.int x4), (.int x5)] maxLocals = mkF m 0 #[.val (.int x0), .val (.int x1), .val (.int x2), .val (.int x3), .val (.int x4), .val (.int x5), .unset, .unset, .unset, .unset, .unset, .unset, .unset] [] := by first | (simp [entryFrame, mkF, argsToLocals, Value.category, maxLocals]; done) | rfl
theorem pd__28I_29V : parseMethodDescriptor "(I)V" = some ⟨[.int], none⟩ := by decide +kernel
theorem pd__28ID_29V : parseMethodDescriptor "(ID)V" = some ⟨[.int, .double], none⟩ := by decide +kernel
theorem pd__28_29D : parseMethodDescriptor "()D" = some ⟨[], some .double⟩ := by decide +kernel
def Q_rm0 (Z : State) (st : Int32) (s1 : Int32) (a1 : Int32) (s2 : Int32) (a2 : Int32) (cnt : Int32) (h0 : Heap) (n0 : Nat) (v : Option Value) (h : Heap) (L : List Loc) : Prop := v = some (.int 1) ∧ Fr n0 L
theorem pn_com_2fexample_2fistra_2fistra_2fmodel_2fTransferTotalPinLaw : plainName "com/example/istra/istra/model/TransferTotalPinLaw" = true := by first | (simp [plainName, overriddenIn]; done) | decide +kernel
set_option maxRecDepth 65536 in
set_option maxHeartbeats 40000000 in
theorem rm0 (l : Launch) (Z : State) (a0 : Array Value) (hw : ∀ d ∈ tables_1, d.before a0 Z = true) (ws : List Jvm.Cond) (st : Int32) (s1 : Int32) (a1 : Int32) (s2 : Int32) (a2 : Int32) (cnt : Int32) (h0 : Heap) (n0 : Nat) (Z0 : n0 ≤ h0.size) :
    MetFree l x (head1 (Jvm.Cond.code x code maxLocals ret :: ws) room_1) (fun a U => a = #[(.int st), (.int s1), (.int a1), (.int s2), (.int a2), (.int cnt)] ∧ Z.Warmed39 U.vm ∧ U.heap = h0) (fun _ _ _ _ _ => True) (fun _ U o U' => ∃ v L, o = .returned v ∧ Q_rm0 Z st s1 a1 s2 a2 cnt h0 n0 v U'.heap L ∧ FrameEnd U o U' L room_1.cells room_1.slots) := by
  refine MetFree.of_bodySF (plainFor_of_name pn_com_2fexample_2fistra_2fistra_2fmodel_2fTransferTotalPinLaw) hisR ?_
  intro p e s m args below meth c s₁ Bd hml0 hP hK
  obtain ⟨rfl, hZ, hh⟩ := hP
  have hx := Bd.exec
  have hby := Bd.bytes
  have hml : c.maxLocals = 13 := hml0
  have hown : s.vm.findClass "com/example/istra/istra/model/TransferTotalPinLaw" = some m.cls := findClass_of_methodNamed Bd.named
  have hnm := (name_of_methodNamed Bd.named Bd.method).1
  have X0 : Stand p l e room_1 s m #[(.int st), (.int s1), (.int a1), (.int s2), (.int a2), (.int cnt)] below meth c s₁ [] 0 0 := Stand.of_body Bd
  have e0 : s₁.heap = h0 := by rw [← hh, Bd.state]; rfl
  have N0 := Fr.nil n0
  have k0 : ∀ t, Steps p.tables e below (s₁.setTop (mkF m 0 #[.val (.int st), .val (.int s1), .val (.int a1), .val (.int s2), .val (.int a2), .val (.int cnt), .unset, .unset, .unset, .unset, .unset, .unset, .unset] [])) t → Steps p.tables e below (s₁.setTop (entryFrame m #[(.int st), (.int s1), (.int a1), (.int s2), (.int a2), (.int cnt)] maxLocals)) t := fun t k => castTop (ef_0_IIIIII m st s1 a1 s2 a2 cnt) k
  obtain ⟨n, hn⟩ : ∃ z : Int32, z = (st &&& (3 : Int32)) := ⟨_, rfl⟩
  obtain ⟨kc, hkc⟩ : ∃ z : Int32, z = ((cnt &&& (2147483647 : Int32)) % (6 : Int32)) := ⟨_, rfl⟩
  have k101 : ∀ t, Steps p.tables e below (s₁.setTop (mkF m 15 #[.val (.int st), .val (.int s1), .val (.int a1), .val (.int s2), .val (.int a2), .val (.int cnt), .val (.int n), .val (.int kc), .unset, .unset, .unset, .unset, .unset] [])) t → Steps p.tables e below (s₁.setTop (entryFrame m #[(.int st), (.int s1), (.int a1), (.int s2), (.int a2), (.int cnt)] maxLocals)) t := fun t k => k0 t (by
    show Steps p.tables e below (s₁.setTop (mkF m 0 #[.val (.int st), .val (.int s1), .val (.int a1), .val (.int s2), .val (.int a2), .val (.int cnt), .unset, .unset, .unset, .unset, .unset, .unset, .unset] [])) _
    refine XS.iloadN X0.here hx rfl (hb hby at_0) rfl ?_
    show Steps p.tables e below (s₁.setTop (mkF m 1 #[.val (.int st), .val (.int s1), .val (.int a1), .val (.int s2), .val (.int a2), .val (.int cnt), .unset, .unset, .unset, .unset, .unset, .unset, .unset] [(.int st)])) _
    refine XS.iconst X0.here hx rfl (hb hby at_1) ?_
    show Steps p.tables e below (s₁.setTop (mkF m 2 #[.val (.int st), .val (.int s1), .val (.int a1), .val (.int s2), .val (.int a2), .val (.int cnt), .unset, .unset, .unset, .unset, .unset, .unset, .unset] [(.int (3 : Int32)), (.int st)])) _
    refine XS.iand X0.here hx rfl (hb hby at_2) rfl ?_
    show Steps p.tables e below (s₁.setTop (mkF m 3 #[.val (.int st), .val (.int s1), .val (.int a1), .val (.int s2), .val (.int a2), .val (.int cnt), .unset, .unset, .unset, .unset, .unset, .unset, .unset] [(.int (st &&& (3 : Int32)))])) _
    refine castTop (g' := (mkF m 3 #[.val (.int st), .val (.int s1), .val (.int a1), .val (.int s2), .val (.int a2), .val (.int cnt), .unset, .unset, .unset, .unset, .unset, .unset, .unset] [(.int n)])) (by rw [hn]) ?_
    show Steps p.tables e below (s₁.setTop (mkF m 3 #[.val (.int st), .val (.int s1), .val (.int a1), .val (.int s2), .val (.int a2), .val (.int cnt), .unset, .unset, .unset, .unset, .unset, .unset, .unset] [(.int n)])) _
    refine XS.istore X0.here hx rfl (hb hby at_3) rfl (l' := #[.val (.int st), .val (.int s1), .val (.int a1), .val (.int s2), .val (.int a2), .val (.int cnt), .val (.int n), .unset, .unset, .unset, .unset, .unset, .unset]) rfl ?_
    show Steps p.tables e below (s₁.setTop (mkF m 5 #[.val (.int st), .val (.int s1), .val (.int a1), .val (.int s2), .val (.int a2), .val (.int cnt), .val (.int n), .unset, .unset, .unset, .unset, .unset, .unset] [])) _
    refine XS.iload X0.here hx rfl (hb hby at_5) rfl ?_
    show Steps p.tables e below (s₁.setTop (mkF m 7 #[.val (.int st), .val (.int s1), .val (.int a1), .val (.int s2), .val (.int a2), .val (.int cnt), .val (.int n), .unset, .unset, .unset, .unset, .unset, .unset] [(.int cnt)])) _
    refine X0.ldcInt hx hown (mvT hZ (hw _ (List.mem_of_getElem? (i := 0) rfl))) (g := (mkF m 7 #[.val (.int st), .val (.int s1), .val (.int a1), .val (.int s2), .val (.int a2), .val (.int cnt), .val (.int n), .unset, .unset, .unset, .unset, .unset, .unset] [(.int cnt)])) rfl (hb hby at_7) _ ?_
    show Steps p.tables e below (s₁.setTop (mkF m 9 #[.val (.int st), .val (.int s1), .val (.int a1), .val (.int s2), .val (.int a2), .val (.int cnt), .val (.int n), .unset, .unset, .unset, .unset, .unset, .unset] [(.int (2147483647 : Int32)), (.int cnt)])) _
    refine XS.iand X0.here hx rfl (hb hby at_9) rfl ?_
    show Steps p.tables e below (s₁.setTop (mkF m 10 #[.val (.int st), .val (.int s1), .val (.int a1), .val (.int s2), .val (.int a2), .val (.int cnt), .val (.int n), .unset, .unset, .unset, .unset, .unset, .unset] [(.int (cnt &&& (2147483647 : Int32)))])) _
    refine XS.bipush X0.here hx rfl (hb hby at_10) ?_
    show Steps p.tables e below (s₁.setTop (mkF m 12 #[.val (.int st), .val (.int s1), .val (.int a1), .val (.int s2), .val (.int a2), .val (.int cnt), .val (.int n), .unset, .unset, .unset, .unset, .unset, .unset] [(.int (6 : Int32)), (.int (cnt &&& (2147483647 : Int32)))])) _
    refine iremM X0 hx rfl (hb hby at_12) rfl (by decide) ?_
    show Steps p.tables e below (s₁.setTop (mkF m 13 #[.val (.int st), .val (.int s1), .val (.int a1), .val (.int s2), .val (.int a2), .val (.int cnt), .val (.int n), .unset, .unset, .unset, .unset, .unset, .unset] [(.int ((cnt &&& (2147483647 : Int32)) % (6 : Int32)))])) _
    refine castTop (g' := (mkF m 13 #[.val (.int st), .val (.int s1), .val (.int a1), .val (.int s2), .val (.int a2), .val (.int cnt), .val (.int n), .unset, .unset, .unset, .unset, .unset, .unset] [(.int kc)])) (by rw [hkc]) ?_
    show Steps p.tables e below (s₁.setTop (mkF m 13 #[.val (.int st), .val (.int s1), .val (.int a1), .val (.int s2), .val (.int a2), .val (.int cnt), .val (.int n), .unset, .unset, .unset, .unset, .unset, .unset] [(.int kc)])) _
    refine XS.istore X0.here hx rfl (hb hby at_13) rfl (l' := #[.val (.int st), .val (.int s1), .val (.int a1), .val (.int s2), .val (.int a2), .val (.int cnt), .val (.int n), .val (.int kc), .unset, .unset, .unset, .unset, .unset]) rfl ?_
    exact k)
  have Bk := own_k cnt kc hkc
  have Bn := own_n4 st n hn
  obtain ⟨T102, h102, X102, e102, E102, A102, D102, -, st102⟩ := newO X0 hx hZ hown (hw _ (List.mem_of_getElem? (i := 1) rfl)) (hw _ (List.mem_of_getElem? (i := 2) rfl)) (hw _ (List.mem_of_getElem? (i := 3) rfl)) e0 (g := (mkF m 15 #[.val (.int st), .val (.int s1), .val (.int a1), .val (.int s2), .val (.int a2), .val (.int cnt), .val (.int n), .val (.int kc), .unset, .unset, .unset, .unset, .unset] [])) rfl (hb hby at_15) (by decide) (by decide)
  obtain ⟨b102, g102⟩ : ∃ z, z = h0.size := ⟨_, rfl⟩
  rw [← g102] at A102 D102 st102
  have g103 : n0 ≤ b102 := Nat.le_trans Z0 (Nat.le_of_eq g102.symm)
  have Z104 : n0 ≤ h102.size := Nat.le_trans Z0 E102.1
  have F105 : Fld Z h102 b102 "com/example/istra/istra/model/Transfer" "vehicleStates" "[I" .null := D102 (Or.inl (hw _ (List.mem_of_getElem? (i := 12) rfl))) (ty := (.array .int)) (by decide)
  have F106 : Fld Z h102 b102 "com/example/istra/istra/model/Transfer" "crossingS" "[D" .null := D102 (Or.inl (hw _ (List.mem_of_getElem? (i := 15) rfl))) (ty := (.array .double)) (by decide)
  have F107 : Fld Z h102 b102 "com/example/istra/istra/model/Transfer" "fluid" "[D" .null := D102 (Or.inr (hw _ (List.mem_of_getElem? (i := 17) rfl))) (ty := (.array .double)) (by decide)
  have F108 : Fld Z h102 b102 "com/example/istra/istra/model/Transfer" "vehicles" "I" (.int (0 : Int32)) := D102 (Or.inl (hw _ (List.mem_of_getElem? (i := 24) rfl))) (ty := .int) (by decide)
  have F109 : Fld Z h102 b102 "com/example/istra/istra/model/Transfer" "holdsFluid" "Z" (.int (0 : Int32)) := D102 (Or.inl (hw _ (List.mem_of_getElem? (i := 38) rfl))) (ty := .boolean) (by decide)
  have k110 : ∀ t, Steps p.tables e below (T102.setTop (mkF m 18 #[.val (.int st), .val (.int s1), .val (.int a1), .val (.int s2), .val (.int a2), .val (.int cnt), .val (.int n), .val (.int kc), .unset, .unset, .unset, .unset, .unset] [(.ref b102)])) t → Steps p.tables e below (s₁.setTop (entryFrame m #[(.int st), (.int s1), (.int a1), (.int s2), (.int a2), (.int cnt)] maxLocals)) t := fun t k => k101 t (st102 t k)
  have k111 : ∀ t, Steps p.tables e below (T102.setTop (mkF m 21 #[.val (.int st), .val (.int s1), .val (.int a1), .val (.int s2), .val (.int a2), .val (.int cnt), .val (.int n), .val (.int kc), .unset, .unset, .unset, .unset, .unset] [(.int n), (.ref b102), (.ref b102)])) t → Steps p.tables e below (s₁.setTop (entryFrame m #[(.int st), (.int s1), (.int a1), (.int s2), (.int a2), (.int cnt)] maxLocals)) t := fun t k => k110 t (by
    show Steps p.tables e below (T102.setTop (mkF m 18 #[.val (.int st), .val (.int s1), .val (.int a1), .val (.int s2), .val (.int a2), .val (.int cnt), .val (.int n), .val (.int kc), .unset, .unset, .unset, .unset, .unset] [(.ref b102)])) _
    refine XS.dup X102.here hx rfl (hb hby at_18) rfl rfl ?_
    show Steps p.tables e below (T102.setTop (mkF m 19 #[.val (.int st), .val (.int s1), .val (.int a1), .val (.int s2), .val (.int a2), .val (.int cnt), .val (.int n), .val (.int kc), .unset, .unset, .unset, .unset, .unset] [(.ref b102), (.ref b102)])) _
    refine XS.iload X102.here hx rfl (hb hby at_19) rfl ?_
    exact k)
  obtain ⟨T112, h112, Ls112, b1, b2, b3, k1, k2, k3, hf, us, fs, X112, e112, N112, Zq112, F191, F192, F193, F194, F195, F196, F197, F198, F199, g200, g201, g202, nb1, nb2, nb3, nb12, nb13, nb23, hus, hfs, kq112⟩ : ∃ (T112 : State) (h112 : Heap) (Ls112 : List Loc) (b1 : Addr) (b2 : Addr) (b3 : Addr) (k1 : ClassId) (k2 : ClassId) (k3 : ClassId) (hf : Int32) (us : List Value) (fs : Int64), Stand p l e room_1 s m #[(.int st), (.int s1), (.int a1), (.int s2), (.int a2), (.int cnt)] below meth c T112 Ls112 4 16 ∧ T112.heap = h112 ∧ Fr n0 Ls112 ∧ n0 ≤ h112.size ∧ Exa Z h112 b102 "com/example/istra/istra/model/Transfer" ∧ Fld Z h112 b102 "com/example/istra/istra/model/Transfer" "vehicleStates" "[I" (.ref b1) ∧ Fld Z h112 b102 "com/example/istra/istra/model/Transfer" "crossingS" "[D" (.ref b2) ∧ Fld Z h112 b102 "com/example/istra/istra/model/Transfer" "fluid" "[D" (.ref b3) ∧ Fld Z h112 b102 "com/example/istra/istra/model/Transfer" "vehicles" "I" (.int (0 : Int32)) ∧ Fld Z h112 b102 "com/example/istra/istra/model/Transfer" "holdsFluid" "Z" (.int hf) ∧ Arv Z h112 b1 k1 .int (4 : Int32) [(.int (0 : Int32)), (.int (0 : Int32)), (.int (0 : Int32)), (.int (0 : Int32))] (.int (0 : Int32)) ∧ Arv Z h112 b2 k2 .double (4 : Int32) [(.double (0 : UInt64)), (.double (0 : UInt64)), (.double (0 : UInt64)), (.double (0 : UInt64))] (.double (0 : UInt64)) ∧ Arv Z h112 b3 k3 .double n us (.double (0 : UInt64)) ∧ n0 ≤ b1 ∧ n0 ≤ b2 ∧ n0 ≤ b3 ∧ (b102 ≠ b1) ∧ (b102 ≠ b2) ∧ (b102 ≠ b3) ∧ (b1 ≠ b2) ∧ (b1 ≠ b3) ∧ (b2 ≠ b3) ∧ (own_us n us fs.toInt) ∧ (-4294967296 ≤ fs.toInt ∧ fs.toInt ≤ 4294967296) ∧ ∀ t, Steps p.tables e below (T112.setTop (mkF m 71 #[.val (.int st), .val (.int s1), .val (.int a1), .val (.int s2), .val (.int a2), .val (.int cnt), .val (.int n), .val (.int kc), .val (.ref b102), .val (.long fs), .second, .unset, .unset] [])) t → Steps p.tables e below (s₁.setTop (entryFrame m #[(.int st), (.int s1), (.int a1), (.int s2), (.int a2), (.int cnt)] maxLocals)) t := by
    rcases Bn with rfl | rfl | rfl | rfl
    · obtain ⟨_, _, ⟨T113, L113, k113, n113⟩, -, X113, ⟨Lc113, hQ113, l113, y113, z113⟩, st113⟩ := X102.specialBack hx (y := (⟨"com/example/istra/istra/model/Transfer", "<init>", "(I)V"⟩ : MethodName)) rfl hown (mvT hZ (hw _ (List.mem_of_getElem? (i := 4) rfl))) (mvT hZ (hw _ (List.mem_of_getElem? (i := 5) rfl))) (mvT hZ (hw _ (List.mem_of_getElem? (i := 6) rfl))) (by decide) (backOf (W := 1) (ct0 l Z a0 hw [] b102 h102 n0 Z104 F105 F106 F107 F108 F109 A102 g103) hZ (hw _ (List.mem_of_getElem? (i := 6) rfl)) (hw _ (List.mem_of_getElem? (i := 3) rfl)) (by decide) (by decide)) (g := (mkF m 21 #[.val (.int st), .val (.int s1), .val (.int a1), .val (.int s2), .val (.int a2), .val (.int cnt), .val (.int (0 : Int32)), .val (.int kc), .unset, .unset, .unset, .unset, .unset] [(.int (0 : Int32)), (.ref b102), (.ref b102)])) rfl (by rw [hml]; rfl) (Steps.refl _) (a := b102) (argsL := [(.int (0 : Int32))]) (rest := [(.ref b102)]) (lenOf pd__28I_29V rfl) rfl (by show 2 * 0 + _ ≤ _; exact Nat.le_of_eq rfl) (hb hby at_21) (fun _ _ => ⟨rfl, e102, (by decide : 1 + 3 ≤ _), (by decide : 5 + 8 ≤ _)⟩)
      dsimp only [Pt.U, Pt.locs, Pt.cells, Pt.slots] at X113 l113 y113 z113 st113 hQ113
      subst l113 y113 z113
      obtain ⟨h113, e113⟩ : ∃ h', T113.heap = h' := ⟨_, rfl⟩
      rw [e113] at hQ113
      obtain ⟨b1, b2, b3, k1, k2, k3, rfl, N113q, K113, gb1, gb2, gb3, nb1, nb2, nb3, nb12, nb13, nb23, G113e, G113a, G113b, G113c, G113d, G113h, V1, V2, V3⟩ := hQ113
      have N114 := Fr.app N0 N113q
      have k115 : ∀ t, Steps p.tables e below (T113.setTop (mkF m 24 #[.val (.int st), .val (.int s1), .val (.int a1), .val (.int s2), .val (.int a2), .val (.int cnt), .val (.int (0 : Int32)), .val (.int kc), .unset, .unset, .unset, .unset, .unset] [(.ref b102)])) t → Steps p.tables e below (s₁.setTop (entryFrame m #[(.int st), (.int s1), (.int a1), (.int s2), (.int a2), (.int cnt)] maxLocals)) t := fun t k => k111 t (st113.trans k)
      have F116 := A102.keep K113
      have Z117 : n0 ≤ h113.size := Nat.le_trans Z104 K113.1
      have k118 : ∀ t, Steps p.tables e below (T113.setTop (mkF m 71 #[.val (.int st), .val (.int s1), .val (.int a1), .val (.int s2), .val (.int a2), .val (.int cnt), .val (.int (0 : Int32)), .val (.int kc), .val (.ref b102), .val (.long (0 : Int64)), .second, .unset, .unset] [])) t → Steps p.tables e below (s₁.setTop (entryFrame m #[(.int st), (.int s1), (.int a1), (.int s2), (.int a2), (.int cnt)] maxLocals)) t := fun t k => k115 t (by
        show Steps p.tables e below (T113.setTop (mkF m 24 #[.val (.int st), .val (.int s1), .val (.int a1), .val (.int s2), .val (.int a2), .val (.int cnt), .val (.int (0 : Int32)), .val (.int kc), .unset, .unset, .unset, .unset, .unset] [(.ref b102)])) _
        refine XS.astore X113.here hx rfl (hb hby at_24) rfl rfl (l' := #[.val (.int st), .val (.int s1), .val (.int a1), .val (.int s2), .val (.int a2), .val (.int cnt), .val (.int (0 : Int32)), .val (.int kc), .val (.ref b102), .unset, .unset, .unset, .unset]) rfl ?_
        show Steps p.tables e below (T113.setTop (mkF m 26 #[.val (.int st), .val (.int s1), .val (.int a1), .val (.int s2), .val (.int a2), .val (.int cnt), .val (.int (0 : Int32)), .val (.int kc), .val (.ref b102), .unset, .unset, .unset, .unset] [])) _
        refine XS.lconst X113.here hx rfl (hb hby at_26) ?_
        show Steps p.tables e below (T113.setTop (mkF m 27 #[.val (.int st), .val (.int s1), .val (.int a1), .val (.int s2), .val (.int a2), .val (.int cnt), .val (.int (0 : Int32)), .val (.int kc), .val (.ref b102), .unset, .unset, .unset, .unset] [(.long (0 : Int64))])) _
        refine XS.lstore X113.here hx rfl (hb hby at_27) rfl (l' := #[.val (.int st), .val (.int s1), .val (.int a1), .val (.int s2), .val (.int a2), .val (.int cnt), .val (.int (0 : Int32)), .val (.int kc), .val (.ref b102), .val (.long (0 : Int64)), .second, .unset, .unset]) rfl ?_
        show Steps p.tables e below (T113.setTop (mkF m 29 #[.val (.int st), .val (.int s1), .val (.int a1), .val (.int s2), .val (.int a2), .val (.int cnt), .val (.int (0 : Int32)), .val (.int kc), .val (.ref b102), .val (.long (0 : Int64)), .second, .unset, .unset] [])) _
        refine XS.iload X113.here hx rfl (hb hby at_29) rfl ?_
        show Steps p.tables e below (T113.setTop (mkF m 31 #[.val (.int st), .val (.int s1), .val (.int a1), .val (.int s2), .val (.int a2), .val (.int cnt), .val (.int (0 : Int32)), .val (.int kc), .val (.ref b102), .val (.long (0 : Int64)), .second, .unset, .unset] [(.int (0 : Int32))])) _
        refine XS.ifYes X113.here hx rfl (pc0 := 31) (pc' := 71) rfl (hb hby at_31) rfl ((if0 _ _).trans (flt (by decide)).2.2.2) (by decide) (by decide) ?_
        exact k)
      exact ⟨T113, h113, _, b1, b2, b3, k1, k2, k3, (0 : Int32), [], (0 : Int64), (X113.more (by decide) (by decide)), e113, N114, Z117, G113e, G113a, G113b, G113c, G113d, G113h, V1, V2, V3, gb1, gb2, gb3, nb1, nb2, nb3, nb12, nb13, nb23, (own_us0), (own_s0), k118⟩
    · obtain ⟨_, _, ⟨T119, L119, k119, n119⟩, -, X119, ⟨Lc119, hQ119, l119, y119, z119⟩, st119⟩ := X102.specialBack hx (y := (⟨"com/example/istra/istra/model/Transfer", "<init>", "(I)V"⟩ : MethodName)) rfl hown (mvT hZ (hw _ (List.mem_of_getElem? (i := 4) rfl))) (mvT hZ (hw _ (List.mem_of_getElem? (i := 5) rfl))) (mvT hZ (hw _ (List.mem_of_getElem? (i := 6) rfl))) (by decide) (backOf (W := 1) (ct1 l Z a0 hw [] b102 h102 n0 Z104 F105 F106 F107 F108 F109 A102 g103) hZ (hw _ (List.mem_of_getElem? (i := 6) rfl)) (hw _ (List.mem_of_getElem? (i := 3) rfl)) (by decide) (by decide)) (g := (mkF m 21 #[.val (.int st), .val (.int s1), .val (.int a1), .val (.int s2), .val (.int a2), .val (.int cnt), .val (.int (1 : Int32)), .val (.int kc), .unset, .unset, .unset, .unset, .unset] [(.int (1 : Int32)), (.ref b102), (.ref b102)])) rfl (by rw [hml]; rfl) (Steps.refl _) (a := b102) (argsL := [(.int (1 : Int32))]) (rest := [(.ref b102)]) (lenOf pd__28I_29V rfl) rfl (by show 2 * 0 + _ ≤ _; exact Nat.le_of_eq rfl) (hb hby at_21) (fun _ _ => ⟨rfl, e102, (by decide : 1 + 3 ≤ _), (by decide : 5 + 9 ≤ _)⟩)
      dsimp only [Pt.U, Pt.locs, Pt.cells, Pt.slots] at X119 l119 y119 z119 st119 hQ119
      subst l119 y119 z119
      obtain ⟨h119, e119⟩ : ∃ h', T119.heap = h' := ⟨_, rfl⟩
      rw [e119] at hQ119
      obtain ⟨b1, b2, b3, k1, k2, k3, rfl, N119q, K119, gb1, gb2, gb3, nb1, nb2, nb3, nb12, nb13, nb23, G119e, G119a, G119b, G119c, G119d, G119h, V1, V2, V3⟩ := hQ119
      have N120 := Fr.app N0 N119q
      have k121 : ∀ t, Steps p.tables e below (T119.setTop (mkF m 24 #[.val (.int st), .val (.int s1), .val (.int a1), .val (.int s2), .val (.int a2), .val (.int cnt), .val (.int (1 : Int32)), .val (.int kc), .unset, .unset, .unset, .unset, .unset] [(.ref b102)])) t → Steps p.tables e below (s₁.setTop (entryFrame m #[(.int st), (.int s1), (.int a1), (.int s2), (.int a2), (.int cnt)] maxLocals)) t := fun t k => k111 t (st119.trans k)
      have F122 := A102.keep K119
      have Z123 : n0 ≤ h119.size := Nat.le_trans Z104 K119.1
      obtain ⟨v124, hv124⟩ : ∃ z : UInt64, FP.i2d a1 = z := ⟨_, rfl⟩
      have Dv124 : Dy (a1.toInt) (0) v124 := by rw [← hv124]; exact Dy.i2d _
      obtain ⟨ix0, hix0⟩ : ∃ z : Int32, z = ((s1 &&& (2147483647 : Int32)) % (1 : Int32)) := ⟨_, rfl⟩
      have k125 : ∀ t, Steps p.tables e below (T119.setTop (mkF m 45 #[.val (.int st), .val (.int s1), .val (.int a1), .val (.int s2), .val (.int a2), .val (.int cnt), .val (.int (1 : Int32)), .val (.int kc), .val (.ref b102), .val (.long (0 : Int64)), .second, .unset, .unset] [(.double v124), (.int ix0), (.ref b102)])) t → Steps p.tables e below (s₁.setTop (entryFrame m #[(.int st), (.int s1), (.int a1), (.int s2), (.int a2), (.int cnt)] maxLocals)) t := fun t k => k121 t (by
        show Steps p.tables e below (T119.setTop (mkF m 24 #[.val (.int st), .val (.int s1), .val (.int a1), .val (.int s2), .val (.int a2), .val (.int cnt), .val (.int (1 : Int32)), .val (.int kc), .unset, .unset, .unset, .unset, .unset] [(.ref b102)])) _
        refine XS.astore X119.here hx rfl (hb hby at_24) rfl rfl (l' := #[.val (.int st), .val (.int s1), .val (.int a1), .val (.int s2), .val (.int a2), .val (.int cnt), .val (.int (1 : Int32)), .val (.int kc), .val (.ref b102), .unset, .unset, .unset, .unset]) rfl ?_
        show Steps p.tables e below (T119.setTop (mkF m 26 #[.val (.int st), .val (.int s1), .val (.int a1), .val (.int s2), .val (.int a2), .val (.int cnt), .val (.int (1 : Int32)), .val (.int kc), .val (.ref b102), .unset, .unset, .unset, .unset] [])) _
        refine XS.lconst X119.here hx rfl (hb hby at_26) ?_
        show Steps p.tables e below (T119.setTop (mkF m 27 #[.val (.int st), .val (.int s1), .val (.int a1), .val (.int s2), .val (.int a2), .val (.int cnt), .val (.int (1 : Int32)), .val (.int kc), .val (.ref b102), .unset, .unset, .unset, .unset] [(.long (0 : Int64))])) _
        refine XS.lstore X119.here hx rfl (hb hby at_27) rfl (l' := #[.val (.int st), .val (.int s1), .val (.int a1), .val (.int s2), .val (.int a2), .val (.int cnt), .val (.int (1 : Int32)), .val (.int kc), .val (.ref b102), .val (.long (0 : Int64)), .second, .unset, .unset]) rfl ?_
        show Steps p.tables e below (T119.setTop (mkF m 29 #[.val (.int st), .val (.int s1), .val (.int a1), .val (.int s2), .val (.int a2), .val (.int cnt), .val (.int (1 : Int32)), .val (.int kc), .val (.ref b102), .val (.long (0 : Int64)), .second, .unset, .unset] [])) _
        refine XS.iload X119.here hx rfl (hb hby at_29) rfl ?_
        show Steps p.tables e below (T119.setTop (mkF m 31 #[.val (.int st), .val (.int s1), .val (.int a1), .val (.int s2), .val (.int a2), .val (.int cnt), .val (.int (1 : Int32)), .val (.int kc), .val (.ref b102), .val (.long (0 : Int64)), .second, .unset, .unset] [(.int (1 : Int32))])) _
        refine XS.ifNo X119.here hx rfl (hb hby at_31) rfl ((if0 _ _).trans (tlt (by decide)).2.2.2) ?_
        show Steps p.tables e below (T119.setTop (mkF m 34 #[.val (.int st), .val (.int s1), .val (.int a1), .val (.int s2), .val (.int a2), .val (.int cnt), .val (.int (1 : Int32)), .val (.int kc), .val (.ref b102), .val (.long (0 : Int64)), .second, .unset, .unset] [])) _
        refine XS.aload X119.here hx rfl (hb hby at_34) rfl rfl ?_
        show Steps p.tables e below (T119.setTop (mkF m 36 #[.val (.int st), .val (.int s1), .val (.int a1), .val (.int s2), .val (.int a2), .val (.int cnt), .val (.int (1 : Int32)), .val (.int kc), .val (.ref b102), .val (.long (0 : Int64)), .second, .unset, .unset] [(.ref b102)])) _
        refine XS.iloadN X119.here hx rfl (hb hby at_36) rfl ?_
        show Steps p.tables e below (T119.setTop (mkF m 37 #[.val (.int st), .val (.int s1), .val (.int a1), .val (.int s2), .val (.int a2), .val (.int cnt), .val (.int (1 : Int32)), .val (.int kc), .val (.ref b102), .val (.long (0 : Int64)), .second, .unset, .unset] [(.int s1), (.ref b102)])) _
        refine X119.ldcInt hx hown (mvT hZ (hw _ (List.mem_of_getElem? (i := 0) rfl))) (g := (mkF m 37 #[.val (.int st), .val (.int s1), .val (.int a1), .val (.int s2), .val (.int a2), .val (.int cnt), .val (.int (1 : Int32)), .val (.int kc), .val (.ref b102), .val (.long (0 : Int64)), .second, .unset, .unset] [(.int s1), (.ref b102)])) rfl (hb hby at_37) _ ?_
        show Steps p.tables e below (T119.setTop (mkF m 39 #[.val (.int st), .val (.int s1), .val (.int a1), .val (.int s2), .val (.int a2), .val (.int cnt), .val (.int (1 : Int32)), .val (.int kc), .val (.ref b102), .val (.long (0 : Int64)), .second, .unset, .unset] [(.int (2147483647 : Int32)), (.int s1), (.ref b102)])) _
        refine XS.iand X119.here hx rfl (hb hby at_39) rfl ?_
        show Steps p.tables e below (T119.setTop (mkF m 40 #[.val (.int st), .val (.int s1), .val (.int a1), .val (.int s2), .val (.int a2), .val (.int cnt), .val (.int (1 : Int32)), .val (.int kc), .val (.ref b102), .val (.long (0 : Int64)), .second, .unset, .unset] [(.int (s1 &&& (2147483647 : Int32))), (.ref b102)])) _
        refine XS.iload X119.here hx rfl (hb hby at_40) rfl ?_
        show Steps p.tables e below (T119.setTop (mkF m 42 #[.val (.int st), .val (.int s1), .val (.int a1), .val (.int s2), .val (.int a2), .val (.int cnt), .val (.int (1 : Int32)), .val (.int kc), .val (.ref b102), .val (.long (0 : Int64)), .second, .unset, .unset] [(.int (1 : Int32)), (.int (s1 &&& (2147483647 : Int32))), (.ref b102)])) _
        refine iremM X119 hx rfl (hb hby at_42) rfl (by decide) ?_
        show Steps p.tables e below (T119.setTop (mkF m 43 #[.val (.int st), .val (.int s1), .val (.int a1), .val (.int s2), .val (.int a2), .val (.int cnt), .val (.int (1 : Int32)), .val (.int kc), .val (.ref b102), .val (.long (0 : Int64)), .second, .unset, .unset] [(.int ((s1 &&& (2147483647 : Int32)) % (1 : Int32))), (.ref b102)])) _
        refine XS.iloadN X119.here hx rfl (hb hby at_43) rfl ?_
        show Steps p.tables e below (T119.setTop (mkF m 44 #[.val (.int st), .val (.int s1), .val (.int a1), .val (.int s2), .val (.int a2), .val (.int cnt), .val (.int (1 : Int32)), .val (.int kc), .val (.ref b102), .val (.long (0 : Int64)), .second, .unset, .unset] [(.int a1), (.int ((s1 &&& (2147483647 : Int32)) % (1 : Int32))), (.ref b102)])) _
        refine XS.i2dS X119.here hx rfl (hb hby at_44) rfl hv124 ?_
        show Steps p.tables e below (T119.setTop (mkF m 45 #[.val (.int st), .val (.int s1), .val (.int a1), .val (.int s2), .val (.int a2), .val (.int cnt), .val (.int (1 : Int32)), .val (.int kc), .val (.ref b102), .val (.long (0 : Int64)), .second, .unset, .unset] [(.double v124), (.int ((s1 &&& (2147483647 : Int32)) % (1 : Int32))), (.ref b102)])) _
        refine castTop (g' := (mkF m 45 #[.val (.int st), .val (.int s1), .val (.int a1), .val (.int s2), .val (.int a2), .val (.int cnt), .val (.int (1 : Int32)), .val (.int kc), .val (.ref b102), .val (.long (0 : Int64)), .second, .unset, .unset] [(.double v124), (.int ix0), (.ref b102)])) (by rw [hix0]) ?_
        exact k)
      have hix0 := own_ix1 s1 ix0 hix0
      have P0_0 : Dy (0 + a1.toInt) 0 (FP.dadd (0 : UInt64) v124) := Dy.add (dy0 0) Dv124 (by have := rng32 a1; have := rng32 a2; omega) (by decide)
      obtain ⟨cq126, kq126, q126a, q126b, q126c⟩ := isOf hZ e119 G119e
      obtain ⟨_, _, ⟨T126, L126, k126, n126⟩, -, X126, ⟨Lc126, hQ126, l126, y126, z126⟩, st126⟩ := X119.virtualBack hx (y := (⟨"com/example/istra/istra/model/Transfer", "addFluid", "(ID)V"⟩ : MethodName)) (z := (⟨"com/example/istra/istra/model/Transfer", "addFluid", "(ID)V"⟩ : MethodName)) hown (mvT hZ (hw _ (List.mem_of_getElem? (i := 32) rfl))) (mvT hZ (hw _ (List.mem_of_getElem? (i := 33) rfl))) (notFace_of_selects (args := #[]) (mvT hZ (hw _ (List.mem_of_getElem? (i := 35) rfl)))) (mvT hZ (hw _ (List.mem_of_getElem? (i := 35) rfl))) (mvT hZ (hw _ (List.mem_of_getElem? (i := 34) rfl))) (by decide) (backOf (W := 0) (fl1 l Z a0 hw [] b102 b1 b2 b3 k3 ix0 v124 (0 : Int32) (0 : Int32) (0 : UInt64) h119 n0 Z123 G119e G119a G119b G119c G119d G119h V3 g103 gb3 nb3 hix0 P0_0.nn) hZ (hw _ (List.mem_of_getElem? (i := 36) rfl)) (hw _ (List.mem_of_getElem? (i := 3) rfl)) (by decide) (by decide)) q126a q126c (g := (mkF m 45 #[.val (.int st), .val (.int s1), .val (.int a1), .val (.int s2), .val (.int a2), .val (.int cnt), .val (.int (1 : Int32)), .val (.int kc), .val (.ref b102), .val (.long (0 : Int64)), .second, .unset, .unset] [(.double v124), (.int ix0), (.ref b102)])) rfl (by rw [hml]; rfl) (Steps.refl _) (argsL := [(.int ix0), (.double v124)]) (rest := []) (lenOf pd__28ID_29V rfl) rfl (by show 2 * 0 + _ ≤ _; exact Nat.le_of_eq rfl) (hb hby at_45) (fun _ _ => ⟨rfl, e119, (by decide : 4 + 0 ≤ _), (by decide : 14 + 0 ≤ _)⟩)
      dsimp only [Pt.U, Pt.locs, Pt.cells, Pt.slots] at X126 l126 y126 z126 st126 hQ126
      subst l126 y126 z126
      obtain ⟨h126, e126⟩ : ∃ h', T126.heap = h' := ⟨_, rfl⟩
      rw [e126] at hQ126
      obtain ⟨rfl, N126q, K126, R126_0, R126_1, R126_2, R126_3, R126_4, R126_5, R126_6⟩ := hQ126
      have N127 := Fr.app N120 N126q
      have k128 : ∀ t, Steps p.tables e below (T126.setTop (mkF m 48 #[.val (.int st), .val (.int s1), .val (.int a1), .val (.int s2), .val (.int a2), .val (.int cnt), .val (.int (1 : Int32)), .val (.int kc), .val (.ref b102), .val (.long (0 : Int64)), .second, .unset, .unset] [])) t → Steps p.tables e below (s₁.setTop (entryFrame m #[(.int st), (.int s1), (.int a1), (.int s2), (.int a2), (.int cnt)] maxLocals)) t := fun t k => k125 t (st126.trans k)
      have F129 := G119e.keep K126
      have F130 := V1.keep K126 (ninS (Ne.symm nb1) (ninS nb13 nin0))
      have F131 := V2.keep K126 (ninS (Ne.symm nb2) (ninS nb23 nin0))
      have Z132 : n0 ≤ h126.size := Nat.le_trans Z123 K126.1
      have Q0_0 : Dy (if ix0 = (0 : Int32) then 0 + a1.toInt else 0) 0 (if ix0 = (0 : Int32) then FP.dadd (0 : UInt64) v124 else (0 : UInt64)) := by
        by_cases q : ix0 = (0 : Int32)
        · rw [if_pos q, if_pos q]; exact P0_0
        · rw [if_neg q, if_neg q]; exact (dy0 0)
      obtain ⟨v133, hv133⟩ : ∃ z : UInt64, FP.i2d a2 = z := ⟨_, rfl⟩
      have Dv133 : Dy (a2.toInt) (0) v133 := by rw [← hv133]; exact Dy.i2d _
      obtain ⟨ix1, hix1⟩ : ∃ z : Int32, z = ((s2 &&& (2147483647 : Int32)) % (1 : Int32)) := ⟨_, rfl⟩
      have k134 : ∀ t, Steps p.tables e below (T126.setTop (mkF m 60 #[.val (.int st), .val (.int s1), .val (.int a1), .val (.int s2), .val (.int a2), .val (.int cnt), .val (.int (1 : Int32)), .val (.int kc), .val (.ref b102), .val (.long (0 : Int64)), .second, .unset, .unset] [(.double v133), (.int ix1), (.ref b102)])) t → Steps p.tables e below (s₁.setTop (entryFrame m #[(.int st), (.int s1), (.int a1), (.int s2), (.int a2), (.int cnt)] maxLocals)) t := fun t k => k128 t (by
        show Steps p.tables e below (T126.setTop (mkF m 48 #[.val (.int st), .val (.int s1), .val (.int a1), .val (.int s2), .val (.int a2), .val (.int cnt), .val (.int (1 : Int32)), .val (.int kc), .val (.ref b102), .val (.long (0 : Int64)), .second, .unset, .unset] [])) _
        refine XS.aload X126.here hx rfl (hb hby at_48) rfl rfl ?_
        show Steps p.tables e below (T126.setTop (mkF m 50 #[.val (.int st), .val (.int s1), .val (.int a1), .val (.int s2), .val (.int a2), .val (.int cnt), .val (.int (1 : Int32)), .val (.int kc), .val (.ref b102), .val (.long (0 : Int64)), .second, .unset, .unset] [(.ref b102)])) _
        refine XS.iloadN X126.here hx rfl (hb hby at_50) rfl ?_
        show Steps p.tables e below (T126.setTop (mkF m 51 #[.val (.int st), .val (.int s1), .val (.int a1), .val (.int s2), .val (.int a2), .val (.int cnt), .val (.int (1 : Int32)), .val (.int kc), .val (.ref b102), .val (.long (0 : Int64)), .second, .unset, .unset] [(.int s2), (.ref b102)])) _
        refine X126.ldcInt hx hown (mvT hZ (hw _ (List.mem_of_getElem? (i := 0) rfl))) (g := (mkF m 51 #[.val (.int st), .val (.int s1), .val (.int a1), .val (.int s2), .val (.int a2), .val (.int cnt), .val (.int (1 : Int32)), .val (.int kc), .val (.ref b102), .val (.long (0 : Int64)), .second, .unset, .unset] [(.int s2), (.ref b102)])) rfl (hb hby at_51) _ ?_
        show Steps p.tables e below (T126.setTop (mkF m 53 #[.val (.int st), .val (.int s1), .val (.int a1), .val (.int s2), .val (.int a2), .val (.int cnt), .val (.int (1 : Int32)), .val (.int kc), .val (.ref b102), .val (.long (0 : Int64)), .second, .unset, .unset] [(.int (2147483647 : Int32)), (.int s2), (.ref b102)])) _
        refine XS.iand X126.here hx rfl (hb hby at_53) rfl ?_
        show Steps p.tables e below (T126.setTop (mkF m 54 #[.val (.int st), .val (.int s1), .val (.int a1), .val (.int s2), .val (.int a2), .val (.int cnt), .val (.int (1 : Int32)), .val (.int kc), .val (.ref b102), .val (.long (0 : Int64)), .second, .unset, .unset] [(.int (s2 &&& (2147483647 : Int32))), (.ref b102)])) _
        refine XS.iload X126.here hx rfl (hb hby at_54) rfl ?_
        show Steps p.tables e below (T126.setTop (mkF m 56 #[.val (.int st), .val (.int s1), .val (.int a1), .val (.int s2), .val (.int a2), .val (.int cnt), .val (.int (1 : Int32)), .val (.int kc), .val (.ref b102), .val (.long (0 : Int64)), .second, .unset, .unset] [(.int (1 : Int32)), (.int (s2 &&& (2147483647 : Int32))), (.ref b102)])) _
        refine iremM X126 hx rfl (hb hby at_56) rfl (by decide) ?_
        show Steps p.tables e below (T126.setTop (mkF m 57 #[.val (.int st), .val (.int s1), .val (.int a1), .val (.int s2), .val (.int a2), .val (.int cnt), .val (.int (1 : Int32)), .val (.int kc), .val (.ref b102), .val (.long (0 : Int64)), .second, .unset, .unset] [(.int ((s2 &&& (2147483647 : Int32)) % (1 : Int32))), (.ref b102)])) _
        refine XS.iload X126.here hx rfl (hb hby at_57) rfl ?_
        show Steps p.tables e below (T126.setTop (mkF m 59 #[.val (.int st), .val (.int s1), .val (.int a1), .val (.int s2), .val (.int a2), .val (.int cnt), .val (.int (1 : Int32)), .val (.int kc), .val (.ref b102), .val (.long (0 : Int64)), .second, .unset, .unset] [(.int a2), (.int ((s2 &&& (2147483647 : Int32)) % (1 : Int32))), (.ref b102)])) _
        refine XS.i2dS X126.here hx rfl (hb hby at_59) rfl hv133 ?_
        show Steps p.tables e below (T126.setTop (mkF m 60 #[.val (.int st), .val (.int s1), .val (.int a1), .val (.int s2), .val (.int a2), .val (.int cnt), .val (.int (1 : Int32)), .val (.int kc), .val (.ref b102), .val (.long (0 : Int64)), .second, .unset, .unset] [(.double v133), (.int ((s2 &&& (2147483647 : Int32)) % (1 : Int32))), (.ref b102)])) _
        refine castTop (g' := (mkF m 60 #[.val (.int st), .val (.int s1), .val (.int a1), .val (.int s2), .val (.int a2), .val (.int cnt), .val (.int (1 : Int32)), .val (.int kc), .val (.ref b102), .val (.long (0 : Int64)), .second, .unset, .unset] [(.double v133), (.int ix1), (.ref b102)])) (by rw [hix1]) ?_
        exact k)
      have hix1 := own_ix1 s2 ix1 hix1
      have P1_0 : Dy ((if ix0 = (0 : Int32) then 0 + a1.toInt else 0) + a2.toInt) 0 (FP.dadd (if ix0 = (0 : Int32) then FP.dadd (0 : UInt64) v124 else (0 : UInt64)) v133) := Dy.add Q0_0 Dv133 (by have := rng32 a1; have := rng32 a2; split <;> omega) (by decide)
      obtain ⟨cq135, kq135, q135a, q135b, q135c⟩ := isOf hZ e126 R126_0
      obtain ⟨_, _, ⟨T135, L135, k135, n135⟩, -, X135, ⟨Lc135, hQ135, l135, y135, z135⟩, st135⟩ := X126.virtualBack hx (y := (⟨"com/example/istra/istra/model/Transfer", "addFluid", "(ID)V"⟩ : MethodName)) (z := (⟨"com/example/istra/istra/model/Transfer", "addFluid", "(ID)V"⟩ : MethodName)) hown (mvT hZ (hw _ (List.mem_of_getElem? (i := 32) rfl))) (mvT hZ (hw _ (List.mem_of_getElem? (i := 33) rfl))) (notFace_of_selects (args := #[]) (mvT hZ (hw _ (List.mem_of_getElem? (i := 35) rfl)))) (mvT hZ (hw _ (List.mem_of_getElem? (i := 35) rfl))) (mvT hZ (hw _ (List.mem_of_getElem? (i := 34) rfl))) (by decide) (backOf (W := 0) (fl1 l Z a0 hw [] b102 b1 b2 b3 k3 ix1 v133 (0 : Int32) (1 : Int32) (if ix0 = (0 : Int32) then FP.dadd (0 : UInt64) v124 else (0 : UInt64)) h126 n0 Z132 R126_0 R126_1 R126_2 R126_3 R126_4 R126_5 R126_6 g103 gb3 nb3 hix1 P1_0.nn) hZ (hw _ (List.mem_of_getElem? (i := 36) rfl)) (hw _ (List.mem_of_getElem? (i := 3) rfl)) (by decide) (by decide)) q135a q135c (g := (mkF m 60 #[.val (.int st), .val (.int s1), .val (.int a1), .val (.int s2), .val (.int a2), .val (.int cnt), .val (.int (1 : Int32)), .val (.int kc), .val (.ref b102), .val (.long (0 : Int64)), .second, .unset, .unset] [(.double v133), (.int ix1), (.ref b102)])) rfl (by rw [hml]; rfl) (Steps.refl _) (argsL := [(.int ix1), (.double v133)]) (rest := []) (lenOf pd__28ID_29V rfl) rfl (by show 2 * 0 + _ ≤ _; exact Nat.le_of_eq rfl) (hb hby at_60) (fun _ _ => ⟨rfl, e126, (by decide : 4 + 0 ≤ _), (by decide : 14 + 0 ≤ _)⟩)
      dsimp only [Pt.U, Pt.locs, Pt.cells, Pt.slots] at X135 l135 y135 z135 st135 hQ135
      subst l135 y135 z135
      obtain ⟨h135, e135⟩ : ∃ h', T135.heap = h' := ⟨_, rfl⟩
      rw [e135] at hQ135
      obtain ⟨rfl, N135q, K135, R135_0, R135_1, R135_2, R135_3, R135_4, R135_5, R135_6⟩ := hQ135
      have N136 := Fr.app N127 N135q
      have k137 : ∀ t, Steps p.tables e below (T135.setTop (mkF m 63 #[.val (.int st), .val (.int s1), .val (.int a1), .val (.int s2), .val (.int a2), .val (.int cnt), .val (.int (1 : Int32)), .val (.int kc), .val (.ref b102), .val (.long (0 : Int64)), .second, .unset, .unset] [])) t → Steps p.tables e below (s₁.setTop (entryFrame m #[(.int st), (.int s1), (.int a1), (.int s2), (.int a2), (.int cnt)] maxLocals)) t := fun t k => k134 t (st135.trans k)
      have F138 := R126_0.keep K135
      have F139 := F130.keep K135 (ninS (Ne.symm nb1) (ninS nb13 nin0))
      have F140 := F131.keep K135 (ninS (Ne.symm nb2) (ninS nb23 nin0))
      have Z141 : n0 ≤ h135.size := Nat.le_trans Z132 K135.1
      have Q1_0 : Dy (if ix1 = (0 : Int32) then (if ix0 = (0 : Int32) then 0 + a1.toInt else 0) + a2.toInt else (if ix0 = (0 : Int32) then 0 + a1.toInt else 0)) 0 (if ix1 = (0 : Int32) then FP.dadd (if ix0 = (0 : Int32) then FP.dadd (0 : UInt64) v124 else (0 : UInt64)) v133 else (if ix0 = (0 : Int32) then FP.dadd (0 : UInt64) v124 else (0 : UInt64))) := by
        by_cases q : ix1 = (0 : Int32)
        · rw [if_pos q, if_pos q]; exact P1_0
        · rw [if_neg q, if_neg q]; exact Q0_0
      have k142 : ∀ t, Steps p.tables e below (T135.setTop (mkF m 71 #[.val (.int st), .val (.int s1), .val (.int a1), .val (.int s2), .val (.int a2), .val (.int cnt), .val (.int (1 : Int32)), .val (.int kc), .val (.ref b102), .val (.long ((a1.toInt64) + (a2.toInt64))), .second, .unset, .unset] [])) t → Steps p.tables e below (s₁.setTop (entryFrame m #[(.int st), (.int s1), (.int a1), (.int s2), (.int a2), (.int cnt)] maxLocals)) t := fun t k => k137 t (by
        show Steps p.tables e below (T135.setTop (mkF m 63 #[.val (.int st), .val (.int s1), .val (.int a1), .val (.int s2), .val (.int a2), .val (.int cnt), .val (.int (1 : Int32)), .val (.int kc), .val (.ref b102), .val (.long (0 : Int64)), .second, .unset, .unset] [])) _
        refine XS.iloadN X135.here hx rfl (hb hby at_63) rfl ?_
        show Steps p.tables e below (T135.setTop (mkF m 64 #[.val (.int st), .val (.int s1), .val (.int a1), .val (.int s2), .val (.int a2), .val (.int cnt), .val (.int (1 : Int32)), .val (.int kc), .val (.ref b102), .val (.long (0 : Int64)), .second, .unset, .unset] [(.int a1)])) _
        refine XS.i2l X135.here hx rfl (hb hby at_64) rfl ?_
        show Steps p.tables e below (T135.setTop (mkF m 65 #[.val (.int st), .val (.int s1), .val (.int a1), .val (.int s2), .val (.int a2), .val (.int cnt), .val (.int (1 : Int32)), .val (.int kc), .val (.ref b102), .val (.long (0 : Int64)), .second, .unset, .unset] [(.long (a1.toInt64))])) _
        refine XS.iload X135.here hx rfl (hb hby at_65) rfl ?_
        show Steps p.tables e below (T135.setTop (mkF m 67 #[.val (.int st), .val (.int s1), .val (.int a1), .val (.int s2), .val (.int a2), .val (.int cnt), .val (.int (1 : Int32)), .val (.int kc), .val (.ref b102), .val (.long (0 : Int64)), .second, .unset, .unset] [(.int a2), (.long (a1.toInt64))])) _
        refine XS.i2l X135.here hx rfl (hb hby at_67) rfl ?_
        show Steps p.tables e below (T135.setTop (mkF m 68 #[.val (.int st), .val (.int s1), .val (.int a1), .val (.int s2), .val (.int a2), .val (.int cnt), .val (.int (1 : Int32)), .val (.int kc), .val (.ref b102), .val (.long (0 : Int64)), .second, .unset, .unset] [(.long (a2.toInt64)), (.long (a1.toInt64))])) _
        refine XS.ladd X135.here hx rfl (hb hby at_68) rfl ?_
        show Steps p.tables e below (T135.setTop (mkF m 69 #[.val (.int st), .val (.int s1), .val (.int a1), .val (.int s2), .val (.int a2), .val (.int cnt), .val (.int (1 : Int32)), .val (.int kc), .val (.ref b102), .val (.long (0 : Int64)), .second, .unset, .unset] [(.long ((a1.toInt64) + (a2.toInt64)))])) _
        refine XS.lstore X135.here hx rfl (hb hby at_69) rfl (l' := #[.val (.int st), .val (.int s1), .val (.int a1), .val (.int s2), .val (.int a2), .val (.int cnt), .val (.int (1 : Int32)), .val (.int kc), .val (.ref b102), .val (.long ((a1.toInt64) + (a2.toInt64))), .second, .unset, .unset]) rfl ?_
        exact k)
      have hus := own_us1 (a1 := a1) (a2 := a2) hix0 hix1 Q1_0
      exact ⟨T135, h135, _, b1, b2, b3, k1, k2, k3, (1 : Int32), [(.double (if ix1 = (0 : Int32) then FP.dadd (if ix0 = (0 : Int32) then FP.dadd (0 : UInt64) v124 else (0 : UInt64)) v133 else (if ix0 = (0 : Int32) then FP.dadd (0 : UInt64) v124 else (0 : UInt64))))], ((a1.toInt64) + (a2.toInt64)), (X135.more (by decide) (by decide)), e135, N136, Z141, R135_0, R135_1, R135_2, R135_3, R135_4, R135_5, F139, F140, R135_6, gb1, gb2, gb3, nb1, nb2, nb3, nb12, nb13, nb23, (hus), (own_l2 a1 a2), k142⟩
    · obtain ⟨_, _, ⟨T143, L143, k143, n143⟩, -, X143, ⟨Lc143, hQ143, l143, y143, z143⟩, st143⟩ := X102.specialBack hx (y := (⟨"com/example/istra/istra/model/Transfer", "<init>", "(I)V"⟩ : MethodName)) rfl hown (mvT hZ (hw _ (List.mem_of_getElem? (i := 4) rfl))) (mvT hZ (hw _ (List.mem_of_getElem? (i := 5) rfl))) (mvT hZ (hw _ (List.mem_of_getElem? (i := 6) rfl))) (by decide) (backOf (W := 1) (ct2 l Z a0 hw [] b102 h102 n0 Z104 F105 F106 F107 F108 F109 A102 g103) hZ (hw _ (List.mem_of_getElem? (i := 6) rfl)) (hw _ (List.mem_of_getElem? (i := 3) rfl)) (by decide) (by decide)) (g := (mkF m 21 #[.val (.int st), .val (.int s1), .val (.int a1), .val (.int s2), .val (.int a2), .val (.int cnt), .val (.int (2 : Int32)), .val (.int kc), .unset, .unset, .unset, .unset, .unset] [(.int (2 : Int32)), (.ref b102), (.ref b102)])) rfl (by rw [hml]; rfl) (Steps.refl _) (a := b102) (argsL := [(.int (2 : Int32))]) (rest := [(.ref b102)]) (lenOf pd__28I_29V rfl) rfl (by show 2 * 0 + _ ≤ _; exact Nat.le_of_eq rfl) (hb hby at_21) (fun _ _ => ⟨rfl, e102, (by decide : 1 + 3 ≤ _), (by decide : 5 + 10 ≤ _)⟩)
      dsimp only [Pt.U, Pt.locs, Pt.cells, Pt.slots] at X143 l143 y143 z143 st143 hQ143
      subst l143 y143 z143
      obtain ⟨h143, e143⟩ : ∃ h', T143.heap = h' := ⟨_, rfl⟩
      rw [e143] at hQ143
      obtain ⟨b1, b2, b3, k1, k2, k3, rfl, N143q, K143, gb1, gb2, gb3, nb1, nb2, nb3, nb12, nb13, nb23, G143e, G143a, G143b, G143c, G143d, G143h, V1, V2, V3⟩ := hQ143
      have N144 := Fr.app N0 N143q
      have k145 : ∀ t, Steps p.tables e below (T143.setTop (mkF m 24 #[.val (.int st), .val (.int s1), .val (.int a1), .val (.int s2), .val (.int a2), .val (.int cnt), .val (.int (2 : Int32)), .val (.int kc), .unset, .unset, .unset, .unset, .unset] [(.ref b102)])) t → Steps p.tables e below (s₁.setTop (entryFrame m #[(.int st), (.int s1), (.int a1), (.int s2), (.int a2), (.int cnt)] maxLocals)) t := fun t k => k111 t (st143.trans k)
      have F146 := A102.keep K143
      have Z147 : n0 ≤ h143.size := Nat.le_trans Z104 K143.1
      obtain ⟨v148, hv148⟩ : ∃ z : UInt64, FP.i2d a1 = z := ⟨_, rfl⟩
      have Dv148 : Dy (a1.toInt) (0) v148 := by rw [← hv148]; exact Dy.i2d _
      obtain ⟨ix0, hix0⟩ : ∃ z : Int32, z = ((s1 &&& (2147483647 : Int32)) % (2 : Int32)) := ⟨_, rfl⟩
      have k149 : ∀ t, Steps p.tables e below (T143.setTop (mkF m 45 #[.val (.int st), .val (.int s1), .val (.int a1), .val (.int s2), .val (.int a2), .val (.int cnt), .val (.int (2 : Int32)), .val (.int kc), .val (.ref b102), .val (.long (0 : Int64)), .second, .unset, .unset] [(.double v148), (.int ix0), (.ref b102)])) t → Steps p.tables e below (s₁.setTop (entryFrame m #[(.int st), (.int s1), (.int a1), (.int s2), (.int a2), (.int cnt)] maxLocals)) t := fun t k => k145 t (by
        show Steps p.tables e below (T143.setTop (mkF m 24 #[.val (.int st), .val (.int s1), .val (.int a1), .val (.int s2), .val (.int a2), .val (.int cnt), .val (.int (2 : Int32)), .val (.int kc), .unset, .unset, .unset, .unset, .unset] [(.ref b102)])) _
        refine XS.astore X143.here hx rfl (hb hby at_24) rfl rfl (l' := #[.val (.int st), .val (.int s1), .val (.int a1), .val (.int s2), .val (.int a2), .val (.int cnt), .val (.int (2 : Int32)), .val (.int kc), .val (.ref b102), .unset, .unset, .unset, .unset]) rfl ?_
        show Steps p.tables e below (T143.setTop (mkF m 26 #[.val (.int st), .val (.int s1), .val (.int a1), .val (.int s2), .val (.int a2), .val (.int cnt), .val (.int (2 : Int32)), .val (.int kc), .val (.ref b102), .unset, .unset, .unset, .unset] [])) _
        refine XS.lconst X143.here hx rfl (hb hby at_26) ?_
        show Steps p.tables e below (T143.setTop (mkF m 27 #[.val (.int st), .val (.int s1), .val (.int a1), .val (.int s2), .val (.int a2), .val (.int cnt), .val (.int (2 : Int32)), .val (.int kc), .val (.ref b102), .unset, .unset, .unset, .unset] [(.long (0 : Int64))])) _
        refine XS.lstore X143.here hx rfl (hb hby at_27) rfl (l' := #[.val (.int st), .val (.int s1), .val (.int a1), .val (.int s2), .val (.int a2), .val (.int cnt), .val (.int (2 : Int32)), .val (.int kc), .val (.ref b102), .val (.long (0 : Int64)), .second, .unset, .unset]) rfl ?_
        show Steps p.tables e below (T143.setTop (mkF m 29 #[.val (.int st), .val (.int s1), .val (.int a1), .val (.int s2), .val (.int a2), .val (.int cnt), .val (.int (2 : Int32)), .val (.int kc), .val (.ref b102), .val (.long (0 : Int64)), .second, .unset, .unset] [])) _
        refine XS.iload X143.here hx rfl (hb hby at_29) rfl ?_
        show Steps p.tables e below (T143.setTop (mkF m 31 #[.val (.int st), .val (.int s1), .val (.int a1), .val (.int s2), .val (.int a2), .val (.int cnt), .val (.int (2 : Int32)), .val (.int kc), .val (.ref b102), .val (.long (0 : Int64)), .second, .unset, .unset] [(.int (2 : Int32))])) _
        refine XS.ifNo X143.here hx rfl (hb hby at_31) rfl ((if0 _ _).trans (tlt (by decide)).2.2.2) ?_
        show Steps p.tables e below (T143.setTop (mkF m 34 #[.val (.int st), .val (.int s1), .val (.int a1), .val (.int s2), .val (.int a2), .val (.int cnt), .val (.int (2 : Int32)), .val (.int kc), .val (.ref b102), .val (.long (0 : Int64)), .second, .unset, .unset] [])) _
        refine XS.aload X143.here hx rfl (hb hby at_34) rfl rfl ?_
        show Steps p.tables e below (T143.setTop (mkF m 36 #[.val (.int st), .val (.int s1), .val (.int a1), .val (.int s2), .val (.int a2), .val (.int cnt), .val (.int (2 : Int32)), .val (.int kc), .val (.ref b102), .val (.long (0 : Int64)), .second, .unset, .unset] [(.ref b102)])) _
        refine XS.iloadN X143.here hx rfl (hb hby at_36) rfl ?_
        show Steps p.tables e below (T143.setTop (mkF m 37 #[.val (.int st), .val (.int s1), .val (.int a1), .val (.int s2), .val (.int a2), .val (.int cnt), .val (.int (2 : Int32)), .val (.int kc), .val (.ref b102), .val (.long (0 : Int64)), .second, .unset, .unset] [(.int s1), (.ref b102)])) _
        refine X143.ldcInt hx hown (mvT hZ (hw _ (List.mem_of_getElem? (i := 0) rfl))) (g := (mkF m 37 #[.val (.int st), .val (.int s1), .val (.int a1), .val (.int s2), .val (.int a2), .val (.int cnt), .val (.int (2 : Int32)), .val (.int kc), .val (.ref b102), .val (.long (0 : Int64)), .second, .unset, .unset] [(.int s1), (.ref b102)])) rfl (hb hby at_37) _ ?_
        show Steps p.tables e below (T143.setTop (mkF m 39 #[.val (.int st), .val (.int s1), .val (.int a1), .val (.int s2), .val (.int a2), .val (.int cnt), .val (.int (2 : Int32)), .val (.int kc), .val (.ref b102), .val (.long (0 : Int64)), .second, .unset, .unset] [(.int (2147483647 : Int32)), (.int s1), (.ref b102)])) _
        refine XS.iand X143.here hx rfl (hb hby at_39) rfl ?_
        show Steps p.tables e below (T143.setTop (mkF m 40 #[.val (.int st), .val (.int s1), .val (.int a1), .val (.int s2), .val (.int a2), .val (.int cnt), .val (.int (2 : Int32)), .val (.int kc), .val (.ref b102), .val (.long (0 : Int64)), .second, .unset, .unset] [(.int (s1 &&& (2147483647 : Int32))), (.ref b102)])) _
        refine XS.iload X143.here hx rfl (hb hby at_40) rfl ?_
        show Steps p.tables e below (T143.setTop (mkF m 42 #[.val (.int st), .val (.int s1), .val (.int a1), .val (.int s2), .val (.int a2), .val (.int cnt), .val (.int (2 : Int32)), .val (.int kc), .val (.ref b102), .val (.long (0 : Int64)), .second, .unset, .unset] [(.int (2 : Int32)), (.int (s1 &&& (2147483647 : Int32))), (.ref b102)])) _
        refine iremM X143 hx rfl (hb hby at_42) rfl (by decide) ?_
        show Steps p.tables e below (T143.setTop (mkF m 43 #[.val (.int st), .val (.int s1), .val (.int a1), .val (.int s2), .val (.int a2), .val (.int cnt), .val (.int (2 : Int32)), .val (.int kc), .val (.ref b102), .val (.long (0 : Int64)), .second, .unset, .unset] [(.int ((s1 &&& (2147483647 : Int32)) % (2 : Int32))), (.ref b102)])) _
        refine XS.iloadN X143.here hx rfl (hb hby at_43) rfl ?_
        show Steps p.tables e below (T143.setTop (mkF m 44 #[.val (.int st), .val (.int s1), .val (.int a1), .val (.int s2), .val (.int a2), .val (.int cnt), .val (.int (2 : Int32)), .val (.int kc), .val (.ref b102), .val (.long (0 : Int64)), .second, .unset, .unset] [(.int a1), (.int ((s1 &&& (2147483647 : Int32)) % (2 : Int32))), (.ref b102)])) _
        refine XS.i2dS X143.here hx rfl (hb hby at_44) rfl hv148 ?_
        show Steps p.tables e below (T143.setTop (mkF m 45 #[.val (.int st), .val (.int s1), .val (.int a1), .val (.int s2), .val (.int a2), .val (.int cnt), .val (.int (2 : Int32)), .val (.int kc), .val (.ref b102), .val (.long (0 : Int64)), .second, .unset, .unset] [(.double v148), (.int ((s1 &&& (2147483647 : Int32)) % (2 : Int32))), (.ref b102)])) _
        refine castTop (g' := (mkF m 45 #[.val (.int st), .val (.int s1), .val (.int a1), .val (.int s2), .val (.int a2), .val (.int cnt), .val (.int (2 : Int32)), .val (.int kc), .val (.ref b102), .val (.long (0 : Int64)), .second, .unset, .unset] [(.double v148), (.int ix0), (.ref b102)])) (by rw [hix0]) ?_
        exact k)
      have hix0 := own_ix2 s1 ix0 hix0
      have P0_0 : Dy (0 + a1.toInt) 0 (FP.dadd (0 : UInt64) v148) := Dy.add (dy0 0) Dv148 (by have := rng32 a1; have := rng32 a2; omega) (by decide)
      have P0_1 : Dy (0 + a1.toInt) 0 (FP.dadd (0 : UInt64) v148) := Dy.add (dy0 0) Dv148 (by have := rng32 a1; have := rng32 a2; omega) (by decide)
      obtain ⟨cq150, kq150, q150a, q150b, q150c⟩ := isOf hZ e143 G143e
      obtain ⟨_, _, ⟨T150, L150, k150, n150⟩, -, X150, ⟨Lc150, hQ150, l150, y150, z150⟩, st150⟩ := X143.virtualBack hx (y := (⟨"com/example/istra/istra/model/Transfer", "addFluid", "(ID)V"⟩ : MethodName)) (z := (⟨"com/example/istra/istra/model/Transfer", "addFluid", "(ID)V"⟩ : MethodName)) hown (mvT hZ (hw _ (List.mem_of_getElem? (i := 32) rfl))) (mvT hZ (hw _ (List.mem_of_getElem? (i := 33) rfl))) (notFace_of_selects (args := #[]) (mvT hZ (hw _ (List.mem_of_getElem? (i := 35) rfl)))) (mvT hZ (hw _ (List.mem_of_getElem? (i := 35) rfl))) (mvT hZ (hw _ (List.mem_of_getElem? (i := 34) rfl))) (by decide) (backOf (W := 0) (fl2 l Z a0 hw [] b102 b1 b2 b3 k3 ix0 v148 (0 : Int32) (0 : Int32) (0 : UInt64) (0 : UInt64) h143 n0 Z147 G143e G143a G143b G143c G143d G143h V3 g103 gb3 nb3 hix0 P0_0.nn P0_1.nn) hZ (hw _ (List.mem_of_getElem? (i := 36) rfl)) (hw _ (List.mem_of_getElem? (i := 3) rfl)) (by decide) (by decide)) q150a q150c (g := (mkF m 45 #[.val (.int st), .val (.int s1), .val (.int a1), .val (.int s2), .val (.int a2), .val (.int cnt), .val (.int (2 : Int32)), .val (.int kc), .val (.ref b102), .val (.long (0 : Int64)), .second, .unset, .unset] [(.double v148), (.int ix0), (.ref b102)])) rfl (by rw [hml]; rfl) (Steps.refl _) (argsL := [(.int ix0), (.double v148)]) (rest := []) (lenOf pd__28ID_29V rfl) rfl (by show 2 * 0 + _ ≤ _; exact Nat.le_of_eq rfl) (hb hby at_45) (fun _ _ => ⟨rfl, e143, (by decide : 4 + 0 ≤ _), (by decide : 15 + 0 ≤ _)⟩)
      dsimp only [Pt.U, Pt.locs, Pt.cells, Pt.slots] at X150 l150 y150 z150 st150 hQ150
      subst l150 y150 z150
      obtain ⟨h150, e150⟩ : ∃ h', T150.heap = h' := ⟨_, rfl⟩
      rw [e150] at hQ150
      obtain ⟨rfl, N150q, K150, R150_0, R150_1, R150_2, R150_3, R150_4, R150_5, R150_6⟩ := hQ150
      have N151 := Fr.app N144 N150q
      have k152 : ∀ t, Steps p.tables e below (T150.setTop (mkF m 48 #[.val (.int st), .val (.int s1), .val (.int a1), .val (.int s2), .val (.int a2), .val (.int cnt), .val (.int (2 : Int32)), .val (.int kc), .val (.ref b102), .val (.long (0 : Int64)), .second, .unset, .unset] [])) t → Steps p.tables e below (s₁.setTop (entryFrame m #[(.int st), (.int s1), (.int a1), (.int s2), (.int a2), (.int cnt)] maxLocals)) t := fun t k => k149 t (st150.trans k)
      have F153 := G143e.keep K150
      have F154 := V1.keep K150 (ninS (Ne.symm nb1) (ninS nb13 nin0))
      have F155 := V2.keep K150 (ninS (Ne.symm nb2) (ninS nb23 nin0))
      have Z156 : n0 ≤ h150.size := Nat.le_trans Z147 K150.1
      have Q0_0 : Dy (if ix0 = (0 : Int32) then 0 + a1.toInt else 0) 0 (if ix0 = (0 : Int32) then FP.dadd (0 : UInt64) v148 else (0 : UInt64)) := by
        by_cases q : ix0 = (0 : Int32)
        · rw [if_pos q, if_pos q]; exact P0_0
        · rw [if_neg q, if_neg q]; exact (dy0 0)
      have Q0_1 : Dy (if ix0 = (1 : Int32) then 0 + a1.toInt else 0) 0 (if ix0 = (1 : Int32) then FP.dadd (0 : UInt64) v148 else (0 : UInt64)) := by
        by_cases q : ix0 = (1 : Int32)
        · rw [if_pos q, if_pos q]; exact P0_1
        · rw [if_neg q, if_neg q]; exact (dy0 0)
      obtain ⟨v157, hv157⟩ : ∃ z : UInt64, FP.i2d a2 = z := ⟨_, rfl⟩
      have Dv157 : Dy (a2.toInt) (0) v157 := by rw [← hv157]; exact Dy.i2d _
      obtain ⟨ix1, hix1⟩ : ∃ z : Int32, z = ((s2 &&& (2147483647 : Int32)) % (2 : Int32)) := ⟨_, rfl⟩
      have k158 : ∀ t, Steps p.tables e below (T150.setTop (mkF m 60 #[.val (.int st), .val (.int s1), .val (.int a1), .val (.int s2), .val (.int a2), .val (.int cnt), .val (.int (2 : Int32)), .val (.int kc), .val (.ref b102), .val (.long (0 : Int64)), .second, .unset, .unset] [(.double v157), (.int ix1), (.ref b102)])) t → Steps p.tables e below (s₁.setTop (entryFrame m #[(.int st), (.int s1), (.int a1), (.int s2), (.int a2), (.int cnt)] maxLocals)) t := fun t k => k152 t (by
        show Steps p.tables e below (T150.setTop (mkF m 48 #[.val (.int st), .val (.int s1), .val (.int a1), .val (.int s2), .val (.int a2), .val (.int cnt), .val (.int (2 : Int32)), .val (.int kc), .val (.ref b102), .val (.long (0 : Int64)), .second, .unset, .unset] [])) _
        refine XS.aload X150.here hx rfl (hb hby at_48) rfl rfl ?_
        show Steps p.tables e below (T150.setTop (mkF m 50 #[.val (.int st), .val (.int s1), .val (.int a1), .val (.int s2), .val (.int a2), .val (.int cnt), .val (.int (2 : Int32)), .val (.int kc), .val (.ref b102), .val (.long (0 : Int64)), .second, .unset, .unset] [(.ref b102)])) _
        refine XS.iloadN X150.here hx rfl (hb hby at_50) rfl ?_
        show Steps p.tables e below (T150.setTop (mkF m 51 #[.val (.int st), .val (.int s1), .val (.int a1), .val (.int s2), .val (.int a2), .val (.int cnt), .val (.int (2 : Int32)), .val (.int kc), .val (.ref b102), .val (.long (0 : Int64)), .second, .unset, .unset] [(.int s2), (.ref b102)])) _
        refine X150.ldcInt hx hown (mvT hZ (hw _ (List.mem_of_getElem? (i := 0) rfl))) (g := (mkF m 51 #[.val (.int st), .val (.int s1), .val (.int a1), .val (.int s2), .val (.int a2), .val (.int cnt), .val (.int (2 : Int32)), .val (.int kc), .val (.ref b102), .val (.long (0 : Int64)), .second, .unset, .unset] [(.int s2), (.ref b102)])) rfl (hb hby at_51) _ ?_
        show Steps p.tables e below (T150.setTop (mkF m 53 #[.val (.int st), .val (.int s1), .val (.int a1), .val (.int s2), .val (.int a2), .val (.int cnt), .val (.int (2 : Int32)), .val (.int kc), .val (.ref b102), .val (.long (0 : Int64)), .second, .unset, .unset] [(.int (2147483647 : Int32)), (.int s2), (.ref b102)])) _
        refine XS.iand X150.here hx rfl (hb hby at_53) rfl ?_
        show Steps p.tables e below (T150.setTop (mkF m 54 #[.val (.int st), .val (.int s1), .val (.int a1), .val (.int s2), .val (.int a2), .val (.int cnt), .val (.int (2 : Int32)), .val (.int kc), .val (.ref b102), .val (.long (0 : Int64)), .second, .unset, .unset] [(.int (s2 &&& (2147483647 : Int32))), (.ref b102)])) _
        refine XS.iload X150.here hx rfl (hb hby at_54) rfl ?_
        show Steps p.tables e below (T150.setTop (mkF m 56 #[.val (.int st), .val (.int s1), .val (.int a1), .val (.int s2), .val (.int a2), .val (.int cnt), .val (.int (2 : Int32)), .val (.int kc), .val (.ref b102), .val (.long (0 : Int64)), .second, .unset, .unset] [(.int (2 : Int32)), (.int (s2 &&& (2147483647 : Int32))), (.ref b102)])) _
        refine iremM X150 hx rfl (hb hby at_56) rfl (by decide) ?_
        show Steps p.tables e below (T150.setTop (mkF m 57 #[.val (.int st), .val (.int s1), .val (.int a1), .val (.int s2), .val (.int a2), .val (.int cnt), .val (.int (2 : Int32)), .val (.int kc), .val (.ref b102), .val (.long (0 : Int64)), .second, .unset, .unset] [(.int ((s2 &&& (2147483647 : Int32)) % (2 : Int32))), (.ref b102)])) _
        refine XS.iload X150.here hx rfl (hb hby at_57) rfl ?_
        show Steps p.tables e below (T150.setTop (mkF m 59 #[.val (.int st), .val (.int s1), .val (.int a1), .val (.int s2), .val (.int a2), .val (.int cnt), .val (.int (2 : Int32)), .val (.int kc), .val (.ref b102), .val (.long (0 : Int64)), .second, .unset, .unset] [(.int a2), (.int ((s2 &&& (2147483647 : Int32)) % (2 : Int32))), (.ref b102)])) _
        refine XS.i2dS X150.here hx rfl (hb hby at_59) rfl hv157 ?_
        show Steps p.tables e below (T150.setTop (mkF m 60 #[.val (.int st), .val (.int s1), .val (.int a1), .val (.int s2), .val (.int a2), .val (.int cnt), .val (.int (2 : Int32)), .val (.int kc), .val (.ref b102), .val (.long (0 : Int64)), .second, .unset, .unset] [(.double v157), (.int ((s2 &&& (2147483647 : Int32)) % (2 : Int32))), (.ref b102)])) _
        refine castTop (g' := (mkF m 60 #[.val (.int st), .val (.int s1), .val (.int a1), .val (.int s2), .val (.int a2), .val (.int cnt), .val (.int (2 : Int32)), .val (.int kc), .val (.ref b102), .val (.long (0 : Int64)), .second, .unset, .unset] [(.double v157), (.int ix1), (.ref b102)])) (by rw [hix1]) ?_
        exact k)
      have hix1 := own_ix2 s2 ix1 hix1
      have P1_0 : Dy ((if ix0 = (0 : Int32) then 0 + a1.toInt else 0) + a2.toInt) 0 (FP.dadd (if ix0 = (0 : Int32) then FP.dadd (0 : UInt64) v148 else (0 : UInt64)) v157) := Dy.add Q0_0 Dv157 (by have := rng32 a1; have := rng32 a2; split <;> omega) (by decide)
      have P1_1 : Dy ((if ix0 = (1 : Int32) then 0 + a1.toInt else 0) + a2.toInt) 0 (FP.dadd (if ix0 = (1 : Int32) then FP.dadd (0 : UInt64) v148 else (0 : UInt64)) v157) := Dy.add Q0_1 Dv157 (by have := rng32 a1; have := rng32 a2; split <;> omega) (by decide)
      obtain ⟨cq159, kq159, q159a, q159b, q159c⟩ := isOf hZ e150 R150_0
      obtain ⟨_, _, ⟨T159, L159, k159, n159⟩, -, X159, ⟨Lc159, hQ159, l159, y159, z159⟩, st159⟩ := X150.virtualBack hx (y := (⟨"com/example/istra/istra/model/Transfer", "addFluid", "(ID)V"⟩ : MethodName)) (z := (⟨"com/example/istra/istra/model/Transfer", "addFluid", "(ID)V"⟩ : MethodName)) hown (mvT hZ (hw _ (List.mem_of_getElem? (i := 32) rfl))) (mvT hZ (hw _ (List.mem_of_getElem? (i := 33) rfl))) (notFace_of_selects (args := #[]) (mvT hZ (hw _ (List.mem_of_getElem? (i := 35) rfl)))) (mvT hZ (hw _ (List.mem_of_getElem? (i := 35) rfl))) (mvT hZ (hw _ (List.mem_of_getElem? (i := 34) rfl))) (by decide) (backOf (W := 0) (fl2 l Z a0 hw [] b102 b1 b2 b3 k3 ix1 v157 (0 : Int32) (1 : Int32) (if ix0 = (0 : Int32) then FP.dadd (0 : UInt64) v148 else (0 : UInt64)) (if ix0 = (1 : Int32) then FP.dadd (0 : UInt64) v148 else (0 : UInt64)) h150 n0 Z156 R150_0 R150_1 R150_2 R150_3 R150_4 R150_5 R150_6 g103 gb3 nb3 hix1 P1_0.nn P1_1.nn) hZ (hw _ (List.mem_of_getElem? (i := 36) rfl)) (hw _ (List.mem_of_getElem? (i := 3) rfl)) (by decide) (by decide)) q159a q159c (g := (mkF m 60 #[.val (.int st), .val (.int s1), .val (.int a1), .val (.int s2), .val (.int a2), .val (.int cnt), .val (.int (2 : Int32)), .val (.int kc), .val (.ref b102), .val (.long (0 : Int64)), .second, .unset, .unset] [(.double v157), (.int ix1), (.ref b102)])) rfl (by rw [hml]; rfl) (Steps.refl _) (argsL := [(.int ix1), (.double v157)]) (rest := []) (lenOf pd__28ID_29V rfl) rfl (by show 2 * 0 + _ ≤ _; exact Nat.le_of_eq rfl) (hb hby at_60) (fun _ _ => ⟨rfl, e150, (by decide : 4 + 0 ≤ _), (by decide : 15 + 0 ≤ _)⟩)
      dsimp only [Pt.U, Pt.locs, Pt.cells, Pt.slots] at X159 l159 y159 z159 st159 hQ159
      subst l159 y159 z159
      obtain ⟨h159, e159⟩ : ∃ h', T159.heap = h' := ⟨_, rfl⟩
      rw [e159] at hQ159
      obtain ⟨rfl, N159q, K159, R159_0, R159_1, R159_2, R159_3, R159_4, R159_5, R159_6⟩ := hQ159
      have N160 := Fr.app N151 N159q
      have k161 : ∀ t, Steps p.tables e below (T159.setTop (mkF m 63 #[.val (.int st), .val (.int s1), .val (.int a1), .val (.int s2), .val (.int a2), .val (.int cnt), .val (.int (2 : Int32)), .val (.int kc), .val (.ref b102), .val (.long (0 : Int64)), .second, .unset, .unset] [])) t → Steps p.tables e below (s₁.setTop (entryFrame m #[(.int st), (.int s1), (.int a1), (.int s2), (.int a2), (.int cnt)] maxLocals)) t := fun t k => k158 t (st159.trans k)
      have F162 := R150_0.keep K159
      have F163 := F154.keep K159 (ninS (Ne.symm nb1) (ninS nb13 nin0))
      have F164 := F155.keep K159 (ninS (Ne.symm nb2) (ninS nb23 nin0))
      have Z165 : n0 ≤ h159.size := Nat.le_trans Z156 K159.1
      have Q1_0 : Dy (if ix1 = (0 : Int32) then (if ix0 = (0 : Int32) then 0 + a1.toInt else 0) + a2.toInt else (if ix0 = (0 : Int32) then 0 + a1.toInt else 0)) 0 (if ix1 = (0 : Int32) then FP.dadd (if ix0 = (0 : Int32) then FP.dadd (0 : UInt64) v148 else (0 : UInt64)) v157 else (if ix0 = (0 : Int32) then FP.dadd (0 : UInt64) v148 else (0 : UInt64))) := by
        by_cases q : ix1 = (0 : Int32)
        · rw [if_pos q, if_pos q]; exact P1_0
        · rw [if_neg q, if_neg q]; exact Q0_0
      have Q1_1 : Dy (if ix1 = (1 : Int32) then (if ix0 = (1 : Int32) then 0 + a1.toInt else 0) + a2.toInt else (if ix0 = (1 : Int32) then 0 + a1.toInt else 0)) 0 (if ix1 = (1 : Int32) then FP.dadd (if ix0 = (1 : Int32) then FP.dadd (0 : UInt64) v148 else (0 : UInt64)) v157 else (if ix0 = (1 : Int32) then FP.dadd (0 : UInt64) v148 else (0 : UInt64))) := by
        by_cases q : ix1 = (1 : Int32)
        · rw [if_pos q, if_pos q]; exact P1_1
        · rw [if_neg q, if_neg q]; exact Q0_1
      have k166 : ∀ t, Steps p.tables e below (T159.setTop (mkF m 71 #[.val (.int st), .val (.int s1), .val (.int a1), .val (.int s2), .val (.int a2), .val (.int cnt), .val (.int (2 : Int32)), .val (.int kc), .val (.ref b102), .val (.long ((a1.toInt64) + (a2.toInt64))), .second, .unset, .unset] [])) t → Steps p.tables e below (s₁.setTop (entryFrame m #[(.int st), (.int s1), (.int a1), (.int s2), (.int a2), (.int cnt)] maxLocals)) t := fun t k => k161 t (by
        show Steps p.tables e below (T159.setTop (mkF m 63 #[.val (.int st), .val (.int s1), .val (.int a1), .val (.int s2), .val (.int a2), .val (.int cnt), .val (.int (2 : Int32)), .val (.int kc), .val (.ref b102), .val (.long (0 : Int64)), .second, .unset, .unset] [])) _
        refine XS.iloadN X159.here hx rfl (hb hby at_63) rfl ?_
        show Steps p.tables e below (T159.setTop (mkF m 64 #[.val (.int st), .val (.int s1), .val (.int a1), .val (.int s2), .val (.int a2), .val (.int cnt), .val (.int (2 : Int32)), .val (.int kc), .val (.ref b102), .val (.long (0 : Int64)), .second, .unset, .unset] [(.int a1)])) _
        refine XS.i2l X159.here hx rfl (hb hby at_64) rfl ?_
        show Steps p.tables e below (T159.setTop (mkF m 65 #[.val (.int st), .val (.int s1), .val (.int a1), .val (.int s2), .val (.int a2), .val (.int cnt), .val (.int (2 : Int32)), .val (.int kc), .val (.ref b102), .val (.long (0 : Int64)), .second, .unset, .unset] [(.long (a1.toInt64))])) _
        refine XS.iload X159.here hx rfl (hb hby at_65) rfl ?_
        show Steps p.tables e below (T159.setTop (mkF m 67 #[.val (.int st), .val (.int s1), .val (.int a1), .val (.int s2), .val (.int a2), .val (.int cnt), .val (.int (2 : Int32)), .val (.int kc), .val (.ref b102), .val (.long (0 : Int64)), .second, .unset, .unset] [(.int a2), (.long (a1.toInt64))])) _
        refine XS.i2l X159.here hx rfl (hb hby at_67) rfl ?_
        show Steps p.tables e below (T159.setTop (mkF m 68 #[.val (.int st), .val (.int s1), .val (.int a1), .val (.int s2), .val (.int a2), .val (.int cnt), .val (.int (2 : Int32)), .val (.int kc), .val (.ref b102), .val (.long (0 : Int64)), .second, .unset, .unset] [(.long (a2.toInt64)), (.long (a1.toInt64))])) _
        refine XS.ladd X159.here hx rfl (hb hby at_68) rfl ?_
        show Steps p.tables e below (T159.setTop (mkF m 69 #[.val (.int st), .val (.int s1), .val (.int a1), .val (.int s2), .val (.int a2), .val (.int cnt), .val (.int (2 : Int32)), .val (.int kc), .val (.ref b102), .val (.long (0 : Int64)), .second, .unset, .unset] [(.long ((a1.toInt64) + (a2.toInt64)))])) _
        refine XS.lstore X159.here hx rfl (hb hby at_69) rfl (l' := #[.val (.int st), .val (.int s1), .val (.int a1), .val (.int s2), .val (.int a2), .val (.int cnt), .val (.int (2 : Int32)), .val (.int kc), .val (.ref b102), .val (.long ((a1.toInt64) + (a2.toInt64))), .second, .unset, .unset]) rfl ?_
        exact k)
      have hus := own_us2 (a1 := a1) (a2 := a2) hix0 hix1 Q1_0 Q1_1
      exact ⟨T159, h159, _, b1, b2, b3, k1, k2, k3, (1 : Int32), [(.double (if ix1 = (0 : Int32) then FP.dadd (if ix0 = (0 : Int32) then FP.dadd (0 : UInt64) v148 else (0 : UInt64)) v157 else (if ix0 = (0 : Int32) then FP.dadd (0 : UInt64) v148 else (0 : UInt64)))), (.double (if ix1 = (1 : Int32) then FP.dadd (if ix0 = (1 : Int32) then FP.dadd (0 : UInt64) v148 else (0 : UInt64)) v157 else (if ix0 = (1 : Int32) then FP.dadd (0 : UInt64) v148 else (0 : UInt64))))], ((a1.toInt64) + (a2.toInt64)), (X159.more (by decide) (by decide)), e159, N160, Z165, R159_0, R159_1, R159_2, R159_3, R159_4, R159_5, F163, F164, R159_6, gb1, gb2, gb3, nb1, nb2, nb3, nb12, nb13, nb23, (hus), (own_l2 a1 a2), k166⟩
    · obtain ⟨_, _, ⟨T167, L167, k167, n167⟩, -, X167, ⟨Lc167, hQ167, l167, y167, z167⟩, st167⟩ := X102.specialBack hx (y := (⟨"com/example/istra/istra/model/Transfer", "<init>", "(I)V"⟩ : MethodName)) rfl hown (mvT hZ (hw _ (List.mem_of_getElem? (i := 4) rfl))) (mvT hZ (hw _ (List.mem_of_getElem? (i := 5) rfl))) (mvT hZ (hw _ (List.mem_of_getElem? (i := 6) rfl))) (by decide) (backOf (W := 1) (ct3 l Z a0 hw [] b102 h102 n0 Z104 F105 F106 F107 F108 F109 A102 g103) hZ (hw _ (List.mem_of_getElem? (i := 6) rfl)) (hw _ (List.mem_of_getElem? (i := 3) rfl)) (by decide) (by decide)) (g := (mkF m 21 #[.val (.int st), .val (.int s1), .val (.int a1), .val (.int s2), .val (.int a2), .val (.int cnt), .val (.int (3 : Int32)), .val (.int kc), .unset, .unset, .unset, .unset, .unset] [(.int (3 : Int32)), (.ref b102), (.ref b102)])) rfl (by rw [hml]; rfl) (Steps.refl _) (a := b102) (argsL := [(.int (3 : Int32))]) (rest := [(.ref b102)]) (lenOf pd__28I_29V rfl) rfl (by show 2 * 0 + _ ≤ _; exact Nat.le_of_eq rfl) (hb hby at_21) (fun _ _ => ⟨rfl, e102, (by decide : 1 + 3 ≤ _), (by decide : 5 + 11 ≤ _)⟩)
      dsimp only [Pt.U, Pt.locs, Pt.cells, Pt.slots] at X167 l167 y167 z167 st167 hQ167
      subst l167 y167 z167
      obtain ⟨h167, e167⟩ : ∃ h', T167.heap = h' := ⟨_, rfl⟩
      rw [e167] at hQ167
      obtain ⟨b1, b2, b3, k1, k2, k3, rfl, N167q, K167, gb1, gb2, gb3, nb1, nb2, nb3, nb12, nb13, nb23, G167e, G167a, G167b, G167c, G167d, G167h, V1, V2, V3⟩ := hQ167
      have N168 := Fr.app N0 N167q
      have k169 : ∀ t, Steps p.tables e below (T167.setTop (mkF m 24 #[.val (.int st), .val (.int s1), .val (.int a1), .val (.int s2), .val (.int a2), .val (.int cnt), .val (.int (3 : Int32)), .val (.int kc), .unset, .unset, .unset, .unset, .unset] [(.ref b102)])) t → Steps p.tables e below (s₁.setTop (entryFrame m #[(.int st), (.int s1), (.int a1), (.int s2), (.int a2), (.int cnt)] maxLocals)) t := fun t k => k111 t (st167.trans k)
      have F170 := A102.keep K167
      have Z171 : n0 ≤ h167.size := Nat.le_trans Z104 K167.1
      obtain ⟨v172, hv172⟩ : ∃ z : UInt64, FP.i2d a1 = z := ⟨_, rfl⟩
      have Dv172 : Dy (a1.toInt) (0) v172 := by rw [← hv172]; exact Dy.i2d _
      obtain ⟨ix0, hix0⟩ : ∃ z : Int32, z = ((s1 &&& (2147483647 : Int32)) % (3 : Int32)) := ⟨_, rfl⟩
      have k173 : ∀ t, Steps p.tables e below (T167.setTop (mkF m 45 #[.val (.int st), .val (.int s1), .val (.int a1), .val (.int s2), .val (.int a2), .val (.int cnt), .val (.int (3 : Int32)), .val (.int kc), .val (.ref b102), .val (.long (0 : Int64)), .second, .unset, .unset] [(.double v172), (.int ix0), (.ref b102)])) t → Steps p.tables e below (s₁.setTop (entryFrame m #[(.int st), (.int s1), (.int a1), (.int s2), (.int a2), (.int cnt)] maxLocals)) t := fun t k => k169 t (by
        show Steps p.tables e below (T167.setTop (mkF m 24 #[.val (.int st), .val (.int s1), .val (.int a1), .val (.int s2), .val (.int a2), .val (.int cnt), .val (.int (3 : Int32)), .val (.int kc), .unset, .unset, .unset, .unset, .unset] [(.ref b102)])) _
        refine XS.astore X167.here hx rfl (hb hby at_24) rfl rfl (l' := #[.val (.int st), .val (.int s1), .val (.int a1), .val (.int s2), .val (.int a2), .val (.int cnt), .val (.int (3 : Int32)), .val (.int kc), .val (.ref b102), .unset, .unset, .unset, .unset]) rfl ?_
        show Steps p.tables e below (T167.setTop (mkF m 26 #[.val (.int st), .val (.int s1), .val (.int a1), .val (.int s2), .val (.int a2), .val (.int cnt), .val (.int (3 : Int32)), .val (.int kc), .val (.ref b102), .unset, .unset, .unset, .unset] [])) _
        refine XS.lconst X167.here hx rfl (hb hby at_26) ?_
        show Steps p.tables e below (T167.setTop (mkF m 27 #[.val (.int st), .val (.int s1), .val (.int a1), .val (.int s2), .val (.int a2), .val (.int cnt), .val (.int (3 : Int32)), .val (.int kc), .val (.ref b102), .unset, .unset, .unset, .unset] [(.long (0 : Int64))])) _
        refine XS.lstore X167.here hx rfl (hb hby at_27) rfl (l' := #[.val (.int st), .val (.int s1), .val (.int a1), .val (.int s2), .val (.int a2), .val (.int cnt), .val (.int (3 : Int32)), .val (.int kc), .val (.ref b102), .val (.long (0 : Int64)), .second, .unset, .unset]) rfl ?_
        show Steps p.tables e below (T167.setTop (mkF m 29 #[.val (.int st), .val (.int s1), .val (.int a1), .val (.int s2), .val (.int a2), .val (.int cnt), .val (.int (3 : Int32)), .val (.int kc), .val (.ref b102), .val (.long (0 : Int64)), .second, .unset, .unset] [])) _
        refine XS.iload X167.here hx rfl (hb hby at_29) rfl ?_
        show Steps p.tables e below (T167.setTop (mkF m 31 #[.val (.int st), .val (.int s1), .val (.int a1), .val (.int s2), .val (.int a2), .val (.int cnt), .val (.int (3 : Int32)), .val (.int kc), .val (.ref b102), .val (.long (0 : Int64)), .second, .unset, .unset] [(.int (3 : Int32))])) _
        refine XS.ifNo X167.here hx rfl (hb hby at_31) rfl ((if0 _ _).trans (tlt (by decide)).2.2.2) ?_
        show Steps p.tables e below (T167.setTop (mkF m 34 #[.val (.int st), .val (.int s1), .val (.int a1), .val (.int s2), .val (.int a2), .val (.int cnt), .val (.int (3 : Int32)), .val (.int kc), .val (.ref b102), .val (.long (0 : Int64)), .second, .unset, .unset] [])) _
        refine XS.aload X167.here hx rfl (hb hby at_34) rfl rfl ?_
        show Steps p.tables e below (T167.setTop (mkF m 36 #[.val (.int st), .val (.int s1), .val (.int a1), .val (.int s2), .val (.int a2), .val (.int cnt), .val (.int (3 : Int32)), .val (.int kc), .val (.ref b102), .val (.long (0 : Int64)), .second, .unset, .unset] [(.ref b102)])) _
        refine XS.iloadN X167.here hx rfl (hb hby at_36) rfl ?_
        show Steps p.tables e below (T167.setTop (mkF m 37 #[.val (.int st), .val (.int s1), .val (.int a1), .val (.int s2), .val (.int a2), .val (.int cnt), .val (.int (3 : Int32)), .val (.int kc), .val (.ref b102), .val (.long (0 : Int64)), .second, .unset, .unset] [(.int s1), (.ref b102)])) _
        refine X167.ldcInt hx hown (mvT hZ (hw _ (List.mem_of_getElem? (i := 0) rfl))) (g := (mkF m 37 #[.val (.int st), .val (.int s1), .val (.int a1), .val (.int s2), .val (.int a2), .val (.int cnt), .val (.int (3 : Int32)), .val (.int kc), .val (.ref b102), .val (.long (0 : Int64)), .second, .unset, .unset] [(.int s1), (.ref b102)])) rfl (hb hby at_37) _ ?_
        show Steps p.tables e below (T167.setTop (mkF m 39 #[.val (.int st), .val (.int s1), .val (.int a1), .val (.int s2), .val (.int a2), .val (.int cnt), .val (.int (3 : Int32)), .val (.int kc), .val (.ref b102), .val (.long (0 : Int64)), .second, .unset, .unset] [(.int (2147483647 : Int32)), (.int s1), (.ref b102)])) _
        refine XS.iand X167.here hx rfl (hb hby at_39) rfl ?_
        show Steps p.tables e below (T167.setTop (mkF m 40 #[.val (.int st), .val (.int s1), .val (.int a1), .val (.int s2), .val (.int a2), .val (.int cnt), .val (.int (3 : Int32)), .val (.int kc), .val (.ref b102), .val (.long (0 : Int64)), .second, .unset, .unset] [(.int (s1 &&& (2147483647 : Int32))), (.ref b102)])) _
        refine XS.iload X167.here hx rfl (hb hby at_40) rfl ?_
        show Steps p.tables e below (T167.setTop (mkF m 42 #[.val (.int st), .val (.int s1), .val (.int a1), .val (.int s2), .val (.int a2), .val (.int cnt), .val (.int (3 : Int32)), .val (.int kc), .val (.ref b102), .val (.long (0 : Int64)), .second, .unset, .unset] [(.int (3 : Int32)), (.int (s1 &&& (2147483647 : Int32))), (.ref b102)])) _
        refine iremM X167 hx rfl (hb hby at_42) rfl (by decide) ?_
        show Steps p.tables e below (T167.setTop (mkF m 43 #[.val (.int st), .val (.int s1), .val (.int a1), .val (.int s2), .val (.int a2), .val (.int cnt), .val (.int (3 : Int32)), .val (.int kc), .val (.ref b102), .val (.long (0 : Int64)), .second, .unset, .unset] [(.int ((s1 &&& (2147483647 : Int32)) % (3 : Int32))), (.ref b102)])) _
        refine XS.iloadN X167.here hx rfl (hb hby at_43) rfl ?_
        show Steps p.tables e below (T167.setTop (mkF m 44 #[.val (.int st), .val (.int s1), .val (.int a1), .val (.int s2), .val (.int a2), .val (.int cnt), .val (.int (3 : Int32)), .val (.int kc), .val (.ref b102), .val (.long (0 : Int64)), .second, .unset, .unset] [(.int a1), (.int ((s1 &&& (2147483647 : Int32)) % (3 : Int32))), (.ref b102)])) _
        refine XS.i2dS X167.here hx rfl (hb hby at_44) rfl hv172 ?_
        show Steps p.tables e below (T167.setTop (mkF m 45 #[.val (.int st), .val (.int s1), .val (.int a1), .val (.int s2), .val (.int a2), .val (.int cnt), .val (.int (3 : Int32)), .val (.int kc), .val (.ref b102), .val (.long (0 : Int64)), .second, .unset, .unset] [(.double v172), (.int ((s1 &&& (2147483647 : Int32)) % (3 : Int32))), (.ref b102)])) _
        refine castTop (g' := (mkF m 45 #[.val (.int st), .val (.int s1), .val (.int a1), .val (.int s2), .val (.int a2), .val (.int cnt), .val (.int (3 : Int32)), .val (.int kc), .val (.ref b102), .val (.long (0 : Int64)), .second, .unset, .unset] [(.double v172), (.int ix0), (.ref b102)])) (by rw [hix0]) ?_
        exact k)
      have hix0 := own_ix3 s1 ix0 hix0
      have P0_0 : Dy (0 + a1.toInt) 0 (FP.dadd (0 : UInt64) v172) := Dy.add (dy0 0) Dv172 (by have := rng32 a1; have := rng32 a2; omega) (by decide)
      have P0_1 : Dy (0 + a1.toInt) 0 (FP.dadd (0 : UInt64) v172) := Dy.add (dy0 0) Dv172 (by have := rng32 a1; have := rng32 a2; omega) (by decide)
      have P0_2 : Dy (0 + a1.toInt) 0 (FP.dadd (0 : UInt64) v172) := Dy.add (dy0 0) Dv172 (by have := rng32 a1; have := rng32 a2; omega) (by decide)
      obtain ⟨cq174, kq174, q174a, q174b, q174c⟩ := isOf hZ e167 G167e
      obtain ⟨_, _, ⟨T174, L174, k174, n174⟩, -, X174, ⟨Lc174, hQ174, l174, y174, z174⟩, st174⟩ := X167.virtualBack hx (y := (⟨"com/example/istra/istra/model/Transfer", "addFluid", "(ID)V"⟩ : MethodName)) (z := (⟨"com/example/istra/istra/model/Transfer", "addFluid", "(ID)V"⟩ : MethodName)) hown (mvT hZ (hw _ (List.mem_of_getElem? (i := 32) rfl))) (mvT hZ (hw _ (List.mem_of_getElem? (i := 33) rfl))) (notFace_of_selects (args := #[]) (mvT hZ (hw _ (List.mem_of_getElem? (i := 35) rfl)))) (mvT hZ (hw _ (List.mem_of_getElem? (i := 35) rfl))) (mvT hZ (hw _ (List.mem_of_getElem? (i := 34) rfl))) (by decide) (backOf (W := 0) (fl3 l Z a0 hw [] b102 b1 b2 b3 k3 ix0 v172 (0 : Int32) (0 : Int32) (0 : UInt64) (0 : UInt64) (0 : UInt64) h167 n0 Z171 G167e G167a G167b G167c G167d G167h V3 g103 gb3 nb3 hix0 P0_0.nn P0_1.nn P0_2.nn) hZ (hw _ (List.mem_of_getElem? (i := 36) rfl)) (hw _ (List.mem_of_getElem? (i := 3) rfl)) (by decide) (by decide)) q174a q174c (g := (mkF m 45 #[.val (.int st), .val (.int s1), .val (.int a1), .val (.int s2), .val (.int a2), .val (.int cnt), .val (.int (3 : Int32)), .val (.int kc), .val (.ref b102), .val (.long (0 : Int64)), .second, .unset, .unset] [(.double v172), (.int ix0), (.ref b102)])) rfl (by rw [hml]; rfl) (Steps.refl _) (argsL := [(.int ix0), (.double v172)]) (rest := []) (lenOf pd__28ID_29V rfl) rfl (by show 2 * 0 + _ ≤ _; exact Nat.le_of_eq rfl) (hb hby at_45) (fun _ _ => ⟨rfl, e167, (by decide : 4 + 0 ≤ _), (by decide : 16 + 0 ≤ _)⟩)
      dsimp only [Pt.U, Pt.locs, Pt.cells, Pt.slots] at X174 l174 y174 z174 st174 hQ174
      subst l174 y174 z174
      obtain ⟨h174, e174⟩ : ∃ h', T174.heap = h' := ⟨_, rfl⟩
      rw [e174] at hQ174
      obtain ⟨rfl, N174q, K174, R174_0, R174_1, R174_2, R174_3, R174_4, R174_5, R174_6⟩ := hQ174
      have N175 := Fr.app N168 N174q
      have k176 : ∀ t, Steps p.tables e below (T174.setTop (mkF m 48 #[.val (.int st), .val (.int s1), .val (.int a1), .val (.int s2), .val (.int a2), .val (.int cnt), .val (.int (3 : Int32)), .val (.int kc), .val (.ref b102), .val (.long (0 : Int64)), .second, .unset, .unset] [])) t → Steps p.tables e below (s₁.setTop (entryFrame m #[(.int st), (.int s1), (.int a1), (.int s2), (.int a2), (.int cnt)] maxLocals)) t := fun t k => k173 t (st174.trans k)
      have F177 := G167e.keep K174
      have F178 := V1.keep K174 (ninS (Ne.symm nb1) (ninS nb13 nin0))
      have F179 := V2.keep K174 (ninS (Ne.symm nb2) (ninS nb23 nin0))
      have Z180 : n0 ≤ h174.size := Nat.le_trans Z171 K174.1
      have Q0_0 : Dy (if ix0 = (0 : Int32) then 0 + a1.toInt else 0) 0 (if ix0 = (0 : Int32) then FP.dadd (0 : UInt64) v172 else (0 : UInt64)) := by
        by_cases q : ix0 = (0 : Int32)
        · rw [if_pos q, if_pos q]; exact P0_0
        · rw [if_neg q, if_neg q]; exact (dy0 0)
      have Q0_1 : Dy (if ix0 = (1 : Int32) then 0 + a1.toInt else 0) 0 (if ix0 = (1 : Int32) then FP.dadd (0 : UInt64) v172 else (0 : UInt64)) := by
        by_cases q : ix0 = (1 : Int32)
        · rw [if_pos q, if_pos q]; exact P0_1
        · rw [if_neg q, if_neg q]; exact (dy0 0)
      have Q0_2 : Dy (if ix0 = (2 : Int32) then 0 + a1.toInt else 0) 0 (if ix0 = (2 : Int32) then FP.dadd (0 : UInt64) v172 else (0 : UInt64)) := by
        by_cases q : ix0 = (2 : Int32)
        · rw [if_pos q, if_pos q]; exact P0_2
        · rw [if_neg q, if_neg q]; exact (dy0 0)
      obtain ⟨v181, hv181⟩ : ∃ z : UInt64, FP.i2d a2 = z := ⟨_, rfl⟩
      have Dv181 : Dy (a2.toInt) (0) v181 := by rw [← hv181]; exact Dy.i2d _
      obtain ⟨ix1, hix1⟩ : ∃ z : Int32, z = ((s2 &&& (2147483647 : Int32)) % (3 : Int32)) := ⟨_, rfl⟩
      have k182 : ∀ t, Steps p.tables e below (T174.setTop (mkF m 60 #[.val (.int st), .val (.int s1), .val (.int a1), .val (.int s2), .val (.int a2), .val (.int cnt), .val (.int (3 : Int32)), .val (.int kc), .val (.ref b102), .val (.long (0 : Int64)), .second, .unset, .unset] [(.double v181), (.int ix1), (.ref b102)])) t → Steps p.tables e below (s₁.setTop (entryFrame m #[(.int st), (.int s1), (.int a1), (.int s2), (.int a2), (.int cnt)] maxLocals)) t := fun t k => k176 t (by
        show Steps p.tables e below (T174.setTop (mkF m 48 #[.val (.int st), .val (.int s1), .val (.int a1), .val (.int s2), .val (.int a2), .val (.int cnt), .val (.int (3 : Int32)), .val (.int kc), .val (.ref b102), .val (.long (0 : Int64)), .second, .unset, .unset] [])) _
        refine XS.aload X174.here hx rfl (hb hby at_48) rfl rfl ?_
        show Steps p.tables e below (T174.setTop (mkF m 50 #[.val (.int st), .val (.int s1), .val (.int a1), .val (.int s2), .val (.int a2), .val (.int cnt), .val (.int (3 : Int32)), .val (.int kc), .val (.ref b102), .val (.long (0 : Int64)), .second, .unset, .unset] [(.ref b102)])) _
        refine XS.iloadN X174.here hx rfl (hb hby at_50) rfl ?_
        show Steps p.tables e below (T174.setTop (mkF m 51 #[.val (.int st), .val (.int s1), .val (.int a1), .val (.int s2), .val (.int a2), .val (.int cnt), .val (.int (3 : Int32)), .val (.int kc), .val (.ref b102), .val (.long (0 : Int64)), .second, .unset, .unset] [(.int s2), (.ref b102)])) _
        refine X174.ldcInt hx hown (mvT hZ (hw _ (List.mem_of_getElem? (i := 0) rfl))) (g := (mkF m 51 #[.val (.int st), .val (.int s1), .val (.int a1), .val (.int s2), .val (.int a2), .val (.int cnt), .val (.int (3 : Int32)), .val (.int kc), .val (.ref b102), .val (.long (0 : Int64)), .second, .unset, .unset] [(.int s2), (.ref b102)])) rfl (hb hby at_51) _ ?_
        show Steps p.tables e below (T174.setTop (mkF m 53 #[.val (.int st), .val (.int s1), .val (.int a1), .val (.int s2), .val (.int a2), .val (.int cnt), .val (.int (3 : Int32)), .val (.int kc), .val (.ref b102), .val (.long (0 : Int64)), .second, .unset, .unset] [(.int (2147483647 : Int32)), (.int s2), (.ref b102)])) _
        refine XS.iand X174.here hx rfl (hb hby at_53) rfl ?_
        show Steps p.tables e below (T174.setTop (mkF m 54 #[.val (.int st), .val (.int s1), .val (.int a1), .val (.int s2), .val (.int a2), .val (.int cnt), .val (.int (3 : Int32)), .val (.int kc), .val (.ref b102), .val (.long (0 : Int64)), .second, .unset, .unset] [(.int (s2 &&& (2147483647 : Int32))), (.ref b102)])) _
        refine XS.iload X174.here hx rfl (hb hby at_54) rfl ?_
        show Steps p.tables e below (T174.setTop (mkF m 56 #[.val (.int st), .val (.int s1), .val (.int a1), .val (.int s2), .val (.int a2), .val (.int cnt), .val (.int (3 : Int32)), .val (.int kc), .val (.ref b102), .val (.long (0 : Int64)), .second, .unset, .unset] [(.int (3 : Int32)), (.int (s2 &&& (2147483647 : Int32))), (.ref b102)])) _
        refine iremM X174 hx rfl (hb hby at_56) rfl (by decide) ?_
        show Steps p.tables e below (T174.setTop (mkF m 57 #[.val (.int st), .val (.int s1), .val (.int a1), .val (.int s2), .val (.int a2), .val (.int cnt), .val (.int (3 : Int32)), .val (.int kc), .val (.ref b102), .val (.long (0 : Int64)), .second, .unset, .unset] [(.int ((s2 &&& (2147483647 : Int32)) % (3 : Int32))), (.ref b102)])) _
        refine XS.iload X174.here hx rfl (hb hby at_57) rfl ?_
        show Steps p.tables e below (T174.setTop (mkF m 59 #[.val (.int st), .val (.int s1), .val (.int a1), .val (.int s2), .val (.int a2), .val (.int cnt), .val (.int (3 : Int32)), .val (.int kc), .val (.ref b102), .val (.long (0 : Int64)), .second, .unset, .unset] [(.int a2), (.int ((s2 &&& (2147483647 : Int32)) % (3 : Int32))), (.ref b102)])) _
        refine XS.i2dS X174.here hx rfl (hb hby at_59) rfl hv181 ?_
        show Steps p.tables e below (T174.setTop (mkF m 60 #[.val (.int st), .val (.int s1), .val (.int a1), .val (.int s2), .val (.int a2), .val (.int cnt), .val (.int (3 : Int32)), .val (.int kc), .val (.ref b102), .val (.long (0 : Int64)), .second, .unset, .unset] [(.double v181), (.int ((s2 &&& (2147483647 : Int32)) % (3 : Int32))), (.ref b102)])) _
        refine castTop (g' := (mkF m 60 #[.val (.int st), .val (.int s1), .val (.int a1), .val (.int s2), .val (.int a2), .val (.int cnt), .val (.int (3 : Int32)), .val (.int kc), .val (.ref b102), .val (.long (0 : Int64)), .second, .unset, .unset] [(.double v181), (.int ix1), (.ref b102)])) (by rw [hix1]) ?_
        exact k)
      have hix1 := own_ix3 s2 ix1 hix1
      have P1_0 : Dy ((if ix0 = (0 : Int32) then 0 + a1.toInt else 0) + a2.toInt) 0 (FP.dadd (if ix0 = (0 : Int32) then FP.dadd (0 : UInt64) v172 else (0 : UInt64)) v181) := Dy.add Q0_0 Dv181 (by have := rng32 a1; have := rng32 a2; split <;> omega) (by decide)
      have P1_1 : Dy ((if ix0 = (1 : Int32) then 0 + a1.toInt else 0) + a2.toInt) 0 (FP.dadd (if ix0 = (1 : Int32) then FP.dadd (0 : UInt64) v172 else (0 : UInt64)) v181) := Dy.add Q0_1 Dv181 (by have := rng32 a1; have := rng32 a2; split <;> omega) (by decide)
      have P1_2 : Dy ((if ix0 = (2 : Int32) then 0 + a1.toInt else 0) + a2.toInt) 0 (FP.dadd (if ix0 = (2 : Int32) then FP.dadd (0 : UInt64) v172 else (0 : UInt64)) v181) := Dy.add Q0_2 Dv181 (by have := rng32 a1; have := rng32 a2; split <;> omega) (by decide)
      obtain ⟨cq183, kq183, q183a, q183b, q183c⟩ := isOf hZ e174 R174_0
      obtain ⟨_, _, ⟨T183, L183, k183, n183⟩, -, X183, ⟨Lc183, hQ183, l183, y183, z183⟩, st183⟩ := X174.virtualBack hx (y := (⟨"com/example/istra/istra/model/Transfer", "addFluid", "(ID)V"⟩ : MethodName)) (z := (⟨"com/example/istra/istra/model/Transfer", "addFluid", "(ID)V"⟩ : MethodName)) hown (mvT hZ (hw _ (List.mem_of_getElem? (i := 32) rfl))) (mvT hZ (hw _ (List.mem_of_getElem? (i := 33) rfl))) (notFace_of_selects (args := #[]) (mvT hZ (hw _ (List.mem_of_getElem? (i := 35) rfl)))) (mvT hZ (hw _ (List.mem_of_getElem? (i := 35) rfl))) (mvT hZ (hw _ (List.mem_of_getElem? (i := 34) rfl))) (by decide) (backOf (W := 0) (fl3 l Z a0 hw [] b102 b1 b2 b3 k3 ix1 v181 (0 : Int32) (1 : Int32) (if ix0 = (0 : Int32) then FP.dadd (0 : UInt64) v172 else (0 : UInt64)) (if ix0 = (1 : Int32) then FP.dadd (0 : UInt64) v172 else (0 : UInt64)) (if ix0 = (2 : Int32) then FP.dadd (0 : UInt64) v172 else (0 : UInt64)) h174 n0 Z180 R174_0 R174_1 R174_2 R174_3 R174_4 R174_5 R174_6 g103 gb3 nb3 hix1 P1_0.nn P1_1.nn P1_2.nn) hZ (hw _ (List.mem_of_getElem? (i := 36) rfl)) (hw _ (List.mem_of_getElem? (i := 3) rfl)) (by decide) (by decide)) q183a q183c (g := (mkF m 60 #[.val (.int st), .val (.int s1), .val (.int a1), .val (.int s2), .val (.int a2), .val (.int cnt), .val (.int (3 : Int32)), .val (.int kc), .val (.ref b102), .val (.long (0 : Int64)), .second, .unset, .unset] [(.double v181), (.int ix1), (.ref b102)])) rfl (by rw [hml]; rfl) (Steps.refl _) (argsL := [(.int ix1), (.double v181)]) (rest := []) (lenOf pd__28ID_29V rfl) rfl (by show 2 * 0 + _ ≤ _; exact Nat.le_of_eq rfl) (hb hby at_60) (fun _ _ => ⟨rfl, e174, (by decide : 4 + 0 ≤ _), (by decide : 16 + 0 ≤ _)⟩)
      dsimp only [Pt.U, Pt.locs, Pt.cells, Pt.slots] at X183 l183 y183 z183 st183 hQ183
      subst l183 y183 z183
      obtain ⟨h183, e183⟩ : ∃ h', T183.heap = h' := ⟨_, rfl⟩
      rw [e183] at hQ183
      obtain ⟨rfl, N183q, K183, R183_0, R183_1, R183_2, R183_3, R183_4, R183_5, R183_6⟩ := hQ183
      have N184 := Fr.app N175 N183q
      have k185 : ∀ t, Steps p.tables e below (T183.setTop (mkF m 63 #[.val (.int st), .val (.int s1), .val (.int a1), .val (.int s2), .val (.int a2), .val (.int cnt), .val (.int (3 : Int32)), .val (.int kc), .val (.ref b102), .val (.long (0 : Int64)), .second, .unset, .unset] [])) t → Steps p.tables e below (s₁.setTop (entryFrame m #[(.int st), (.int s1), (.int a1), (.int s2), (.int a2), (.int cnt)] maxLocals)) t := fun t k => k182 t (st183.trans k)
      have F186 := R174_0.keep K183
      have F187 := F178.keep K183 (ninS (Ne.symm nb1) (ninS nb13 nin0))
      have F188 := F179.keep K183 (ninS (Ne.symm nb2) (ninS nb23 nin0))
      have Z189 : n0 ≤ h183.size := Nat.le_trans Z180 K183.1
      have Q1_0 : Dy (if ix1 = (0 : Int32) then (if ix0 = (0 : Int32) then 0 + a1.toInt else 0) + a2.toInt else (if ix0 = (0 : Int32) then 0 + a1.toInt else 0)) 0 (if ix1 = (0 : Int32) then FP.dadd (if ix0 = (0 : Int32) then FP.dadd (0 : UInt64) v172 else (0 : UInt64)) v181 else (if ix0 = (0 : Int32) then FP.dadd (0 : UInt64) v172 else (0 : UInt64))) := by
        by_cases q : ix1 = (0 : Int32)
        · rw [if_pos q, if_pos q]; exact P1_0
        · rw [if_neg q, if_neg q]; exact Q0_0
      have Q1_1 : Dy (if ix1 = (1 : Int32) then (if ix0 = (1 : Int32) then 0 + a1.toInt else 0) + a2.toInt else (if ix0 = (1 : Int32) then 0 + a1.toInt else 0)) 0 (if ix1 = (1 : Int32) then FP.dadd (if ix0 = (1 : Int32) then FP.dadd (0 : UInt64) v172 else (0 : UInt64)) v181 else (if ix0 = (1 : Int32) then FP.dadd (0 : UInt64) v172 else (0 : UInt64))) := by
        by_cases q : ix1 = (1 : Int32)
        · rw [if_pos q, if_pos q]; exact P1_1
        · rw [if_neg q, if_neg q]; exact Q0_1
      have Q1_2 : Dy (if ix1 = (2 : Int32) then (if ix0 = (2 : Int32) then 0 + a1.toInt else 0) + a2.toInt else (if ix0 = (2 : Int32) then 0 + a1.toInt else 0)) 0 (if ix1 = (2 : Int32) then FP.dadd (if ix0 = (2 : Int32) then FP.dadd (0 : UInt64) v172 else (0 : UInt64)) v181 else (if ix0 = (2 : Int32) then FP.dadd (0 : UInt64) v172 else (0 : UInt64))) := by
        by_cases q : ix1 = (2 : Int32)
        · rw [if_pos q, if_pos q]; exact P1_2
        · rw [if_neg q, if_neg q]; exact Q0_2
      have k190 : ∀ t, Steps p.tables e below (T183.setTop (mkF m 71 #[.val (.int st), .val (.int s1), .val (.int a1), .val (.int s2), .val (.int a2), .val (.int cnt), .val (.int (3 : Int32)), .val (.int kc), .val (.ref b102), .val (.long ((a1.toInt64) + (a2.toInt64))), .second, .unset, .unset] [])) t → Steps p.tables e below (s₁.setTop (entryFrame m #[(.int st), (.int s1), (.int a1), (.int s2), (.int a2), (.int cnt)] maxLocals)) t := fun t k => k185 t (by
        show Steps p.tables e below (T183.setTop (mkF m 63 #[.val (.int st), .val (.int s1), .val (.int a1), .val (.int s2), .val (.int a2), .val (.int cnt), .val (.int (3 : Int32)), .val (.int kc), .val (.ref b102), .val (.long (0 : Int64)), .second, .unset, .unset] [])) _
        refine XS.iloadN X183.here hx rfl (hb hby at_63) rfl ?_
        show Steps p.tables e below (T183.setTop (mkF m 64 #[.val (.int st), .val (.int s1), .val (.int a1), .val (.int s2), .val (.int a2), .val (.int cnt), .val (.int (3 : Int32)), .val (.int kc), .val (.ref b102), .val (.long (0 : Int64)), .second, .unset, .unset] [(.int a1)])) _
        refine XS.i2l X183.here hx rfl (hb hby at_64) rfl ?_
        show Steps p.tables e below (T183.setTop (mkF m 65 #[.val (.int st), .val (.int s1), .val (.int a1), .val (.int s2), .val (.int a2), .val (.int cnt), .val (.int (3 : Int32)), .val (.int kc), .val (.ref b102), .val (.long (0 : Int64)), .second, .unset, .unset] [(.long (a1.toInt64))])) _
        refine XS.iload X183.here hx rfl (hb hby at_65) rfl ?_
        show Steps p.tables e below (T183.setTop (mkF m 67 #[.val (.int st), .val (.int s1), .val (.int a1), .val (.int s2), .val (.int a2), .val (.int cnt), .val (.int (3 : Int32)), .val (.int kc), .val (.ref b102), .val (.long (0 : Int64)), .second, .unset, .unset] [(.int a2), (.long (a1.toInt64))])) _
        refine XS.i2l X183.here hx rfl (hb hby at_67) rfl ?_
        show Steps p.tables e below (T183.setTop (mkF m 68 #[.val (.int st), .val (.int s1), .val (.int a1), .val (.int s2), .val (.int a2), .val (.int cnt), .val (.int (3 : Int32)), .val (.int kc), .val (.ref b102), .val (.long (0 : Int64)), .second, .unset, .unset] [(.long (a2.toInt64)), (.long (a1.toInt64))])) _
        refine XS.ladd X183.here hx rfl (hb hby at_68) rfl ?_
        show Steps p.tables e below (T183.setTop (mkF m 69 #[.val (.int st), .val (.int s1), .val (.int a1), .val (.int s2), .val (.int a2), .val (.int cnt), .val (.int (3 : Int32)), .val (.int kc), .val (.ref b102), .val (.long (0 : Int64)), .second, .unset, .unset] [(.long ((a1.toInt64) + (a2.toInt64)))])) _
        refine XS.lstore X183.here hx rfl (hb hby at_69) rfl (l' := #[.val (.int st), .val (.int s1), .val (.int a1), .val (.int s2), .val (.int a2), .val (.int cnt), .val (.int (3 : Int32)), .val (.int kc), .val (.ref b102), .val (.long ((a1.toInt64) + (a2.toInt64))), .second, .unset, .unset]) rfl ?_
        exact k)
      have hus := own_us3 (a1 := a1) (a2 := a2) hix0 hix1 Q1_0 Q1_1 Q1_2
      exact ⟨T183, h183, _, b1, b2, b3, k1, k2, k3, (1 : Int32), [(.double (if ix1 = (0 : Int32) then FP.dadd (if ix0 = (0 : Int32) then FP.dadd (0 : UInt64) v172 else (0 : UInt64)) v181 else (if ix0 = (0 : Int32) then FP.dadd (0 : UInt64) v172 else (0 : UInt64)))), (.double (if ix1 = (1 : Int32) then FP.dadd (if ix0 = (1 : Int32) then FP.dadd (0 : UInt64) v172 else (0 : UInt64)) v181 else (if ix0 = (1 : Int32) then FP.dadd (0 : UInt64) v172 else (0 : UInt64)))), (.double (if ix1 = (2 : Int32) then FP.dadd (if ix0 = (2 : Int32) then FP.dadd (0 : UInt64) v172 else (0 : UInt64)) v181 else (if ix0 = (2 : Int32) then FP.dadd (0 : UInt64) v172 else (0 : UInt64))))], ((a1.toInt64) + (a2.toInt64)), X183, e183, N184, Z189, R183_0, R183_1, R183_2, R183_3, R183_4, R183_5, F187, F188, R183_6, gb1, gb2, gb3, nb1, nb2, nb3, nb12, nb13, nb23, (hus), (own_l2 a1 a2), k190⟩
  have k203 : ∀ t, Steps p.tables e below (T112.setTop (mkF m 73 #[.val (.int st), .val (.int s1), .val (.int a1), .val (.int s2), .val (.int a2), .val (.int cnt), .val (.int n), .val (.int kc), .val (.ref b102), .val (.long fs), .second, .unset, .unset] [(.int kc)])) t → Steps p.tables e below (s₁.setTop (entryFrame m #[(.int st), (.int s1), (.int a1), (.int s2), (.int a2), (.int cnt)] maxLocals)) t := fun t k => kq112 t (by
    show Steps p.tables e below (T112.setTop (mkF m 71 #[.val (.int st), .val (.int s1), .val (.int a1), .val (.int s2), .val (.int a2), .val (.int cnt), .val (.int n), .val (.int kc), .val (.ref b102), .val (.long fs), .second, .unset, .unset] [])) _
    refine XS.iload X112.here hx rfl (hb hby at_71) rfl ?_
    exact k)
  obtain ⟨T204, h204, Ls204, c1, e0_0, e0_1, e0_2, e0_3, g0_0, g0_1, g0_2, g0_3, X204, e204, N204, Zq204, F214, F215, F216, F217, F218, F219, F220, F221, F222, hc1, kq204⟩ : ∃ (T204 : State) (h204 : Heap) (Ls204 : List Loc) (c1 : Int32) (e0_0 : Int32) (e0_1 : Int32) (e0_2 : Int32) (e0_3 : Int32) (g0_0 : UInt64) (g0_1 : UInt64) (g0_2 : UInt64) (g0_3 : UInt64), Stand p l e room_1 s m #[(.int st), (.int s1), (.int a1), (.int s2), (.int a2), (.int cnt)] below meth c T204 Ls204 4 16 ∧ T204.heap = h204 ∧ Fr n0 Ls204 ∧ n0 ≤ h204.size ∧ Exa Z h204 b102 "com/example/istra/istra/model/Transfer" ∧ Fld Z h204 b102 "com/example/istra/istra/model/Transfer" "vehicleStates" "[I" (.ref b1) ∧ Fld Z h204 b102 "com/example/istra/istra/model/Transfer" "crossingS" "[D" (.ref b2) ∧ Fld Z h204 b102 "com/example/istra/istra/model/Transfer" "fluid" "[D" (.ref b3) ∧ Fld Z h204 b102 "com/example/istra/istra/model/Transfer" "vehicles" "I" (.int c1) ∧ Fld Z h204 b102 "com/example/istra/istra/model/Transfer" "holdsFluid" "Z" (.int hf) ∧ Arv Z h204 b1 k1 .int (4 : Int32) [(.int e0_0), (.int e0_1), (.int e0_2), (.int e0_3)] (.int (0 : Int32)) ∧ Arv Z h204 b2 k2 .double (4 : Int32) [(.double g0_0), (.double g0_1), (.double g0_2), (.double g0_3)] (.double (0 : UInt64)) ∧ Arv Z h204 b3 k3 .double n us (.double (0 : UInt64)) ∧ ((0 < kc.toInt → c1 = (1 : Int32)) ∧ (¬ 0 < kc.toInt → c1 = kc)) ∧ ∀ t, Steps p.tables e below (T204.setTop (mkF m 83 #[.val (.int st), .val (.int s1), .val (.int a1), .val (.int s2), .val (.int a2), .val (.int cnt), .val (.int n), .val (.int kc), .val (.ref b102), .val (.long fs), .second, .unset, .unset] [])) t → Steps p.tables e below (s₁.setTop (entryFrame m #[(.int st), (.int s1), (.int a1), (.int s2), (.int a2), (.int cnt)] maxLocals)) t := by
    by_cases f0 : (0 : Int32) < kc
    · have k205 : ∀ t, Steps p.tables e below (T112.setTop (mkF m 76 #[.val (.int st), .val (.int s1), .val (.int a1), .val (.int s2), .val (.int a2), .val (.int cnt), .val (.int n), .val (.int kc), .val (.ref b102), .val (.long fs), .second, .unset, .unset] [])) t → Steps p.tables e below (s₁.setTop (entryFrame m #[(.int st), (.int s1), (.int a1), (.int s2), (.int a2), (.int cnt)] maxLocals)) t := fun t k => k203 t (by
        show Steps p.tables e below (T112.setTop (mkF m 73 #[.val (.int st), .val (.int s1), .val (.int a1), .val (.int s2), .val (.int a2), .val (.int cnt), .val (.int n), .val (.int kc), .val (.ref b102), .val (.long fs), .second, .unset, .unset] [(.int kc)])) _
        refine XS.ifNo X112.here hx rfl (hb hby at_73) rfl ((if0 _ _).trans (tlt f0).2.2.2) ?_
        exact k)
      have k206 : ∀ t, Steps p.tables e below (T112.setTop (mkF m 80 #[.val (.int st), .val (.int s1), .val (.int a1), .val (.int s2), .val (.int a2), .val (.int cnt), .val (.int n), .val (.int kc), .val (.ref b102), .val (.long fs), .second, .unset, .unset] [(.double (4607182418800017408 : UInt64)), (.int s1), (.ref b102)])) t → Steps p.tables e below (s₁.setTop (entryFrame m #[(.int st), (.int s1), (.int a1), (.int s2), (.int a2), (.int cnt)] maxLocals)) t := fun t k => k205 t (by
        show Steps p.tables e below (T112.setTop (mkF m 76 #[.val (.int st), .val (.int s1), .val (.int a1), .val (.int s2), .val (.int a2), .val (.int cnt), .val (.int n), .val (.int kc), .val (.ref b102), .val (.long fs), .second, .unset, .unset] [])) _
        refine XS.aload X112.here hx rfl (hb hby at_76) rfl rfl ?_
        show Steps p.tables e below (T112.setTop (mkF m 78 #[.val (.int st), .val (.int s1), .val (.int a1), .val (.int s2), .val (.int a2), .val (.int cnt), .val (.int n), .val (.int kc), .val (.ref b102), .val (.long fs), .second, .unset, .unset] [(.ref b102)])) _
        refine XS.iloadN X112.here hx rfl (hb hby at_78) rfl ?_
        show Steps p.tables e below (T112.setTop (mkF m 79 #[.val (.int st), .val (.int s1), .val (.int a1), .val (.int s2), .val (.int a2), .val (.int cnt), .val (.int n), .val (.int kc), .val (.ref b102), .val (.long fs), .second, .unset, .unset] [(.int s1), (.ref b102)])) _
        refine XS.dconst1 X112.here hx rfl (hb hby at_79) (v := (4607182418800017408 : UInt64)) rfl ?_
        exact k)
      obtain ⟨cq207, kq207, q207a, q207b, q207c⟩ := isOf hZ e112 F191
      obtain ⟨_, _, ⟨T207, L207, k207, n207⟩, -, X207, ⟨Lc207, hQ207, l207, y207, z207⟩, st207⟩ := X112.virtualBack hx (y := (⟨"com/example/istra/istra/model/Transfer", "addVehicle", "(ID)V"⟩ : MethodName)) (z := (⟨"com/example/istra/istra/model/Transfer", "addVehicle", "(ID)V"⟩ : MethodName)) hown (mvT hZ (hw _ (List.mem_of_getElem? (i := 18) rfl))) (mvT hZ (hw _ (List.mem_of_getElem? (i := 19) rfl))) (notFace_of_selects (args := #[]) (mvT hZ (hw _ (List.mem_of_getElem? (i := 21) rfl)))) (mvT hZ (hw _ (List.mem_of_getElem? (i := 21) rfl))) (mvT hZ (hw _ (List.mem_of_getElem? (i := 20) rfl))) (by decide) (backOf (W := 0) (av0 l Z a0 hw [] b102 b1 b2 b3 k1 k2 s1 (4607182418800017408 : UInt64) hf (0 : Int32) (0 : Int32) (0 : Int32) (0 : Int32) (0 : UInt64) (0 : UInt64) (0 : UInt64) (0 : UInt64) h112 n0 Zq112 F191 F192 F193 F194 F195 F196 F197 F198 g103 g200 g201 nb1 nb2 nb12) hZ (hw _ (List.mem_of_getElem? (i := 22) rfl)) (hw _ (List.mem_of_getElem? (i := 3) rfl)) (by decide) (by decide)) q207a q207c (g := (mkF m 80 #[.val (.int st), .val (.int s1), .val (.int a1), .val (.int s2), .val (.int a2), .val (.int cnt), .val (.int n), .val (.int kc), .val (.ref b102), .val (.long fs), .second, .unset, .unset] [(.double (4607182418800017408 : UInt64)), (.int s1), (.ref b102)])) rfl (by rw [hml]; rfl) (Steps.refl _) (argsL := [(.int s1), (.double (4607182418800017408 : UInt64))]) (rest := []) (lenOf pd__28ID_29V rfl) rfl (by show 2 * 0 + _ ≤ _; exact Nat.le_of_eq rfl) (hb hby at_80) (fun _ _ => ⟨rfl, e112, (by decide : 4 + 0 ≤ _), (by decide : 16 + 0 ≤ _)⟩)
      dsimp only [Pt.U, Pt.locs, Pt.cells, Pt.slots] at X207 l207 y207 z207 st207 hQ207
      subst l207 y207 z207
      obtain ⟨h207, e207⟩ : ∃ h', T207.heap = h' := ⟨_, rfl⟩
      rw [e207] at hQ207
      obtain ⟨rfl, N207q, K207, R207_0, R207_1, R207_2, R207_3, R207_4, R207_5, R207_6, R207_7⟩ := hQ207
      have N208 := Fr.app N112 N207q
      have k209 : ∀ t, Steps p.tables e below (T207.setTop (mkF m 83 #[.val (.int st), .val (.int s1), .val (.int a1), .val (.int s2), .val (.int a2), .val (.int cnt), .val (.int n), .val (.int kc), .val (.ref b102), .val (.long fs), .second, .unset, .unset] [])) t → Steps p.tables e below (s₁.setTop (entryFrame m #[(.int st), (.int s1), (.int a1), (.int s2), (.int a2), (.int cnt)] maxLocals)) t := fun t k => k206 t (st207.trans k)
      have F210 := F191.keep K207
      have F211 := F199.keep K207 (ninS (Ne.symm nb3) (ninS (Ne.symm nb13) (ninS (Ne.symm nb23) nin0)))
      have Z212 : n0 ≤ h207.size := Nat.le_trans Zq112 K207.1
      exact ⟨T207, h207, _, (1 : Int32), s1, (0 : Int32), (0 : Int32), (0 : Int32), (4607182418800017408 : UInt64), (0 : UInt64), (0 : UInt64), (0 : UInt64), X207, e207, N208, Z212, R207_0, R207_1, R207_2, R207_3, R207_4, R207_5, R207_6, R207_7, F211, ⟨fun _ => rfl, fun q => absurd (Int32.lt_iff_toInt_lt.mp f0) (by rw [show (0 : Int32).toInt = 0 by decide]; omega)⟩, k209⟩
    · have k213 : ∀ t, Steps p.tables e below (T112.setTop (mkF m 83 #[.val (.int st), .val (.int s1), .val (.int a1), .val (.int s2), .val (.int a2), .val (.int cnt), .val (.int n), .val (.int kc), .val (.ref b102), .val (.long fs), .second, .unset, .unset] [])) t → Steps p.tables e below (s₁.setTop (entryFrame m #[(.int st), (.int s1), (.int a1), (.int s2), (.int a2), (.int cnt)] maxLocals)) t := fun t k => k203 t (by
        show Steps p.tables e below (T112.setTop (mkF m 73 #[.val (.int st), .val (.int s1), .val (.int a1), .val (.int s2), .val (.int a2), .val (.int cnt), .val (.int n), .val (.int kc), .val (.ref b102), .val (.long fs), .second, .unset, .unset] [(.int kc)])) _
        refine XS.ifYes X112.here hx rfl (pc0 := 73) (pc' := 83) rfl (hb hby at_73) rfl ((if0 _ _).trans (flt f0).2.2.2) (by decide) (by decide) ?_
        exact k)
      exact ⟨T112, h112, _, (0 : Int32), (0 : Int32), (0 : Int32), (0 : Int32), (0 : Int32), (0 : UInt64), (0 : UInt64), (0 : UInt64), (0 : UInt64), X112, e112, N112, Zq112, F191, F192, F193, F194, F195, F196, F197, F198, F199, ⟨fun q => absurd (Int32.lt_iff_toInt_lt.mpr (by rw [show (0 : Int32).toInt = 0 by decide]; omega)) f0, fun _ => (own_k0 Bk f0)⟩, k213⟩
  have k223 : ∀ t, Steps p.tables e below (T204.setTop (mkF m 86 #[.val (.int st), .val (.int s1), .val (.int a1), .val (.int s2), .val (.int a2), .val (.int cnt), .val (.int n), .val (.int kc), .val (.ref b102), .val (.long fs), .second, .unset, .unset] [(.int (1 : Int32)), (.int kc)])) t → Steps p.tables e below (s₁.setTop (entryFrame m #[(.int st), (.int s1), (.int a1), (.int s2), (.int a2), (.int cnt)] maxLocals)) t := fun t k => kq204 t (by
    show Steps p.tables e below (T204.setTop (mkF m 83 #[.val (.int st), .val (.int s1), .val (.int a1), .val (.int s2), .val (.int a2), .val (.int cnt), .val (.int n), .val (.int kc), .val (.ref b102), .val (.long fs), .second, .unset, .unset] [])) _
    refine XS.iload X204.here hx rfl (hb hby at_83) rfl ?_
    show Steps p.tables e below (T204.setTop (mkF m 85 #[.val (.int st), .val (.int s1), .val (.int a1), .val (.int s2), .val (.int a2), .val (.int cnt), .val (.int n), .val (.int kc), .val (.ref b102), .val (.long fs), .second, .unset, .unset] [(.int kc)])) _
    refine XS.iconst X204.here hx rfl (hb hby at_85) ?_
    exact k)
  obtain ⟨T224, h224, Ls224, c2, e1_0, e1_1, e1_2, e1_3, g1_0, g1_1, g1_2, g1_3, X224, e224, N224, Zq224, F234, F235, F236, F237, F238, F239, F240, F241, F242, hc2, kq224⟩ : ∃ (T224 : State) (h224 : Heap) (Ls224 : List Loc) (c2 : Int32) (e1_0 : Int32) (e1_1 : Int32) (e1_2 : Int32) (e1_3 : Int32) (g1_0 : UInt64) (g1_1 : UInt64) (g1_2 : UInt64) (g1_3 : UInt64), Stand p l e room_1 s m #[(.int st), (.int s1), (.int a1), (.int s2), (.int a2), (.int cnt)] below meth c T224 Ls224 4 16 ∧ T224.heap = h224 ∧ Fr n0 Ls224 ∧ n0 ≤ h224.size ∧ Exa Z h224 b102 "com/example/istra/istra/model/Transfer" ∧ Fld Z h224 b102 "com/example/istra/istra/model/Transfer" "vehicleStates" "[I" (.ref b1) ∧ Fld Z h224 b102 "com/example/istra/istra/model/Transfer" "crossingS" "[D" (.ref b2) ∧ Fld Z h224 b102 "com/example/istra/istra/model/Transfer" "fluid" "[D" (.ref b3) ∧ Fld Z h224 b102 "com/example/istra/istra/model/Transfer" "vehicles" "I" (.int c2) ∧ Fld Z h224 b102 "com/example/istra/istra/model/Transfer" "holdsFluid" "Z" (.int hf) ∧ Arv Z h224 b1 k1 .int (4 : Int32) [(.int e1_0), (.int e1_1), (.int e1_2), (.int e1_3)] (.int (0 : Int32)) ∧ Arv Z h224 b2 k2 .double (4 : Int32) [(.double g1_0), (.double g1_1), (.double g1_2), (.double g1_3)] (.double (0 : UInt64)) ∧ Arv Z h224 b3 k3 .double n us (.double (0 : UInt64)) ∧ ((1 < kc.toInt → c2 = (2 : Int32)) ∧ (¬ 1 < kc.toInt → c2 = kc)) ∧ ∀ t, Steps p.tables e below (T224.setTop (mkF m 98 #[.val (.int st), .val (.int s1), .val (.int a1), .val (.int s2), .val (.int a2), .val (.int cnt), .val (.int n), .val (.int kc), .val (.ref b102), .val (.long fs), .second, .unset, .unset] [])) t → Steps p.tables e below (s₁.setTop (entryFrame m #[(.int st), (.int s1), (.int a1), (.int s2), (.int a2), (.int cnt)] maxLocals)) t := by
    by_cases f1 : (1 : Int32) < kc
    · have k225 : ∀ t, Steps p.tables e below (T204.setTop (mkF m 89 #[.val (.int st), .val (.int s1), .val (.int a1), .val (.int s2), .val (.int a2), .val (.int cnt), .val (.int n), .val (.int kc), .val (.ref b102), .val (.long fs), .second, .unset, .unset] [])) t → Steps p.tables e below (s₁.setTop (entryFrame m #[(.int st), (.int s1), (.int a1), (.int s2), (.int a2), (.int cnt)] maxLocals)) t := fun t k => k223 t (by
        show Steps p.tables e below (T204.setTop (mkF m 86 #[.val (.int st), .val (.int s1), .val (.int a1), .val (.int s2), .val (.int a2), .val (.int cnt), .val (.int n), .val (.int kc), .val (.ref b102), .val (.long fs), .second, .unset, .unset] [(.int (1 : Int32)), (.int kc)])) _
        refine XS.icmpNo X204.here hx rfl (hb hby at_86) rfl (tlt f1).2.2.2 ?_
        exact k)
      have ec : c1 = (1 : Int32) := (hc1.1 (by have q := Int32.lt_iff_toInt_lt.mp f1; rw [show (1 : Int32).toInt = 1 by decide] at q; omega))
      rw [ec] at F218
      have k226 : ∀ t, Steps p.tables e below (T204.setTop (mkF m 95 #[.val (.int st), .val (.int s1), .val (.int a1), .val (.int s2), .val (.int a2), .val (.int cnt), .val (.int n), .val (.int kc), .val (.ref b102), .val (.long fs), .second, .unset, .unset] [(.double (4611686018427387904 : UInt64)), (.int s2), (.ref b102)])) t → Steps p.tables e below (s₁.setTop (entryFrame m #[(.int st), (.int s1), (.int a1), (.int s2), (.int a2), (.int cnt)] maxLocals)) t := fun t k => k225 t (by
        show Steps p.tables e below (T204.setTop (mkF m 89 #[.val (.int st), .val (.int s1), .val (.int a1), .val (.int s2), .val (.int a2), .val (.int cnt), .val (.int n), .val (.int kc), .val (.ref b102), .val (.long fs), .second, .unset, .unset] [])) _
        refine XS.aload X204.here hx rfl (hb hby at_89) rfl rfl ?_
        show Steps p.tables e below (T204.setTop (mkF m 91 #[.val (.int st), .val (.int s1), .val (.int a1), .val (.int s2), .val (.int a2), .val (.int cnt), .val (.int n), .val (.int kc), .val (.ref b102), .val (.long fs), .second, .unset, .unset] [(.ref b102)])) _
        refine XS.iloadN X204.here hx rfl (hb hby at_91) rfl ?_
        show Steps p.tables e below (T204.setTop (mkF m 92 #[.val (.int st), .val (.int s1), .val (.int a1), .val (.int s2), .val (.int a2), .val (.int cnt), .val (.int n), .val (.int kc), .val (.ref b102), .val (.long fs), .second, .unset, .unset] [(.int s2), (.ref b102)])) _
        refine X204.ldc2DoubleC hx hown (mvT hZ (hw _ (List.mem_of_getElem? (i := 25) rfl))) (g := (mkF m 92 #[.val (.int st), .val (.int s1), .val (.int a1), .val (.int s2), .val (.int a2), .val (.int cnt), .val (.int n), .val (.int kc), .val (.ref b102), .val (.long fs), .second, .unset, .unset] [(.int s2), (.ref b102)])) rfl (hb hby at_92) _ ?_
        exact k)
      obtain ⟨cq227, kq227, q227a, q227b, q227c⟩ := isOf hZ e204 F214
      obtain ⟨_, _, ⟨T227, L227, k227, n227⟩, -, X227, ⟨Lc227, hQ227, l227, y227, z227⟩, st227⟩ := X204.virtualBack hx (y := (⟨"com/example/istra/istra/model/Transfer", "addVehicle", "(ID)V"⟩ : MethodName)) (z := (⟨"com/example/istra/istra/model/Transfer", "addVehicle", "(ID)V"⟩ : MethodName)) hown (mvT hZ (hw _ (List.mem_of_getElem? (i := 18) rfl))) (mvT hZ (hw _ (List.mem_of_getElem? (i := 19) rfl))) (notFace_of_selects (args := #[]) (mvT hZ (hw _ (List.mem_of_getElem? (i := 21) rfl)))) (mvT hZ (hw _ (List.mem_of_getElem? (i := 21) rfl))) (mvT hZ (hw _ (List.mem_of_getElem? (i := 20) rfl))) (by decide) (backOf (W := 0) (av1 l Z a0 hw [] b102 b1 b2 b3 k1 k2 s2 (4611686018427387904 : UInt64) hf e0_0 e0_1 e0_2 e0_3 g0_0 g0_1 g0_2 g0_3 h204 n0 Zq204 F214 F215 F216 F217 F218 F219 F220 F221 g103 g200 g201 nb1 nb2 nb12) hZ (hw _ (List.mem_of_getElem? (i := 22) rfl)) (hw _ (List.mem_of_getElem? (i := 3) rfl)) (by decide) (by decide)) q227a q227c (g := (mkF m 95 #[.val (.int st), .val (.int s1), .val (.int a1), .val (.int s2), .val (.int a2), .val (.int cnt), .val (.int n), .val (.int kc), .val (.ref b102), .val (.long fs), .second, .unset, .unset] [(.double (4611686018427387904 : UInt64)), (.int s2), (.ref b102)])) rfl (by rw [hml]; rfl) (Steps.refl _) (argsL := [(.int s2), (.double (4611686018427387904 : UInt64))]) (rest := []) (lenOf pd__28ID_29V rfl) rfl (by show 2 * 0 + _ ≤ _; exact Nat.le_of_eq rfl) (hb hby at_95) (fun _ _ => ⟨rfl, e204, (by decide : 4 + 0 ≤ _), (by decide : 16 + 0 ≤ _)⟩)
      dsimp only [Pt.U, Pt.locs, Pt.cells, Pt.slots] at X227 l227 y227 z227 st227 hQ227
      subst l227 y227 z227
      obtain ⟨h227, e227⟩ : ∃ h', T227.heap = h' := ⟨_, rfl⟩
      rw [e227] at hQ227
      obtain ⟨rfl, N227q, K227, R227_0, R227_1, R227_2, R227_3, R227_4, R227_5, R227_6, R227_7⟩ := hQ227
      have N228 := Fr.app N204 N227q
      have k229 : ∀ t, Steps p.tables e below (T227.setTop (mkF m 98 #[.val (.int st), .val (.int s1), .val (.int a1), .val (.int s2), .val (.int a2), .val (.int cnt), .val (.int n), .val (.int kc), .val (.ref b102), .val (.long fs), .second, .unset, .unset] [])) t → Steps p.tables e below (s₁.setTop (entryFrame m #[(.int st), (.int s1), (.int a1), (.int s2), (.int a2), (.int cnt)] maxLocals)) t := fun t k => k226 t (st227.trans k)
      have F230 := F214.keep K227
      have F231 := F222.keep K227 (ninS (Ne.symm nb3) (ninS (Ne.symm nb13) (ninS (Ne.symm nb23) nin0)))
      have Z232 : n0 ≤ h227.size := Nat.le_trans Zq204 K227.1
      exact ⟨T227, h227, _, (2 : Int32), e0_0, s2, e0_2, e0_3, g0_0, (4611686018427387904 : UInt64), g0_2, g0_3, X227, e227, N228, Z232, R227_0, R227_1, R227_2, R227_3, R227_4, R227_5, R227_6, R227_7, F231, ⟨fun _ => rfl, fun q => absurd (Int32.lt_iff_toInt_lt.mp f1) (by rw [show (1 : Int32).toInt = 1 by decide]; omega)⟩, k229⟩
    · have k233 : ∀ t, Steps p.tables e below (T204.setTop (mkF m 98 #[.val (.int st), .val (.int s1), .val (.int a1), .val (.int s2), .val (.int a2), .val (.int cnt), .val (.int n), .val (.int kc), .val (.ref b102), .val (.long fs), .second, .unset, .unset] [])) t → Steps p.tables e below (s₁.setTop (entryFrame m #[(.int st), (.int s1), (.int a1), (.int s2), (.int a2), (.int cnt)] maxLocals)) t := fun t k => k223 t (by
        show Steps p.tables e below (T204.setTop (mkF m 86 #[.val (.int st), .val (.int s1), .val (.int a1), .val (.int s2), .val (.int a2), .val (.int cnt), .val (.int n), .val (.int kc), .val (.ref b102), .val (.long fs), .second, .unset, .unset] [(.int (1 : Int32)), (.int kc)])) _
        refine XS.icmpYes X204.here hx rfl (pc0 := 86) (pc' := 98) rfl (hb hby at_86) rfl (flt f1).2.2.2 (by decide) (by decide) ?_
        exact k)
      exact ⟨T204, h204, _, c1, e0_0, e0_1, e0_2, e0_3, g0_0, g0_1, g0_2, g0_3, X204, e204, N204, Zq204, F214, F215, F216, F217, F218, F219, F220, F221, F222, ⟨fun q => absurd (Int32.lt_iff_toInt_lt.mpr (by rw [show (1 : Int32).toInt = 1 by decide]; omega)) f1, fun _ => (own_kle Bk f1 hc1)⟩, k233⟩
  have k243 : ∀ t, Steps p.tables e below (T224.setTop (mkF m 101 #[.val (.int st), .val (.int s1), .val (.int a1), .val (.int s2), .val (.int a2), .val (.int cnt), .val (.int n), .val (.int kc), .val (.ref b102), .val (.long fs), .second, .unset, .unset] [(.int (2 : Int32)), (.int kc)])) t → Steps p.tables e below (s₁.setTop (entryFrame m #[(.int st), (.int s1), (.int a1), (.int s2), (.int a2), (.int cnt)] maxLocals)) t := fun t k => kq224 t (by
    show Steps p.tables e below (T224.setTop (mkF m 98 #[.val (.int st), .val (.int s1), .val (.int a1), .val (.int s2), .val (.int a2), .val (.int cnt), .val (.int n), .val (.int kc), .val (.ref b102), .val (.long fs), .second, .unset, .unset] [])) _
    refine XS.iload X224.here hx rfl (hb hby at_98) rfl ?_
    show Steps p.tables e below (T224.setTop (mkF m 100 #[.val (.int st), .val (.int s1), .val (.int a1), .val (.int s2), .val (.int a2), .val (.int cnt), .val (.int n), .val (.int kc), .val (.ref b102), .val (.long fs), .second, .unset, .unset] [(.int kc)])) _
    refine XS.iconst X224.here hx rfl (hb hby at_100) ?_
    exact k)
  obtain ⟨T244, h244, Ls244, c3, e2_0, e2_1, e2_2, e2_3, g2_0, g2_1, g2_2, g2_3, X244, e244, N244, Zq244, F254, F255, F256, F257, F258, F259, F260, F261, F262, hc3, kq244⟩ : ∃ (T244 : State) (h244 : Heap) (Ls244 : List Loc) (c3 : Int32) (e2_0 : Int32) (e2_1 : Int32) (e2_2 : Int32) (e2_3 : Int32) (g2_0 : UInt64) (g2_1 : UInt64) (g2_2 : UInt64) (g2_3 : UInt64), Stand p l e room_1 s m #[(.int st), (.int s1), (.int a1), (.int s2), (.int a2), (.int cnt)] below meth c T244 Ls244 4 16 ∧ T244.heap = h244 ∧ Fr n0 Ls244 ∧ n0 ≤ h244.size ∧ Exa Z h244 b102 "com/example/istra/istra/model/Transfer" ∧ Fld Z h244 b102 "com/example/istra/istra/model/Transfer" "vehicleStates" "[I" (.ref b1) ∧ Fld Z h244 b102 "com/example/istra/istra/model/Transfer" "crossingS" "[D" (.ref b2) ∧ Fld Z h244 b102 "com/example/istra/istra/model/Transfer" "fluid" "[D" (.ref b3) ∧ Fld Z h244 b102 "com/example/istra/istra/model/Transfer" "vehicles" "I" (.int c3) ∧ Fld Z h244 b102 "com/example/istra/istra/model/Transfer" "holdsFluid" "Z" (.int hf) ∧ Arv Z h244 b1 k1 .int (4 : Int32) [(.int e2_0), (.int e2_1), (.int e2_2), (.int e2_3)] (.int (0 : Int32)) ∧ Arv Z h244 b2 k2 .double (4 : Int32) [(.double g2_0), (.double g2_1), (.double g2_2), (.double g2_3)] (.double (0 : UInt64)) ∧ Arv Z h244 b3 k3 .double n us (.double (0 : UInt64)) ∧ ((2 < kc.toInt → c3 = (3 : Int32)) ∧ (¬ 2 < kc.toInt → c3 = kc)) ∧ ∀ t, Steps p.tables e below (T244.setTop (mkF m 113 #[.val (.int st), .val (.int s1), .val (.int a1), .val (.int s2), .val (.int a2), .val (.int cnt), .val (.int n), .val (.int kc), .val (.ref b102), .val (.long fs), .second, .unset, .unset] [])) t → Steps p.tables e below (s₁.setTop (entryFrame m #[(.int st), (.int s1), (.int a1), (.int s2), (.int a2), (.int cnt)] maxLocals)) t := by
    by_cases f2 : (2 : Int32) < kc
    · have k245 : ∀ t, Steps p.tables e below (T224.setTop (mkF m 104 #[.val (.int st), .val (.int s1), .val (.int a1), .val (.int s2), .val (.int a2), .val (.int cnt), .val (.int n), .val (.int kc), .val (.ref b102), .val (.long fs), .second, .unset, .unset] [])) t → Steps p.tables e below (s₁.setTop (entryFrame m #[(.int st), (.int s1), (.int a1), (.int s2), (.int a2), (.int cnt)] maxLocals)) t := fun t k => k243 t (by
        show Steps p.tables e below (T224.setTop (mkF m 101 #[.val (.int st), .val (.int s1), .val (.int a1), .val (.int s2), .val (.int a2), .val (.int cnt), .val (.int n), .val (.int kc), .val (.ref b102), .val (.long fs), .second, .unset, .unset] [(.int (2 : Int32)), (.int kc)])) _
        refine XS.icmpNo X224.here hx rfl (hb hby at_101) rfl (tlt f2).2.2.2 ?_
        exact k)
      have ec : c2 = (2 : Int32) := (hc2.1 (by have q := Int32.lt_iff_toInt_lt.mp f2; rw [show (2 : Int32).toInt = 2 by decide] at q; omega))
      rw [ec] at F238
      have k246 : ∀ t, Steps p.tables e below (T224.setTop (mkF m 110 #[.val (.int st), .val (.int s1), .val (.int a1), .val (.int s2), .val (.int a2), .val (.int cnt), .val (.int n), .val (.int kc), .val (.ref b102), .val (.long fs), .second, .unset, .unset] [(.double (4613937818241073152 : UInt64)), (.int a1), (.ref b102)])) t → Steps p.tables e below (s₁.setTop (entryFrame m #[(.int st), (.int s1), (.int a1), (.int s2), (.int a2), (.int cnt)] maxLocals)) t := fun t k => k245 t (by
        show Steps p.tables e below (T224.setTop (mkF m 104 #[.val (.int st), .val (.int s1), .val (.int a1), .val (.int s2), .val (.int a2), .val (.int cnt), .val (.int n), .val (.int kc), .val (.ref b102), .val (.long fs), .second, .unset, .unset] [])) _
        refine XS.aload X224.here hx rfl (hb hby at_104) rfl rfl ?_
        show Steps p.tables e below (T224.setTop (mkF m 106 #[.val (.int st), .val (.int s1), .val (.int a1), .val (.int s2), .val (.int a2), .val (.int cnt), .val (.int n), .val (.int kc), .val (.ref b102), .val (.long fs), .second, .unset, .unset] [(.ref b102)])) _
        refine XS.iloadN X224.here hx rfl (hb hby at_106) rfl ?_
        show Steps p.tables e below (T224.setTop (mkF m 107 #[.val (.int st), .val (.int s1), .val (.int a1), .val (.int s2), .val (.int a2), .val (.int cnt), .val (.int n), .val (.int kc), .val (.ref b102), .val (.long fs), .second, .unset, .unset] [(.int a1), (.ref b102)])) _
        refine X224.ldc2DoubleC hx hown (mvT hZ (hw _ (List.mem_of_getElem? (i := 26) rfl))) (g := (mkF m 107 #[.val (.int st), .val (.int s1), .val (.int a1), .val (.int s2), .val (.int a2), .val (.int cnt), .val (.int n), .val (.int kc), .val (.ref b102), .val (.long fs), .second, .unset, .unset] [(.int a1), (.ref b102)])) rfl (hb hby at_107) _ ?_
        exact k)
      obtain ⟨cq247, kq247, q247a, q247b, q247c⟩ := isOf hZ e224 F234
      obtain ⟨_, _, ⟨T247, L247, k247, n247⟩, -, X247, ⟨Lc247, hQ247, l247, y247, z247⟩, st247⟩ := X224.virtualBack hx (y := (⟨"com/example/istra/istra/model/Transfer", "addVehicle", "(ID)V"⟩ : MethodName)) (z := (⟨"com/example/istra/istra/model/Transfer", "addVehicle", "(ID)V"⟩ : MethodName)) hown (mvT hZ (hw _ (List.mem_of_getElem? (i := 18) rfl))) (mvT hZ (hw _ (List.mem_of_getElem? (i := 19) rfl))) (notFace_of_selects (args := #[]) (mvT hZ (hw _ (List.mem_of_getElem? (i := 21) rfl)))) (mvT hZ (hw _ (List.mem_of_getElem? (i := 21) rfl))) (mvT hZ (hw _ (List.mem_of_getElem? (i := 20) rfl))) (by decide) (backOf (W := 0) (av2 l Z a0 hw [] b102 b1 b2 b3 k1 k2 a1 (4613937818241073152 : UInt64) hf e1_0 e1_1 e1_2 e1_3 g1_0 g1_1 g1_2 g1_3 h224 n0 Zq224 F234 F235 F236 F237 F238 F239 F240 F241 g103 g200 g201 nb1 nb2 nb12) hZ (hw _ (List.mem_of_getElem? (i := 22) rfl)) (hw _ (List.mem_of_getElem? (i := 3) rfl)) (by decide) (by decide)) q247a q247c (g := (mkF m 110 #[.val (.int st), .val (.int s1), .val (.int a1), .val (.int s2), .val (.int a2), .val (.int cnt), .val (.int n), .val (.int kc), .val (.ref b102), .val (.long fs), .second, .unset, .unset] [(.double (4613937818241073152 : UInt64)), (.int a1), (.ref b102)])) rfl (by rw [hml]; rfl) (Steps.refl _) (argsL := [(.int a1), (.double (4613937818241073152 : UInt64))]) (rest := []) (lenOf pd__28ID_29V rfl) rfl (by show 2 * 0 + _ ≤ _; exact Nat.le_of_eq rfl) (hb hby at_110) (fun _ _ => ⟨rfl, e224, (by decide : 4 + 0 ≤ _), (by decide : 16 + 0 ≤ _)⟩)
      dsimp only [Pt.U, Pt.locs, Pt.cells, Pt.slots] at X247 l247 y247 z247 st247 hQ247
      subst l247 y247 z247
      obtain ⟨h247, e247⟩ : ∃ h', T247.heap = h' := ⟨_, rfl⟩
      rw [e247] at hQ247
      obtain ⟨rfl, N247q, K247, R247_0, R247_1, R247_2, R247_3, R247_4, R247_5, R247_6, R247_7⟩ := hQ247
      have N248 := Fr.app N224 N247q
      have k249 : ∀ t, Steps p.tables e below (T247.setTop (mkF m 113 #[.val (.int st), .val (.int s1), .val (.int a1), .val (.int s2), .val (.int a2), .val (.int cnt), .val (.int n), .val (.int kc), .val (.ref b102), .val (.long fs), .second, .unset, .unset] [])) t → Steps p.tables e below (s₁.setTop (entryFrame m #[(.int st), (.int s1), (.int a1), (.int s2), (.int a2), (.int cnt)] maxLocals)) t := fun t k => k246 t (st247.trans k)
      have F250 := F234.keep K247
      have F251 := F242.keep K247 (ninS (Ne.symm nb3) (ninS (Ne.symm nb13) (ninS (Ne.symm nb23) nin0)))
      have Z252 : n0 ≤ h247.size := Nat.le_trans Zq224 K247.1
      exact ⟨T247, h247, _, (3 : Int32), e1_0, e1_1, a1, e1_3, g1_0, g1_1, (4613937818241073152 : UInt64), g1_3, X247, e247, N248, Z252, R247_0, R247_1, R247_2, R247_3, R247_4, R247_5, R247_6, R247_7, F251, ⟨fun _ => rfl, fun q => absurd (Int32.lt_iff_toInt_lt.mp f2) (by rw [show (2 : Int32).toInt = 2 by decide]; omega)⟩, k249⟩
    · have k253 : ∀ t, Steps p.tables e below (T224.setTop (mkF m 113 #[.val (.int st), .val (.int s1), .val (.int a1), .val (.int s2), .val (.int a2), .val (.int cnt), .val (.int n), .val (.int kc), .val (.ref b102), .val (.long fs), .second, .unset, .unset] [])) t → Steps p.tables e below (s₁.setTop (entryFrame m #[(.int st), (.int s1), (.int a1), (.int s2), (.int a2), (.int cnt)] maxLocals)) t := fun t k => k243 t (by
        show Steps p.tables e below (T224.setTop (mkF m 101 #[.val (.int st), .val (.int s1), .val (.int a1), .val (.int s2), .val (.int a2), .val (.int cnt), .val (.int n), .val (.int kc), .val (.ref b102), .val (.long fs), .second, .unset, .unset] [(.int (2 : Int32)), (.int kc)])) _
        refine XS.icmpYes X224.here hx rfl (pc0 := 101) (pc' := 113) rfl (hb hby at_101) rfl (flt f2).2.2.2 (by decide) (by decide) ?_
        exact k)
      exact ⟨T224, h224, _, c2, e1_0, e1_1, e1_2, e1_3, g1_0, g1_1, g1_2, g1_3, X224, e224, N224, Zq224, F234, F235, F236, F237, F238, F239, F240, F241, F242, ⟨fun q => absurd (Int32.lt_iff_toInt_lt.mpr (by rw [show (2 : Int32).toInt = 2 by decide]; omega)) f2, fun _ => (own_kle Bk f2 hc2)⟩, k253⟩
  have k263 : ∀ t, Steps p.tables e below (T244.setTop (mkF m 116 #[.val (.int st), .val (.int s1), .val (.int a1), .val (.int s2), .val (.int a2), .val (.int cnt), .val (.int n), .val (.int kc), .val (.ref b102), .val (.long fs), .second, .unset, .unset] [(.int (3 : Int32)), (.int kc)])) t → Steps p.tables e below (s₁.setTop (entryFrame m #[(.int st), (.int s1), (.int a1), (.int s2), (.int a2), (.int cnt)] maxLocals)) t := fun t k => kq244 t (by
    show Steps p.tables e below (T244.setTop (mkF m 113 #[.val (.int st), .val (.int s1), .val (.int a1), .val (.int s2), .val (.int a2), .val (.int cnt), .val (.int n), .val (.int kc), .val (.ref b102), .val (.long fs), .second, .unset, .unset] [])) _
    refine XS.iload X244.here hx rfl (hb hby at_113) rfl ?_
    show Steps p.tables e below (T244.setTop (mkF m 115 #[.val (.int st), .val (.int s1), .val (.int a1), .val (.int s2), .val (.int a2), .val (.int cnt), .val (.int n), .val (.int kc), .val (.ref b102), .val (.long fs), .second, .unset, .unset] [(.int kc)])) _
    refine XS.iconst X244.here hx rfl (hb hby at_115) ?_
    exact k)
  obtain ⟨T264, h264, Ls264, c4, e3_0, e3_1, e3_2, e3_3, g3_0, g3_1, g3_2, g3_3, X264, e264, N264, Zq264, F274, F275, F276, F277, F278, F279, F280, F281, F282, hc4, kq264⟩ : ∃ (T264 : State) (h264 : Heap) (Ls264 : List Loc) (c4 : Int32) (e3_0 : Int32) (e3_1 : Int32) (e3_2 : Int32) (e3_3 : Int32) (g3_0 : UInt64) (g3_1 : UInt64) (g3_2 : UInt64) (g3_3 : UInt64), Stand p l e room_1 s m #[(.int st), (.int s1), (.int a1), (.int s2), (.int a2), (.int cnt)] below meth c T264 Ls264 4 16 ∧ T264.heap = h264 ∧ Fr n0 Ls264 ∧ n0 ≤ h264.size ∧ Exa Z h264 b102 "com/example/istra/istra/model/Transfer" ∧ Fld Z h264 b102 "com/example/istra/istra/model/Transfer" "vehicleStates" "[I" (.ref b1) ∧ Fld Z h264 b102 "com/example/istra/istra/model/Transfer" "crossingS" "[D" (.ref b2) ∧ Fld Z h264 b102 "com/example/istra/istra/model/Transfer" "fluid" "[D" (.ref b3) ∧ Fld Z h264 b102 "com/example/istra/istra/model/Transfer" "vehicles" "I" (.int c4) ∧ Fld Z h264 b102 "com/example/istra/istra/model/Transfer" "holdsFluid" "Z" (.int hf) ∧ Arv Z h264 b1 k1 .int (4 : Int32) [(.int e3_0), (.int e3_1), (.int e3_2), (.int e3_3)] (.int (0 : Int32)) ∧ Arv Z h264 b2 k2 .double (4 : Int32) [(.double g3_0), (.double g3_1), (.double g3_2), (.double g3_3)] (.double (0 : UInt64)) ∧ Arv Z h264 b3 k3 .double n us (.double (0 : UInt64)) ∧ ((3 < kc.toInt → c4 = (4 : Int32)) ∧ (¬ 3 < kc.toInt → c4 = kc)) ∧ ∀ t, Steps p.tables e below (T264.setTop (mkF m 129 #[.val (.int st), .val (.int s1), .val (.int a1), .val (.int s2), .val (.int a2), .val (.int cnt), .val (.int n), .val (.int kc), .val (.ref b102), .val (.long fs), .second, .unset, .unset] [])) t → Steps p.tables e below (s₁.setTop (entryFrame m #[(.int st), (.int s1), (.int a1), (.int s2), (.int a2), (.int cnt)] maxLocals)) t := by
    by_cases f3 : (3 : Int32) < kc
    · have k265 : ∀ t, Steps p.tables e below (T244.setTop (mkF m 119 #[.val (.int st), .val (.int s1), .val (.int a1), .val (.int s2), .val (.int a2), .val (.int cnt), .val (.int n), .val (.int kc), .val (.ref b102), .val (.long fs), .second, .unset, .unset] [])) t → Steps p.tables e below (s₁.setTop (entryFrame m #[(.int st), (.int s1), (.int a1), (.int s2), (.int a2), (.int cnt)] maxLocals)) t := fun t k => k263 t (by
        show Steps p.tables e below (T244.setTop (mkF m 116 #[.val (.int st), .val (.int s1), .val (.int a1), .val (.int s2), .val (.int a2), .val (.int cnt), .val (.int n), .val (.int kc), .val (.ref b102), .val (.long fs), .second, .unset, .unset] [(.int (3 : Int32)), (.int kc)])) _
        refine XS.icmpNo X244.here hx rfl (hb hby at_116) rfl (tlt f3).2.2.2 ?_
        exact k)
      have ec : c3 = (3 : Int32) := (hc3.1 (by have q := Int32.lt_iff_toInt_lt.mp f3; rw [show (3 : Int32).toInt = 3 by decide] at q; omega))
      rw [ec] at F258
      have k266 : ∀ t, Steps p.tables e below (T244.setTop (mkF m 126 #[.val (.int st), .val (.int s1), .val (.int a1), .val (.int s2), .val (.int a2), .val (.int cnt), .val (.int n), .val (.int kc), .val (.ref b102), .val (.long fs), .second, .unset, .unset] [(.double (4616189618054758400 : UInt64)), (.int a2), (.ref b102)])) t → Steps p.tables e below (s₁.setTop (entryFrame m #[(.int st), (.int s1), (.int a1), (.int s2), (.int a2), (.int cnt)] maxLocals)) t := fun t k => k265 t (by
        show Steps p.tables e below (T244.setTop (mkF m 119 #[.val (.int st), .val (.int s1), .val (.int a1), .val (.int s2), .val (.int a2), .val (.int cnt), .val (.int n), .val (.int kc), .val (.ref b102), .val (.long fs), .second, .unset, .unset] [])) _
        refine XS.aload X244.here hx rfl (hb hby at_119) rfl rfl ?_
        show Steps p.tables e below (T244.setTop (mkF m 121 #[.val (.int st), .val (.int s1), .val (.int a1), .val (.int s2), .val (.int a2), .val (.int cnt), .val (.int n), .val (.int kc), .val (.ref b102), .val (.long fs), .second, .unset, .unset] [(.ref b102)])) _
        refine XS.iload X244.here hx rfl (hb hby at_121) rfl ?_
        show Steps p.tables e below (T244.setTop (mkF m 123 #[.val (.int st), .val (.int s1), .val (.int a1), .val (.int s2), .val (.int a2), .val (.int cnt), .val (.int n), .val (.int kc), .val (.ref b102), .val (.long fs), .second, .unset, .unset] [(.int a2), (.ref b102)])) _
        refine X244.ldc2DoubleC hx hown (mvT hZ (hw _ (List.mem_of_getElem? (i := 39) rfl))) (g := (mkF m 123 #[.val (.int st), .val (.int s1), .val (.int a1), .val (.int s2), .val (.int a2), .val (.int cnt), .val (.int n), .val (.int kc), .val (.ref b102), .val (.long fs), .second, .unset, .unset] [(.int a2), (.ref b102)])) rfl (hb hby at_123) _ ?_
        exact k)
      obtain ⟨cq267, kq267, q267a, q267b, q267c⟩ := isOf hZ e244 F254
      obtain ⟨_, _, ⟨T267, L267, k267, n267⟩, -, X267, ⟨Lc267, hQ267, l267, y267, z267⟩, st267⟩ := X244.virtualBack hx (y := (⟨"com/example/istra/istra/model/Transfer", "addVehicle", "(ID)V"⟩ : MethodName)) (z := (⟨"com/example/istra/istra/model/Transfer", "addVehicle", "(ID)V"⟩ : MethodName)) hown (mvT hZ (hw _ (List.mem_of_getElem? (i := 18) rfl))) (mvT hZ (hw _ (List.mem_of_getElem? (i := 19) rfl))) (notFace_of_selects (args := #[]) (mvT hZ (hw _ (List.mem_of_getElem? (i := 21) rfl)))) (mvT hZ (hw _ (List.mem_of_getElem? (i := 21) rfl))) (mvT hZ (hw _ (List.mem_of_getElem? (i := 20) rfl))) (by decide) (backOf (W := 0) (av3 l Z a0 hw [] b102 b1 b2 b3 k1 k2 a2 (4616189618054758400 : UInt64) hf e2_0 e2_1 e2_2 e2_3 g2_0 g2_1 g2_2 g2_3 h244 n0 Zq244 F254 F255 F256 F257 F258 F259 F260 F261 g103 g200 g201 nb1 nb2 nb12) hZ (hw _ (List.mem_of_getElem? (i := 22) rfl)) (hw _ (List.mem_of_getElem? (i := 3) rfl)) (by decide) (by decide)) q267a q267c (g := (mkF m 126 #[.val (.int st), .val (.int s1), .val (.int a1), .val (.int s2), .val (.int a2), .val (.int cnt), .val (.int n), .val (.int kc), .val (.ref b102), .val (.long fs), .second, .unset, .unset] [(.double (4616189618054758400 : UInt64)), (.int a2), (.ref b102)])) rfl (by rw [hml]; rfl) (Steps.refl _) (argsL := [(.int a2), (.double (4616189618054758400 : UInt64))]) (rest := []) (lenOf pd__28ID_29V rfl) rfl (by show 2 * 0 + _ ≤ _; exact Nat.le_of_eq rfl) (hb hby at_126) (fun _ _ => ⟨rfl, e244, (by decide : 4 + 0 ≤ _), (by decide : 16 + 0 ≤ _)⟩)
      dsimp only [Pt.U, Pt.locs, Pt.cells, Pt.slots] at X267 l267 y267 z267 st267 hQ267
      subst l267 y267 z267
      obtain ⟨h267, e267⟩ : ∃ h', T267.heap = h' := ⟨_, rfl⟩
      rw [e267] at hQ267
      obtain ⟨rfl, N267q, K267, R267_0, R267_1, R267_2, R267_3, R267_4, R267_5, R267_6, R267_7⟩ := hQ267
      have N268 := Fr.app N244 N267q
      have k269 : ∀ t, Steps p.tables e below (T267.setTop (mkF m 129 #[.val (.int st), .val (.int s1), .val (.int a1), .val (.int s2), .val (.int a2), .val (.int cnt), .val (.int n), .val (.int kc), .val (.ref b102), .val (.long fs), .second, .unset, .unset] [])) t → Steps p.tables e below (s₁.setTop (entryFrame m #[(.int st), (.int s1), (.int a1), (.int s2), (.int a2), (.int cnt)] maxLocals)) t := fun t k => k266 t (st267.trans k)
      have F270 := F254.keep K267
      have F271 := F262.keep K267 (ninS (Ne.symm nb3) (ninS (Ne.symm nb13) (ninS (Ne.symm nb23) nin0)))
      have Z272 : n0 ≤ h267.size := Nat.le_trans Zq244 K267.1
      exact ⟨T267, h267, _, (4 : Int32), e2_0, e2_1, e2_2, a2, g2_0, g2_1, g2_2, (4616189618054758400 : UInt64), X267, e267, N268, Z272, R267_0, R267_1, R267_2, R267_3, R267_4, R267_5, R267_6, R267_7, F271, ⟨fun _ => rfl, fun q => absurd (Int32.lt_iff_toInt_lt.mp f3) (by rw [show (3 : Int32).toInt = 3 by decide]; omega)⟩, k269⟩
    · have k273 : ∀ t, Steps p.tables e below (T244.setTop (mkF m 129 #[.val (.int st), .val (.int s1), .val (.int a1), .val (.int s2), .val (.int a2), .val (.int cnt), .val (.int n), .val (.int kc), .val (.ref b102), .val (.long fs), .second, .unset, .unset] [])) t → Steps p.tables e below (s₁.setTop (entryFrame m #[(.int st), (.int s1), (.int a1), (.int s2), (.int a2), (.int cnt)] maxLocals)) t := fun t k => k263 t (by
        show Steps p.tables e below (T244.setTop (mkF m 116 #[.val (.int st), .val (.int s1), .val (.int a1), .val (.int s2), .val (.int a2), .val (.int cnt), .val (.int n), .val (.int kc), .val (.ref b102), .val (.long fs), .second, .unset, .unset] [(.int (3 : Int32)), (.int kc)])) _
        refine XS.icmpYes X244.here hx rfl (pc0 := 116) (pc' := 129) rfl (hb hby at_116) rfl (flt f3).2.2.2 (by decide) (by decide) ?_
        exact k)
      exact ⟨T244, h244, _, c3, e2_0, e2_1, e2_2, e2_3, g2_0, g2_1, g2_2, g2_3, X244, e244, N244, Zq244, F254, F255, F256, F257, F258, F259, F260, F261, F262, ⟨fun q => absurd (Int32.lt_iff_toInt_lt.mpr (by rw [show (3 : Int32).toInt = 3 by decide]; omega)) f3, fun _ => (own_kle Bk f3 hc3)⟩, k273⟩
  have k283 : ∀ t, Steps p.tables e below (T264.setTop (mkF m 132 #[.val (.int st), .val (.int s1), .val (.int a1), .val (.int s2), .val (.int a2), .val (.int cnt), .val (.int n), .val (.int kc), .val (.ref b102), .val (.long fs), .second, .unset, .unset] [(.int (4 : Int32)), (.int kc)])) t → Steps p.tables e below (s₁.setTop (entryFrame m #[(.int st), (.int s1), (.int a1), (.int s2), (.int a2), (.int cnt)] maxLocals)) t := fun t k => kq264 t (by
    show Steps p.tables e below (T264.setTop (mkF m 129 #[.val (.int st), .val (.int s1), .val (.int a1), .val (.int s2), .val (.int a2), .val (.int cnt), .val (.int n), .val (.int kc), .val (.ref b102), .val (.long fs), .second, .unset, .unset] [])) _
    refine XS.iload X264.here hx rfl (hb hby at_129) rfl ?_
    show Steps p.tables e below (T264.setTop (mkF m 131 #[.val (.int st), .val (.int s1), .val (.int a1), .val (.int s2), .val (.int a2), .val (.int cnt), .val (.int n), .val (.int kc), .val (.ref b102), .val (.long fs), .second, .unset, .unset] [(.int kc)])) _
    refine XS.iconst X264.here hx rfl (hb hby at_131) ?_
    exact k)
  obtain ⟨T284, h284, Ls284, c5, X284, e284, N284, Zq284, F294, F295, F296, F297, F298, hc5, kq284⟩ : ∃ (T284 : State) (h284 : Heap) (Ls284 : List Loc) (c5 : Int32), Stand p l e room_1 s m #[(.int st), (.int s1), (.int a1), (.int s2), (.int a2), (.int cnt)] below meth c T284 Ls284 6 32 ∧ T284.heap = h284 ∧ Fr n0 Ls284 ∧ n0 ≤ h284.size ∧ Exa Z h284 b102 "com/example/istra/istra/model/Transfer" ∧ Fld Z h284 b102 "com/example/istra/istra/model/Transfer" "fluid" "[D" (.ref b3) ∧ Fld Z h284 b102 "com/example/istra/istra/model/Transfer" "vehicles" "I" (.int c5) ∧ Fld Z h284 b102 "com/example/istra/istra/model/Transfer" "holdsFluid" "Z" (.int hf) ∧ Arv Z h284 b3 k3 .double n us (.double (0 : UInt64)) ∧ ((4 < kc.toInt → c5 = (5 : Int32)) ∧ (¬ 4 < kc.toInt → c5 = kc)) ∧ ∀ t, Steps p.tables e below (T284.setTop (mkF m 144 #[.val (.int st), .val (.int s1), .val (.int a1), .val (.int s2), .val (.int a2), .val (.int cnt), .val (.int n), .val (.int kc), .val (.ref b102), .val (.long fs), .second, .unset, .unset] [])) t → Steps p.tables e below (s₁.setTop (entryFrame m #[(.int st), (.int s1), (.int a1), (.int s2), (.int a2), (.int cnt)] maxLocals)) t := by
    by_cases f4 : (4 : Int32) < kc
    · have k285 : ∀ t, Steps p.tables e below (T264.setTop (mkF m 135 #[.val (.int st), .val (.int s1), .val (.int a1), .val (.int s2), .val (.int a2), .val (.int cnt), .val (.int n), .val (.int kc), .val (.ref b102), .val (.long fs), .second, .unset, .unset] [])) t → Steps p.tables e below (s₁.setTop (entryFrame m #[(.int st), (.int s1), (.int a1), (.int s2), (.int a2), (.int cnt)] maxLocals)) t := fun t k => k283 t (by
        show Steps p.tables e below (T264.setTop (mkF m 132 #[.val (.int st), .val (.int s1), .val (.int a1), .val (.int s2), .val (.int a2), .val (.int cnt), .val (.int n), .val (.int kc), .val (.ref b102), .val (.long fs), .second, .unset, .unset] [(.int (4 : Int32)), (.int kc)])) _
        refine XS.icmpNo X264.here hx rfl (hb hby at_132) rfl (tlt f4).2.2.2 ?_
        exact k)
      have ec : c4 = (4 : Int32) := (hc4.1 (by have q := Int32.lt_iff_toInt_lt.mp f4; rw [show (4 : Int32).toInt = 4 by decide] at q; omega))
      rw [ec] at F278
      have k286 : ∀ t, Steps p.tables e below (T264.setTop (mkF m 141 #[.val (.int st), .val (.int s1), .val (.int a1), .val (.int s2), .val (.int a2), .val (.int cnt), .val (.int n), .val (.int kc), .val (.ref b102), .val (.long fs), .second, .unset, .unset] [(.double (4617315517961601024 : UInt64)), (.int st), (.ref b102)])) t → Steps p.tables e below (s₁.setTop (entryFrame m #[(.int st), (.int s1), (.int a1), (.int s2), (.int a2), (.int cnt)] maxLocals)) t := fun t k => k285 t (by
        show Steps p.tables e below (T264.setTop (mkF m 135 #[.val (.int st), .val (.int s1), .val (.int a1), .val (.int s2), .val (.int a2), .val (.int cnt), .val (.int n), .val (.int kc), .val (.ref b102), .val (.long fs), .second, .unset, .unset] [])) _
        refine XS.aload X264.here hx rfl (hb hby at_135) rfl rfl ?_
        show Steps p.tables e below (T264.setTop (mkF m 137 #[.val (.int st), .val (.int s1), .val (.int a1), .val (.int s2), .val (.int a2), .val (.int cnt), .val (.int n), .val (.int kc), .val (.ref b102), .val (.long fs), .second, .unset, .unset] [(.ref b102)])) _
        refine XS.iloadN X264.here hx rfl (hb hby at_137) rfl ?_
        show Steps p.tables e below (T264.setTop (mkF m 138 #[.val (.int st), .val (.int s1), .val (.int a1), .val (.int s2), .val (.int a2), .val (.int cnt), .val (.int n), .val (.int kc), .val (.ref b102), .val (.long fs), .second, .unset, .unset] [(.int st), (.ref b102)])) _
        refine X264.ldc2DoubleC hx hown (mvT hZ (hw _ (List.mem_of_getElem? (i := 40) rfl))) (g := (mkF m 138 #[.val (.int st), .val (.int s1), .val (.int a1), .val (.int s2), .val (.int a2), .val (.int cnt), .val (.int n), .val (.int kc), .val (.ref b102), .val (.long fs), .second, .unset, .unset] [(.int st), (.ref b102)])) rfl (hb hby at_138) _ ?_
        exact k)
      obtain ⟨cq287, kq287, q287a, q287b, q287c⟩ := isOf hZ e264 F274
      obtain ⟨_, _, ⟨T287, L287, k287, n287⟩, -, X287, ⟨Lc287, hQ287, l287, y287, z287⟩, st287⟩ := X264.virtualBack hx (y := (⟨"com/example/istra/istra/model/Transfer", "addVehicle", "(ID)V"⟩ : MethodName)) (z := (⟨"com/example/istra/istra/model/Transfer", "addVehicle", "(ID)V"⟩ : MethodName)) hown (mvT hZ (hw _ (List.mem_of_getElem? (i := 18) rfl))) (mvT hZ (hw _ (List.mem_of_getElem? (i := 19) rfl))) (notFace_of_selects (args := #[]) (mvT hZ (hw _ (List.mem_of_getElem? (i := 21) rfl)))) (mvT hZ (hw _ (List.mem_of_getElem? (i := 21) rfl))) (mvT hZ (hw _ (List.mem_of_getElem? (i := 20) rfl))) (by decide) (backOf (W := 0) (av4 l Z a0 hw [] b102 b1 b2 b3 k1 k2 st (4617315517961601024 : UInt64) hf e3_0 e3_1 e3_2 e3_3 g3_0 g3_1 g3_2 g3_3 h264 n0 Zq264 F274 F275 F276 F277 F278 F279 F280 F281 g103 g200 g201 nb1 nb2 nb12) hZ (hw _ (List.mem_of_getElem? (i := 22) rfl)) (hw _ (List.mem_of_getElem? (i := 3) rfl)) (by decide) (by decide)) q287a q287c (g := (mkF m 141 #[.val (.int st), .val (.int s1), .val (.int a1), .val (.int s2), .val (.int a2), .val (.int cnt), .val (.int n), .val (.int kc), .val (.ref b102), .val (.long fs), .second, .unset, .unset] [(.double (4617315517961601024 : UInt64)), (.int st), (.ref b102)])) rfl (by rw [hml]; rfl) (Steps.refl _) (argsL := [(.int st), (.double (4617315517961601024 : UInt64))]) (rest := []) (lenOf pd__28ID_29V rfl) rfl (by show 2 * 0 + _ ≤ _; exact Nat.le_of_eq rfl) (hb hby at_141) (fun _ _ => ⟨rfl, e264, (by decide : 4 + 2 ≤ _), (by decide : 16 + 16 ≤ _)⟩)
      dsimp only [Pt.U, Pt.locs, Pt.cells, Pt.slots] at X287 l287 y287 z287 st287 hQ287
      subst l287 y287 z287
      obtain ⟨h287, e287⟩ : ∃ h', T287.heap = h' := ⟨_, rfl⟩
      rw [e287] at hQ287
      obtain ⟨rfl, N287q, K287, R287_0, R287_1, R287_2, R287_3⟩ := hQ287
      have N288 := Fr.app N264 N287q
      have k289 : ∀ t, Steps p.tables e below (T287.setTop (mkF m 144 #[.val (.int st), .val (.int s1), .val (.int a1), .val (.int s2), .val (.int a2), .val (.int cnt), .val (.int n), .val (.int kc), .val (.ref b102), .val (.long fs), .second, .unset, .unset] [])) t → Steps p.tables e below (s₁.setTop (entryFrame m #[(.int st), (.int s1), (.int a1), (.int s2), (.int a2), (.int cnt)] maxLocals)) t := fun t k => k286 t (st287.trans k)
      have F290 := F274.keep K287
      have F291 := F282.keep K287 (ninS (Ne.symm nb3) (ninS (Ne.symm nb13) (ninS (Ne.symm nb23) nin0)))
      have Z292 : n0 ≤ h287.size := Nat.le_trans Zq264 K287.1
      exact ⟨T287, h287, _, (5 : Int32), X287, e287, N288, Z292, R287_0, R287_1, R287_2, R287_3, F291, ⟨fun _ => rfl, fun q => absurd (Int32.lt_iff_toInt_lt.mp f4) (by rw [show (4 : Int32).toInt = 4 by decide]; omega)⟩, k289⟩
    · have k293 : ∀ t, Steps p.tables e below (T264.setTop (mkF m 144 #[.val (.int st), .val (.int s1), .val (.int a1), .val (.int s2), .val (.int a2), .val (.int cnt), .val (.int n), .val (.int kc), .val (.ref b102), .val (.long fs), .second, .unset, .unset] [])) t → Steps p.tables e below (s₁.setTop (entryFrame m #[(.int st), (.int s1), (.int a1), (.int s2), (.int a2), (.int cnt)] maxLocals)) t := fun t k => k283 t (by
        show Steps p.tables e below (T264.setTop (mkF m 132 #[.val (.int st), .val (.int s1), .val (.int a1), .val (.int s2), .val (.int a2), .val (.int cnt), .val (.int n), .val (.int kc), .val (.ref b102), .val (.long fs), .second, .unset, .unset] [(.int (4 : Int32)), (.int kc)])) _
        refine XS.icmpYes X264.here hx rfl (pc0 := 132) (pc' := 144) rfl (hb hby at_132) rfl (flt f4).2.2.2 (by decide) (by decide) ?_
        exact k)
      exact ⟨T264, h264, _, c4, (X264.more (by decide) (by decide)), e264, N264, Zq264, F274, F277, F278, F279, F282, ⟨fun q => absurd (Int32.lt_iff_toInt_lt.mpr (by rw [show (4 : Int32).toInt = 4 by decide]; omega)) f4, fun _ => (own_kle Bk f4 hc4)⟩, k293⟩
  have k299 : ∀ t, Steps p.tables e below (T284.setTop (mkF m 150 #[.val (.int st), .val (.int s1), .val (.int a1), .val (.int s2), .val (.int a2), .val (.int cnt), .val (.int n), .val (.int kc), .val (.ref b102), .val (.long fs), .second, .unset, .unset] [(.long (fs + (kc.toInt64)))])) t → Steps p.tables e below (s₁.setTop (entryFrame m #[(.int st), (.int s1), (.int a1), (.int s2), (.int a2), (.int cnt)] maxLocals)) t := fun t k => kq284 t (by
    show Steps p.tables e below (T284.setTop (mkF m 144 #[.val (.int st), .val (.int s1), .val (.int a1), .val (.int s2), .val (.int a2), .val (.int cnt), .val (.int n), .val (.int kc), .val (.ref b102), .val (.long fs), .second, .unset, .unset] [])) _
    refine XS.lload X284.here hx rfl (hb hby at_144) rfl ?_
    show Steps p.tables e below (T284.setTop (mkF m 146 #[.val (.int st), .val (.int s1), .val (.int a1), .val (.int s2), .val (.int a2), .val (.int cnt), .val (.int n), .val (.int kc), .val (.ref b102), .val (.long fs), .second, .unset, .unset] [(.long fs)])) _
    refine XS.iload X284.here hx rfl (hb hby at_146) rfl ?_
    show Steps p.tables e below (T284.setTop (mkF m 148 #[.val (.int st), .val (.int s1), .val (.int a1), .val (.int s2), .val (.int a2), .val (.int cnt), .val (.int n), .val (.int kc), .val (.ref b102), .val (.long fs), .second, .unset, .unset] [(.int kc), (.long fs)])) _
    refine XS.i2l X284.here hx rfl (hb hby at_148) rfl ?_
    show Steps p.tables e below (T284.setTop (mkF m 149 #[.val (.int st), .val (.int s1), .val (.int a1), .val (.int s2), .val (.int a2), .val (.int cnt), .val (.int n), .val (.int kc), .val (.ref b102), .val (.long fs), .second, .unset, .unset] [(.long (kc.toInt64)), (.long fs)])) _
    refine XS.ladd X284.here hx rfl (hb hby at_149) rfl ?_
    exact k)
  have hck : c5 = kc := own_c5 Bk hc5
  have hle : (fs + kc.toInt64).toInt = fs.toInt + kc.toInt := own_le hfs Bk
  obtain ⟨want, hwant⟩ : ∃ z : UInt64, FP.l2d (fs + (kc.toInt64)) = z := ⟨_, rfl⟩
  have Dwant : Dy (fs.toInt + kc.toInt) (0) want := by rw [← hwant]; exact hle ▸ Dy.l2d (by rw [hle]; omega)
  rw [hck] at F296
  have k300 : ∀ t, Steps p.tables e below (T284.setTop (mkF m 155 #[.val (.int st), .val (.int s1), .val (.int a1), .val (.int s2), .val (.int a2), .val (.int cnt), .val (.int n), .val (.int kc), .val (.ref b102), .val (.long fs), .second, .val (.double want), .second] [(.ref b102)])) t → Steps p.tables e below (s₁.setTop (entryFrame m #[(.int st), (.int s1), (.int a1), (.int s2), (.int a2), (.int cnt)] maxLocals)) t := fun t k => k299 t (by
    show Steps p.tables e below (T284.setTop (mkF m 150 #[.val (.int st), .val (.int s1), .val (.int a1), .val (.int s2), .val (.int a2), .val (.int cnt), .val (.int n), .val (.int kc), .val (.ref b102), .val (.long fs), .second, .unset, .unset] [(.long (fs + (kc.toInt64)))])) _
    refine XS.l2dS X284.here hx rfl (hb hby at_150) rfl hwant ?_
    show Steps p.tables e below (T284.setTop (mkF m 151 #[.val (.int st), .val (.int s1), .val (.int a1), .val (.int s2), .val (.int a2), .val (.int cnt), .val (.int n), .val (.int kc), .val (.ref b102), .val (.long fs), .second, .unset, .unset] [(.double want)])) _
    refine XS.dstore X284.here hx rfl (hb hby at_151) rfl (l' := #[.val (.int st), .val (.int s1), .val (.int a1), .val (.int s2), .val (.int a2), .val (.int cnt), .val (.int n), .val (.int kc), .val (.ref b102), .val (.long fs), .second, .val (.double want), .second]) rfl ?_
    show Steps p.tables e below (T284.setTop (mkF m 153 #[.val (.int st), .val (.int s1), .val (.int a1), .val (.int s2), .val (.int a2), .val (.int cnt), .val (.int n), .val (.int kc), .val (.ref b102), .val (.long fs), .second, .val (.double want), .second] [])) _
    refine XS.aload X284.here hx rfl (hb hby at_153) rfl rfl ?_
    exact k)
  obtain ⟨bk1, bk2⟩ := Bk
  rcases hus with ⟨rfl, rfl, hsum⟩ | ⟨rfl, u0, x0, rfl, D0, L0, hsum⟩ | ⟨rfl, u0, u1, x0, x1, rfl, D0, D1, L0, L1, hsum⟩ | ⟨rfl, u0, u1, u2, x0, x1, x2, rfl, D0, D1, D2, L0, L1, L2, hsum⟩
  · obtain ⟨cq301, kq301, q301a, q301b, q301c⟩ := isOf hZ e284 F294
    obtain ⟨_, _, ⟨T301, L301, k301, n301⟩, -, X301, ⟨Lc301, hQ301, l301, y301, z301⟩, st301⟩ := X284.virtualBack hx (y := (⟨"com/example/istra/istra/model/Transfer", "total", "()D"⟩ : MethodName)) (z := (⟨"com/example/istra/istra/model/Transfer", "total", "()D"⟩ : MethodName)) hown (mvT hZ (hw _ (List.mem_of_getElem? (i := 27) rfl))) (mvT hZ (hw _ (List.mem_of_getElem? (i := 28) rfl))) (notFace_of_selects (args := #[]) (mvT hZ (hw _ (List.mem_of_getElem? (i := 30) rfl)))) (mvT hZ (hw _ (List.mem_of_getElem? (i := 30) rfl))) (mvT hZ (hw _ (List.mem_of_getElem? (i := 29) rfl))) (by decide) (backOf (W := 0) (tot0 l Z a0 hw [] b102 b3 k3 kc h284 n0 Zq284 F295 F296 F298) hZ (hw _ (List.mem_of_getElem? (i := 31) rfl)) (hw _ (List.mem_of_getElem? (i := 3) rfl)) (by decide) (by decide)) q301a q301c (g := (mkF m 155 #[.val (.int st), .val (.int s1), .val (.int a1), .val (.int s2), .val (.int a2), .val (.int cnt), .val (.int (0 : Int32)), .val (.int kc), .val (.ref b102), .val (.long fs), .second, .val (.double want), .second] [(.ref b102)])) rfl (by rw [hml]; rfl) (Steps.refl _) (argsL := []) (rest := []) (lenOf pd__28_29D rfl) rfl (by show 2 * 0 + _ ≤ _; exact Nat.le_of_eq rfl) (hb hby at_155) (fun _ _ => ⟨rfl, e284, (by decide : 6 + 0 ≤ _), (by decide : 32 + 0 ≤ _)⟩)
    dsimp only [Pt.U, Pt.locs, Pt.cells, Pt.slots] at X301 l301 y301 z301 st301 hQ301
    subst l301 y301 z301
    obtain ⟨rfl, N301q, e301⟩ := hQ301
    have N302 := Fr.app N284 N301q
    have k303 : ∀ t, Steps p.tables e below (T301.setTop (mkF m 158 #[.val (.int st), .val (.int s1), .val (.int a1), .val (.int s2), .val (.int a2), .val (.int cnt), .val (.int (0 : Int32)), .val (.int kc), .val (.ref b102), .val (.long fs), .second, .val (.double want), .second] [(.double (FP.i2d kc))])) t → Steps p.tables e below (s₁.setTop (entryFrame m #[(.int st), (.int s1), (.int a1), (.int s2), (.int a2), (.int cnt)] maxLocals)) t := fun t k => k300 t (st301.trans k)
    have hfin : cmpValue (FP.dcmp (FP.i2d kc) want) .l = (0 : Int32) := Dy.cmp_eq (Dy.i2d kc) Dwant (by omega) .l
    have k304 : ∀ t, Steps p.tables e below (T301.setTop (mkF m 169 #[.val (.int st), .val (.int s1), .val (.int a1), .val (.int s2), .val (.int a2), .val (.int cnt), .val (.int (0 : Int32)), .val (.int kc), .val (.ref b102), .val (.long fs), .second, .val (.double want), .second] [(.int (1 : Int32))])) t → Steps p.tables e below (s₁.setTop (entryFrame m #[(.int st), (.int s1), (.int a1), (.int s2), (.int a2), (.int cnt)] maxLocals)) t := fun t k => k303 t (by
      show Steps p.tables e below (T301.setTop (mkF m 158 #[.val (.int st), .val (.int s1), .val (.int a1), .val (.int s2), .val (.int a2), .val (.int cnt), .val (.int (0 : Int32)), .val (.int kc), .val (.ref b102), .val (.long fs), .second, .val (.double want), .second] [(.double (FP.i2d kc))])) _
      refine XS.dload X301.here hx rfl (hb hby at_158) rfl ?_
      show Steps p.tables e below (T301.setTop (mkF m 160 #[.val (.int st), .val (.int s1), .val (.int a1), .val (.int s2), .val (.int a2), .val (.int cnt), .val (.int (0 : Int32)), .val (.int kc), .val (.ref b102), .val (.long fs), .second, .val (.double want), .second] [(.double want), (.double (FP.i2d kc))])) _
      refine XS.dcmpS X301.here hx rfl (hb hby at_160) rfl rfl ?_
      show Steps p.tables e below (T301.setTop (mkF m 161 #[.val (.int st), .val (.int s1), .val (.int a1), .val (.int s2), .val (.int a2), .val (.int cnt), .val (.int (0 : Int32)), .val (.int kc), .val (.ref b102), .val (.long fs), .second, .val (.double want), .second] [(.int (cmpValue (FP.dcmp (FP.i2d kc) want) .l))])) _
      refine XS.ifNo X301.here hx rfl (hb hby at_161) rfl ((if0 _ _).trans (teq hfin).2) ?_
      show Steps p.tables e below (T301.setTop (mkF m 164 #[.val (.int st), .val (.int s1), .val (.int a1), .val (.int s2), .val (.int a2), .val (.int cnt), .val (.int (0 : Int32)), .val (.int kc), .val (.ref b102), .val (.long fs), .second, .val (.double want), .second] [])) _
      refine XS.iconst X301.here hx rfl (hb hby at_164) ?_
      show Steps p.tables e below (T301.setTop (mkF m 165 #[.val (.int st), .val (.int s1), .val (.int a1), .val (.int s2), .val (.int a2), .val (.int cnt), .val (.int (0 : Int32)), .val (.int kc), .val (.ref b102), .val (.long fs), .second, .val (.double want), .second] [(.int (1 : Int32))])) _
      refine XS.goto X301.here hx rfl (pc0 := 165) (pc' := 169) rfl (hb hby at_165) (by decide) (by decide) ?_
      exact k)
    obtain ⟨fs, hr, hrun, hended, hW, hsame⟩ := X301.leave (v := some (.int (1 : Int32))) (fun h => by rw [Bd.returns] at h; cases h)
    refine ⟨_, _, k304 _ (retOut X301 hx (t := .boolean) Bd.returns rfl (Or.inl ⟨rfl, Or.inr (Or.inl rfl), _, rfl⟩) (hb hby at_169) hr), hrun, hended, _, _, rfl, ?_, ⟨_, rfl⟩, hW, hsame.mono (by decide) (by decide)⟩
    show Q_rm0 Z st s1 a1 s2 a2 cnt h0 n0 _ T301.heap _
    rw [e301]
    exact ⟨rfl, N302⟩
  · have A0 : Dy (kc.toInt + x0) 0 (FP.dadd (FP.i2d kc) u0) := Dy.add (Dy.i2d kc) D0 (by omega) (by decide)
    obtain ⟨cq305, kq305, q305a, q305b, q305c⟩ := isOf hZ e284 F294
    obtain ⟨_, _, ⟨T305, L305, k305, n305⟩, -, X305, ⟨Lc305, hQ305, l305, y305, z305⟩, st305⟩ := X284.virtualBack hx (y := (⟨"com/example/istra/istra/model/Transfer", "total", "()D"⟩ : MethodName)) (z := (⟨"com/example/istra/istra/model/Transfer", "total", "()D"⟩ : MethodName)) hown (mvT hZ (hw _ (List.mem_of_getElem? (i := 27) rfl))) (mvT hZ (hw _ (List.mem_of_getElem? (i := 28) rfl))) (notFace_of_selects (args := #[]) (mvT hZ (hw _ (List.mem_of_getElem? (i := 30) rfl)))) (mvT hZ (hw _ (List.mem_of_getElem? (i := 30) rfl))) (mvT hZ (hw _ (List.mem_of_getElem? (i := 29) rfl))) (by decide) (backOf (W := 0) (tot1 l Z a0 hw [] b102 b3 k3 kc u0 h284 n0 Zq284 F295 F296 F298 A0.nn) hZ (hw _ (List.mem_of_getElem? (i := 31) rfl)) (hw _ (List.mem_of_getElem? (i := 3) rfl)) (by decide) (by decide)) q305a q305c (g := (mkF m 155 #[.val (.int st), .val (.int s1), .val (.int a1), .val (.int s2), .val (.int a2), .val (.int cnt), .val (.int (1 : Int32)), .val (.int kc), .val (.ref b102), .val (.long fs), .second, .val (.double want), .second] [(.ref b102)])) rfl (by rw [hml]; rfl) (Steps.refl _) (argsL := []) (rest := []) (lenOf pd__28_29D rfl) rfl (by show 2 * 0 + _ ≤ _; exact Nat.le_of_eq rfl) (hb hby at_155) (fun _ _ => ⟨rfl, e284, (by decide : 6 + 0 ≤ _), (by decide : 32 + 0 ≤ _)⟩)
    dsimp only [Pt.U, Pt.locs, Pt.cells, Pt.slots] at X305 l305 y305 z305 st305 hQ305
    subst l305 y305 z305
    obtain ⟨rfl, N305q, e305⟩ := hQ305
    have N306 := Fr.app N284 N305q
    have k307 : ∀ t, Steps p.tables e below (T305.setTop (mkF m 158 #[.val (.int st), .val (.int s1), .val (.int a1), .val (.int s2), .val (.int a2), .val (.int cnt), .val (.int (1 : Int32)), .val (.int kc), .val (.ref b102), .val (.long fs), .second, .val (.double want), .second] [(.double (FP.dadd (FP.i2d kc) u0))])) t → Steps p.tables e below (s₁.setTop (entryFrame m #[(.int st), (.int s1), (.int a1), (.int s2), (.int a2), (.int cnt)] maxLocals)) t := fun t k => k300 t (st305.trans k)
    have hfin : cmpValue (FP.dcmp (FP.dadd (FP.i2d kc) u0) want) .l = (0 : Int32) := Dy.cmp_eq A0 Dwant (by omega) .l
    have k308 : ∀ t, Steps p.tables e below (T305.setTop (mkF m 169 #[.val (.int st), .val (.int s1), .val (.int a1), .val (.int s2), .val (.int a2), .val (.int cnt), .val (.int (1 : Int32)), .val (.int kc), .val (.ref b102), .val (.long fs), .second, .val (.double want), .second] [(.int (1 : Int32))])) t → Steps p.tables e below (s₁.setTop (entryFrame m #[(.int st), (.int s1), (.int a1), (.int s2), (.int a2), (.int cnt)] maxLocals)) t := fun t k => k307 t (by
      show Steps p.tables e below (T305.setTop (mkF m 158 #[.val (.int st), .val (.int s1), .val (.int a1), .val (.int s2), .val (.int a2), .val (.int cnt), .val (.int (1 : Int32)), .val (.int kc), .val (.ref b102), .val (.long fs), .second, .val (.double want), .second] [(.double (FP.dadd (FP.i2d kc) u0))])) _
      refine XS.dload X305.here hx rfl (hb hby at_158) rfl ?_
      show Steps p.tables e below (T305.setTop (mkF m 160 #[.val (.int st), .val (.int s1), .val (.int a1), .val (.int s2), .val (.int a2), .val (.int cnt), .val (.int (1 : Int32)), .val (.int kc), .val (.ref b102), .val (.long fs), .second, .val (.double want), .second] [(.double want), (.double (FP.dadd (FP.i2d kc) u0))])) _
      refine XS.dcmpS X305.here hx rfl (hb hby at_160) rfl rfl ?_
      show Steps p.tables e below (T305.setTop (mkF m 161 #[.val (.int st), .val (.int s1), .val (.int a1), .val (.int s2), .val (.int a2), .val (.int cnt), .val (.int (1 : Int32)), .val (.int kc), .val (.ref b102), .val (.long fs), .second, .val (.double want), .second] [(.int (cmpValue (FP.dcmp (FP.dadd (FP.i2d kc) u0) want) .l))])) _
      refine XS.ifNo X305.here hx rfl (hb hby at_161) rfl ((if0 _ _).trans (teq hfin).2) ?_
      show Steps p.tables e below (T305.setTop (mkF m 164 #[.val (.int st), .val (.int s1), .val (.int a1), .val (.int s2), .val (.int a2), .val (.int cnt), .val (.int (1 : Int32)), .val (.int kc), .val (.ref b102), .val (.long fs), .second, .val (.double want), .second] [])) _
      refine XS.iconst X305.here hx rfl (hb hby at_164) ?_
      show Steps p.tables e below (T305.setTop (mkF m 165 #[.val (.int st), .val (.int s1), .val (.int a1), .val (.int s2), .val (.int a2), .val (.int cnt), .val (.int (1 : Int32)), .val (.int kc), .val (.ref b102), .val (.long fs), .second, .val (.double want), .second] [(.int (1 : Int32))])) _
      refine XS.goto X305.here hx rfl (pc0 := 165) (pc' := 169) rfl (hb hby at_165) (by decide) (by decide) ?_
      exact k)
    obtain ⟨fs, hr, hrun, hended, hW, hsame⟩ := X305.leave (v := some (.int (1 : Int32))) (fun h => by rw [Bd.returns] at h; cases h)
    refine ⟨_, _, k308 _ (retOut X305 hx (t := .boolean) Bd.returns rfl (Or.inl ⟨rfl, Or.inr (Or.inl rfl), _, rfl⟩) (hb hby at_169) hr), hrun, hended, _, _, rfl, ?_, ⟨_, rfl⟩, hW, hsame.mono (by decide) (by decide)⟩
    show Q_rm0 Z st s1 a1 s2 a2 cnt h0 n0 _ T305.heap _
    rw [e305]
    exact ⟨rfl, N306⟩
  · have A0 : Dy (kc.toInt + x0) 0 (FP.dadd (FP.i2d kc) u0) := Dy.add (Dy.i2d kc) D0 (by omega) (by decide)
    have A1 : Dy (kc.toInt + x0 + x1) 0 (FP.dadd (FP.dadd (FP.i2d kc) u0) u1) := Dy.add A0 D1 (by omega) (by decide)
    obtain ⟨cq309, kq309, q309a, q309b, q309c⟩ := isOf hZ e284 F294
    obtain ⟨_, _, ⟨T309, L309, k309, n309⟩, -, X309, ⟨Lc309, hQ309, l309, y309, z309⟩, st309⟩ := X284.virtualBack hx (y := (⟨"com/example/istra/istra/model/Transfer", "total", "()D"⟩ : MethodName)) (z := (⟨"com/example/istra/istra/model/Transfer", "total", "()D"⟩ : MethodName)) hown (mvT hZ (hw _ (List.mem_of_getElem? (i := 27) rfl))) (mvT hZ (hw _ (List.mem_of_getElem? (i := 28) rfl))) (notFace_of_selects (args := #[]) (mvT hZ (hw _ (List.mem_of_getElem? (i := 30) rfl)))) (mvT hZ (hw _ (List.mem_of_getElem? (i := 30) rfl))) (mvT hZ (hw _ (List.mem_of_getElem? (i := 29) rfl))) (by decide) (backOf (W := 0) (tot2 l Z a0 hw [] b102 b3 k3 kc u0 u1 h284 n0 Zq284 F295 F296 F298 A0.nn A1.nn) hZ (hw _ (List.mem_of_getElem? (i := 31) rfl)) (hw _ (List.mem_of_getElem? (i := 3) rfl)) (by decide) (by decide)) q309a q309c (g := (mkF m 155 #[.val (.int st), .val (.int s1), .val (.int a1), .val (.int s2), .val (.int a2), .val (.int cnt), .val (.int (2 : Int32)), .val (.int kc), .val (.ref b102), .val (.long fs), .second, .val (.double want), .second] [(.ref b102)])) rfl (by rw [hml]; rfl) (Steps.refl _) (argsL := []) (rest := []) (lenOf pd__28_29D rfl) rfl (by show 2 * 0 + _ ≤ _; exact Nat.le_of_eq rfl) (hb hby at_155) (fun _ _ => ⟨rfl, e284, (by decide : 6 + 0 ≤ _), (by decide : 32 + 0 ≤ _)⟩)
    dsimp only [Pt.U, Pt.locs, Pt.cells, Pt.slots] at X309 l309 y309 z309 st309 hQ309
    subst l309 y309 z309
    obtain ⟨rfl, N309q, e309⟩ := hQ309
    have N310 := Fr.app N284 N309q
    have k311 : ∀ t, Steps p.tables e below (T309.setTop (mkF m 158 #[.val (.int st), .val (.int s1), .val (.int a1), .val (.int s2), .val (.int a2), .val (.int cnt), .val (.int (2 : Int32)), .val (.int kc), .val (.ref b102), .val (.long fs), .second, .val (.double want), .second] [(.double (FP.dadd (FP.dadd (FP.i2d kc) u0) u1))])) t → Steps p.tables e below (s₁.setTop (entryFrame m #[(.int st), (.int s1), (.int a1), (.int s2), (.int a2), (.int cnt)] maxLocals)) t := fun t k => k300 t (st309.trans k)
    have hfin : cmpValue (FP.dcmp (FP.dadd (FP.dadd (FP.i2d kc) u0) u1) want) .l = (0 : Int32) := Dy.cmp_eq A1 Dwant (by omega) .l
    have k312 : ∀ t, Steps p.tables e below (T309.setTop (mkF m 169 #[.val (.int st), .val (.int s1), .val (.int a1), .val (.int s2), .val (.int a2), .val (.int cnt), .val (.int (2 : Int32)), .val (.int kc), .val (.ref b102), .val (.long fs), .second, .val (.double want), .second] [(.int (1 : Int32))])) t → Steps p.tables e below (s₁.setTop (entryFrame m #[(.int st), (.int s1), (.int a1), (.int s2), (.int a2), (.int cnt)] maxLocals)) t := fun t k => k311 t (by
      show Steps p.tables e below (T309.setTop (mkF m 158 #[.val (.int st), .val (.int s1), .val (.int a1), .val (.int s2), .val (.int a2), .val (.int cnt), .val (.int (2 : Int32)), .val (.int kc), .val (.ref b102), .val (.long fs), .second, .val (.double want), .second] [(.double (FP.dadd (FP.dadd (FP.i2d kc) u0) u1))])) _
      refine XS.dload X309.here hx rfl (hb hby at_158) rfl ?_
      show Steps p.tables e below (T309.setTop (mkF m 160 #[.val (.int st), .val (.int s1), .val (.int a1), .val (.int s2), .val (.int a2), .val (.int cnt), .val (.int (2 : Int32)), .val (.int kc), .val (.ref b102), .val (.long fs), .second, .val (.double want), .second] [(.double want), (.double (FP.dadd (FP.dadd (FP.i2d kc) u0) u1))])) _
      refine XS.dcmpS X309.here hx rfl (hb hby at_160) rfl rfl ?_
      show Steps p.tables e below (T309.setTop (mkF m 161 #[.val (.int st), .val (.int s1), .val (.int a1), .val (.int s2), .val (.int a2), .val (.int cnt), .val (.int (2 : Int32)), .val (.int kc), .val (.ref b102), .val (.long fs), .second, .val (.double want), .second] [(.int (cmpValue (FP.dcmp (FP.dadd (FP.dadd (FP.i2d kc) u0) u1) want) .l))])) _
      refine XS.ifNo X309.here hx rfl (hb hby at_161) rfl ((if0 _ _).trans (teq hfin).2) ?_
      show Steps p.tables e below (T309.setTop (mkF m 164 #[.val (.int st), .val (.int s1), .val (.int a1), .val (.int s2), .val (.int a2), .val (.int cnt), .val (.int (2 : Int32)), .val (.int kc), .val (.ref b102), .val (.long fs), .second, .val (.double want), .second] [])) _
      refine XS.iconst X309.here hx rfl (hb hby at_164) ?_
      show Steps p.tables e below (T309.setTop (mkF m 165 #[.val (.int st), .val (.int s1), .val (.int a1), .val (.int s2), .val (.int a2), .val (.int cnt), .val (.int (2 : Int32)), .val (.int kc), .val (.ref b102), .val (.long fs), .second, .val (.double want), .second] [(.int (1 : Int32))])) _
      refine XS.goto X309.here hx rfl (pc0 := 165) (pc' := 169) rfl (hb hby at_165) (by decide) (by decide) ?_
      exact k)
    obtain ⟨fs, hr, hrun, hended, hW, hsame⟩ := X309.leave (v := some (.int (1 : Int32))) (fun h => by rw [Bd.returns] at h; cases h)
    refine ⟨_, _, k312 _ (retOut X309 hx (t := .boolean) Bd.returns rfl (Or.inl ⟨rfl, Or.inr (Or.inl rfl), _, rfl⟩) (hb hby at_169) hr), hrun, hended, _, _, rfl, ?_, ⟨_, rfl⟩, hW, hsame.mono (by decide) (by decide)⟩
    show Q_rm0 Z st s1 a1 s2 a2 cnt h0 n0 _ T309.heap _
    rw [e309]
    exact ⟨rfl, N310⟩
  · have A0 : Dy (kc.toInt + x0) 0 (FP.dadd (FP.i2d kc) u0) := Dy.add (Dy.i2d kc) D0 (by omega) (by decide)
    have A1 : Dy (kc.toInt + x0 + x1) 0 (FP.dadd (FP.dadd (FP.i2d kc) u0) u1) := Dy.add A0 D1 (by omega) (by decide)
    have A2 : Dy (kc.toInt + x0 + x1 + x2) 0 (FP.dadd (FP.dadd (FP.dadd (FP.i2d kc) u0) u1) u2) := Dy.add A1 D2 (by omega) (by decide)
    obtain ⟨cq313, kq313, q313a, q313b, q313c⟩ := isOf hZ e284 F294
    obtain ⟨_, _, ⟨T313, L313, k313, n313⟩, -, X313, ⟨Lc313, hQ313, l313, y313, z313⟩, st313⟩ := X284.virtualBack hx (y := (⟨"com/example/istra/istra/model/Transfer", "total", "()D"⟩ : MethodName)) (z := (⟨"com/example/istra/istra/model/Transfer", "total", "()D"⟩ : MethodName)) hown (mvT hZ (hw _ (List.mem_of_getElem? (i := 27) rfl))) (mvT hZ (hw _ (List.mem_of_getElem? (i := 28) rfl))) (notFace_of_selects (args := #[]) (mvT hZ (hw _ (List.mem_of_getElem? (i := 30) rfl)))) (mvT hZ (hw _ (List.mem_of_getElem? (i := 30) rfl))) (mvT hZ (hw _ (List.mem_of_getElem? (i := 29) rfl))) (by decide) (backOf (W := 0) (tot3 l Z a0 hw [] b102 b3 k3 kc u0 u1 u2 h284 n0 Zq284 F295 F296 F298 A0.nn A1.nn A2.nn) hZ (hw _ (List.mem_of_getElem? (i := 31) rfl)) (hw _ (List.mem_of_getElem? (i := 3) rfl)) (by decide) (by decide)) q313a q313c (g := (mkF m 155 #[.val (.int st), .val (.int s1), .val (.int a1), .val (.int s2), .val (.int a2), .val (.int cnt), .val (.int (3 : Int32)), .val (.int kc), .val (.ref b102), .val (.long fs), .second, .val (.double want), .second] [(.ref b102)])) rfl (by rw [hml]; rfl) (Steps.refl _) (argsL := []) (rest := []) (lenOf pd__28_29D rfl) rfl (by show 2 * 0 + _ ≤ _; exact Nat.le_of_eq rfl) (hb hby at_155) (fun _ _ => ⟨rfl, e284, (by decide : 6 + 0 ≤ _), (by decide : 32 + 0 ≤ _)⟩)
    dsimp only [Pt.U, Pt.locs, Pt.cells, Pt.slots] at X313 l313 y313 z313 st313 hQ313
    subst l313 y313 z313
    obtain ⟨rfl, N313q, e313⟩ := hQ313
    have N314 := Fr.app N284 N313q
    have k315 : ∀ t, Steps p.tables e below (T313.setTop (mkF m 158 #[.val (.int st), .val (.int s1), .val (.int a1), .val (.int s2), .val (.int a2), .val (.int cnt), .val (.int (3 : Int32)), .val (.int kc), .val (.ref b102), .val (.long fs), .second, .val (.double want), .second] [(.double (FP.dadd (FP.dadd (FP.dadd (FP.i2d kc) u0) u1) u2))])) t → Steps p.tables e below (s₁.setTop (entryFrame m #[(.int st), (.int s1), (.int a1), (.int s2), (.int a2), (.int cnt)] maxLocals)) t := fun t k => k300 t (st313.trans k)
    have hfin : cmpValue (FP.dcmp (FP.dadd (FP.dadd (FP.dadd (FP.i2d kc) u0) u1) u2) want) .l = (0 : Int32) := Dy.cmp_eq A2 Dwant (by omega) .l
    have k316 : ∀ t, Steps p.tables e below (T313.setTop (mkF m 169 #[.val (.int st), .val (.int s1), .val (.int a1), .val (.int s2), .val (.int a2), .val (.int cnt), .val (.int (3 : Int32)), .val (.int kc), .val (.ref b102), .val (.long fs), .second, .val (.double want), .second] [(.int (1 : Int32))])) t → Steps p.tables e below (s₁.setTop (entryFrame m #[(.int st), (.int s1), (.int a1), (.int s2), (.int a2), (.int cnt)] maxLocals)) t := fun t k => k315 t (by
      show Steps p.tables e below (T313.setTop (mkF m 158 #[.val (.int st), .val (.int s1), .val (.int a1), .val (.int s2), .val (.int a2), .val (.int cnt), .val (.int (3 : Int32)), .val (.int kc), .val (.ref b102), .val (.long fs), .second, .val (.double want), .second] [(.double (FP.dadd (FP.dadd (FP.dadd (FP.i2d kc) u0) u1) u2))])) _
      refine XS.dload X313.here hx rfl (hb hby at_158) rfl ?_
      show Steps p.tables e below (T313.setTop (mkF m 160 #[.val (.int st), .val (.int s1), .val (.int a1), .val (.int s2), .val (.int a2), .val (.int cnt), .val (.int (3 : Int32)), .val (.int kc), .val (.ref b102), .val (.long fs), .second, .val (.double want), .second] [(.double want), (.double (FP.dadd (FP.dadd (FP.dadd (FP.i2d kc) u0) u1) u2))])) _
      refine XS.dcmpS X313.here hx rfl (hb hby at_160) rfl rfl ?_
      show Steps p.tables e below (T313.setTop (mkF m 161 #[.val (.int st), .val (.int s1), .val (.int a1), .val (.int s2), .val (.int a2), .val (.int cnt), .val (.int (3 : Int32)), .val (.int kc), .val (.ref b102), .val (.long fs), .second, .val (.double want), .second] [(.int (cmpValue (FP.dcmp (FP.dadd (FP.dadd (FP.dadd (FP.i2d kc) u0) u1) u2) want) .l))])) _
      refine XS.ifNo X313.here hx rfl (hb hby at_161) rfl ((if0 _ _).trans (teq hfin).2) ?_
      show Steps p.tables e below (T313.setTop (mkF m 164 #[.val (.int st), .val (.int s1), .val (.int a1), .val (.int s2), .val (.int a2), .val (.int cnt), .val (.int (3 : Int32)), .val (.int kc), .val (.ref b102), .val (.long fs), .second, .val (.double want), .second] [])) _
      refine XS.iconst X313.here hx rfl (hb hby at_164) ?_
      show Steps p.tables e below (T313.setTop (mkF m 165 #[.val (.int st), .val (.int s1), .val (.int a1), .val (.int s2), .val (.int a2), .val (.int cnt), .val (.int (3 : Int32)), .val (.int kc), .val (.ref b102), .val (.long fs), .second, .val (.double want), .second] [(.int (1 : Int32))])) _
      refine XS.goto X313.here hx rfl (pc0 := 165) (pc' := 169) rfl (hb hby at_165) (by decide) (by decide) ?_
      exact k)
    obtain ⟨fs, hr, hrun, hended, hW, hsame⟩ := X313.leave (v := some (.int (1 : Int32))) (fun h => by rw [Bd.returns] at h; cases h)
    refine ⟨_, _, k316 _ (retOut X313 hx (t := .boolean) Bd.returns rfl (Or.inl ⟨rfl, Or.inr (Or.inl rfl), _, rfl⟩) (hb hby at_169) hr), hrun, hended, _, _, rfl, ?_, ⟨_, rfl⟩, hW, hsame.mono (by decide) (by decide)⟩
    show Q_rm0 Z st s1 a1 s2 a2 cnt h0 n0 _ T313.heap _
    rw [e313]
    exact ⟨rfl, N314⟩
set_option maxRecDepth 65536 in
set_option maxHeartbeats 40000000 in
theorem comes_1 {Post : Tables → Env → Array Value → State → Outcome → State → Prop} (hpost : ∀ tb e args s v u, (limb_1_1.after args s (.returned v) u = true ∧ limb_1_2.after args s (.returned v) u = true ∧ True) → FrameEnd s (.returned v) u (Jvm.fieldLocs frame_1_writes args s ++ Jvm.arrayLocs frame_1_arrays args s ++ Jvm.staticLocs frame_1_statics s) 24 128 → Post tb e args s (.returned v) u) :
    ArmFor flags0 classFile x code maxLocals ret World_1 tables_1 room_1 Calls_1 rest_1 Pre_1 Post := by
  intro l hfl _ _ p e ha hc hk s m args below hf hA hF happ hP
  obtain ⟨hcalls, hrest, hpre⟩ := hP
  obtain ⟨-, -, -, hnamed, -, -, -, hat⟩ := (Spec.applies_iff hf).mp happ
  obtain ⟨hg, hn⟩ := and_e (Cond.before_iff.mp (show (Jvm.Cond.and given_1 narrow_1).before args s = true from hpre))
  obtain ⟨g1, g2⟩ := and_e hg
  obtain ⟨g3, g4⟩ := and_e g2
  obtain ⟨g5, g6⟩ := and_e g4
  obtain ⟨g7, g8⟩ := and_e g6
  obtain ⟨g9, g10⟩ := and_e g8
  obtain ⟨g11, g12⟩ := and_e g10
  obtain ⟨w0, w1, w2, w3, w4, w5, rfl⟩ : ∃ w0 w1 w2 w3 w4 w5 : Value, args = #[w0, w1, w2, w3, w4, w5] := by
    have hs : args.size = 6 := by simpa [Cond.value, given_1] using g1
    obtain ⟨L⟩ := args
    match L, hs with
    | [w0, w1, w2, w3, w4, w5], _ => exact ⟨w0, w1, w2, w3, w4, w5, rfl⟩
  have hw := fun d (hd : d ∈ tables_1) => atoms_spec (ws := Jvm.Cond.code x code maxLocals ret :: tables_1) hat d (List.mem_cons_of_mem _ hd)
  obtain ⟨i0, ei0⟩ := is_v g3
  obtain rfl : w0 = (.int i0) := Option.some.inj ei0
  obtain ⟨i1, ei1⟩ := is_v g5
  obtain rfl : w1 = (.int i1) := Option.some.inj ei1
  obtain ⟨i2, ei2⟩ := is_v g7
  obtain rfl : w2 = (.int i2) := Option.some.inj ei2
  obtain ⟨i3, ei3⟩ := is_v g9
  obtain rfl : w3 = (.int i3) := Option.some.inj ei3
  obtain ⟨i4, ei4⟩ := is_v g11
  obtain rfl : w4 = (.int i4) := Option.some.inj ei4
  obtain ⟨i5, ei5⟩ := is_v g12
  obtain rfl : w5 = (.int i5) := Option.some.inj ei5
  obtain ⟨n, o, h1, h2, h3, _, L, rfl, ⟨rfl, N⟩, hq⟩ := rm0 l s _ hw tables_1 i0 i1 i2 i3 i4 i5 s.heap s.heap.size (Nat.le_refl _) p e ha hc hk s m _ below hf ((Spec.applies_iff_loose hf).mp happ).1 ⟨rfl, State.Warmed39.refl s, rfl⟩ trivial
  refine ⟨n, _, h1, h2, h3, hpost _ _ _ _ _ _ ⟨Cond.after_iff.mpr rfl, Cond.after_iff.mpr (eq_i res_at (Term.int_eval (1)) rfl), trivial⟩ ⟨hq.1, hq.2.1, (hq.2.2.sift fun y hy => Or.inr (N y hy)).mono (by decide) (by decide)⟩⟩
theorem main_1_1 : Claimed_1_1 := comes_1 fun _ _ _ _ _ _ h hF => ⟨h.1, hF⟩
theorem main_1_2 : Claimed_1_2 := comes_1 fun _ _ _ _ _ _ h hF => ⟨h.2.1, hF⟩
end Jvm.Pilot.@@N@@
namespace Jvm.Pilot.@@N@@
open Jvm Jvm.ClassFile Sem Op Lib Jvm.Free Jvm.Stand Jvm.Pilot.@@N@@.Jvm.D
/-! MADE BY PROGRAM (witnessworld.py) out of the Statement's table words and the real class files: 14 classes; the members and pool entries that the words name. The judged class is class 1, her method 1. -/
namespace start1
open Jvm.ClassFile
def u (s : String) : CpInfo := .utf8 (stringToUtf16 s)
/-- a pool by its gaps: so many unusable entries, then the entry; so many at the end -/
def gap : Nat → List CpInfo → List CpInfo
  | 0, r => r
  | n + 1, r => .unusable :: gap n r
def poolList (es : List (Nat × CpInfo)) (last : Nat) : List CpInfo := es.foldr (fun e r => gap e.1 (e.2 :: r)) (gap last [])
def pool (es : List (Nat × CpInfo)) (last : Nat) : Array CpInfo := ⟨poolList es last⟩
def fileOf (pool : Array CpInfo) (this : Nat) (attrs : Array Attribute := #[]) (ms : Array MethodInfo := #[]) (fl : Nat := 33) (sup : Nat := 0) (ifs : Array Nat := #[]) (fds : Array FieldInfo := #[]) : ClassFile where
  minorVersion := 0
  majorVersion := 65
  constantPool := pool
  accessFlags := fl
  thisClass := this
  superClass := sup
  interfaces := ifs
  fields := fds
  methods := ms
  attributes := attrs
def plain (name : String) (sup : Option ClassId) : Class where
  name := name
  kind := .ordinary
  loader := none
  accessFlags := 33
  super := sup
  interfaces := #[]
  cf := none
  fields := #[]
  methods := #[]
  instanceTypes := #[]
  staticTypes := #[]
  resolved := #[]
  callSites := []
  init := .initialized
  statics := none
  mirror := none

def pool0 : Array CpInfo := pool [(5, u "<init>"), (0, u "()V"), (1, .class_ 10), (1, u "java/lang/Object")] 113

def k0c0 : Code := { maxStack := 0, maxLocals := 1, code := object_method_1_code, exceptionTable := #[], attributes := #[] }
def k0m0 : Method := { name := "<init>", desc := "()V", sig := { parameters := [], returnType := none }, accessFlags := 1, code := some k0c0 }
/-- java/lang/Object -/
def k0 : Class := { plain "java/lang/Object" none with
  accessFlags := 33
  interfaces := #[]
  cf := some (fileOf pool0 8 #[] #[{ accessFlags := 1, nameIndex := 5, descriptorIndex := 6, attributes := #[] }] 33 0 #[] #[])
  fields := #[]
  methods := #[k0m0]
  instanceTypes := #[]
  staticTypes := #[]
  resolved := Array.replicate 124 none
  statics := none }

def pool1 : Array CpInfo := pool [(2, .class_ 4), (1, u "java/lang/Object"), (0, u "<init>"), (0, u "()V"), (0, .integer 2147483647), (0, .class_ 9), (0, u "com/example/istra/istra/model/Transfer"), (0, .methodref 8 11), (0, .nameAndType 5 12), (0, u "(I)V"), (0, .methodref 8 14), (0, .nameAndType 15 16), (0, u "addFluid"), (0, u "(ID)V"), (0, .methodref 8 18), (0, .nameAndType 19 16), (0, u "addVehicle"), (0, .double 4611686018427387904), (1, .double 4613937818241073152), (1, .double 4616189618054758400), (1, .double 4617315517961601024), (1, .methodref 8 29), (0, .nameAndType 30 31), (0, u "total"), (0, u "()D"), (0, .class_ 33), (0, u "com/example/istra/istra/model/TransferTotalPinLaw"), (2, u "law"), (0, u "(IIIIII)Z")] 3

def k1m0 : Method := { name := "<init>", desc := "()V", sig := { parameters := [], returnType := none }, accessFlags := 1, code := none }
def k1c1 : Code := { maxStack := 4, maxLocals := 13, code := code, exceptionTable := #[], attributes := #[] }
def k1m1 : Method := { name := "law", desc := "(IIIIII)Z", sig := { parameters := [.int, .int, .int, .int, .int, .int], returnType := some .boolean }, accessFlags := 9, code := some k1c1 }
/-- com/example/istra/istra/model/TransferTotalPinLaw -/
def k1 : Class := { plain "com/example/istra/istra/model/TransferTotalPinLaw" (some 0) with
  accessFlags := 49
  interfaces := #[]
  cf := some (fileOf pool1 32 #[] #[{ accessFlags := 1, nameIndex := 5, descriptorIndex := 6, attributes := #[] }, { accessFlags := 9, nameIndex := 36, descriptorIndex := 37, attributes := #[] }] 49 2 #[] #[])
  fields := #[]
  methods := #[k1m0, k1m1]
  instanceTypes := #[]
  staticTypes := #[]
  resolved := Array.replicate 41 none
  statics := none }

def pool2 : Array CpInfo := pool [(1, .methodref 2 3), (0, .class_ 4), (0, .nameAndType 5 6), (0, u "java/lang/Object"), (0, u "<init>"), (0, u "()V"), (0, .class_ 8), (0, u "com/example/istra/istra/model/Transfer"), (0, .fieldref 7 10), (0, .nameAndType 11 12), (0, u "vehicleStates"), (0, u "[I"), (0, .fieldref 7 14), (0, .nameAndType 15 16), (0, u "crossingS"), (0, u "[D"), (9, .fieldref 7 27), (0, .nameAndType 28 16), (0, u "fluid"), (0, .fieldref 7 30), (0, .nameAndType 31 32), (0, u "holdsFluid"), (0, u "Z"), (1, .class_ 36), (1, u "java/util/Arrays"), (2, .fieldref 7 40), (0, .nameAndType 41 42), (0, u "vehicles"), (0, u "I"), (0, .methodref 34 44), (0, .nameAndType 45 46), (0, u "copyOf"), (0, u "([II)[I"), (0, .methodref 34 48), (0, .nameAndType 45 49), (0, u "([DI)[D"), (0, u "FIRST_CAPACITY"), (2, u "(I)V"), (6, u "addFluid"), (0, u "(ID)V"), (1, u "addVehicle"), (2, u "total"), (0, u "()D")] 18

def k2c0 : Code := { maxStack := 3, maxLocals := 2, code := prog_54_method_1_code, exceptionTable := #[], attributes := #[] }
def k2m0 : Method := { name := "<init>", desc := "(I)V", sig := { parameters := [.int], returnType := none }, accessFlags := 1, code := some k2c0 }
def k2c1 : Code := { maxStack := 6, maxLocals := 4, code := prog_54_method_4_code, exceptionTable := #[], attributes := #[] }
def k2m1 : Method := { name := "addFluid", desc := "(ID)V", sig := { parameters := [.int, .double], returnType := none }, accessFlags := 1, code := some k2c1 }
def k2c2 : Code := { maxStack := 4, maxLocals := 4, code := prog_54_method_6_code, exceptionTable := #[], attributes := #[] }
def k2m2 : Method := { name := "addVehicle", desc := "(ID)V", sig := { parameters := [.int, .double], returnType := none }, accessFlags := 1, code := some k2c2 }
def k2c3 : Code := { maxStack := 4, maxLocals := 8, code := prog_54_method_10_code, exceptionTable := #[], attributes := #[] }
def k2m3 : Method := { name := "total", desc := "()D", sig := { parameters := [], returnType := some .double }, accessFlags := 1, code := some k2c3 }
/-- com/example/istra/istra/model/Transfer -/
def k2 : Class := { plain "com/example/istra/istra/model/Transfer" (some 0) with
  accessFlags := 33
  interfaces := #[]
  cf := some (fileOf pool2 7 #[] #[{ accessFlags := 1, nameIndex := 5, descriptorIndex := 53, attributes := #[] }, { accessFlags := 1, nameIndex := 60, descriptorIndex := 61, attributes := #[] }, { accessFlags := 1, nameIndex := 63, descriptorIndex := 61, attributes := #[] }, { accessFlags := 1, nameIndex := 66, descriptorIndex := 67, attributes := #[] }] 33 2 #[] #[{ accessFlags := 26, nameIndex := 50, descriptorIndex := 42, attributes := #[] }, { accessFlags := 18, nameIndex := 28, descriptorIndex := 16, attributes := #[] }, { accessFlags := 2, nameIndex := 31, descriptorIndex := 32, attributes := #[] }, { accessFlags := 2, nameIndex := 11, descriptorIndex := 12, attributes := #[] }, { accessFlags := 2, nameIndex := 15, descriptorIndex := 16, attributes := #[] }, { accessFlags := 2, nameIndex := 41, descriptorIndex := 42, attributes := #[] }])
  fields := #[{ name := "FIRST_CAPACITY", type := .int, accessFlags := 26, slot := 0, constantValue := 0 }, { name := "fluid", type := (.array .double), accessFlags := 18, slot := 0, constantValue := 0 }, { name := "holdsFluid", type := .boolean, accessFlags := 2, slot := 1, constantValue := 0 }, { name := "vehicleStates", type := (.array .int), accessFlags := 2, slot := 2, constantValue := 0 }, { name := "crossingS", type := (.array .double), accessFlags := 2, slot := 3, constantValue := 0 }, { name := "vehicles", type := .int, accessFlags := 2, slot := 4, constantValue := 0 }]
  methods := #[k2m0, k2m1, k2m2, k2m3]
  instanceTypes := #[(.array .double), .boolean, (.array .int), (.array .double), .int]
  staticTypes := #[.int]
  resolved := Array.replicate 86 none
  statics := none }

def pool3 : Array CpInfo := pool [(2, .class_ 4), (1, u "java/lang/Object"), (0, u "<init>"), (0, u "()V"), (7, .class_ 16), (1, u "java/util/Arrays"), (57, .class_ 76), (1, u "java/util/Arrays$NaturalOrder"), (36, .class_ 115), (1, u "java/util/Arrays$LegacyMergeSort"), (1, u "Z"), (32, .methodref 151 152), (0, .class_ 153), (0, .nameAndType 154 155), (0, u "java/lang/System"), (0, u "arraycopy"), (0, u "(Ljava/lang/Object;ILjava/lang/Object;II)V"), (146, u "copyOf"), (1, .methodref 305 306), (0, .class_ 307), (0, .nameAndType 308 309), (0, u "java/lang/Math"), (0, u "min"), (0, u "(II)I"), (65, .class_ 376), (0, u "java/util/Arrays$ArrayList"), (68, u "$assertionsDisabled"), (269, u "MIN_ARRAY_SORT_GRAN"), (0, u "I"), (2, u "INSERTIONSORT_THRESHOLD"), (151, u "([II)[I"), (3, u "([DI)[D"), (99, .class_ 976), (0, u "java/util/Arrays$ArrayItr")] 52

def k3m0 : Method := { name := "<init>", desc := "()V", sig := { parameters := [], returnType := none }, accessFlags := 2, code := none }
def k3c1 : Code := { maxStack := 6, maxLocals := 3, code := jdk_65_method_123_code, exceptionTable := #[], attributes := #[] }
def k3m1 : Method := { name := "copyOf", desc := "([II)[I", sig := { parameters := [(.array .int), .int], returnType := some (.array .int) }, accessFlags := 9, code := some k3c1 }
def k3c2 : Code := { maxStack := 6, maxLocals := 3, code := jdk_65_method_127_code, exceptionTable := #[], attributes := #[] }
def k3m2 : Method := { name := "copyOf", desc := "([DI)[D", sig := { parameters := [(.array .double), .int], returnType := some (.array .double) }, accessFlags := 9, code := some k3c2 }
/-- java/util/Arrays -/
def k3 : Class := { plain "java/util/Arrays" (some 0) with
  accessFlags := 49
  interfaces := #[]
  cf := some (fileOf pool3 14 #[.nestMembers #[975, 375, 113, 74]] #[{ accessFlags := 2, nameIndex := 5, descriptorIndex := 6, attributes := #[] }, { accessFlags := 9, nameIndex := 302, descriptorIndex := 871, attributes := #[] }, { accessFlags := 9, nameIndex := 302, descriptorIndex := 875, attributes := #[] }] 49 2 #[] #[{ accessFlags := 26, nameIndex := 715, descriptorIndex := 716, attributes := #[] }, { accessFlags := 26, nameIndex := 719, descriptorIndex := 716, attributes := #[] }, { accessFlags := 4120, nameIndex := 445, descriptorIndex := 117, attributes := #[] }])
  fields := #[{ name := "MIN_ARRAY_SORT_GRAN", type := .int, accessFlags := 26, slot := 0, constantValue := 0 }, { name := "INSERTIONSORT_THRESHOLD", type := .int, accessFlags := 26, slot := 1, constantValue := 0 }, { name := "$assertionsDisabled", type := .boolean, accessFlags := 4120, slot := 2, constantValue := 0 }]
  methods := #[k3m0, k3m1, k3m2]
  instanceTypes := #[]
  staticTypes := #[.int, .int, .boolean]
  resolved := Array.replicate 1029 none
  statics := none }

def pool4 : Array CpInfo := pool [(1, .class_ 2), (0, u "java/lang/Math"), (1, .class_ 6), (1, u "java/lang/Object"), (0, u "<init>"), (0, u "()V"), (89, .class_ 100), (1, u "java/lang/Math$RandomNumberGeneratorHolder"), (71, u "negativeZeroFloatBits"), (0, u "J"), (2, u "negativeZeroDoubleBits"), (24, u "min"), (43, u "$assertionsDisabled"), (0, u "Z"), (88, u "(II)I"), (2, u "twoToTheDoubleScaleDown"), (0, u "D"), (4, u "twoToTheDoubleScaleUp"), (9, u "E"), (3, u "PI"), (2, u "TAU"), (2, u "DEGREES_TO_RADIANS"), (0, u "RADIANS_TO_DEGREES")] 94

def k4m0 : Method := { name := "<init>", desc := "()V", sig := { parameters := [], returnType := none }, accessFlags := 2, code := none }
def k4c1 : Code := { maxStack := 2, maxLocals := 2, code := jdk_29_method_69_code, exceptionTable := #[], attributes := #[] }
def k4m1 : Method := { name := "min", desc := "(II)I", sig := { parameters := [.int, .int], returnType := some .int }, accessFlags := 9, code := some k4c1 }
/-- java/lang/Math -/
def k4 : Class := { plain "java/lang/Math" (some 0) with
  accessFlags := 49
  interfaces := #[]
  cf := some (fileOf pool4 1 #[.nestMembers #[98]] #[{ accessFlags := 2, nameIndex := 7, descriptorIndex := 8, attributes := #[] }, { accessFlags := 9, nameIndex := 201, descriptorIndex := 335, attributes := #[] }] 49 4 #[] #[{ accessFlags := 25, nameIndex := 354, descriptorIndex := 339, attributes := #[] }, { accessFlags := 25, nameIndex := 358, descriptorIndex := 339, attributes := #[] }, { accessFlags := 25, nameIndex := 361, descriptorIndex := 339, attributes := #[] }, { accessFlags := 26, nameIndex := 364, descriptorIndex := 339, attributes := #[] }, { accessFlags := 26, nameIndex := 365, descriptorIndex := 339, attributes := #[] }, { accessFlags := 26, nameIndex := 172, descriptorIndex := 173, attributes := #[] }, { accessFlags := 26, nameIndex := 176, descriptorIndex := 173, attributes := #[] }, { accessFlags := 8, nameIndex := 344, descriptorIndex := 339, attributes := #[] }, { accessFlags := 8, nameIndex := 338, descriptorIndex := 339, attributes := #[] }, { accessFlags := 4120, nameIndex := 245, descriptorIndex := 246, attributes := #[] }])
  fields := #[{ name := "E", type := .double, accessFlags := 25, slot := 0, constantValue := 0 }, { name := "PI", type := .double, accessFlags := 25, slot := 1, constantValue := 0 }, { name := "TAU", type := .double, accessFlags := 25, slot := 2, constantValue := 0 }, { name := "DEGREES_TO_RADIANS", type := .double, accessFlags := 26, slot := 3, constantValue := 0 }, { name := "RADIANS_TO_DEGREES", type := .double, accessFlags := 26, slot := 4, constantValue := 0 }, { name := "negativeZeroFloatBits", type := .long, accessFlags := 26, slot := 5, constantValue := 0 }, { name := "negativeZeroDoubleBits", type := .long, accessFlags := 26, slot := 6, constantValue := 0 }, { name := "twoToTheDoubleScaleUp", type := .double, accessFlags := 8, slot := 7, constantValue := 0 }, { name := "twoToTheDoubleScaleDown", type := .double, accessFlags := 8, slot := 8, constantValue := 0 }, { name := "$assertionsDisabled", type := .boolean, accessFlags := 4120, slot := 9, constantValue := 0 }]
  methods := #[k4m0, k4m1]
  instanceTypes := #[]
  staticTypes := #[.double, .double, .double, .double, .double, .long, .long, .double, .double, .boolean]
  resolved := Array.replicate 460 none
  statics := none }

def pool5 : Array CpInfo := pool [(2, .class_ 4), (1, u "java/lang/Object"), (0, u "<init>"), (0, u "()V"), (1, .class_ 10), (1, u "java/lang/System"), (0, u "allowSecurityManager"), (0, u "I"), (16, u "cons"), (0, u "Ljava/io/Console;"), (77, .class_ 110), (1, u "java/lang/System$CallersHolder"), (43, u "initialErrStream"), (0, u "Ljava/io/PrintStream;"), (19, u "security"), (0, u "Ljava/lang/SecurityManager;"), (31, .class_ 209), (0, u "java/lang/System$1"), (7, u "props"), (0, u "Ljava/util/Properties;"), (2, u "lineSeparator"), (0, u "Ljava/lang/String;"), (96, .class_ 321), (1, u "java/lang/System$LoggerFinder"), (5, .class_ 328), (0, u "java/lang/System$Logger"), (67, u "err"), (2, u "out"), (91, u "notSupportedJnuEncoding"), (15, u "in"), (17, u "initialIn"), (0, u "Ljava/io/InputStream;"), (35, u "bootLayer"), (0, u "Ljava/lang/ModuleLayer;"), (99, .class_ 664), (0, u "java/lang/System$2"), (9, u "NEVER"), (2, u "MAYBE"), (49, u "arraycopy"), (0, u "(Ljava/lang/Object;ILjava/lang/Object;II)V"), (72, .class_ 802), (0, u "java/lang/System$Logger$Level")] 31

def k5m0 : Method := { name := "<init>", desc := "()V", sig := { parameters := [], returnType := none }, accessFlags := 2, code := none }
def k5m1 : Method := { name := "arraycopy", desc := "(Ljava/lang/Object;ILjava/lang/Object;II)V", sig := { parameters := [(.object "java/lang/Object"), .int, (.object "java/lang/Object"), .int, .int], returnType := none }, accessFlags := 265, code := none }
/-- java/lang/System -/
def k5 : Class := { plain "java/lang/System" (some 0) with
  accessFlags := 49
  interfaces := #[]
  cf := some (fileOf pool5 8 #[.nestMembers #[319, 327, 801, 108, 663, 208]] #[{ accessFlags := 2, nameIndex := 5, descriptorIndex := 6, attributes := #[] }, { accessFlags := 265, nameIndex := 727, descriptorIndex := 728, attributes := #[] }] 49 2 #[] #[{ accessFlags := 25, nameIndex := 507, descriptorIndex := 526, attributes := #[] }, { accessFlags := 25, nameIndex := 399, descriptorIndex := 155, attributes := #[] }, { accessFlags := 25, nameIndex := 396, descriptorIndex := 155, attributes := #[] }, { accessFlags := 10, nameIndex := 525, descriptorIndex := 526, attributes := #[] }, { accessFlags := 26, nameIndex := 674, descriptorIndex := 12, attributes := #[] }, { accessFlags := 26, nameIndex := 677, descriptorIndex := 12, attributes := #[] }, { accessFlags := 10, nameIndex := 11, descriptorIndex := 12, attributes := #[] }, { accessFlags := 74, nameIndex := 175, descriptorIndex := 176, attributes := #[] }, { accessFlags := 10, nameIndex := 491, descriptorIndex := 222, attributes := #[] }, { accessFlags := 74, nameIndex := 29, descriptorIndex := 30, attributes := #[] }, { accessFlags := 74, nameIndex := 154, descriptorIndex := 155, attributes := #[] }, { accessFlags := 10, nameIndex := 217, descriptorIndex := 218, attributes := #[] }, { accessFlags := 10, nameIndex := 221, descriptorIndex := 222, attributes := #[] }, { accessFlags := 8, nameIndex := 562, descriptorIndex := 563, attributes := #[] }])
  fields := #[{ name := "in", type := (.object "java/io/InputStream"), accessFlags := 25, slot := 0, constantValue := 0 }, { name := "out", type := (.object "java/io/PrintStream"), accessFlags := 25, slot := 1, constantValue := 0 }, { name := "err", type := (.object "java/io/PrintStream"), accessFlags := 25, slot := 2, constantValue := 0 }, { name := "initialIn", type := (.object "java/io/InputStream"), accessFlags := 10, slot := 3, constantValue := 0 }, { name := "NEVER", type := .int, accessFlags := 26, slot := 4, constantValue := 0 }, { name := "MAYBE", type := .int, accessFlags := 26, slot := 5, constantValue := 0 }, { name := "allowSecurityManager", type := .int, accessFlags := 10, slot := 6, constantValue := 0 }, { name := "security", type := (.object "java/lang/SecurityManager"), accessFlags := 74, slot := 7, constantValue := 0 }, { name := "notSupportedJnuEncoding", type := (.object "java/lang/String"), accessFlags := 10, slot := 8, constantValue := 0 }, { name := "cons", type := (.object "java/io/Console"), accessFlags := 74, slot := 9, constantValue := 0 }, { name := "initialErrStream", type := (.object "java/io/PrintStream"), accessFlags := 74, slot := 10, constantValue := 0 }, { name := "props", type := (.object "java/util/Properties"), accessFlags := 10, slot := 11, constantValue := 0 }, { name := "lineSeparator", type := (.object "java/lang/String"), accessFlags := 10, slot := 12, constantValue := 0 }, { name := "bootLayer", type := (.object "java/lang/ModuleLayer"), accessFlags := 8, slot := 13, constantValue := 0 }]
  methods := #[k5m0, k5m1]
  instanceTypes := #[]
  staticTypes := #[(.object "java/io/InputStream"), (.object "java/io/PrintStream"), (.object "java/io/PrintStream"), (.object "java/io/InputStream"), .int, .int, .int, (.object "java/lang/SecurityManager"), (.object "java/lang/String"), (.object "java/io/Console"), (.object "java/io/PrintStream"), (.object "java/util/Properties"), (.object "java/lang/String"), (.object "java/lang/ModuleLayer")]
  resolved := Array.replicate 834 none
  statics := none }

def pool6 : Array CpInfo := pool [(1, u "java/lang/Cloneable"), (0, .class_ 1), (0, u "java/lang/Object"), (0, .class_ 3)] 3

/-- java/lang/Cloneable -/
def k6 : Class := { plain "java/lang/Cloneable" (some 0) with
  accessFlags := 1537
  interfaces := #[]
  cf := some (fileOf pool6 2 #[] #[] 1537 4 #[] #[])
  fields := #[]
  methods := #[]
  instanceTypes := #[]
  staticTypes := #[]
  resolved := Array.replicate 8 none
  statics := none }

def pool7 : Array CpInfo := pool [(1, u "java/io/Serializable"), (0, .class_ 1), (0, u "java/lang/Object"), (0, .class_ 3)] 3

/-- java/io/Serializable -/
def k7 : Class := { plain "java/io/Serializable" (some 0) with
  accessFlags := 1537
  interfaces := #[]
  cf := some (fileOf pool7 2 #[] #[] 1537 4 #[] #[])
  fields := #[]
  methods := #[]
  instanceTypes := #[]
  staticTypes := #[]
  resolved := Array.replicate 8 none
  statics := none }

/-- the primitive byte -/
def k8 : Class := { plain "byte" none with kind := .primitive 'B', accessFlags := 0x411 }
/-- [B -/
def k9 : Class := { plain "[B" (some 0) with kind := .array 8 .byte, interfaces := #[6, 7], accessFlags := 1041 }

/-- the primitive double -/
def k10 : Class := { plain "double" none with kind := .primitive 'D', accessFlags := 0x411 }
/-- [D -/
def k11 : Class := { plain "[D" (some 0) with kind := .array 10 .double, interfaces := #[6, 7], accessFlags := 1041 }

/-- the primitive int -/
def k12 : Class := { plain "int" none with kind := .primitive 'I', accessFlags := 0x411 }
/-- [I -/
def k13 : Class := { plain "[I" (some 0) with kind := .array 12 .int, interfaces := #[6, 7], accessFlags := 1041 }

def heap : Heap := #[]
def classes : Array Class := #[k0, k1, k2, k3, k4, k5, k6, k7, k8, k9, k10, k11, k12, k13]
def interned : List (Array UInt16 × Addr) := []
def slotsUsed : Nat := 0
def theMethod : MethodId := ⟨1, 1⟩
def args0 : Array Value := #[.int 3, .int 2, .int 1, .int 7, .int 2, .int 5]
def aboutOver (below : List Frame) : State where
  vm := { classes := classes, interned := interned.toArray }
  heap := heap
  slotsUsed := slotsUsed
  threads := #[{ frames := .invoking theMethod args0 :: below }]
def below0 : List Frame := [.native { method := ⟨0, 0⟩, args := #[] }]
def about1 : State := aboutOver below0
def p0 : Program := .bare "" "" ""
def e0 : Env := launch0.env 0 0 0
theorem w_frames : about1.frames = Frame.invoking theMethod args0 :: below0 := rfl
set_option maxRecDepth 65536 in
theorem w_args : argsFit about1.vm theMethod args0 = true := by decide +kernel
set_option maxRecDepth 65536 in
theorem w_heap : heapFits about1 = true := by decide +kernel
set_option maxRecDepth 65536 in
theorem w_runnable : about1.curStatus? = some .runnable := by decide +kernel
set_option maxRecDepth 65536 in
theorem w_alone : about1.alone = true := by decide +kernel
set_option maxRecDepth 65536 in
theorem w_named : about1.methodNamed? x = some theMethod := by decide +kernel
set_option maxRecDepth 65536 in
theorem w_hears : about1.hears theMethod below0 = true := by decide +kernel
set_option maxRecDepth 65536 in
theorem w_ripe : about1.ripe theMethod args0 below0 = true := by decide +kernel
theorem w_running : about1.status = .running := rfl
set_option maxRecDepth 65536 in
theorem w_room : about1.hasRoom e0.platform room_1 = true :=
  launch0.hasRoom_least _ room_1 (by decide +kernel) (by decide +kernel) (by decide +kernel) (by decide +kernel) (by decide +kernel) (by decide +kernel)
theorem allAtoms_all (ts : List Jvm.Cond) (a : Array Jvm.Value) (st : Jvm.State) : (allAtoms ts).before a st = ts.all (fun c => c.before a st) := by
  induction ts with
  | nil => rfl
  | cons c t ih =>
    show (Jvm.Cond.and c (allAtoms t)).before a st = _
    rw [Jvm.Cond.before_and, ih, List.all_cons]
def words1 : List Jvm.Cond := Jvm.Cond.code x code maxLocals ret :: tables_1
/-- a 'code' word, met by the world's own term for the bytes: nothing is compared byte by byte -/
theorem code_word {y : MethodName} {bytes : ByteArray} {mx : Nat} {rt : Option FieldType} {a : Array Value} {s : State} {m : MethodId} {meth : Method} {c : Code} (h1 : s.methodNamed? y = some m) (h2 : s.vm.method? m = some meth) (h3 : meth.code = some c) (h4 : c.code = bytes)
    (h5 : (c.maxLocals == mx && c.exceptionTable.isEmpty && decide (c.maxStack ≤ mostOperands) && decide (meth.sig.returnType = rt) && !meth.locks && decide (parseMethodDescriptor y.desc = some meth.sig)) = true) : (Jvm.Cond.code y bytes mx rt).before a s = true := by
  simp only [Bool.and_eq_true, beq_iff_eq, Bool.not_eq_true', decide_eq_true_eq] at h5
  obtain ⟨⟨⟨⟨⟨g1, g2⟩, g3⟩, g4⟩, g5⟩, g6⟩ := h5
  simp [Cond.before, Cond.holds, Cond.value, h1, h2, h3, h4, g1, g2, g3, g4, g5, g6]
def isCode : Jvm.Cond → Bool
  | .code _ _ _ _ => true
  | _ => false
theorem all_split {L : List Jvm.Cond} {P : Jvm.Cond → Bool} (h1 : L.all (fun c => isCode c || P c) = true) (h2 : ∀ c ∈ L.filter isCode, P c = true) : L.all P = true := by
  refine List.all_eq_true.mpr fun c hc => ?_
  have h := List.all_eq_true.mp h1 c hc
  rcases Bool.eq_false_or_eq_true (isCode c) with hi | hi
  · exact h2 c (List.mem_filter.mpr ⟨hc, hi⟩)
  · simpa [hi] using h
set_option maxRecDepth 65536 in
theorem w_c0 : (Jvm.Cond.code x code maxLocals ret).before args0 about1 = true := code_word (m := ⟨1, 1⟩) (meth := k1m1) (c := k1c1) (by decide +kernel) rfl rfl rfl (by decide +kernel)
set_option maxRecDepth 65536 in
theorem w_c1 : (Jvm.Cond.code ({ cls := "com/example/istra/istra/model/Transfer", name := "<init>", desc := "(I)V" } : Jvm.MethodName) prog_54_method_1_code (2 : Nat) (Option.none : Option Jvm.ClassFile.FieldType)).before args0 about1 = true := code_word (m := ⟨2, 0⟩) (meth := k2m0) (c := k2c0) (by decide +kernel) rfl rfl rfl (by decide +kernel)
set_option maxRecDepth 65536 in
theorem w_c2 : (Jvm.Cond.code ({ cls := "java/lang/Object", name := "<init>", desc := "()V" } : Jvm.MethodName) object_method_1_code (1 : Nat) (Option.none : Option Jvm.ClassFile.FieldType)).before args0 about1 = true := code_word (m := ⟨0, 0⟩) (meth := k0m0) (c := k0c0) (by decide +kernel) rfl rfl rfl (by decide +kernel)
set_option maxRecDepth 65536 in
theorem w_c3 : (Jvm.Cond.code ({ cls := "com/example/istra/istra/model/Transfer", name := "addVehicle", desc := "(ID)V" } : Jvm.MethodName) prog_54_method_6_code (4 : Nat) (Option.none : Option Jvm.ClassFile.FieldType)).before args0 about1 = true := code_word (m := ⟨2, 2⟩) (meth := k2m2) (c := k2c2) (by decide +kernel) rfl rfl rfl (by decide +kernel)
set_option maxRecDepth 65536 in
theorem w_c4 : (Jvm.Cond.code ({ cls := "com/example/istra/istra/model/Transfer", name := "total", desc := "()D" } : Jvm.MethodName) prog_54_method_10_code (8 : Nat) (Option.some Jvm.ClassFile.FieldType.double)).before args0 about1 = true := code_word (m := ⟨2, 3⟩) (meth := k2m3) (c := k2c3) (by decide +kernel) rfl rfl rfl (by decide +kernel)
set_option maxRecDepth 65536 in
theorem w_c5 : (Jvm.Cond.code ({ cls := "com/example/istra/istra/model/Transfer", name := "addFluid", desc := "(ID)V" } : Jvm.MethodName) prog_54_method_4_code (4 : Nat) (Option.none : Option Jvm.ClassFile.FieldType)).before args0 about1 = true := code_word (m := ⟨2, 1⟩) (meth := k2m1) (c := k2c1) (by decide +kernel) rfl rfl rfl (by decide +kernel)
set_option maxRecDepth 65536 in
theorem w_c6 : (Jvm.Cond.code ({ cls := "java/util/Arrays", name := "copyOf", desc := "([II)[I" } : Jvm.MethodName) jdk_65_method_123_code (3 : Nat) (Option.some (Jvm.ClassFile.FieldType.array Jvm.ClassFile.FieldType.int))).before args0 about1 = true := code_word (m := ⟨3, 1⟩) (meth := k3m1) (c := k3c1) (by decide +kernel) rfl rfl rfl (by decide +kernel)
set_option maxRecDepth 65536 in
theorem w_c7 : (Jvm.Cond.code ({ cls := "java/lang/Math", name := "min", desc := "(II)I" } : Jvm.MethodName) jdk_29_method_69_code (2 : Nat) (Option.some Jvm.ClassFile.FieldType.int)).before args0 about1 = true := code_word (m := ⟨4, 1⟩) (meth := k4m1) (c := k4c1) (by decide +kernel) rfl rfl rfl (by decide +kernel)
set_option maxRecDepth 65536 in
theorem w_c8 : (Jvm.Cond.code ({ cls := "java/util/Arrays", name := "copyOf", desc := "([DI)[D" } : Jvm.MethodName) jdk_65_method_127_code (3 : Nat) (Option.some (Jvm.ClassFile.FieldType.array Jvm.ClassFile.FieldType.double))).before args0 about1 = true := code_word (m := ⟨3, 2⟩) (meth := k3m2) (c := k3c2) (by decide +kernel) rfl rfl rfl (by decide +kernel)
def codes1 : List Jvm.Cond := [Jvm.Cond.code x code maxLocals ret, Jvm.Cond.code ({ cls := "com/example/istra/istra/model/Transfer", name := "<init>", desc := "(I)V" } : Jvm.MethodName) prog_54_method_1_code (2 : Nat) (Option.none : Option Jvm.ClassFile.FieldType), Jvm.Cond.code ({ cls := "java/lang/Object", name := "<init>", desc := "()V" } : Jvm.MethodName) object_method_1_code (1 : Nat) (Option.none : Option Jvm.ClassFile.FieldType), Jvm.Cond.code ({ cls := "com/example/istra/istra/model/Transfer", name := "addVehicle", desc := "(ID)V" } : Jvm.MethodName) prog_54_method_6_code (4 : Nat) (Option.none : Option Jvm.ClassFile.FieldType), Jvm.Cond.code ({ cls := "com/example/istra/istra/model/Transfer", name := "total", desc := "()D" } : Jvm.MethodName) prog_54_method_10_code (8 : Nat) (Option.some Jvm.ClassFile.FieldType.double), Jvm.Cond.code ({ cls := "com/example/istra/istra/model/Transfer", name := "addFluid", desc := "(ID)V" } : Jvm.MethodName) prog_54_method_4_code (4 : Nat) (Option.none : Option Jvm.ClassFile.FieldType), Jvm.Cond.code ({ cls := "java/util/Arrays", name := "copyOf", desc := "([II)[I" } : Jvm.MethodName) jdk_65_method_123_code (3 : Nat) (Option.some (Jvm.ClassFile.FieldType.array Jvm.ClassFile.FieldType.int)), Jvm.Cond.code ({ cls := "java/lang/Math", name := "min", desc := "(II)I" } : Jvm.MethodName) jdk_29_method_69_code (2 : Nat) (Option.some Jvm.ClassFile.FieldType.int), Jvm.Cond.code ({ cls := "java/util/Arrays", name := "copyOf", desc := "([DI)[D" } : Jvm.MethodName) jdk_65_method_127_code (3 : Nat) (Option.some (Jvm.ClassFile.FieldType.array Jvm.ClassFile.FieldType.double))]
set_option maxRecDepth 65536 in
theorem codes_eq : words1.filter isCode = codes1 := rfl
theorem w_codes : ∀ c ∈ words1.filter isCode, c.before args0 about1 = true := by
  rw [codes_eq]
  intro c hc
  simp only [codes1, List.mem_cons, List.not_mem_nil, or_false] at hc
  rcases hc with rfl | rfl | rfl | rfl | rfl | rfl | rfl | rfl | rfl
  · exact w_c0
  · exact w_c1
  · exact w_c2
  · exact w_c3
  · exact w_c4
  · exact w_c5
  · exact w_c6
  · exact w_c7
  · exact w_c8
set_option maxRecDepth 65536 in
theorem w_t1 : (words1.take 24).all (fun c => isCode c || c.before args0 about1) = true := by decide +kernel
set_option maxRecDepth 65536 in
theorem w_t2 : ((words1.drop 24).take 24).all (fun c => isCode c || c.before args0 about1) = true := by decide +kernel
set_option maxRecDepth 65536 in
theorem w_t3 : ((words1.drop 24).drop 24).all (fun c => isCode c || c.before args0 about1) = true := by decide +kernel
theorem w_tables : (allAtoms (Jvm.Cond.code x code maxLocals ret :: tables_1)).before args0 about1 = true := by
  rw [allAtoms_all]
  show words1.all (fun c => c.before args0 about1) = true
  refine all_split ?_ w_codes
  rw [← List.take_append_drop 24 words1, List.all_append, w_t1, ← List.take_append_drop 24 (words1.drop 24), List.all_append, w_t2, w_t3]
  rfl
set_option maxRecDepth 65536 in
theorem w_case : (Jvm.Cond.and given_1 narrow_1).before args0 about1 = true := by decide +kernel
theorem w_applies : (headSpec (Jvm.Cond.code x code maxLocals ret :: tables_1) room_1).applies x e0.platform about1 = true :=
  (Spec.applies_iff w_frames).mpr ⟨w_running, w_runnable, w_alone, w_named, w_hears, w_ripe, w_room, w_tables⟩
theorem atStart : AtStart classFile x code maxLocals ret World_1 tables_1 room_1 Calls_1 rest_1 Pre_1 launch0 p0 e0 about1 theMethod args0 below0 :=
  ⟨lists_1, trivial, launch0.admits_env _ _ _, launch0.least_env, fairChoices_fair.cas, fairChoices_fair.clock, w_frames, w_args, w_heap, w_applies, trivial, trivial, w_case⟩
end start1
theorem witness_1 : WitnessClaimed_1 := ⟨start1.p0, start1.e0, start1.about1, start1.theMethod, start1.args0, start1.below0, start1.atStart⟩
end Jvm.Pilot.@@N@@
