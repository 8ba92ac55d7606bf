import JvmDerived
import JvmDerived.Pilot.@@N@@Statement
import JvmDerived.Pilot.@@N@@Code
set_option linter.unusedVariables false
set_option linter.unusedSimpArgs false
namespace Jvm.OwnFp
open Jvm.FP.Core Op
/-! own: exact values. `Dyf f i k d`: the datum d is finite and worth i / 2^k. -/
def Dyf (f : Fmt) (i : Int) (k : Nat) (d : Datum) : Prop := (∃ s c q, d = .fin s c q) ∧ zval f d * 2 ^ k = i * 2 ^ (-f.qmin).toNat
theorem pw_pos (n : Nat) : (0 : Int) < 2 ^ n := Int.pow_pos (by decide)
theorem pw_cast (n : Nat) : ((2 ^ n : Nat) : Int) = 2 ^ n := by simp
theorem signed_abs (i : Int) : signed (decide (i < 0)) i.natAbs = i := by
  unfold signed
  by_cases h : i < 0 <;> simp [h] <;> omega
theorem signed_mulI (s : Bool) (c k : Nat) : signed s (c * 2 ^ k) = signed s c * 2 ^ k := by
  rw [signed_mul, pw_cast]
theorem vex {f : Fmt} (hf : Good f) {i : Int} {k : Nat} (hi : i.natAbs < 2 ^ f.p) (hk : (k : Int) ≤ -f.qmin) (hq : 0 ≤ f.qmax) :
    ∃ s c q, FP.Core.fits f (.fin s c q) ∧ zval f (.fin s c q) * 2 ^ k = i * 2 ^ (-f.qmin).toNat := by
  obtain ⟨c', q', h, hu⟩ := round_exact hf (decide (i < 0)) (c := i.natAbs) (q := -(k : Int)) hi (by omega) (by omega)
  refine ⟨_, c', q', h ▸ round_fits hf _, ?_⟩
  show signed (decide (i < 0)) (inUnits c' q' f.qmin) * 2 ^ k = _
  rw [hu]
  unfold inUnits
  rw [signed_mulI, signed_abs, Int.mul_assoc, ← Int.pow_add, show (-(k : Int) - f.qmin).toNat + k = (-f.qmin).toNat by omega]
theorem dyf_of_zval {f : Fmt} (hf : Good f) {s : Bool} {A B : Nat} {e : Int} {s' : Bool} {c' : Nat} {q' : Int} (hV : FP.Core.fits f (.fin s' c' q'))
    (hz : zval f (roundRatio f s A B e) = zval f (.fin s' c' q')) : ∃ s₀ c₀ q₀, roundRatio f s A B e = .fin s₀ c₀ q₀ := by
  rcases roundRatio_cases f s A B e with ⟨c, q, h⟩ | h
  · exact ⟨s, c, q, h⟩
  · exfalso
    rw [h] at hz
    have h1 := zmag_lt_top hf hV
    have h2 := congrArg Int.natAbs hz
    unfold zval at h2
    rw [natAbs_signed, natAbs_signed] at h2
    have h3 : zmag f (.inf s) = f.tails * 2 ^ (f.exps - 2) := rfl
    have h4 : zmag f (.fin s' c' q') = inUnits c' q' f.qmin := rfl
    omega
/-- an exact result that the format holds is not rounded -/
theorem rnd {f : Fmt} (hf : Good f) (hq : 0 ≤ f.qmax) {s : Bool} {c : Nat} {q e0 : Int} (h0 : e0 ≤ f.qmin) (h0e : e0 ≤ q) {i : Int} {k : Nat} (hi : i.natAbs < 2 ^ f.p) (hk : (k : Int) ≤ -f.qmin)
    (h : signed s (inUnits c q e0) * 2 ^ k = i * 2 ^ (-f.qmin).toNat * 2 ^ (f.qmin - e0).toNat) : Dyf f i k (round f (.fin s c q)) := by
  obtain ⟨s', c', q', hV, hv⟩ := vex hf hi hk hq
  have hn : Datum.fin s' c' q' ≠ .nan := nofun
  have he : zval f (.fin s' c' q') * ((2 ^ (f.qmin - e0).toNat : Nat) : Int) = signed s (inUnits c q e0) := by
    refine Int.eq_of_mul_eq_mul_right (Int.ne_of_gt (pw_pos k)) ?_
    rw [h, ← hv, pw_cast]; ac_rfl
  have hz : zval f (round f (.fin s c q)) = zval f (.fin s' c' q') :=
    Int.le_antisymm (zval_round_le hf hV hn h0 h0e (Int.le_of_eq he.symm)) (zval_round_ge hf hV hn h0 h0e (Int.le_of_eq he))
  exact ⟨dyf_of_zval hf hV hz, by rw [hz]; exact hv⟩
theorem Dyf.fit {f : Fmt} {i : Int} {k : Nat} {d : Datum} (h : Dyf f i k d) : ∃ s c q, d = .fin s c q := h.1
theorem Dyf.up {f : Fmt} {i : Int} {k : Nat} {d : Datum} (h : Dyf f i k d) (l : Nat) : Dyf f (i * 2 ^ l) (k + l) d :=
  ⟨h.1, by rw [Int.pow_add, ← Int.mul_assoc, h.2]; ac_rfl⟩
theorem Dyf.to {f : Fmt} {i j : Int} {k l : Nat} {d : Datum} (h : Dyf f i k d) (e : i * 2 ^ l = j * 2 ^ k) : Dyf f j l d := by
  refine ⟨h.1, Int.eq_of_mul_eq_mul_right (Int.ne_of_gt (pw_pos k)) ?_⟩
  calc zval f d * 2 ^ l * 2 ^ k = (zval f d * 2 ^ k) * 2 ^ l := by ac_rfl
    _ = (i * 2 ^ l) * 2 ^ (-f.qmin).toNat := by rw [h.2]; ac_rfl
    _ = j * 2 ^ (-f.qmin).toNat * 2 ^ k := by rw [e]; ac_rfl
theorem Dyf.sum {f : Fmt} (hf : Good f) (hq : 0 ≤ f.qmax) {i j : Int} {k : Nat} {x y : Datum} (fx : FP.Core.fits f x) (fy : FP.Core.fits f y) (hx : Dyf f i k x) (hy : Dyf f j k y) (hi : (i + j).natAbs < 2 ^ f.p) (hk : (k : Int) ≤ -f.qmin) :
    Dyf f (i + j) k (round f (exactSum x y)) := by
  obtain ⟨⟨s, c, q, rfl⟩, hx⟩ := hx
  obtain ⟨⟨t, d, r, rfl⟩, hy⟩ := hy
  obtain ⟨sg, n, e, he, hle, hu⟩ := sum_units fx fy
  rw [he]
  refine rnd hf hq (Int.le_refl _) hle hi hk ?_
  rw [hu, Int.add_mul, hx, hy, Int.add_mul, Int.sub_self]
  simp
theorem Dyf.neg {f : Fmt} {i : Int} {k : Nat} {x : Datum} (hx : Dyf f i k x) : Dyf f (-i) k (negate x) := by
  obtain ⟨⟨s, c, q, rfl⟩, hx⟩ := hx
  refine ⟨⟨_, _, _, rfl⟩, ?_⟩
  rw [zval_negate, Int.neg_mul, hx, Int.neg_mul]
theorem Dyf.prod {f : Fmt} (hf : Good f) (hq : 0 ≤ f.qmax) {i j : Int} {k l : Nat} {x y : Datum} (fx : FP.Core.fits f x) (fy : FP.Core.fits f y) (hx : Dyf f i k x) (hy : Dyf f j l y) (hi : (i * j).natAbs < 2 ^ f.p) (hk : ((k + l : Nat) : Int) ≤ -f.qmin) :
    Dyf f (i * j) (k + l) (round f (exactProduct x y)) := by
  obtain ⟨⟨s, c, q, rfl⟩, hx⟩ := hx
  obtain ⟨⟨t, d, r, rfl⟩, hy⟩ := hy
  obtain ⟨he, hle, hu⟩ := product_units fx fy
  rw [he]
  have hn := qmin_neg hf
  refine rnd hf hq (e0 := 2 * f.qmin) (by omega) hle hi hk ?_
  rw [hu, signed_xor, show (f.qmin - 2 * f.qmin).toNat = (-f.qmin).toNat by omega, Int.pow_add]
  calc zval f (.fin s c q) * zval f (.fin t d r) * (2 ^ k * 2 ^ l) = (zval f (.fin s c q) * 2 ^ k) * (zval f (.fin t d r) * 2 ^ l) := by ac_rfl
    _ = _ := by rw [hx, hy]; ac_rfl
theorem natAbs_pow (n : Nat) : ((2 : Int) ^ n).natAbs = 2 ^ n := by rw [Int.natAbs_pow]; rfl
theorem natAbs_zval (f : Fmt) (d : Datum) : (zval f d).natAbs = zmag f d := natAbs_signed _ _
/-- an exact quotient that the format holds is not rounded -/
theorem Dyf.quot {f : Fmt} (hf : Good f) (hq : 0 ≤ f.qmax) {i j n : Int} {k l m : Nat} {x y : Datum} (fx : FP.Core.fits f x) (fy : FP.Core.fits f y) (hx : Dyf f i k x) (hy : Dyf f j l y) (hj : j ≠ 0) (hi : n.natAbs < 2 ^ f.p) (hm : (m : Int) ≤ -f.qmin)
    (e : i * 2 ^ l * 2 ^ m = n * j * 2 ^ k) : Dyf f n m (quotient f x y) := by
  obtain ⟨⟨s, c, q, rfl⟩, hx⟩ := hx
  obtain ⟨⟨t, d, r, rfl⟩, hy⟩ := hy
  obtain ⟨s', c', q', hV, hv⟩ := vex hf hi hm hq
  have hn : Datum.fin s' c' q' ≠ .nan := nofun
  have hqm := qmin_neg hf
  have fx1 := fx.2.1
  have fy1 := fy.2.1
  -- the signed equation
  have hz : zval f (.fin s c q) * 2 ^ (-f.qmin).toNat = zval f (.fin s' c' q') * zval f (.fin t d r) := by
    refine Int.eq_of_mul_eq_mul_right (Int.ne_of_gt (Int.mul_pos (Int.mul_pos (pw_pos k) (pw_pos l)) (pw_pos m))) ?_
    calc zval f (.fin s c q) * 2 ^ (-f.qmin).toNat * (2 ^ k * 2 ^ l * 2 ^ m) = (zval f (.fin s c q) * 2 ^ k) * (2 ^ l * 2 ^ m) * 2 ^ (-f.qmin).toNat := by ac_rfl
      _ = (i * 2 ^ l * 2 ^ m) * 2 ^ (-f.qmin).toNat * 2 ^ (-f.qmin).toNat := by rw [hx]; ac_rfl
      _ = (n * 2 ^ (-f.qmin).toNat) * (j * 2 ^ (-f.qmin).toNat) * 2 ^ k := by rw [e]; ac_rfl
      _ = (zval f (.fin s' c' q') * 2 ^ m) * (zval f (.fin t d r) * 2 ^ l) * 2 ^ k := by rw [hv, hy]
      _ = _ := by ac_rfl
  have hzb : zval f (.fin t d r) ≠ 0 := by
    intro h0
    rw [h0, Int.zero_mul] at hy
    rcases Int.mul_eq_zero.mp hy.symm with h | h
    · exact hj h
    · exact absurd h (Int.ne_of_gt (pw_pos _))
  have hd : d ≠ 0 := by
    rintro rfl
    apply hzb
    show signed t (inUnits 0 r f.qmin) = 0
    unfold inUnits; rw [Nat.zero_mul, signed_zero]
  have hmag : zmag f (.fin s c q) * 2 ^ (-f.qmin).toNat = zmag f (.fin s' c' q') * zmag f (.fin t d r) := by
    have h2 := congrArg Int.natAbs hz
    rw [Int.natAbs_mul, Int.natAbs_mul, natAbs_pow, natAbs_zval, natAbs_zval, natAbs_zval] at h2
    exact h2
  have hun : inUnits c (q - r) (2 * f.qmin - r) = zmag f (.fin s' c' q') * 2 ^ (f.qmin - (2 * f.qmin - r)).toNat * d := by
    have a1 : inUnits c (q - r) (2 * f.qmin - r) = zmag f (.fin s c q) * 2 ^ (-f.qmin).toNat := by
      show c * 2 ^ _ = c * 2 ^ _ * 2 ^ _
      rw [Nat.mul_assoc, ← Nat.pow_add, show (q - r - (2 * f.qmin - r)).toNat = (q - f.qmin).toNat + (-f.qmin).toNat by omega]
    rw [a1, hmag, show (f.qmin - (2 * f.qmin - r)).toNat = (r - f.qmin).toNat by omega]
    show _ * (d * 2 ^ _) = _
    ac_rfl
  have hqt : quotient f (.fin s c q) (.fin t d r) = roundRatio f (s != t) c d (q - r) := by
    show (if d = 0 then _ else _) = _
    rw [if_neg hd]
  have hm2 : zmag f (roundRatio f (s != t) c d (q - r)) = zmag f (.fin s' c' q') :=
    Nat.le_antisymm (zmag_roundRatio_le hf (e0 := 2 * f.qmin - r) (Nat.pos_of_ne_zero hd) hV hn (by omega) (by omega) (Nat.le_of_eq hun))
      (zmag_roundRatio_ge hf (e0 := 2 * f.qmin - r) (Nat.pos_of_ne_zero hd) hV (by omega) (by omega) (Nat.le_of_eq hun.symm))
  have hsg : signed (s != t) (zmag f (.fin s' c' q')) = zval f (.fin s' c' q') := by
    have p0 : zmag f (.fin s c q) = inUnits c q f.qmin := rfl
    have hS : zval f (.fin s c q) * 2 ^ (-f.qmin).toNat * zval f (.fin t d r) = zval f (.fin s' c' q') * (zval f (.fin t d r) * zval f (.fin t d r)) := by rw [hz]; ac_rfl
    by_cases h0 : zmag f (.fin s' c' q') = 0
    · unfold zval; rw [h0, signed_zero, signed_zero]
    · have hbb : 0 < zval f (.fin t d r) * zval f (.fin t d r) := by
        rcases Int.lt_or_gt_of_ne hzb with h | h
        · exact Int.mul_pos_of_neg_of_neg h h
        · exact Int.mul_pos h h
      have hst : zval f (.fin s c q) * zval f (.fin t d r) = signed (s != t) (zmag f (.fin s c q) * zmag f (.fin t d r)) := by
        rw [signed_xor]; rfl
      have e1 : zval f (.fin s' c' q') * (zval f (.fin t d r) * zval f (.fin t d r)) = signed (s != t) (zmag f (.fin s c q) * zmag f (.fin t d r)) * 2 ^ (-f.qmin).toNat := by
        rw [← hS, ← hst]; ac_rfl
      have e2 : signed (s != t) (zmag f (.fin s c q) * zmag f (.fin t d r)) * 2 ^ (-f.qmin).toNat = signed (s != t) (zmag f (.fin s' c' q')) * (zval f (.fin t d r) * zval f (.fin t d r)) := by
        rw [← signed_mulI, show zmag f (.fin s c q) * zmag f (.fin t d r) * 2 ^ (-f.qmin).toNat = zmag f (.fin s' c' q') * (zmag f (.fin t d r) * zmag f (.fin t d r)) by rw [Nat.mul_right_comm, hmag]; ac_rfl, signed_mul]
        congr 1
        unfold zval
        rw [Int.natCast_mul]
        cases (sgn (.fin t d r)) <;> simp [signed, Int.neg_mul_neg]
      exact Int.eq_of_mul_eq_mul_right (Int.ne_of_gt hbb) (e2.symm.trans e1.symm)
  have hzz : zval f (roundRatio f (s != t) c d (q - r)) = zval f (.fin s' c' q') := by
    rw [← hsg]
    show signed (sgn (roundRatio f (s != t) c d (q - r))) (zmag f (roundRatio f (s != t) c d (q - r))) = _
    rw [sgn_roundRatio, hm2]
  rw [hqt]
  exact ⟨dyf_of_zval hf hV hzz, by rw [hzz]; exact hv⟩
theorem Dyf.ofInt {f : Fmt} (hf : Good f) (hq : 0 ≤ f.qmax) {i : Int} (hi : i.natAbs < 2 ^ f.p) : Dyf f i 0 (round f (FP.Core.ofInt i)) := by
  have hn := qmin_neg hf
  refine rnd hf hq (Int.le_refl _) (by omega) hi (by omega) ?_
  unfold inUnits
  rw [signed_mulI, signed_abs, Int.sub_self]
  simp
theorem Dyf.order {f : Fmt} (hf : Good f) {i j : Int} {k : Nat} {x y : Datum} (fx : FP.Core.fits f x) (fy : FP.Core.fits f y) (hx : Dyf f i k x) (hy : Dyf f j k y) : order x y = some (compare i j) := by
  obtain ⟨⟨s, c, q, rfl⟩, hx⟩ := hx
  obtain ⟨⟨t, d, r, rfl⟩, hy⟩ := hy
  rw [order_zval hf fx fy nofun nofun, ← compare_mul_pos _ _ _ (pw_pos k), hx, hy, compare_mul_pos _ _ _ (pw_pos _)]
/-! doubles -/
def Dy (i : Int) (k : Nat) (a : UInt64) : Prop := Dyf b64 i k (val64 a)
theorem qm64 : (0 : Int) ≤ b64.qmax := by decide
theorem Dy.fin {i : Int} {k : Nat} {a : UInt64} (h : Dy i k a) : DFin a := h.1
theorem Dy.nn {i : Int} {k : Nat} {a : UInt64} (h : Dy i k a) : Jvm.Free.Fl.NoNaN64 a := (Jvm.Free.Fl.fin64_core.mpr h.1).noNaN
theorem Dy.to {i j : Int} {k l : Nat} {a : UInt64} (h : Dy i k a) (e : i * 2 ^ l = j * 2 ^ k) : Dy j l a := Dyf.to h e
theorem Dy.up {i : Int} {k : Nat} {a : UInt64} (h : Dy i k a) (l : Nat) : Dy (i * 2 ^ l) (k + l) a := Dyf.up h l
theorem Dy.add {i j : Int} {k : Nat} {a b : UInt64} (ha : Dy i k a) (hb : Dy j k b) (hi : (i + j).natAbs < 9007199254740992) (hk : k ≤ 1074) : Dy (i + j) k (FP.dadd a b) := by
  show Dyf b64 _ _ (val64 (dadd a b))
  rw [val64_dadd]
  exact Dyf.sum good_b64 qm64 (val64_fits a) (val64_fits b) ha hb hi (by rw [qmin_b64]; omega)
theorem Dy.sub {i j : Int} {k : Nat} {a b : UInt64} (ha : Dy i k a) (hb : Dy j k b) (hi : (i - j).natAbs < 9007199254740992) (hk : k ≤ 1074) : Dy (i - j) k (FP.dsub a b) := by
  show Dyf b64 _ _ (val64 (dsub a b))
  rw [val64_dsub]
  exact Dyf.sum good_b64 qm64 (val64_fits a) (negate_fits (val64_fits b)) ha hb.neg hi (by rw [qmin_b64]; omega)
theorem Dy.mul {i j : Int} {k l : Nat} {a b : UInt64} (ha : Dy i k a) (hb : Dy j l b) (hi : (i * j).natAbs < 9007199254740992) (hk : k + l ≤ 1074) : Dy (i * j) (k + l) (FP.dmul a b) := by
  show Dyf b64 _ _ (val64 (dmul a b))
  rw [val64_dmul]
  exact Dyf.prod good_b64 qm64 (val64_fits a) (val64_fits b) ha hb hi (by rw [qmin_b64]; omega)
theorem Dy.div {i j n : Int} {k l m : Nat} {a b : UInt64} (ha : Dy i k a) (hb : Dy j l b) (hj : j ≠ 0) (hi : n.natAbs < 9007199254740992) (hk : m ≤ 1074) (e : i * 2 ^ l * 2 ^ m = n * j * 2 ^ k) : Dy n m (FP.ddiv a b) := by
  show Dyf b64 _ _ (val64 (ddiv a b))
  rw [val64_ddiv]
  exact Dyf.quot good_b64 qm64 (val64_fits a) (val64_fits b) ha hb hj hi (by rw [qmin_b64]; omega) e
theorem Dy.neg {i : Int} {k : Nat} {a : UInt64} (ha : Dy i k a) : Dy (-i) k (FP.dneg a) := by
  show Dyf b64 _ _ (val64 (FP.dneg a))
  rw [Jvm.FP.val64_dneg]
  exact Dyf.neg ha
theorem Dy.i2d (x : Int32) : Dy x.toInt 0 (FP.i2d x) := by
  show Dyf b64 _ _ (val64 (FP.Core.i2d x))
  rw [val64_i2d]
  exact Dyf.ofInt good_b64 qm64 (by have := int32_abs x; show _ < 2 ^ 53; omega)
theorem Dy.l2d {x : Int64} (h : x.toInt.natAbs < 9007199254740992) : Dy x.toInt 0 (FP.l2d x) := by
  show Dyf b64 _ _ (val64 (FP.Core.l2d x))
  rw [val64_l2d]
  exact Dyf.ofInt good_b64 qm64 h
theorem Dy.cmp {i j : Int} {k : Nat} {a b : UInt64} (ha : Dy i k a) (hb : Dy j k b) : FP.dcmp a b = some (compare i j) :=
  Dyf.order good_b64 (val64_fits a) (val64_fits b) ha hb
theorem Dy.cmp_eq {i j : Int} {k : Nat} {a b : UInt64} (ha : Dy i k a) (hb : Dy j k b) (e : i = j) (o : ClassFile.CmpOp) : cmpValue (FP.dcmp a b) o = 0 := by
  rw [ha.cmp hb, e, compare_self_int]; rfl
theorem Dy.cmp_lt {i j : Int} {k : Nat} {a b : UInt64} (ha : Dy i k a) (hb : Dy j k b) (e : i < j) (o : ClassFile.CmpOp) : cmpValue (FP.dcmp a b) o = -1 := by
  rw [ha.cmp hb, show compare i j = .lt by rw [compare_ite, if_pos e]]; rfl
theorem Dy.cmp_gt {i j : Int} {k : Nat} {a b : UInt64} (ha : Dy i k a) (hb : Dy j k b) (e : j < i) (o : ClassFile.CmpOp) : cmpValue (FP.dcmp a b) o = 1 := by
  rw [ha.cmp hb, show compare i j = .gt by rw [compare_ite, if_neg (by omega), if_neg (by omega)]]; rfl
theorem dy_of {i : Int} {k : Nat} {a : UInt64} {s : Bool} {c : Nat} {q : Int} (h : val64 a = .fin s c q) (e : zval b64 (.fin s c q) * 2 ^ k = i * 2 ^ 1074) : Dy i k a :=
  ⟨⟨s, c, q, h⟩, by rw [h, e]; rfl⟩
theorem dy0 (k : Nat) : Dy 0 k (0 : UInt64) := dy_of (s := false) (c := 0) (q := -1074) (by decide +kernel) (by
  rw [show zval b64 (.fin false 0 (-1074)) = 0 from rfl, Int.zero_mul, Int.zero_mul])
theorem dy1 (k : Nat) : Dy (2 ^ k) k (4607182418800017408 : UInt64) := dy_of (s := false) (c := 2 ^ 52) (q := -52) (by decide +kernel) (by
  rw [show zval b64 (.fin false (2 ^ 52) (-52)) = 2 ^ 1074 by decide +kernel, Int.mul_comm])
theorem Dy.ge {i j : Int} {k : Nat} {a b : UInt64} (ha : Dy i k a) (hb : Dy j k b) (e : j ≤ i) (o : ClassFile.CmpOp) : ¬ (cmpValue (FP.dcmp a b) o < (0 : Int32)) := by
  rcases Int.lt_or_eq_of_le e with h | h
  · rw [ha.cmp_gt hb h]; decide
  · rw [ha.cmp_eq hb h.symm]; decide
theorem Dy.le {i j : Int} {k : Nat} {a b : UInt64} (ha : Dy i k a) (hb : Dy j k b) (e : i ≤ j) (o : ClassFile.CmpOp) : ¬ ((0 : Int32) < cmpValue (FP.dcmp a b) o) := by
  rcases Int.lt_or_eq_of_le e with h | h
  · rw [ha.cmp_lt hb h]; decide
  · rw [ha.cmp_eq hb h]; decide
theorem Dy.lt_inf {i : Int} {k : Nat} {a : UInt64} (ha : Dy i k a) (o : ClassFile.CmpOp) : cmpValue (FP.dcmp a (9218868437227405312 : UInt64)) o < (0 : Int32) := by
  rw [Jvm.RoadKit.dcmp_pinf (Jvm.Free.Fl.fin64_core.mpr ha.1)]; decide
theorem isfin {a : UInt64} (h : DFin a) : ¬ ((0 : Int32) < cmpValue (FP.dcmp (a &&& 0x7fffffffffffffff) (9218868437227405311 : UInt64)) .g) := by
  have hn : dIsNaN a = false := (notNaN_iff a).mpr (by obtain ⟨s, c, q, e⟩ := h; rw [e]; exact nofun)
  rcases (le_max hn).mpr h with e | e <;> rw [show FP.dcmp (a &&& 0x7fffffffffffffff) (9218868437227405311 : UInt64) = _ from e] <;> decide
theorem since0 (s : State) : s.Since s.vm 0 := ⟨State.Warmed39.refl s, fun j p h1 h2 => by
  rw [Array.getElem?_eq_none h1] at h2; cases h2⟩
theorem i2d_nz {v : Int32} (h : v ≠ 0) : ¬ DZero (FP.i2d v) := fun q => i2d_ne_zero h ((zero_bits2 _).mp q)
theorem nn_of {x : UInt64} (h : dIsNaN x = false) : Jvm.Free.Fl.NoNaN64 x := Jvm.Free.Fl.noNaN64_no.mpr h
theorem no_of {x : UInt64} (h : Jvm.Free.Fl.NoNaN64 x) : dIsNaN x = false := Jvm.Free.Fl.noNaN64_no.mp h
theorem no_fin {x : UInt64} (h : DFin x) : dIsNaN x = false := (notNaN_iff x).mpr (by obtain ⟨s, c, q, e⟩ := h; rw [e]; exact nofun)
theorem nn_div {a : UInt64} {v : Int32} (ha : dIsNaN a = false) (h : v ≠ 0) : Jvm.Free.Fl.NoNaN64 (FP.ddiv a (FP.i2d v)) := nn_of (ddiv_out ha (i2d_fin v) (i2d_nz h))
theorem fin_div (a : Int32) {v : Int32} (h : v ≠ 0) : DFin (FP.ddiv (FP.i2d a) (FP.i2d v)) := by
  have h1 := i2d_mag a
  have h2 := i2d_big (v := v) (fun q => h (Int32.toInt_inj.mp q))
  exact fin_of_lt (ddiv_mag h1 h2.1 h2.2 (by decide) (by decide)) (by decide)
end Jvm.OwnFp
namespace Jvm.Pilot.@@N@@
open Jvm Jvm.ClassFile Sem Op Lib Jvm.Free Jvm.Stand Jvm.LawKit Jvm.RoadKit Bundle Jvm.Pilot.@@N@@.Jvm.D
open Jvm.OwnFp
def own_bl (p q : Int32) (u0 u1 u2 : UInt64) (c0 c1 c2 c3 c4 c5 : Int32) : Int32 :=
  if (cmpValue (FP.dcmp (if q = 0 then u0 else if q = 1 then u1 else u2) (0 : UInt64)) .l) = 0 then 1 else if (if p = 0 then (if q = 0 then c0 else if q = 1 then c1 else c2) else (if q = 0 then c3 else if q = 1 then c4 else c5)) = 0 then 0 else 1
theorem own_lit (n : Int32) (k : Nat) (h : 0 ≤ n.toInt ∧ n.toInt ≤ k) : n = Int32.ofInt (n.toInt.toNat : Int) ∧ n.toInt.toNat ≤ k := ⟨by rw [show ((n.toInt.toNat : Nat) : Int) = n.toInt by omega, Int32.ofInt_toInt], by omega⟩
theorem own_3 {n : Int32} (h : 0 ≤ n.toInt ∧ n.toInt ≤ 2) : n = (0 : Int32) ∨ n = (1 : Int32) ∨ n = (2 : Int32) := by
  obtain ⟨e, k⟩ := own_lit n 2 h
  generalize n.toInt.toNat = m at e k
  match m, k with
  | 0, _ => exact Or.inl e
  | 1, _ => exact Or.inr (Or.inl e)
  | 2, _ => exact Or.inr (Or.inr e)
theorem own_m4 (x n : Int32) (h : n = (x &&& (3 : Int32))) : 0 ≤ n.toInt ∧ n.toInt ≤ 3 := by
  have m := c_and x 3 (by decide); rw [← h, show (3 : Int32).toInt = 3 by decide] at m; exact m
theorem own_m2 (x n : Int32) (h : n = (x &&& (1 : Int32))) : n = (0 : Int32) ∨ n = (1 : Int32) := by
  have m := c_and x 1 (by decide); rw [← h, show (1 : Int32).toInt = 1 by decide] at m
  rcases own_3 (n := n) ⟨m.1, by omega⟩ with e | e | e
  · exact Or.inl e
  · exact Or.inr e
  · rw [e, show (2 : Int32).toInt = 2 by decide] at m; omega
theorem own_r3 (x n : Int32) (h : n = ((x &&& (2147483647 : Int32)) % (3 : Int32))) : n = (0 : Int32) ∨ n = (1 : Int32) ∨ n = (2 : Int32) := by
  have j1 := c_and x 2147483647 (by decide)
  have m := (c_irem (x &&& 2147483647) 3 3 (by decide)).1 j1.1
  rw [← h] at m; exact own_3 (by omega)
theorem own_q3 (x n : Int32) (h : n = ((x.toUInt32 >>> ((1 : Int32) &&& 31).toUInt32).toInt32 % (3 : Int32))) : n = (0 : Int32) ∨ n = (1 : Int32) ∨ n = (2 : Int32) := by
  have u := c_iushr x 1 1 (by decide) (by decide)
  have r := rng32 x
  have g : 0 ≤ ((x.toUInt32 >>> ((1 : Int32) &&& 31).toUInt32).toInt32).toInt := by rw [u]; omega
  have m := (c_irem ((x.toUInt32 >>> ((1 : Int32) &&& 31).toUInt32).toInt32) 3 3 (by decide)).1 g
  rw [← h] at m; exact own_3 (by omega)
theorem own_cinf : cmpValue (FP.dcmp (9218868437227405312 : UInt64) (0 : UInt64)) .l = (1 : Int32) := by
  rw [dcmp_pinf' (Jvm.Free.Fl.fin64_core.mpr (dy0 0).fin)]
theorem own_cv {v : Int32} (B : 0 ≤ v.toInt ∧ v.toInt ≤ 3) : (cmpValue (FP.dcmp (FP.i2d v) (0 : UInt64)) .l) = (0 : Int32) ↔ v = 0 := by
  constructor
  · intro h
    apply Int32.toInt_inj.mp
    rw [show (0 : Int32).toInt = 0 by decide]
    rcases Int.lt_or_eq_of_le B.1 with g | g
    · rw [Dy.cmp_gt (Dy.i2d v) (dy0 0) g] at h; exact absurd h (by decide)
    · exact g.symm
  · rintro rfl; exact Dy.cmp_eq (Dy.i2d 0) (dy0 0) (by decide) .l
theorem own_fin {v sc ca cc qa qc B1 B2 : Int32} {vv s0 s1 s2 : UInt64} {x0 x1 x2 x3 x4 x5 : Int32} (Bv : 0 ≤ v.toInt ∧ v.toInt ≤ 3) (Bsc : sc = (0 : Int32) ∨ sc = (1 : Int32) ∨ sc = (2 : Int32)) (Bca : ca = (0 : Int32) ∨ ca = (1 : Int32)) (Bcc : cc = (0 : Int32) ∨ cc = (1 : Int32) ∨ cc = (2 : Int32)) (Bqa : qa = (0 : Int32) ∨ qa = (1 : Int32)) (Bqc : qc = (0 : Int32) ∨ qc = (1 : Int32) ∨ qc = (2 : Int32)) (hvv : vv = FP.i2d v)
    (hs0 : s0 = (if B1 = (0 : Int32) then (9218868437227405312 : UInt64) else (if sc = (0 : Int32) then vv else (9218868437227405312 : UInt64)))) (hs1 : s1 = (if B1 = (0 : Int32) then (9218868437227405312 : UInt64) else (if sc = (1 : Int32) then vv else (9218868437227405312 : UInt64)))) (hs2 : s2 = (if B1 = (0 : Int32) then (9218868437227405312 : UInt64) else (if sc = (2 : Int32) then vv else (9218868437227405312 : UInt64)))) (hx0 : x0 = (if B2 = (0 : Int32) then (0 : Int32) else (if ca = (0 : Int32) ∧ cc = (0 : Int32) then (1 : Int32) else (0 : Int32)))) (hx1 : x1 = (if B2 = (0 : Int32) then (0 : Int32) else (if ca = (0 : Int32) ∧ cc = (1 : Int32) then (1 : Int32) else (0 : Int32)))) (hx2 : x2 = (if B2 = (0 : Int32) then (0 : Int32) else (if ca = (0 : Int32) ∧ cc = (2 : Int32) then (1 : Int32) else (0 : Int32)))) (hx3 : x3 = (if B2 = (0 : Int32) then (0 : Int32) else (if ca = (1 : Int32) ∧ cc = (0 : Int32) then (1 : Int32) else (0 : Int32)))) (hx4 : x4 = (if B2 = (0 : Int32) then (0 : Int32) else (if ca = (1 : Int32) ∧ cc = (1 : Int32) then (1 : Int32) else (0 : Int32)))) (hx5 : x5 = (if B2 = (0 : Int32) then (0 : Int32) else (if ca = (1 : Int32) ∧ cc = (2 : Int32) then (1 : Int32) else (0 : Int32)))) : own_bl qa qc s0 s1 s2 x0 x1 x2 x3 x4 x5 = (if (if B1 = (0 : Int32) then (0 : Int32) else (if sc = qc then (if v = (0 : Int32) then (1 : Int32) else (0 : Int32)) else (0 : Int32))) = (0 : Int32) then (if (if B2 = (0 : Int32) then (0 : Int32) else (if ca = qa then (if cc = qc then (1 : Int32) else (0 : Int32)) else (0 : Int32))) = (0 : Int32) then (0 : Int32) else (1 : Int32)) else (1 : Int32)) := by
  have cv := own_cv Bv
  rw [← hvv] at cv
  have ci := own_cinf
  subst hs0 hs1 hs2 hx0 hx1 hx2 hx3 hx4 hx5
  by_cases b1 : B1 = (0 : Int32) <;> by_cases b2 : B2 = (0 : Int32) <;> by_cases z : v = (0 : Int32) <;> simp only [z, iff_true, iff_false] at cv <;>
    rcases Bqa with rfl | rfl <;> rcases Bqc with rfl | rfl | rfl <;> rcases Bsc with rfl | rfl | rfl <;> rcases Bca with rfl | rfl <;> rcases Bcc with rfl | rfl | rfl <;> simp [own_bl, b1, b2, z, cv, ci]
theorem ef_1_RII (m : MethodId) (x0 : Addr) (x1 : Int32) (x2 : Int32) : entryFrame m #[(.ref x0), (.int x1), (.int x2)] 3 = mkF m 0 #[.val (.ref x0), .val (.int x1), .val (.int x2)] [] := by first | (simp [entryFrame, mkF, argsToLocals, Value.category]; done) | rfl
theorem d1_0 : decode prog_40_method_1_code 0 = .ok (.aload_n 0, 1) := by decide +kernel
theorem d1_1 : decode prog_40_method_1_code 1 = .ok (.invokespecial 1, 3) := by decide +kernel
theorem d1_4 : decode prog_40_method_1_code 4 = .ok (.aload_n 0, 1) := by decide +kernel
theorem d1_5 : decode prog_40_method_1_code 5 = .ok (.iload_n 1, 1) := by decide +kernel
theorem d1_6 : decode prog_40_method_1_code 6 = .ok (.iload_n 2, 1) := by decide +kernel
theorem d1_7 : decode prog_40_method_1_code 7 = .ok (.imul, 1) := by decide +kernel
theorem d1_8 : decode prog_40_method_1_code 8 = .ok (.newarray .double, 2) := by decide +kernel
theorem d1_10 : decode prog_40_method_1_code 10 = .ok (.putfield 7, 3) := by decide +kernel
theorem d1_13 : decode prog_40_method_1_code 13 = .ok (.aload_n 0, 1) := by decide +kernel
theorem d1_14 : decode prog_40_method_1_code 14 = .ok (.iload_n 1, 1) := by decide +kernel
theorem d1_15 : decode prog_40_method_1_code 15 = .ok (.iload_n 2, 1) := by decide +kernel
theorem d1_16 : decode prog_40_method_1_code 16 = .ok (.imul, 1) := by decide +kernel
theorem d1_17 : decode prog_40_method_1_code 17 = .ok (.newarray .double, 2) := by decide +kernel
theorem d1_19 : decode prog_40_method_1_code 19 = .ok (.putfield 13, 3) := by decide +kernel
theorem d1_22 : decode prog_40_method_1_code 22 = .ok (.aload_n 0, 1) := by decide +kernel
theorem d1_23 : decode prog_40_method_1_code 23 = .ok (.iload_n 1, 1) := by decide +kernel
theorem d1_24 : decode prog_40_method_1_code 24 = .ok (.iload_n 2, 1) := by decide +kernel
theorem d1_25 : decode prog_40_method_1_code 25 = .ok (.imul, 1) := by decide +kernel
theorem d1_26 : decode prog_40_method_1_code 26 = .ok (.newarray .double, 2) := by decide +kernel
theorem d1_28 : decode prog_40_method_1_code 28 = .ok (.putfield 16, 3) := by decide +kernel
theorem d1_31 : decode prog_40_method_1_code 31 = .ok (.aload_n 0, 1) := by decide +kernel
theorem d1_32 : decode prog_40_method_1_code 32 = .ok (.iload_n 2, 1) := by decide +kernel
theorem d1_33 : decode prog_40_method_1_code 33 = .ok (.newarray .double, 2) := by decide +kernel
theorem d1_35 : decode prog_40_method_1_code 35 = .ok (.putfield 19, 3) := by decide +kernel
theorem d1_38 : decode prog_40_method_1_code 38 = .ok (.aload_n 0, 1) := by decide +kernel
theorem d1_39 : decode prog_40_method_1_code 39 = .ok (.iload_n 2, 1) := by decide +kernel
theorem d1_40 : decode prog_40_method_1_code 40 = .ok (.newarray .double, 2) := by decide +kernel
theorem d1_42 : decode prog_40_method_1_code 42 = .ok (.putfield 22, 3) := by decide +kernel
theorem d1_45 : decode prog_40_method_1_code 45 = .ok (.aload_n 0, 1) := by decide +kernel
theorem d1_46 : decode prog_40_method_1_code 46 = .ok (.iload_n 2, 1) := by decide +kernel
theorem d1_47 : decode prog_40_method_1_code 47 = .ok (.newarray .double, 2) := by decide +kernel
theorem d1_49 : decode prog_40_method_1_code 49 = .ok (.putfield 25, 3) := by decide +kernel
theorem d1_52 : decode prog_40_method_1_code 52 = .ok (.aload_n 0, 1) := by decide +kernel
theorem d1_53 : decode prog_40_method_1_code 53 = .ok (.iload_n 2, 1) := by decide +kernel
theorem d1_54 : decode prog_40_method_1_code 54 = .ok (.newarray .double, 2) := by decide +kernel
theorem d1_56 : decode prog_40_method_1_code 56 = .ok (.putfield 28, 3) := by decide +kernel
theorem d1_59 : decode prog_40_method_1_code 59 = .ok (.aload_n 0, 1) := by decide +kernel
theorem d1_60 : decode prog_40_method_1_code 60 = .ok (.iload_n 2, 1) := by decide +kernel
theorem d1_61 : decode prog_40_method_1_code 61 = .ok (.newarray .double, 2) := by decide +kernel
theorem d1_63 : decode prog_40_method_1_code 63 = .ok (.putfield 31, 3) := by decide +kernel
theorem d1_66 : decode prog_40_method_1_code 66 = .ok (.aload_n 0, 1) := by decide +kernel
theorem d1_67 : decode prog_40_method_1_code 67 = .ok (.iload_n 2, 1) := by decide +kernel
theorem d1_68 : decode prog_40_method_1_code 68 = .ok (.newarray .boolean, 2) := by decide +kernel
theorem d1_70 : decode prog_40_method_1_code 70 = .ok (.putfield 34, 3) := by decide +kernel
theorem d1_73 : decode prog_40_method_1_code 73 = .ok (.aload_n 0, 1) := by decide +kernel
theorem d1_74 : decode prog_40_method_1_code 74 = .ok (.iload_n 1, 1) := by decide +kernel
theorem d1_75 : decode prog_40_method_1_code 75 = .ok (.newarray .boolean, 2) := by decide +kernel
theorem d1_77 : decode prog_40_method_1_code 77 = .ok (.putfield 38, 3) := by decide +kernel
theorem d1_80 : decode prog_40_method_1_code 80 = .ok (.aload_n 0, 1) := by decide +kernel
theorem d1_81 : decode prog_40_method_1_code 81 = .ok (.iload_n 1, 1) := by decide +kernel
theorem d1_82 : decode prog_40_method_1_code 82 = .ok (.iload_n 2, 1) := by decide +kernel
theorem d1_83 : decode prog_40_method_1_code 83 = .ok (.imul, 1) := by decide +kernel
theorem d1_84 : decode prog_40_method_1_code 84 = .ok (.newarray .boolean, 2) := by decide +kernel
theorem d1_86 : decode prog_40_method_1_code 86 = .ok (.putfield 41, 3) := by decide +kernel
theorem d1_89 : decode prog_40_method_1_code 89 = .ok (.aload_n 0, 1) := by decide +kernel
theorem d1_90 : decode prog_40_method_1_code 90 = .ok (.iload_n 1, 1) := by decide +kernel
theorem d1_91 : decode prog_40_method_1_code 91 = .ok (.newarray .int, 2) := by decide +kernel
theorem d1_93 : decode prog_40_method_1_code 93 = .ok (.putfield 44, 3) := by decide +kernel
theorem d1_96 : decode prog_40_method_1_code 96 = .ok (.aload_n 0, 1) := by decide +kernel
theorem d1_97 : decode prog_40_method_1_code 97 = .ok (.iload_n 1, 1) := by decide +kernel
theorem d1_98 : decode prog_40_method_1_code 98 = .ok (.newarray .boolean, 2) := by decide +kernel
theorem d1_100 : decode prog_40_method_1_code 100 = .ok (.putfield 48, 3) := by decide +kernel
theorem d1_103 : decode prog_40_method_1_code 103 = .ok (.return_, 1) := by decide +kernel
def Q_rm1 (Z : State) (a1 : Addr) (h0 : Heap) (n0 : Nat) (v : Option Value) (h : Heap) (L : List Loc) : Prop := ∃ (b1 b2 : Addr) (k1 k2 : ClassId), v = none ∧ Fr n0 L ∧ Keep h0 h [a1] ∧ n0 ≤ b1 ∧ n0 ≤ b2 ∧ a1 ≠ b1 ∧ a1 ≠ b2 ∧ b1 ≠ b2 ∧ Exa Z h a1 "com/example/istra/istra/engine/NodeModel" ∧ Fld Z h a1 "com/example/istra/istra/engine/NodeModel" "supply" "[D" (.ref b1) ∧ Fld Z h a1 "com/example/istra/istra/engine/NodeModel" "closed" "[Z" (.ref b2) ∧ Fld Z h a1 "com/example/istra/istra/engine/NodeModel" "wantingCount" "I" (.int (0 : Int32)) ∧ Fld Z h a1 "com/example/istra/istra/engine/NodeModel" "approaches" "I" (.int (0 : Int32)) ∧ Fld Z h a1 "com/example/istra/istra/engine/NodeModel" "columns" "I" (.int (0 : Int32)) ∧ Fld Z h a1 "com/example/istra/istra/engine/NodeModel" "anyClosed" "Z" (.int (0 : Int32)) ∧ Arv Z h b1 k1 .double (3 : Int32) [(.double (0 : UInt64)), (.double (0 : UInt64)), (.double (0 : UInt64))] (.double (0 : UInt64)) ∧ Arv Z h b2 k2 .boolean (6 : Int32) [(.int (0 : Int32)), (.int (0 : Int32)), (.int (0 : Int32)), (.int (0 : Int32)), (.int (0 : Int32)), (.int (0 : Int32))] (.int (0 : Int32))
theorem pn_com_2fexample_2fistra_2fistra_2fengine_2fNodeModel : plainName "com/example/istra/istra/engine/NodeModel" = true := by first | (simp [plainName, overriddenIn]; done) | decide +kernel
set_option maxRecDepth 65536 in
set_option maxHeartbeats 40000000 in
theorem rm1 (l : Launch) (Z : State) (a0 : Array Value) (hw : ∀ d ∈ tables_1, d.before a0 Z = true) (ws : List Jvm.Cond) (a1 : Addr) (h0 : Heap) (n0 : Nat) (Z0 : n0 ≤ h0.size) (F_demand : Fld Z h0 a1 "com/example/istra/istra/engine/NodeModel" "demand" "[D" .null) (F_moved : Fld Z h0 a1 "com/example/istra/istra/engine/NodeModel" "moved" "[D" .null) (F_left : Fld Z h0 a1 "com/example/istra/istra/engine/NodeModel" "left" "[D" .null) (F_supply : Fld Z h0 a1 "com/example/istra/istra/engine/NodeModel" "supply" "[D" .null) (F_room : Fld Z h0 a1 "com/example/istra/istra/engine/NodeModel" "room" "[D" .null) (F_wanted : Fld Z h0 a1 "com/example/istra/istra/engine/NodeModel" "wanted" "[D" .null) (F_fraction : Fld Z h0 a1 "com/example/istra/istra/engine/NodeModel" "fraction" "[D" .null) (F_given : Fld Z h0 a1 "com/example/istra/istra/engine/NodeModel" "given" "[D" .null) (F_spare : Fld Z h0 a1 "com/example/istra/istra/engine/NodeModel" "spare" "[Z" .null) (F_finished : Fld Z h0 a1 "com/example/istra/istra/engine/NodeModel" "finished" "[Z" .null) (F_closed : Fld Z h0 a1 "com/example/istra/istra/engine/NodeModel" "closed" "[Z" .null) (F_wanting : Fld Z h0 a1 "com/example/istra/istra/engine/NodeModel" "wanting" "[I" .null) (F_listed : Fld Z h0 a1 "com/example/istra/istra/engine/NodeModel" "listed" "[Z" .null) (F_wantingCount : Fld Z h0 a1 "com/example/istra/istra/engine/NodeModel" "wantingCount" "I" (.int (0 : Int32))) (F_approaches : Fld Z h0 a1 "com/example/istra/istra/engine/NodeModel" "approaches" "I" (.int (0 : Int32))) (F_columns : Fld Z h0 a1 "com/example/istra/istra/engine/NodeModel" "columns" "I" (.int (0 : Int32))) (F_anyClosed : Fld Z h0 a1 "com/example/istra/istra/engine/NodeModel" "anyClosed" "Z" (.int (0 : Int32))) (E1 : Exa Z h0 a1 "com/example/istra/istra/engine/NodeModel") (ga : n0 ≤ a1) :
    MetFree l (⟨"com/example/istra/istra/engine/NodeModel", "<init>", "(II)V"⟩ : MethodName) (head1 (Jvm.Cond.code (⟨"com/example/istra/istra/engine/NodeModel", "<init>", "(II)V"⟩ : MethodName) prog_40_method_1_code 3 none :: ws) ({ frames := 1, cells := 13, slots := 48, locals := 12 } : Room)) (fun a U => a = #[(.ref a1), (.int (2 : Int32)), (.int (3 : Int32))] ∧ Z.Warmed39 U.vm ∧ U.heap = h0) (fun _ _ _ _ _ => True) (fun _ U o U' => ∃ v L, o = .returned v ∧ Q_rm1 Z a1 h0 n0 v U'.heap L ∧ FrameEnd U o U' L ({ frames := 1, cells := 13, slots := 48, locals := 12 } : Room).cells ({ frames := 1, cells := 13, slots := 48, locals := 12 } : Room).slots) := by
  refine MetFree.of_bodySF (plainFor_of_name pn_com_2fexample_2fistra_2fistra_2fengine_2fNodeModel) hisR ?_
  intro p e s m args below meth c s₁ Bd hml0 hP hK
  obtain ⟨rfl, hZ, hh⟩ := hP
  have hx := Bd.exec
  have hby := Bd.bytes
  have hml : c.maxLocals = 3 := hml0
  have hown : s.vm.findClass "com/example/istra/istra/engine/NodeModel" = some m.cls := findClass_of_methodNamed Bd.named
  have hnm := (name_of_methodNamed Bd.named Bd.method).1
  have X0 : Stand p l e ({ frames := 1, cells := 13, slots := 48, locals := 12 } : Room) s m #[(.ref a1), (.int (2 : Int32)), (.int (3 : Int32))] below meth c s₁ [] 0 0 := Stand.of_body Bd
  have e0 : s₁.heap = h0 := by rw [← hh, Bd.state]; rfl
  have N0 := Fr.nil n0
  have k0 : ∀ t, Steps p.tables e below (s₁.setTop (mkF m 0 #[.val (.ref a1), .val (.int (2 : Int32)), .val (.int (3 : Int32))] [])) t → Steps p.tables e below (s₁.setTop (entryFrame m #[(.ref a1), (.int (2 : Int32)), (.int (3 : Int32))] 3)) t := fun t k => castTop (ef_1_RII m a1 (2 : Int32) (3 : Int32)) k
  have K0 := Keep.refl h0 [a1]
  have k101 : ∀ t, Steps p.tables e below (s₁.setTop (mkF m 1 #[.val (.ref a1), .val (.int (2 : Int32)), .val (.int (3 : Int32))] [(.ref a1)])) t → Steps p.tables e below (s₁.setTop (entryFrame m #[(.ref a1), (.int (2 : Int32)), (.int (3 : Int32))] 3)) t := fun t k => k0 t (by
    show Steps p.tables e below (s₁.setTop (mkF m 0 #[.val (.ref a1), .val (.int (2 : Int32)), .val (.int (3 : Int32))] [])) _
    refine XS.aloadN X0.here hx rfl (hb hby d1_0) rfl rfl ?_
    exact k)
  obtain ⟨T102, X102, e102, st102⟩ := initO X0 hx hZ hown (hw _ (List.mem_of_getElem? (i := 7) rfl)) (hw _ (List.mem_of_getElem? (i := 8) rfl)) (hw _ (List.mem_of_getElem? (i := 9) rfl)) e0 (g := (mkF m 1 #[.val (.ref a1), .val (.int (2 : Int32)), .val (.int (3 : Int32))] [(.ref a1)])) rfl (by rw [hml]; rfl) rfl (hb hby d1_1) (by decide) (W := 0) (by show 2 * 0 + _ ≤ _; exact Nat.le_of_eq rfl) (by decide)
  have k103 : ∀ t, Steps p.tables e below (T102.setTop (mkF m 4 #[.val (.ref a1), .val (.int (2 : Int32)), .val (.int (3 : Int32))] [])) t → Steps p.tables e below (s₁.setTop (entryFrame m #[(.ref a1), (.int (2 : Int32)), (.int (3 : Int32))] 3)) t := fun t k => k101 t (st102 t k)
  have k104 : ∀ t, Steps p.tables e below (T102.setTop (mkF m 8 #[.val (.ref a1), .val (.int (2 : Int32)), .val (.int (3 : Int32))] [(.int (6 : Int32)), (.ref a1)])) t → Steps p.tables e below (s₁.setTop (entryFrame m #[(.ref a1), (.int (2 : Int32)), (.int (3 : Int32))] 3)) t := fun t k => k103 t (by
    show Steps p.tables e below (T102.setTop (mkF m 4 #[.val (.ref a1), .val (.int (2 : Int32)), .val (.int (3 : Int32))] [])) _
    refine XS.aloadN X102.here hx rfl (hb hby d1_4) rfl rfl ?_
    show Steps p.tables e below (T102.setTop (mkF m 5 #[.val (.ref a1), .val (.int (2 : Int32)), .val (.int (3 : Int32))] [(.ref a1)])) _
    refine XS.iloadN X102.here hx rfl (hb hby d1_5) rfl ?_
    show Steps p.tables e below (T102.setTop (mkF m 6 #[.val (.ref a1), .val (.int (2 : Int32)), .val (.int (3 : Int32))] [(.int (2 : Int32)), (.ref a1)])) _
    refine XS.iloadN X102.here hx rfl (hb hby d1_6) rfl ?_
    show Steps p.tables e below (T102.setTop (mkF m 7 #[.val (.ref a1), .val (.int (2 : Int32)), .val (.int (3 : Int32))] [(.int (3 : Int32)), (.int (2 : Int32)), (.ref a1)])) _
    refine XS.imul X102.here hx rfl (hb hby d1_7) rfl ?_
    show Steps p.tables e below (T102.setTop (mkF m 8 #[.val (.ref a1), .val (.int (2 : Int32)), .val (.int (3 : Int32))] [(.int ((2 : Int32) * (3 : Int32))), (.ref a1)])) _
    refine castTop (g' := (mkF m 8 #[.val (.ref a1), .val (.int (2 : Int32)), .val (.int (3 : Int32))] [(.int (6 : Int32)), (.ref a1)])) (by rw [show ((2 : Int32) * (3 : Int32)) = (6 : Int32) by decide]) ?_
    exact k)
  obtain ⟨T105, h105, k105, X105, e105, E105, A105, st105⟩ := newP X102 hx hZ (hw _ (List.mem_of_getElem? (i := 10) rfl)) e102 (g := (mkF m 8 #[.val (.ref a1), .val (.int (2 : Int32)), .val (.int (3 : Int32))] [(.int (6 : Int32)), (.ref a1)])) rfl (hb hby d1_8) rfl (by decide) (cap := 6) (by decide) (by decide) (by decide) (by decide)
  obtain ⟨b105, g105⟩ : ∃ z, z = h0.size := ⟨_, rfl⟩
  rw [← g105] at A105 st105
  have n106 : a1 ≠ b105 := Nat.ne_of_lt (Nat.lt_of_lt_of_le F_demand.lt (Nat.le_of_eq g105.symm))
  have g107 : n0 ≤ b105 := Nat.le_trans Z0 (Nat.le_of_eq g105.symm)
  have z108 : h0.size ≤ b105 := Nat.le_trans K0.1 (Nat.le_of_eq g105.symm)
  have F109 := F_demand.ext E105
  have F110 := F_moved.ext E105
  have F111 := F_left.ext E105
  have F112 := F_supply.ext E105
  have F113 := F_room.ext E105
  have F114 := F_wanted.ext E105
  have F115 := F_fraction.ext E105
  have F116 := F_given.ext E105
  have F117 := F_spare.ext E105
  have F118 := F_finished.ext E105
  have F119 := F_closed.ext E105
  have F120 := F_wanting.ext E105
  have F121 := F_listed.ext E105
  have F122 := F_wantingCount.ext E105
  have F123 := F_approaches.ext E105
  have F124 := F_columns.ext E105
  have F125 := F_anyClosed.ext E105
  have F126 := E1.ext E105
  have Z127 : n0 ≤ h105.size := Nat.le_trans Z0 E105.1
  have K128 := K0.ext E105
  have V129 : Arv Z h105 b105 k105 .double (6 : Int32) [(.double (0 : UInt64)), (.double (0 : UInt64)), (.double (0 : UInt64)), (.double (0 : UInt64)), (.double (0 : UInt64)), (.double (0 : UInt64))] (.double (0 : UInt64)) := (Arv.new A105 (by decide)).pad (pad_rep [] (.double (0 : UInt64)) 6)
  have k130 : ∀ t, Steps p.tables e below (T105.setTop (mkF m 10 #[.val (.ref a1), .val (.int (2 : Int32)), .val (.int (3 : Int32))] [(.ref b105), (.ref a1)])) t → Steps p.tables e below (s₁.setTop (entryFrame m #[(.ref a1), (.int (2 : Int32)), (.int (3 : Int32))] 3)) t := fun t k => k104 t (st105 t k)
  obtain ⟨T131, h131, X131, e131, W131, st131⟩ := putF X105 hx hZ hown (host := "") (Or.inl (hw _ (List.mem_of_getElem? (i := 11) rfl))) Via.refl e105 F109 F126 (Or.inr ⟨(hw _ (List.mem_of_getElem? (i := 12) rfl)), rfl, hnm⟩) (hw _ (List.mem_of_getElem? (i := 2) rfl)) (ty := (.array .double)) (by decide) rfl rfl (g := (mkF m 10 #[.val (.ref a1), .val (.int (2 : Int32)), .val (.int (3 : Int32))] [(.ref b105), (.ref a1)])) rfl rfl (hb hby d1_10)
  have F132 := F109.same W131
  have F133 := F110.other W131 (Or.inr (slot_ne (Or.inr (hw _ (List.mem_of_getElem? (i := 14) rfl))) (Or.inr (hw _ (List.mem_of_getElem? (i := 12) rfl))) (by decide) (t := (.array .double)) (t' := (.array .double)) (by decide) (by decide)))
  have F134 := F111.other W131 (Or.inr (slot_ne (Or.inr (hw _ (List.mem_of_getElem? (i := 16) rfl))) (Or.inr (hw _ (List.mem_of_getElem? (i := 12) rfl))) (by decide) (t := (.array .double)) (t' := (.array .double)) (by decide) (by decide)))
  have F135 := F112.other W131 (Or.inr (slot_ne (Or.inr (hw _ (List.mem_of_getElem? (i := 18) rfl))) (Or.inr (hw _ (List.mem_of_getElem? (i := 12) rfl))) (by decide) (t := (.array .double)) (t' := (.array .double)) (by decide) (by decide)))
  have F136 := F113.other W131 (Or.inr (slot_ne (Or.inr (hw _ (List.mem_of_getElem? (i := 20) rfl))) (Or.inr (hw _ (List.mem_of_getElem? (i := 12) rfl))) (by decide) (t := (.array .double)) (t' := (.array .double)) (by decide) (by decide)))
  have F137 := F114.other W131 (Or.inr (slot_ne (Or.inr (hw _ (List.mem_of_getElem? (i := 22) rfl))) (Or.inr (hw _ (List.mem_of_getElem? (i := 12) rfl))) (by decide) (t := (.array .double)) (t' := (.array .double)) (by decide) (by decide)))
  have F138 := F115.other W131 (Or.inr (slot_ne (Or.inr (hw _ (List.mem_of_getElem? (i := 24) rfl))) (Or.inr (hw _ (List.mem_of_getElem? (i := 12) rfl))) (by decide) (t := (.array .double)) (t' := (.array .double)) (by decide) (by decide)))
  have F139 := F116.other W131 (Or.inr (slot_ne (Or.inr (hw _ (List.mem_of_getElem? (i := 26) rfl))) (Or.inr (hw _ (List.mem_of_getElem? (i := 12) rfl))) (by decide) (t := (.array .double)) (t' := (.array .double)) (by decide) (by decide)))
  have F140 := F117.other W131 (Or.inr (slot_ne (Or.inr (hw _ (List.mem_of_getElem? (i := 29) rfl))) (Or.inr (hw _ (List.mem_of_getElem? (i := 12) rfl))) (by decide) (t := (.array .boolean)) (t' := (.array .double)) (by decide) (by decide)))
  have F141 := F118.other W131 (Or.inr (slot_ne (Or.inr (hw _ (List.mem_of_getElem? (i := 31) rfl))) (Or.inr (hw _ (List.mem_of_getElem? (i := 12) rfl))) (by decide) (t := (.array .boolean)) (t' := (.array .double)) (by decide) (by decide)))
  have F142 := F119.other W131 (Or.inr (slot_ne (Or.inr (hw _ (List.mem_of_getElem? (i := 33) rfl))) (Or.inr (hw _ (List.mem_of_getElem? (i := 12) rfl))) (by decide) (t := (.array .boolean)) (t' := (.array .double)) (by decide) (by decide)))
  have F143 := F120.other W131 (Or.inr (slot_ne (Or.inr (hw _ (List.mem_of_getElem? (i := 36) rfl))) (Or.inr (hw _ (List.mem_of_getElem? (i := 12) rfl))) (by decide) (t := (.array .int)) (t' := (.array .double)) (by decide) (by decide)))
  have F144 := F121.other W131 (Or.inr (slot_ne (Or.inr (hw _ (List.mem_of_getElem? (i := 38) rfl))) (Or.inr (hw _ (List.mem_of_getElem? (i := 12) rfl))) (by decide) (t := (.array .boolean)) (t' := (.array .double)) (by decide) (by decide)))
  have F145 := F122.other W131 (Or.inr (slot_ne (Or.inl (hw _ (List.mem_of_getElem? (i := 45) rfl))) (Or.inr (hw _ (List.mem_of_getElem? (i := 12) rfl))) (by decide) (t := .int) (t' := (.array .double)) (by decide) (by decide)))
  have F146 := F123.other W131 (Or.inr (slot_ne (Or.inl (hw _ (List.mem_of_getElem? (i := 47) rfl))) (Or.inr (hw _ (List.mem_of_getElem? (i := 12) rfl))) (by decide) (t := .int) (t' := (.array .double)) (by decide) (by decide)))
  have F147 := F124.other W131 (Or.inr (slot_ne (Or.inl (hw _ (List.mem_of_getElem? (i := 49) rfl))) (Or.inr (hw _ (List.mem_of_getElem? (i := 12) rfl))) (by decide) (t := .int) (t' := (.array .double)) (by decide) (by decide)))
  have F148 := F125.other W131 (Or.inr (slot_ne (Or.inl (hw _ (List.mem_of_getElem? (i := 52) rfl))) (Or.inr (hw _ (List.mem_of_getElem? (i := 12) rfl))) (by decide) (t := .boolean) (t' := (.array .double)) (by decide) (by decide)))
  have F149 := F126.wr W131
  have F150 := V129.other W131 (Ne.symm n106)
  have Z151 : n0 ≤ h131.size := Nat.le_trans Z127 (Nat.le_of_eq W131.size.symm)
  have N152 := Fr.snoc X131 N0 ga
  have K153 := K128.wr W131 (Or.inl (List.mem_of_getElem? (i := 0) rfl))
  have k154 : ∀ t, Steps p.tables e below (T131.setTop (mkF m 13 #[.val (.ref a1), .val (.int (2 : Int32)), .val (.int (3 : Int32))] [])) t → Steps p.tables e below (s₁.setTop (entryFrame m #[(.ref a1), (.int (2 : Int32)), (.int (3 : Int32))] 3)) t := fun t k => k130 t (st131 t k)
  have k155 : ∀ t, Steps p.tables e below (T131.setTop (mkF m 17 #[.val (.ref a1), .val (.int (2 : Int32)), .val (.int (3 : Int32))] [(.int (6 : Int32)), (.ref a1)])) t → Steps p.tables e below (s₁.setTop (entryFrame m #[(.ref a1), (.int (2 : Int32)), (.int (3 : Int32))] 3)) t := fun t k => k154 t (by
    show Steps p.tables e below (T131.setTop (mkF m 13 #[.val (.ref a1), .val (.int (2 : Int32)), .val (.int (3 : Int32))] [])) _
    refine XS.aloadN X131.here hx rfl (hb hby d1_13) rfl rfl ?_
    show Steps p.tables e below (T131.setTop (mkF m 14 #[.val (.ref a1), .val (.int (2 : Int32)), .val (.int (3 : Int32))] [(.ref a1)])) _
    refine XS.iloadN X131.here hx rfl (hb hby d1_14) rfl ?_
    show Steps p.tables e below (T131.setTop (mkF m 15 #[.val (.ref a1), .val (.int (2 : Int32)), .val (.int (3 : Int32))] [(.int (2 : Int32)), (.ref a1)])) _
    refine XS.iloadN X131.here hx rfl (hb hby d1_15) rfl ?_
    show Steps p.tables e below (T131.setTop (mkF m 16 #[.val (.ref a1), .val (.int (2 : Int32)), .val (.int (3 : Int32))] [(.int (3 : Int32)), (.int (2 : Int32)), (.ref a1)])) _
    refine XS.imul X131.here hx rfl (hb hby d1_16) rfl ?_
    show Steps p.tables e below (T131.setTop (mkF m 17 #[.val (.ref a1), .val (.int (2 : Int32)), .val (.int (3 : Int32))] [(.int ((2 : Int32) * (3 : Int32))), (.ref a1)])) _
    refine castTop (g' := (mkF m 17 #[.val (.ref a1), .val (.int (2 : Int32)), .val (.int (3 : Int32))] [(.int (6 : Int32)), (.ref a1)])) (by rw [show ((2 : Int32) * (3 : Int32)) = (6 : Int32) by decide]) ?_
    exact k)
  obtain ⟨T156, h156, k156, X156, e156, E156, A156, st156⟩ := newP X131 hx hZ (hw _ (List.mem_of_getElem? (i := 10) rfl)) e131 (g := (mkF m 17 #[.val (.ref a1), .val (.int (2 : Int32)), .val (.int (3 : Int32))] [(.int (6 : Int32)), (.ref a1)])) rfl (hb hby d1_17) rfl (by decide) (cap := 6) (by decide) (by decide) (by decide) (by decide)
  obtain ⟨b156, g156⟩ : ∃ z, z = h131.size := ⟨_, rfl⟩
  rw [← g156] at A156 st156
  have n157 : a1 ≠ b156 := Nat.ne_of_lt (Nat.lt_of_lt_of_le F133.lt (Nat.le_of_eq g156.symm))
  have g158 : n0 ≤ b156 := Nat.le_trans Z151 (Nat.le_of_eq g156.symm)
  have z159 : h0.size ≤ b156 := Nat.le_trans K153.1 (Nat.le_of_eq g156.symm)
  have F160 := F133.ext E156
  have F161 := F134.ext E156
  have F162 := F135.ext E156
  have F163 := F136.ext E156
  have F164 := F137.ext E156
  have F165 := F138.ext E156
  have F166 := F139.ext E156
  have F167 := F140.ext E156
  have F168 := F141.ext E156
  have F169 := F142.ext E156
  have F170 := F143.ext E156
  have F171 := F144.ext E156
  have F172 := F145.ext E156
  have F173 := F146.ext E156
  have F174 := F147.ext E156
  have F175 := F148.ext E156
  have F176 := F149.ext E156
  have Z177 : n0 ≤ h156.size := Nat.le_trans Z151 E156.1
  have K178 := K153.ext E156
  have V179 : Arv Z h156 b156 k156 .double (6 : Int32) [(.double (0 : UInt64)), (.double (0 : UInt64)), (.double (0 : UInt64)), (.double (0 : UInt64)), (.double (0 : UInt64)), (.double (0 : UInt64))] (.double (0 : UInt64)) := (Arv.new A156 (by decide)).pad (pad_rep [] (.double (0 : UInt64)) 6)
  have k180 : ∀ t, Steps p.tables e below (T156.setTop (mkF m 19 #[.val (.ref a1), .val (.int (2 : Int32)), .val (.int (3 : Int32))] [(.ref b156), (.ref a1)])) t → Steps p.tables e below (s₁.setTop (entryFrame m #[(.ref a1), (.int (2 : Int32)), (.int (3 : Int32))] 3)) t := fun t k => k155 t (st156 t k)
  obtain ⟨T181, h181, X181, e181, W181, st181⟩ := putF X156 hx hZ hown (host := "") (Or.inl (hw _ (List.mem_of_getElem? (i := 13) rfl))) Via.refl e156 F160 F176 (Or.inr ⟨(hw _ (List.mem_of_getElem? (i := 14) rfl)), rfl, hnm⟩) (hw _ (List.mem_of_getElem? (i := 2) rfl)) (ty := (.array .double)) (by decide) rfl rfl (g := (mkF m 19 #[.val (.ref a1), .val (.int (2 : Int32)), .val (.int (3 : Int32))] [(.ref b156), (.ref a1)])) rfl rfl (hb hby d1_19)
  have F182 := F160.same W181
  have F183 := F161.other W181 (Or.inr (slot_ne (Or.inr (hw _ (List.mem_of_getElem? (i := 16) rfl))) (Or.inr (hw _ (List.mem_of_getElem? (i := 14) rfl))) (by decide) (t := (.array .double)) (t' := (.array .double)) (by decide) (by decide)))
  have F184 := F162.other W181 (Or.inr (slot_ne (Or.inr (hw _ (List.mem_of_getElem? (i := 18) rfl))) (Or.inr (hw _ (List.mem_of_getElem? (i := 14) rfl))) (by decide) (t := (.array .double)) (t' := (.array .double)) (by decide) (by decide)))
  have F185 := F163.other W181 (Or.inr (slot_ne (Or.inr (hw _ (List.mem_of_getElem? (i := 20) rfl))) (Or.inr (hw _ (List.mem_of_getElem? (i := 14) rfl))) (by decide) (t := (.array .double)) (t' := (.array .double)) (by decide) (by decide)))
  have F186 := F164.other W181 (Or.inr (slot_ne (Or.inr (hw _ (List.mem_of_getElem? (i := 22) rfl))) (Or.inr (hw _ (List.mem_of_getElem? (i := 14) rfl))) (by decide) (t := (.array .double)) (t' := (.array .double)) (by decide) (by decide)))
  have F187 := F165.other W181 (Or.inr (slot_ne (Or.inr (hw _ (List.mem_of_getElem? (i := 24) rfl))) (Or.inr (hw _ (List.mem_of_getElem? (i := 14) rfl))) (by decide) (t := (.array .double)) (t' := (.array .double)) (by decide) (by decide)))
  have F188 := F166.other W181 (Or.inr (slot_ne (Or.inr (hw _ (List.mem_of_getElem? (i := 26) rfl))) (Or.inr (hw _ (List.mem_of_getElem? (i := 14) rfl))) (by decide) (t := (.array .double)) (t' := (.array .double)) (by decide) (by decide)))
  have F189 := F167.other W181 (Or.inr (slot_ne (Or.inr (hw _ (List.mem_of_getElem? (i := 29) rfl))) (Or.inr (hw _ (List.mem_of_getElem? (i := 14) rfl))) (by decide) (t := (.array .boolean)) (t' := (.array .double)) (by decide) (by decide)))
  have F190 := F168.other W181 (Or.inr (slot_ne (Or.inr (hw _ (List.mem_of_getElem? (i := 31) rfl))) (Or.inr (hw _ (List.mem_of_getElem? (i := 14) rfl))) (by decide) (t := (.array .boolean)) (t' := (.array .double)) (by decide) (by decide)))
  have F191 := F169.other W181 (Or.inr (slot_ne (Or.inr (hw _ (List.mem_of_getElem? (i := 33) rfl))) (Or.inr (hw _ (List.mem_of_getElem? (i := 14) rfl))) (by decide) (t := (.array .boolean)) (t' := (.array .double)) (by decide) (by decide)))
  have F192 := F170.other W181 (Or.inr (slot_ne (Or.inr (hw _ (List.mem_of_getElem? (i := 36) rfl))) (Or.inr (hw _ (List.mem_of_getElem? (i := 14) rfl))) (by decide) (t := (.array .int)) (t' := (.array .double)) (by decide) (by decide)))
  have F193 := F171.other W181 (Or.inr (slot_ne (Or.inr (hw _ (List.mem_of_getElem? (i := 38) rfl))) (Or.inr (hw _ (List.mem_of_getElem? (i := 14) rfl))) (by decide) (t := (.array .boolean)) (t' := (.array .double)) (by decide) (by decide)))
  have F194 := F172.other W181 (Or.inr (slot_ne (Or.inl (hw _ (List.mem_of_getElem? (i := 45) rfl))) (Or.inr (hw _ (List.mem_of_getElem? (i := 14) rfl))) (by decide) (t := .int) (t' := (.array .double)) (by decide) (by decide)))
  have F195 := F173.other W181 (Or.inr (slot_ne (Or.inl (hw _ (List.mem_of_getElem? (i := 47) rfl))) (Or.inr (hw _ (List.mem_of_getElem? (i := 14) rfl))) (by decide) (t := .int) (t' := (.array .double)) (by decide) (by decide)))
  have F196 := F174.other W181 (Or.inr (slot_ne (Or.inl (hw _ (List.mem_of_getElem? (i := 49) rfl))) (Or.inr (hw _ (List.mem_of_getElem? (i := 14) rfl))) (by decide) (t := .int) (t' := (.array .double)) (by decide) (by decide)))
  have F197 := F175.other W181 (Or.inr (slot_ne (Or.inl (hw _ (List.mem_of_getElem? (i := 52) rfl))) (Or.inr (hw _ (List.mem_of_getElem? (i := 14) rfl))) (by decide) (t := .boolean) (t' := (.array .double)) (by decide) (by decide)))
  have F198 := F176.wr W181
  have F199 := V179.other W181 (Ne.symm n157)
  have Z200 : n0 ≤ h181.size := Nat.le_trans Z177 (Nat.le_of_eq W181.size.symm)
  have N201 := Fr.snoc X181 N152 ga
  have K202 := K178.wr W181 (Or.inl (List.mem_of_getElem? (i := 0) rfl))
  have k203 : ∀ t, Steps p.tables e below (T181.setTop (mkF m 22 #[.val (.ref a1), .val (.int (2 : Int32)), .val (.int (3 : Int32))] [])) t → Steps p.tables e below (s₁.setTop (entryFrame m #[(.ref a1), (.int (2 : Int32)), (.int (3 : Int32))] 3)) t := fun t k => k180 t (st181 t k)
  have k204 : ∀ t, Steps p.tables e below (T181.setTop (mkF m 26 #[.val (.ref a1), .val (.int (2 : Int32)), .val (.int (3 : Int32))] [(.int (6 : Int32)), (.ref a1)])) t → Steps p.tables e below (s₁.setTop (entryFrame m #[(.ref a1), (.int (2 : Int32)), (.int (3 : Int32))] 3)) t := fun t k => k203 t (by
    show Steps p.tables e below (T181.setTop (mkF m 22 #[.val (.ref a1), .val (.int (2 : Int32)), .val (.int (3 : Int32))] [])) _
    refine XS.aloadN X181.here hx rfl (hb hby d1_22) rfl rfl ?_
    show Steps p.tables e below (T181.setTop (mkF m 23 #[.val (.ref a1), .val (.int (2 : Int32)), .val (.int (3 : Int32))] [(.ref a1)])) _
    refine XS.iloadN X181.here hx rfl (hb hby d1_23) rfl ?_
    show Steps p.tables e below (T181.setTop (mkF m 24 #[.val (.ref a1), .val (.int (2 : Int32)), .val (.int (3 : Int32))] [(.int (2 : Int32)), (.ref a1)])) _
    refine XS.iloadN X181.here hx rfl (hb hby d1_24) rfl ?_
    show Steps p.tables e below (T181.setTop (mkF m 25 #[.val (.ref a1), .val (.int (2 : Int32)), .val (.int (3 : Int32))] [(.int (3 : Int32)), (.int (2 : Int32)), (.ref a1)])) _
    refine XS.imul X181.here hx rfl (hb hby d1_25) rfl ?_
    show Steps p.tables e below (T181.setTop (mkF m 26 #[.val (.ref a1), .val (.int (2 : Int32)), .val (.int (3 : Int32))] [(.int ((2 : Int32) * (3 : Int32))), (.ref a1)])) _
    refine castTop (g' := (mkF m 26 #[.val (.ref a1), .val (.int (2 : Int32)), .val (.int (3 : Int32))] [(.int (6 : Int32)), (.ref a1)])) (by rw [show ((2 : Int32) * (3 : Int32)) = (6 : Int32) by decide]) ?_
    exact k)
  obtain ⟨T205, h205, k205, X205, e205, E205, A205, st205⟩ := newP X181 hx hZ (hw _ (List.mem_of_getElem? (i := 10) rfl)) e181 (g := (mkF m 26 #[.val (.ref a1), .val (.int (2 : Int32)), .val (.int (3 : Int32))] [(.int (6 : Int32)), (.ref a1)])) rfl (hb hby d1_26) rfl (by decide) (cap := 6) (by decide) (by decide) (by decide) (by decide)
  obtain ⟨b205, g205⟩ : ∃ z, z = h181.size := ⟨_, rfl⟩
  rw [← g205] at A205 st205
  have n206 : a1 ≠ b205 := Nat.ne_of_lt (Nat.lt_of_lt_of_le F183.lt (Nat.le_of_eq g205.symm))
  have g207 : n0 ≤ b205 := Nat.le_trans Z200 (Nat.le_of_eq g205.symm)
  have z208 : h0.size ≤ b205 := Nat.le_trans K202.1 (Nat.le_of_eq g205.symm)
  have F209 := F183.ext E205
  have F210 := F184.ext E205
  have F211 := F185.ext E205
  have F212 := F186.ext E205
  have F213 := F187.ext E205
  have F214 := F188.ext E205
  have F215 := F189.ext E205
  have F216 := F190.ext E205
  have F217 := F191.ext E205
  have F218 := F192.ext E205
  have F219 := F193.ext E205
  have F220 := F194.ext E205
  have F221 := F195.ext E205
  have F222 := F196.ext E205
  have F223 := F197.ext E205
  have F224 := F198.ext E205
  have Z225 : n0 ≤ h205.size := Nat.le_trans Z200 E205.1
  have K226 := K202.ext E205
  have V227 : Arv Z h205 b205 k205 .double (6 : Int32) [(.double (0 : UInt64)), (.double (0 : UInt64)), (.double (0 : UInt64)), (.double (0 : UInt64)), (.double (0 : UInt64)), (.double (0 : UInt64))] (.double (0 : UInt64)) := (Arv.new A205 (by decide)).pad (pad_rep [] (.double (0 : UInt64)) 6)
  have k228 : ∀ t, Steps p.tables e below (T205.setTop (mkF m 28 #[.val (.ref a1), .val (.int (2 : Int32)), .val (.int (3 : Int32))] [(.ref b205), (.ref a1)])) t → Steps p.tables e below (s₁.setTop (entryFrame m #[(.ref a1), (.int (2 : Int32)), (.int (3 : Int32))] 3)) t := fun t k => k204 t (st205 t k)
  obtain ⟨T229, h229, X229, e229, W229, st229⟩ := putF X205 hx hZ hown (host := "") (Or.inl (hw _ (List.mem_of_getElem? (i := 15) rfl))) Via.refl e205 F209 F224 (Or.inr ⟨(hw _ (List.mem_of_getElem? (i := 16) rfl)), rfl, hnm⟩) (hw _ (List.mem_of_getElem? (i := 2) rfl)) (ty := (.array .double)) (by decide) rfl rfl (g := (mkF m 28 #[.val (.ref a1), .val (.int (2 : Int32)), .val (.int (3 : Int32))] [(.ref b205), (.ref a1)])) rfl rfl (hb hby d1_28)
  have F230 := F209.same W229
  have F231 := F210.other W229 (Or.inr (slot_ne (Or.inr (hw _ (List.mem_of_getElem? (i := 18) rfl))) (Or.inr (hw _ (List.mem_of_getElem? (i := 16) rfl))) (by decide) (t := (.array .double)) (t' := (.array .double)) (by decide) (by decide)))
  have F232 := F211.other W229 (Or.inr (slot_ne (Or.inr (hw _ (List.mem_of_getElem? (i := 20) rfl))) (Or.inr (hw _ (List.mem_of_getElem? (i := 16) rfl))) (by decide) (t := (.array .double)) (t' := (.array .double)) (by decide) (by decide)))
  have F233 := F212.other W229 (Or.inr (slot_ne (Or.inr (hw _ (List.mem_of_getElem? (i := 22) rfl))) (Or.inr (hw _ (List.mem_of_getElem? (i := 16) rfl))) (by decide) (t := (.array .double)) (t' := (.array .double)) (by decide) (by decide)))
  have F234 := F213.other W229 (Or.inr (slot_ne (Or.inr (hw _ (List.mem_of_getElem? (i := 24) rfl))) (Or.inr (hw _ (List.mem_of_getElem? (i := 16) rfl))) (by decide) (t := (.array .double)) (t' := (.array .double)) (by decide) (by decide)))
  have F235 := F214.other W229 (Or.inr (slot_ne (Or.inr (hw _ (List.mem_of_getElem? (i := 26) rfl))) (Or.inr (hw _ (List.mem_of_getElem? (i := 16) rfl))) (by decide) (t := (.array .double)) (t' := (.array .double)) (by decide) (by decide)))
  have F236 := F215.other W229 (Or.inr (slot_ne (Or.inr (hw _ (List.mem_of_getElem? (i := 29) rfl))) (Or.inr (hw _ (List.mem_of_getElem? (i := 16) rfl))) (by decide) (t := (.array .boolean)) (t' := (.array .double)) (by decide) (by decide)))
  have F237 := F216.other W229 (Or.inr (slot_ne (Or.inr (hw _ (List.mem_of_getElem? (i := 31) rfl))) (Or.inr (hw _ (List.mem_of_getElem? (i := 16) rfl))) (by decide) (t := (.array .boolean)) (t' := (.array .double)) (by decide) (by decide)))
  have F238 := F217.other W229 (Or.inr (slot_ne (Or.inr (hw _ (List.mem_of_getElem? (i := 33) rfl))) (Or.inr (hw _ (List.mem_of_getElem? (i := 16) rfl))) (by decide) (t := (.array .boolean)) (t' := (.array .double)) (by decide) (by decide)))
  have F239 := F218.other W229 (Or.inr (slot_ne (Or.inr (hw _ (List.mem_of_getElem? (i := 36) rfl))) (Or.inr (hw _ (List.mem_of_getElem? (i := 16) rfl))) (by decide) (t := (.array .int)) (t' := (.array .double)) (by decide) (by decide)))
  have F240 := F219.other W229 (Or.inr (slot_ne (Or.inr (hw _ (List.mem_of_getElem? (i := 38) rfl))) (Or.inr (hw _ (List.mem_of_getElem? (i := 16) rfl))) (by decide) (t := (.array .boolean)) (t' := (.array .double)) (by decide) (by decide)))
  have F241 := F220.other W229 (Or.inr (slot_ne (Or.inl (hw _ (List.mem_of_getElem? (i := 45) rfl))) (Or.inr (hw _ (List.mem_of_getElem? (i := 16) rfl))) (by decide) (t := .int) (t' := (.array .double)) (by decide) (by decide)))
  have F242 := F221.other W229 (Or.inr (slot_ne (Or.inl (hw _ (List.mem_of_getElem? (i := 47) rfl))) (Or.inr (hw _ (List.mem_of_getElem? (i := 16) rfl))) (by decide) (t := .int) (t' := (.array .double)) (by decide) (by decide)))
  have F243 := F222.other W229 (Or.inr (slot_ne (Or.inl (hw _ (List.mem_of_getElem? (i := 49) rfl))) (Or.inr (hw _ (List.mem_of_getElem? (i := 16) rfl))) (by decide) (t := .int) (t' := (.array .double)) (by decide) (by decide)))
  have F244 := F223.other W229 (Or.inr (slot_ne (Or.inl (hw _ (List.mem_of_getElem? (i := 52) rfl))) (Or.inr (hw _ (List.mem_of_getElem? (i := 16) rfl))) (by decide) (t := .boolean) (t' := (.array .double)) (by decide) (by decide)))
  have F245 := F224.wr W229
  have F246 := V227.other W229 (Ne.symm n206)
  have Z247 : n0 ≤ h229.size := Nat.le_trans Z225 (Nat.le_of_eq W229.size.symm)
  have N248 := Fr.snoc X229 N201 ga
  have K249 := K226.wr W229 (Or.inl (List.mem_of_getElem? (i := 0) rfl))
  have k250 : ∀ t, Steps p.tables e below (T229.setTop (mkF m 31 #[.val (.ref a1), .val (.int (2 : Int32)), .val (.int (3 : Int32))] [])) t → Steps p.tables e below (s₁.setTop (entryFrame m #[(.ref a1), (.int (2 : Int32)), (.int (3 : Int32))] 3)) t := fun t k => k228 t (st229 t k)
  have k251 : ∀ t, Steps p.tables e below (T229.setTop (mkF m 33 #[.val (.ref a1), .val (.int (2 : Int32)), .val (.int (3 : Int32))] [(.int (3 : Int32)), (.ref a1)])) t → Steps p.tables e below (s₁.setTop (entryFrame m #[(.ref a1), (.int (2 : Int32)), (.int (3 : Int32))] 3)) t := fun t k => k250 t (by
    show Steps p.tables e below (T229.setTop (mkF m 31 #[.val (.ref a1), .val (.int (2 : Int32)), .val (.int (3 : Int32))] [])) _
    refine XS.aloadN X229.here hx rfl (hb hby d1_31) rfl rfl ?_
    show Steps p.tables e below (T229.setTop (mkF m 32 #[.val (.ref a1), .val (.int (2 : Int32)), .val (.int (3 : Int32))] [(.ref a1)])) _
    refine XS.iloadN X229.here hx rfl (hb hby d1_32) rfl ?_
    exact k)
  obtain ⟨T252, h252, k252, X252, e252, E252, A252, st252⟩ := newP X229 hx hZ (hw _ (List.mem_of_getElem? (i := 10) rfl)) e229 (g := (mkF m 33 #[.val (.ref a1), .val (.int (2 : Int32)), .val (.int (3 : Int32))] [(.int (3 : Int32)), (.ref a1)])) rfl (hb hby d1_33) rfl (by decide) (cap := 3) (by decide) (by decide) (by decide) (by decide)
  obtain ⟨b252, g252⟩ : ∃ z, z = h229.size := ⟨_, rfl⟩
  rw [← g252] at A252 st252
  have n253 : a1 ≠ b252 := Nat.ne_of_lt (Nat.lt_of_lt_of_le F231.lt (Nat.le_of_eq g252.symm))
  have g254 : n0 ≤ b252 := Nat.le_trans Z247 (Nat.le_of_eq g252.symm)
  have z255 : h0.size ≤ b252 := Nat.le_trans K249.1 (Nat.le_of_eq g252.symm)
  have F256 := F231.ext E252
  have F257 := F232.ext E252
  have F258 := F233.ext E252
  have F259 := F234.ext E252
  have F260 := F235.ext E252
  have F261 := F236.ext E252
  have F262 := F237.ext E252
  have F263 := F238.ext E252
  have F264 := F239.ext E252
  have F265 := F240.ext E252
  have F266 := F241.ext E252
  have F267 := F242.ext E252
  have F268 := F243.ext E252
  have F269 := F244.ext E252
  have F270 := F245.ext E252
  have Z271 : n0 ≤ h252.size := Nat.le_trans Z247 E252.1
  have K272 := K249.ext E252
  have V273 : Arv Z h252 b252 k252 .double (3 : Int32) [(.double (0 : UInt64)), (.double (0 : UInt64)), (.double (0 : UInt64))] (.double (0 : UInt64)) := (Arv.new A252 (by decide)).pad (pad_rep [] (.double (0 : UInt64)) 3)
  have k274 : ∀ t, Steps p.tables e below (T252.setTop (mkF m 35 #[.val (.ref a1), .val (.int (2 : Int32)), .val (.int (3 : Int32))] [(.ref b252), (.ref a1)])) t → Steps p.tables e below (s₁.setTop (entryFrame m #[(.ref a1), (.int (2 : Int32)), (.int (3 : Int32))] 3)) t := fun t k => k251 t (st252 t k)
  obtain ⟨T275, h275, X275, e275, W275, st275⟩ := putF X252 hx hZ hown (host := "") (Or.inl (hw _ (List.mem_of_getElem? (i := 17) rfl))) Via.refl e252 F256 F270 (Or.inr ⟨(hw _ (List.mem_of_getElem? (i := 18) rfl)), rfl, hnm⟩) (hw _ (List.mem_of_getElem? (i := 2) rfl)) (ty := (.array .double)) (by decide) rfl rfl (g := (mkF m 35 #[.val (.ref a1), .val (.int (2 : Int32)), .val (.int (3 : Int32))] [(.ref b252), (.ref a1)])) rfl rfl (hb hby d1_35)
  have F276 := F256.same W275
  have F277 := F257.other W275 (Or.inr (slot_ne (Or.inr (hw _ (List.mem_of_getElem? (i := 20) rfl))) (Or.inr (hw _ (List.mem_of_getElem? (i := 18) rfl))) (by decide) (t := (.array .double)) (t' := (.array .double)) (by decide) (by decide)))
  have F278 := F258.other W275 (Or.inr (slot_ne (Or.inr (hw _ (List.mem_of_getElem? (i := 22) rfl))) (Or.inr (hw _ (List.mem_of_getElem? (i := 18) rfl))) (by decide) (t := (.array .double)) (t' := (.array .double)) (by decide) (by decide)))
  have F279 := F259.other W275 (Or.inr (slot_ne (Or.inr (hw _ (List.mem_of_getElem? (i := 24) rfl))) (Or.inr (hw _ (List.mem_of_getElem? (i := 18) rfl))) (by decide) (t := (.array .double)) (t' := (.array .double)) (by decide) (by decide)))
  have F280 := F260.other W275 (Or.inr (slot_ne (Or.inr (hw _ (List.mem_of_getElem? (i := 26) rfl))) (Or.inr (hw _ (List.mem_of_getElem? (i := 18) rfl))) (by decide) (t := (.array .double)) (t' := (.array .double)) (by decide) (by decide)))
  have F281 := F261.other W275 (Or.inr (slot_ne (Or.inr (hw _ (List.mem_of_getElem? (i := 29) rfl))) (Or.inr (hw _ (List.mem_of_getElem? (i := 18) rfl))) (by decide) (t := (.array .boolean)) (t' := (.array .double)) (by decide) (by decide)))
  have F282 := F262.other W275 (Or.inr (slot_ne (Or.inr (hw _ (List.mem_of_getElem? (i := 31) rfl))) (Or.inr (hw _ (List.mem_of_getElem? (i := 18) rfl))) (by decide) (t := (.array .boolean)) (t' := (.array .double)) (by decide) (by decide)))
  have F283 := F263.other W275 (Or.inr (slot_ne (Or.inr (hw _ (List.mem_of_getElem? (i := 33) rfl))) (Or.inr (hw _ (List.mem_of_getElem? (i := 18) rfl))) (by decide) (t := (.array .boolean)) (t' := (.array .double)) (by decide) (by decide)))
  have F284 := F264.other W275 (Or.inr (slot_ne (Or.inr (hw _ (List.mem_of_getElem? (i := 36) rfl))) (Or.inr (hw _ (List.mem_of_getElem? (i := 18) rfl))) (by decide) (t := (.array .int)) (t' := (.array .double)) (by decide) (by decide)))
  have F285 := F265.other W275 (Or.inr (slot_ne (Or.inr (hw _ (List.mem_of_getElem? (i := 38) rfl))) (Or.inr (hw _ (List.mem_of_getElem? (i := 18) rfl))) (by decide) (t := (.array .boolean)) (t' := (.array .double)) (by decide) (by decide)))
  have F286 := F266.other W275 (Or.inr (slot_ne (Or.inl (hw _ (List.mem_of_getElem? (i := 45) rfl))) (Or.inr (hw _ (List.mem_of_getElem? (i := 18) rfl))) (by decide) (t := .int) (t' := (.array .double)) (by decide) (by decide)))
  have F287 := F267.other W275 (Or.inr (slot_ne (Or.inl (hw _ (List.mem_of_getElem? (i := 47) rfl))) (Or.inr (hw _ (List.mem_of_getElem? (i := 18) rfl))) (by decide) (t := .int) (t' := (.array .double)) (by decide) (by decide)))
  have F288 := F268.other W275 (Or.inr (slot_ne (Or.inl (hw _ (List.mem_of_getElem? (i := 49) rfl))) (Or.inr (hw _ (List.mem_of_getElem? (i := 18) rfl))) (by decide) (t := .int) (t' := (.array .double)) (by decide) (by decide)))
  have F289 := F269.other W275 (Or.inr (slot_ne (Or.inl (hw _ (List.mem_of_getElem? (i := 52) rfl))) (Or.inr (hw _ (List.mem_of_getElem? (i := 18) rfl))) (by decide) (t := .boolean) (t' := (.array .double)) (by decide) (by decide)))
  have F290 := F270.wr W275
  have F291 := V273.other W275 (Ne.symm n253)
  have Z292 : n0 ≤ h275.size := Nat.le_trans Z271 (Nat.le_of_eq W275.size.symm)
  have N293 := Fr.snoc X275 N248 ga
  have K294 := K272.wr W275 (Or.inl (List.mem_of_getElem? (i := 0) rfl))
  have k295 : ∀ t, Steps p.tables e below (T275.setTop (mkF m 38 #[.val (.ref a1), .val (.int (2 : Int32)), .val (.int (3 : Int32))] [])) t → Steps p.tables e below (s₁.setTop (entryFrame m #[(.ref a1), (.int (2 : Int32)), (.int (3 : Int32))] 3)) t := fun t k => k274 t (st275 t k)
  have k296 : ∀ t, Steps p.tables e below (T275.setTop (mkF m 40 #[.val (.ref a1), .val (.int (2 : Int32)), .val (.int (3 : Int32))] [(.int (3 : Int32)), (.ref a1)])) t → Steps p.tables e below (s₁.setTop (entryFrame m #[(.ref a1), (.int (2 : Int32)), (.int (3 : Int32))] 3)) t := fun t k => k295 t (by
    show Steps p.tables e below (T275.setTop (mkF m 38 #[.val (.ref a1), .val (.int (2 : Int32)), .val (.int (3 : Int32))] [])) _
    refine XS.aloadN X275.here hx rfl (hb hby d1_38) rfl rfl ?_
    show Steps p.tables e below (T275.setTop (mkF m 39 #[.val (.ref a1), .val (.int (2 : Int32)), .val (.int (3 : Int32))] [(.ref a1)])) _
    refine XS.iloadN X275.here hx rfl (hb hby d1_39) rfl ?_
    exact k)
  obtain ⟨T297, h297, k297, X297, e297, E297, A297, st297⟩ := newP X275 hx hZ (hw _ (List.mem_of_getElem? (i := 10) rfl)) e275 (g := (mkF m 40 #[.val (.ref a1), .val (.int (2 : Int32)), .val (.int (3 : Int32))] [(.int (3 : Int32)), (.ref a1)])) rfl (hb hby d1_40) rfl (by decide) (cap := 3) (by decide) (by decide) (by decide) (by decide)
  obtain ⟨b297, g297⟩ : ∃ z, z = h275.size := ⟨_, rfl⟩
  rw [← g297] at A297 st297
  have n298 : a1 ≠ b297 := Nat.ne_of_lt (Nat.lt_of_lt_of_le F277.lt (Nat.le_of_eq g297.symm))
  have n299 : b252 ≠ b297 := Nat.ne_of_lt (Nat.lt_of_lt_of_le F291.lt (Nat.le_of_eq g297.symm))
  have g300 : n0 ≤ b297 := Nat.le_trans Z292 (Nat.le_of_eq g297.symm)
  have z301 : h0.size ≤ b297 := Nat.le_trans K294.1 (Nat.le_of_eq g297.symm)
  have F302 := F277.ext E297
  have F303 := F278.ext E297
  have F304 := F279.ext E297
  have F305 := F280.ext E297
  have F306 := F281.ext E297
  have F307 := F282.ext E297
  have F308 := F283.ext E297
  have F309 := F284.ext E297
  have F310 := F285.ext E297
  have F311 := F286.ext E297
  have F312 := F287.ext E297
  have F313 := F288.ext E297
  have F314 := F289.ext E297
  have F315 := F290.ext E297
  have F316 := F291.ext E297
  have F317 := F276.ext E297
  have Z318 : n0 ≤ h297.size := Nat.le_trans Z292 E297.1
  have K319 := K294.ext E297
  have V320 : Arv Z h297 b297 k297 .double (3 : Int32) [(.double (0 : UInt64)), (.double (0 : UInt64)), (.double (0 : UInt64))] (.double (0 : UInt64)) := (Arv.new A297 (by decide)).pad (pad_rep [] (.double (0 : UInt64)) 3)
  have k321 : ∀ t, Steps p.tables e below (T297.setTop (mkF m 42 #[.val (.ref a1), .val (.int (2 : Int32)), .val (.int (3 : Int32))] [(.ref b297), (.ref a1)])) t → Steps p.tables e below (s₁.setTop (entryFrame m #[(.ref a1), (.int (2 : Int32)), (.int (3 : Int32))] 3)) t := fun t k => k296 t (st297 t k)
  obtain ⟨T322, h322, X322, e322, W322, st322⟩ := putF X297 hx hZ hown (host := "") (Or.inl (hw _ (List.mem_of_getElem? (i := 19) rfl))) Via.refl e297 F302 F315 (Or.inr ⟨(hw _ (List.mem_of_getElem? (i := 20) rfl)), rfl, hnm⟩) (hw _ (List.mem_of_getElem? (i := 2) rfl)) (ty := (.array .double)) (by decide) rfl rfl (g := (mkF m 42 #[.val (.ref a1), .val (.int (2 : Int32)), .val (.int (3 : Int32))] [(.ref b297), (.ref a1)])) rfl rfl (hb hby d1_42)
  have F323 := F302.same W322
  have F324 := F303.other W322 (Or.inr (slot_ne (Or.inr (hw _ (List.mem_of_getElem? (i := 22) rfl))) (Or.inr (hw _ (List.mem_of_getElem? (i := 20) rfl))) (by decide) (t := (.array .double)) (t' := (.array .double)) (by decide) (by decide)))
  have F325 := F304.other W322 (Or.inr (slot_ne (Or.inr (hw _ (List.mem_of_getElem? (i := 24) rfl))) (Or.inr (hw _ (List.mem_of_getElem? (i := 20) rfl))) (by decide) (t := (.array .double)) (t' := (.array .double)) (by decide) (by decide)))
  have F326 := F305.other W322 (Or.inr (slot_ne (Or.inr (hw _ (List.mem_of_getElem? (i := 26) rfl))) (Or.inr (hw _ (List.mem_of_getElem? (i := 20) rfl))) (by decide) (t := (.array .double)) (t' := (.array .double)) (by decide) (by decide)))
  have F327 := F306.other W322 (Or.inr (slot_ne (Or.inr (hw _ (List.mem_of_getElem? (i := 29) rfl))) (Or.inr (hw _ (List.mem_of_getElem? (i := 20) rfl))) (by decide) (t := (.array .boolean)) (t' := (.array .double)) (by decide) (by decide)))
  have F328 := F307.other W322 (Or.inr (slot_ne (Or.inr (hw _ (List.mem_of_getElem? (i := 31) rfl))) (Or.inr (hw _ (List.mem_of_getElem? (i := 20) rfl))) (by decide) (t := (.array .boolean)) (t' := (.array .double)) (by decide) (by decide)))
  have F329 := F308.other W322 (Or.inr (slot_ne (Or.inr (hw _ (List.mem_of_getElem? (i := 33) rfl))) (Or.inr (hw _ (List.mem_of_getElem? (i := 20) rfl))) (by decide) (t := (.array .boolean)) (t' := (.array .double)) (by decide) (by decide)))
  have F330 := F309.other W322 (Or.inr (slot_ne (Or.inr (hw _ (List.mem_of_getElem? (i := 36) rfl))) (Or.inr (hw _ (List.mem_of_getElem? (i := 20) rfl))) (by decide) (t := (.array .int)) (t' := (.array .double)) (by decide) (by decide)))
  have F331 := F310.other W322 (Or.inr (slot_ne (Or.inr (hw _ (List.mem_of_getElem? (i := 38) rfl))) (Or.inr (hw _ (List.mem_of_getElem? (i := 20) rfl))) (by decide) (t := (.array .boolean)) (t' := (.array .double)) (by decide) (by decide)))
  have F332 := F311.other W322 (Or.inr (slot_ne (Or.inl (hw _ (List.mem_of_getElem? (i := 45) rfl))) (Or.inr (hw _ (List.mem_of_getElem? (i := 20) rfl))) (by decide) (t := .int) (t' := (.array .double)) (by decide) (by decide)))
  have F333 := F312.other W322 (Or.inr (slot_ne (Or.inl (hw _ (List.mem_of_getElem? (i := 47) rfl))) (Or.inr (hw _ (List.mem_of_getElem? (i := 20) rfl))) (by decide) (t := .int) (t' := (.array .double)) (by decide) (by decide)))
  have F334 := F313.other W322 (Or.inr (slot_ne (Or.inl (hw _ (List.mem_of_getElem? (i := 49) rfl))) (Or.inr (hw _ (List.mem_of_getElem? (i := 20) rfl))) (by decide) (t := .int) (t' := (.array .double)) (by decide) (by decide)))
  have F335 := F314.other W322 (Or.inr (slot_ne (Or.inl (hw _ (List.mem_of_getElem? (i := 52) rfl))) (Or.inr (hw _ (List.mem_of_getElem? (i := 20) rfl))) (by decide) (t := .boolean) (t' := (.array .double)) (by decide) (by decide)))
  have F336 := F315.wr W322
  have F337 := F316.other W322 (Ne.symm n253)
  have F338 := F317.other W322 (Or.inr (slot_ne (Or.inr (hw _ (List.mem_of_getElem? (i := 18) rfl))) (Or.inr (hw _ (List.mem_of_getElem? (i := 20) rfl))) (by decide) (t := (.array .double)) (t' := (.array .double)) (by decide) (by decide)))
  have F339 := V320.other W322 (Ne.symm n298)
  have Z340 : n0 ≤ h322.size := Nat.le_trans Z318 (Nat.le_of_eq W322.size.symm)
  have N341 := Fr.snoc X322 N293 ga
  have K342 := K319.wr W322 (Or.inl (List.mem_of_getElem? (i := 0) rfl))
  have k343 : ∀ t, Steps p.tables e below (T322.setTop (mkF m 45 #[.val (.ref a1), .val (.int (2 : Int32)), .val (.int (3 : Int32))] [])) t → Steps p.tables e below (s₁.setTop (entryFrame m #[(.ref a1), (.int (2 : Int32)), (.int (3 : Int32))] 3)) t := fun t k => k321 t (st322 t k)
  have k344 : ∀ t, Steps p.tables e below (T322.setTop (mkF m 47 #[.val (.ref a1), .val (.int (2 : Int32)), .val (.int (3 : Int32))] [(.int (3 : Int32)), (.ref a1)])) t → Steps p.tables e below (s₁.setTop (entryFrame m #[(.ref a1), (.int (2 : Int32)), (.int (3 : Int32))] 3)) t := fun t k => k343 t (by
    show Steps p.tables e below (T322.setTop (mkF m 45 #[.val (.ref a1), .val (.int (2 : Int32)), .val (.int (3 : Int32))] [])) _
    refine XS.aloadN X322.here hx rfl (hb hby d1_45) rfl rfl ?_
    show Steps p.tables e below (T322.setTop (mkF m 46 #[.val (.ref a1), .val (.int (2 : Int32)), .val (.int (3 : Int32))] [(.ref a1)])) _
    refine XS.iloadN X322.here hx rfl (hb hby d1_46) rfl ?_
    exact k)
  obtain ⟨T345, h345, k345, X345, e345, E345, A345, st345⟩ := newP X322 hx hZ (hw _ (List.mem_of_getElem? (i := 10) rfl)) e322 (g := (mkF m 47 #[.val (.ref a1), .val (.int (2 : Int32)), .val (.int (3 : Int32))] [(.int (3 : Int32)), (.ref a1)])) rfl (hb hby d1_47) rfl (by decide) (cap := 3) (by decide) (by decide) (by decide) (by decide)
  obtain ⟨b345, g345⟩ : ∃ z, z = h322.size := ⟨_, rfl⟩
  rw [← g345] at A345 st345
  have n346 : a1 ≠ b345 := Nat.ne_of_lt (Nat.lt_of_lt_of_le F324.lt (Nat.le_of_eq g345.symm))
  have n347 : b252 ≠ b345 := Nat.ne_of_lt (Nat.lt_of_lt_of_le F337.lt (Nat.le_of_eq g345.symm))
  have g348 : n0 ≤ b345 := Nat.le_trans Z340 (Nat.le_of_eq g345.symm)
  have z349 : h0.size ≤ b345 := Nat.le_trans K342.1 (Nat.le_of_eq g345.symm)
  have F350 := F324.ext E345
  have F351 := F325.ext E345
  have F352 := F326.ext E345
  have F353 := F327.ext E345
  have F354 := F328.ext E345
  have F355 := F329.ext E345
  have F356 := F330.ext E345
  have F357 := F331.ext E345
  have F358 := F332.ext E345
  have F359 := F333.ext E345
  have F360 := F334.ext E345
  have F361 := F335.ext E345
  have F362 := F336.ext E345
  have F363 := F337.ext E345
  have F364 := F338.ext E345
  have Z365 : n0 ≤ h345.size := Nat.le_trans Z340 E345.1
  have K366 := K342.ext E345
  have V367 : Arv Z h345 b345 k345 .double (3 : Int32) [(.double (0 : UInt64)), (.double (0 : UInt64)), (.double (0 : UInt64))] (.double (0 : UInt64)) := (Arv.new A345 (by decide)).pad (pad_rep [] (.double (0 : UInt64)) 3)
  have k368 : ∀ t, Steps p.tables e below (T345.setTop (mkF m 49 #[.val (.ref a1), .val (.int (2 : Int32)), .val (.int (3 : Int32))] [(.ref b345), (.ref a1)])) t → Steps p.tables e below (s₁.setTop (entryFrame m #[(.ref a1), (.int (2 : Int32)), (.int (3 : Int32))] 3)) t := fun t k => k344 t (st345 t k)
  obtain ⟨T369, h369, X369, e369, W369, st369⟩ := putF X345 hx hZ hown (host := "") (Or.inl (hw _ (List.mem_of_getElem? (i := 21) rfl))) Via.refl e345 F350 F362 (Or.inr ⟨(hw _ (List.mem_of_getElem? (i := 22) rfl)), rfl, hnm⟩) (hw _ (List.mem_of_getElem? (i := 2) rfl)) (ty := (.array .double)) (by decide) rfl rfl (g := (mkF m 49 #[.val (.ref a1), .val (.int (2 : Int32)), .val (.int (3 : Int32))] [(.ref b345), (.ref a1)])) rfl rfl (hb hby d1_49)
  have F370 := F350.same W369
  have F371 := F351.other W369 (Or.inr (slot_ne (Or.inr (hw _ (List.mem_of_getElem? (i := 24) rfl))) (Or.inr (hw _ (List.mem_of_getElem? (i := 22) rfl))) (by decide) (t := (.array .double)) (t' := (.array .double)) (by decide) (by decide)))
  have F372 := F352.other W369 (Or.inr (slot_ne (Or.inr (hw _ (List.mem_of_getElem? (i := 26) rfl))) (Or.inr (hw _ (List.mem_of_getElem? (i := 22) rfl))) (by decide) (t := (.array .double)) (t' := (.array .double)) (by decide) (by decide)))
  have F373 := F353.other W369 (Or.inr (slot_ne (Or.inr (hw _ (List.mem_of_getElem? (i := 29) rfl))) (Or.inr (hw _ (List.mem_of_getElem? (i := 22) rfl))) (by decide) (t := (.array .boolean)) (t' := (.array .double)) (by decide) (by decide)))
  have F374 := F354.other W369 (Or.inr (slot_ne (Or.inr (hw _ (List.mem_of_getElem? (i := 31) rfl))) (Or.inr (hw _ (List.mem_of_getElem? (i := 22) rfl))) (by decide) (t := (.array .boolean)) (t' := (.array .double)) (by decide) (by decide)))
  have F375 := F355.other W369 (Or.inr (slot_ne (Or.inr (hw _ (List.mem_of_getElem? (i := 33) rfl))) (Or.inr (hw _ (List.mem_of_getElem? (i := 22) rfl))) (by decide) (t := (.array .boolean)) (t' := (.array .double)) (by decide) (by decide)))
  have F376 := F356.other W369 (Or.inr (slot_ne (Or.inr (hw _ (List.mem_of_getElem? (i := 36) rfl))) (Or.inr (hw _ (List.mem_of_getElem? (i := 22) rfl))) (by decide) (t := (.array .int)) (t' := (.array .double)) (by decide) (by decide)))
  have F377 := F357.other W369 (Or.inr (slot_ne (Or.inr (hw _ (List.mem_of_getElem? (i := 38) rfl))) (Or.inr (hw _ (List.mem_of_getElem? (i := 22) rfl))) (by decide) (t := (.array .boolean)) (t' := (.array .double)) (by decide) (by decide)))
  have F378 := F358.other W369 (Or.inr (slot_ne (Or.inl (hw _ (List.mem_of_getElem? (i := 45) rfl))) (Or.inr (hw _ (List.mem_of_getElem? (i := 22) rfl))) (by decide) (t := .int) (t' := (.array .double)) (by decide) (by decide)))
  have F379 := F359.other W369 (Or.inr (slot_ne (Or.inl (hw _ (List.mem_of_getElem? (i := 47) rfl))) (Or.inr (hw _ (List.mem_of_getElem? (i := 22) rfl))) (by decide) (t := .int) (t' := (.array .double)) (by decide) (by decide)))
  have F380 := F360.other W369 (Or.inr (slot_ne (Or.inl (hw _ (List.mem_of_getElem? (i := 49) rfl))) (Or.inr (hw _ (List.mem_of_getElem? (i := 22) rfl))) (by decide) (t := .int) (t' := (.array .double)) (by decide) (by decide)))
  have F381 := F361.other W369 (Or.inr (slot_ne (Or.inl (hw _ (List.mem_of_getElem? (i := 52) rfl))) (Or.inr (hw _ (List.mem_of_getElem? (i := 22) rfl))) (by decide) (t := .boolean) (t' := (.array .double)) (by decide) (by decide)))
  have F382 := F362.wr W369
  have F383 := F363.other W369 (Ne.symm n253)
  have F384 := F364.other W369 (Or.inr (slot_ne (Or.inr (hw _ (List.mem_of_getElem? (i := 18) rfl))) (Or.inr (hw _ (List.mem_of_getElem? (i := 22) rfl))) (by decide) (t := (.array .double)) (t' := (.array .double)) (by decide) (by decide)))
  have F385 := V367.other W369 (Ne.symm n346)
  have Z386 : n0 ≤ h369.size := Nat.le_trans Z365 (Nat.le_of_eq W369.size.symm)
  have N387 := Fr.snoc X369 N341 ga
  have K388 := K366.wr W369 (Or.inl (List.mem_of_getElem? (i := 0) rfl))
  have k389 : ∀ t, Steps p.tables e below (T369.setTop (mkF m 52 #[.val (.ref a1), .val (.int (2 : Int32)), .val (.int (3 : Int32))] [])) t → Steps p.tables e below (s₁.setTop (entryFrame m #[(.ref a1), (.int (2 : Int32)), (.int (3 : Int32))] 3)) t := fun t k => k368 t (st369 t k)
  have k390 : ∀ t, Steps p.tables e below (T369.setTop (mkF m 54 #[.val (.ref a1), .val (.int (2 : Int32)), .val (.int (3 : Int32))] [(.int (3 : Int32)), (.ref a1)])) t → Steps p.tables e below (s₁.setTop (entryFrame m #[(.ref a1), (.int (2 : Int32)), (.int (3 : Int32))] 3)) t := fun t k => k389 t (by
    show Steps p.tables e below (T369.setTop (mkF m 52 #[.val (.ref a1), .val (.int (2 : Int32)), .val (.int (3 : Int32))] [])) _
    refine XS.aloadN X369.here hx rfl (hb hby d1_52) rfl rfl ?_
    show Steps p.tables e below (T369.setTop (mkF m 53 #[.val (.ref a1), .val (.int (2 : Int32)), .val (.int (3 : Int32))] [(.ref a1)])) _
    refine XS.iloadN X369.here hx rfl (hb hby d1_53) rfl ?_
    exact k)
  obtain ⟨T391, h391, k391, X391, e391, E391, A391, st391⟩ := newP X369 hx hZ (hw _ (List.mem_of_getElem? (i := 10) rfl)) e369 (g := (mkF m 54 #[.val (.ref a1), .val (.int (2 : Int32)), .val (.int (3 : Int32))] [(.int (3 : Int32)), (.ref a1)])) rfl (hb hby d1_54) rfl (by decide) (cap := 3) (by decide) (by decide) (by decide) (by decide)
  obtain ⟨b391, g391⟩ : ∃ z, z = h369.size := ⟨_, rfl⟩
  rw [← g391] at A391 st391
  have n392 : a1 ≠ b391 := Nat.ne_of_lt (Nat.lt_of_lt_of_le F371.lt (Nat.le_of_eq g391.symm))
  have n393 : b252 ≠ b391 := Nat.ne_of_lt (Nat.lt_of_lt_of_le F383.lt (Nat.le_of_eq g391.symm))
  have g394 : n0 ≤ b391 := Nat.le_trans Z386 (Nat.le_of_eq g391.symm)
  have z395 : h0.size ≤ b391 := Nat.le_trans K388.1 (Nat.le_of_eq g391.symm)
  have F396 := F371.ext E391
  have F397 := F372.ext E391
  have F398 := F373.ext E391
  have F399 := F374.ext E391
  have F400 := F375.ext E391
  have F401 := F376.ext E391
  have F402 := F377.ext E391
  have F403 := F378.ext E391
  have F404 := F379.ext E391
  have F405 := F380.ext E391
  have F406 := F381.ext E391
  have F407 := F382.ext E391
  have F408 := F383.ext E391
  have F409 := F384.ext E391
  have Z410 : n0 ≤ h391.size := Nat.le_trans Z386 E391.1
  have K411 := K388.ext E391
  have V412 : Arv Z h391 b391 k391 .double (3 : Int32) [(.double (0 : UInt64)), (.double (0 : UInt64)), (.double (0 : UInt64))] (.double (0 : UInt64)) := (Arv.new A391 (by decide)).pad (pad_rep [] (.double (0 : UInt64)) 3)
  have k413 : ∀ t, Steps p.tables e below (T391.setTop (mkF m 56 #[.val (.ref a1), .val (.int (2 : Int32)), .val (.int (3 : Int32))] [(.ref b391), (.ref a1)])) t → Steps p.tables e below (s₁.setTop (entryFrame m #[(.ref a1), (.int (2 : Int32)), (.int (3 : Int32))] 3)) t := fun t k => k390 t (st391 t k)
  obtain ⟨T414, h414, X414, e414, W414, st414⟩ := putF X391 hx hZ hown (host := "") (Or.inl (hw _ (List.mem_of_getElem? (i := 23) rfl))) Via.refl e391 F396 F407 (Or.inr ⟨(hw _ (List.mem_of_getElem? (i := 24) rfl)), rfl, hnm⟩) (hw _ (List.mem_of_getElem? (i := 2) rfl)) (ty := (.array .double)) (by decide) rfl rfl (g := (mkF m 56 #[.val (.ref a1), .val (.int (2 : Int32)), .val (.int (3 : Int32))] [(.ref b391), (.ref a1)])) rfl rfl (hb hby d1_56)
  have F415 := F396.same W414
  have F416 := F397.other W414 (Or.inr (slot_ne (Or.inr (hw _ (List.mem_of_getElem? (i := 26) rfl))) (Or.inr (hw _ (List.mem_of_getElem? (i := 24) rfl))) (by decide) (t := (.array .double)) (t' := (.array .double)) (by decide) (by decide)))
  have F417 := F398.other W414 (Or.inr (slot_ne (Or.inr (hw _ (List.mem_of_getElem? (i := 29) rfl))) (Or.inr (hw _ (List.mem_of_getElem? (i := 24) rfl))) (by decide) (t := (.array .boolean)) (t' := (.array .double)) (by decide) (by decide)))
  have F418 := F399.other W414 (Or.inr (slot_ne (Or.inr (hw _ (List.mem_of_getElem? (i := 31) rfl))) (Or.inr (hw _ (List.mem_of_getElem? (i := 24) rfl))) (by decide) (t := (.array .boolean)) (t' := (.array .double)) (by decide) (by decide)))
  have F419 := F400.other W414 (Or.inr (slot_ne (Or.inr (hw _ (List.mem_of_getElem? (i := 33) rfl))) (Or.inr (hw _ (List.mem_of_getElem? (i := 24) rfl))) (by decide) (t := (.array .boolean)) (t' := (.array .double)) (by decide) (by decide)))
  have F420 := F401.other W414 (Or.inr (slot_ne (Or.inr (hw _ (List.mem_of_getElem? (i := 36) rfl))) (Or.inr (hw _ (List.mem_of_getElem? (i := 24) rfl))) (by decide) (t := (.array .int)) (t' := (.array .double)) (by decide) (by decide)))
  have F421 := F402.other W414 (Or.inr (slot_ne (Or.inr (hw _ (List.mem_of_getElem? (i := 38) rfl))) (Or.inr (hw _ (List.mem_of_getElem? (i := 24) rfl))) (by decide) (t := (.array .boolean)) (t' := (.array .double)) (by decide) (by decide)))
  have F422 := F403.other W414 (Or.inr (slot_ne (Or.inl (hw _ (List.mem_of_getElem? (i := 45) rfl))) (Or.inr (hw _ (List.mem_of_getElem? (i := 24) rfl))) (by decide) (t := .int) (t' := (.array .double)) (by decide) (by decide)))
  have F423 := F404.other W414 (Or.inr (slot_ne (Or.inl (hw _ (List.mem_of_getElem? (i := 47) rfl))) (Or.inr (hw _ (List.mem_of_getElem? (i := 24) rfl))) (by decide) (t := .int) (t' := (.array .double)) (by decide) (by decide)))
  have F424 := F405.other W414 (Or.inr (slot_ne (Or.inl (hw _ (List.mem_of_getElem? (i := 49) rfl))) (Or.inr (hw _ (List.mem_of_getElem? (i := 24) rfl))) (by decide) (t := .int) (t' := (.array .double)) (by decide) (by decide)))
  have F425 := F406.other W414 (Or.inr (slot_ne (Or.inl (hw _ (List.mem_of_getElem? (i := 52) rfl))) (Or.inr (hw _ (List.mem_of_getElem? (i := 24) rfl))) (by decide) (t := .boolean) (t' := (.array .double)) (by decide) (by decide)))
  have F426 := F407.wr W414
  have F427 := F408.other W414 (Ne.symm n253)
  have F428 := F409.other W414 (Or.inr (slot_ne (Or.inr (hw _ (List.mem_of_getElem? (i := 18) rfl))) (Or.inr (hw _ (List.mem_of_getElem? (i := 24) rfl))) (by decide) (t := (.array .double)) (t' := (.array .double)) (by decide) (by decide)))
  have F429 := V412.other W414 (Ne.symm n392)
  have Z430 : n0 ≤ h414.size := Nat.le_trans Z410 (Nat.le_of_eq W414.size.symm)
  have N431 := Fr.snoc X414 N387 ga
  have K432 := K411.wr W414 (Or.inl (List.mem_of_getElem? (i := 0) rfl))
  have k433 : ∀ t, Steps p.tables e below (T414.setTop (mkF m 59 #[.val (.ref a1), .val (.int (2 : Int32)), .val (.int (3 : Int32))] [])) t → Steps p.tables e below (s₁.setTop (entryFrame m #[(.ref a1), (.int (2 : Int32)), (.int (3 : Int32))] 3)) t := fun t k => k413 t (st414 t k)
  have k434 : ∀ t, Steps p.tables e below (T414.setTop (mkF m 61 #[.val (.ref a1), .val (.int (2 : Int32)), .val (.int (3 : Int32))] [(.int (3 : Int32)), (.ref a1)])) t → Steps p.tables e below (s₁.setTop (entryFrame m #[(.ref a1), (.int (2 : Int32)), (.int (3 : Int32))] 3)) t := fun t k => k433 t (by
    show Steps p.tables e below (T414.setTop (mkF m 59 #[.val (.ref a1), .val (.int (2 : Int32)), .val (.int (3 : Int32))] [])) _
    refine XS.aloadN X414.here hx rfl (hb hby d1_59) rfl rfl ?_
    show Steps p.tables e below (T414.setTop (mkF m 60 #[.val (.ref a1), .val (.int (2 : Int32)), .val (.int (3 : Int32))] [(.ref a1)])) _
    refine XS.iloadN X414.here hx rfl (hb hby d1_60) rfl ?_
    exact k)
  obtain ⟨T435, h435, k435, X435, e435, E435, A435, st435⟩ := newP X414 hx hZ (hw _ (List.mem_of_getElem? (i := 10) rfl)) e414 (g := (mkF m 61 #[.val (.ref a1), .val (.int (2 : Int32)), .val (.int (3 : Int32))] [(.int (3 : Int32)), (.ref a1)])) rfl (hb hby d1_61) rfl (by decide) (cap := 3) (by decide) (by decide) (by decide) (by decide)
  obtain ⟨b435, g435⟩ : ∃ z, z = h414.size := ⟨_, rfl⟩
  rw [← g435] at A435 st435
  have n436 : a1 ≠ b435 := Nat.ne_of_lt (Nat.lt_of_lt_of_le F416.lt (Nat.le_of_eq g435.symm))
  have n437 : b252 ≠ b435 := Nat.ne_of_lt (Nat.lt_of_lt_of_le F427.lt (Nat.le_of_eq g435.symm))
  have g438 : n0 ≤ b435 := Nat.le_trans Z430 (Nat.le_of_eq g435.symm)
  have z439 : h0.size ≤ b435 := Nat.le_trans K432.1 (Nat.le_of_eq g435.symm)
  have F440 := F416.ext E435
  have F441 := F417.ext E435
  have F442 := F418.ext E435
  have F443 := F419.ext E435
  have F444 := F420.ext E435
  have F445 := F421.ext E435
  have F446 := F422.ext E435
  have F447 := F423.ext E435
  have F448 := F424.ext E435
  have F449 := F425.ext E435
  have F450 := F426.ext E435
  have F451 := F427.ext E435
  have F452 := F428.ext E435
  have Z453 : n0 ≤ h435.size := Nat.le_trans Z430 E435.1
  have K454 := K432.ext E435
  have V455 : Arv Z h435 b435 k435 .double (3 : Int32) [(.double (0 : UInt64)), (.double (0 : UInt64)), (.double (0 : UInt64))] (.double (0 : UInt64)) := (Arv.new A435 (by decide)).pad (pad_rep [] (.double (0 : UInt64)) 3)
  have k456 : ∀ t, Steps p.tables e below (T435.setTop (mkF m 63 #[.val (.ref a1), .val (.int (2 : Int32)), .val (.int (3 : Int32))] [(.ref b435), (.ref a1)])) t → Steps p.tables e below (s₁.setTop (entryFrame m #[(.ref a1), (.int (2 : Int32)), (.int (3 : Int32))] 3)) t := fun t k => k434 t (st435 t k)
  obtain ⟨T457, h457, X457, e457, W457, st457⟩ := putF X435 hx hZ hown (host := "") (Or.inl (hw _ (List.mem_of_getElem? (i := 25) rfl))) Via.refl e435 F440 F450 (Or.inr ⟨(hw _ (List.mem_of_getElem? (i := 26) rfl)), rfl, hnm⟩) (hw _ (List.mem_of_getElem? (i := 2) rfl)) (ty := (.array .double)) (by decide) rfl rfl (g := (mkF m 63 #[.val (.ref a1), .val (.int (2 : Int32)), .val (.int (3 : Int32))] [(.ref b435), (.ref a1)])) rfl rfl (hb hby d1_63)
  have F458 := F440.same W457
  have F459 := F441.other W457 (Or.inr (slot_ne (Or.inr (hw _ (List.mem_of_getElem? (i := 29) rfl))) (Or.inr (hw _ (List.mem_of_getElem? (i := 26) rfl))) (by decide) (t := (.array .boolean)) (t' := (.array .double)) (by decide) (by decide)))
  have F460 := F442.other W457 (Or.inr (slot_ne (Or.inr (hw _ (List.mem_of_getElem? (i := 31) rfl))) (Or.inr (hw _ (List.mem_of_getElem? (i := 26) rfl))) (by decide) (t := (.array .boolean)) (t' := (.array .double)) (by decide) (by decide)))
  have F461 := F443.other W457 (Or.inr (slot_ne (Or.inr (hw _ (List.mem_of_getElem? (i := 33) rfl))) (Or.inr (hw _ (List.mem_of_getElem? (i := 26) rfl))) (by decide) (t := (.array .boolean)) (t' := (.array .double)) (by decide) (by decide)))
  have F462 := F444.other W457 (Or.inr (slot_ne (Or.inr (hw _ (List.mem_of_getElem? (i := 36) rfl))) (Or.inr (hw _ (List.mem_of_getElem? (i := 26) rfl))) (by decide) (t := (.array .int)) (t' := (.array .double)) (by decide) (by decide)))
  have F463 := F445.other W457 (Or.inr (slot_ne (Or.inr (hw _ (List.mem_of_getElem? (i := 38) rfl))) (Or.inr (hw _ (List.mem_of_getElem? (i := 26) rfl))) (by decide) (t := (.array .boolean)) (t' := (.array .double)) (by decide) (by decide)))
  have F464 := F446.other W457 (Or.inr (slot_ne (Or.inl (hw _ (List.mem_of_getElem? (i := 45) rfl))) (Or.inr (hw _ (List.mem_of_getElem? (i := 26) rfl))) (by decide) (t := .int) (t' := (.array .double)) (by decide) (by decide)))
  have F465 := F447.other W457 (Or.inr (slot_ne (Or.inl (hw _ (List.mem_of_getElem? (i := 47) rfl))) (Or.inr (hw _ (List.mem_of_getElem? (i := 26) rfl))) (by decide) (t := .int) (t' := (.array .double)) (by decide) (by decide)))
  have F466 := F448.other W457 (Or.inr (slot_ne (Or.inl (hw _ (List.mem_of_getElem? (i := 49) rfl))) (Or.inr (hw _ (List.mem_of_getElem? (i := 26) rfl))) (by decide) (t := .int) (t' := (.array .double)) (by decide) (by decide)))
  have F467 := F449.other W457 (Or.inr (slot_ne (Or.inl (hw _ (List.mem_of_getElem? (i := 52) rfl))) (Or.inr (hw _ (List.mem_of_getElem? (i := 26) rfl))) (by decide) (t := .boolean) (t' := (.array .double)) (by decide) (by decide)))
  have F468 := F450.wr W457
  have F469 := F451.other W457 (Ne.symm n253)
  have F470 := F452.other W457 (Or.inr (slot_ne (Or.inr (hw _ (List.mem_of_getElem? (i := 18) rfl))) (Or.inr (hw _ (List.mem_of_getElem? (i := 26) rfl))) (by decide) (t := (.array .double)) (t' := (.array .double)) (by decide) (by decide)))
  have F471 := V455.other W457 (Ne.symm n436)
  have Z472 : n0 ≤ h457.size := Nat.le_trans Z453 (Nat.le_of_eq W457.size.symm)
  have N473 := Fr.snoc X457 N431 ga
  have K474 := K454.wr W457 (Or.inl (List.mem_of_getElem? (i := 0) rfl))
  have k475 : ∀ t, Steps p.tables e below (T457.setTop (mkF m 66 #[.val (.ref a1), .val (.int (2 : Int32)), .val (.int (3 : Int32))] [])) t → Steps p.tables e below (s₁.setTop (entryFrame m #[(.ref a1), (.int (2 : Int32)), (.int (3 : Int32))] 3)) t := fun t k => k456 t (st457 t k)
  have k476 : ∀ t, Steps p.tables e below (T457.setTop (mkF m 68 #[.val (.ref a1), .val (.int (2 : Int32)), .val (.int (3 : Int32))] [(.int (3 : Int32)), (.ref a1)])) t → Steps p.tables e below (s₁.setTop (entryFrame m #[(.ref a1), (.int (2 : Int32)), (.int (3 : Int32))] 3)) t := fun t k => k475 t (by
    show Steps p.tables e below (T457.setTop (mkF m 66 #[.val (.ref a1), .val (.int (2 : Int32)), .val (.int (3 : Int32))] [])) _
    refine XS.aloadN X457.here hx rfl (hb hby d1_66) rfl rfl ?_
    show Steps p.tables e below (T457.setTop (mkF m 67 #[.val (.ref a1), .val (.int (2 : Int32)), .val (.int (3 : Int32))] [(.ref a1)])) _
    refine XS.iloadN X457.here hx rfl (hb hby d1_67) rfl ?_
    exact k)
  obtain ⟨T477, h477, k477, X477, e477, E477, A477, st477⟩ := newP X457 hx hZ (hw _ (List.mem_of_getElem? (i := 27) rfl)) e457 (g := (mkF m 68 #[.val (.ref a1), .val (.int (2 : Int32)), .val (.int (3 : Int32))] [(.int (3 : Int32)), (.ref a1)])) rfl (hb hby d1_68) rfl (by decide) (cap := 3) (by decide) (by decide) (by decide) (by decide)
  obtain ⟨b477, g477⟩ : ∃ z, z = h457.size := ⟨_, rfl⟩
  rw [← g477] at A477 st477
  have n478 : a1 ≠ b477 := Nat.ne_of_lt (Nat.lt_of_lt_of_le F459.lt (Nat.le_of_eq g477.symm))
  have n479 : b252 ≠ b477 := Nat.ne_of_lt (Nat.lt_of_lt_of_le F469.lt (Nat.le_of_eq g477.symm))
  have g480 : n0 ≤ b477 := Nat.le_trans Z472 (Nat.le_of_eq g477.symm)
  have z481 : h0.size ≤ b477 := Nat.le_trans K474.1 (Nat.le_of_eq g477.symm)
  have F482 := F459.ext E477
  have F483 := F460.ext E477
  have F484 := F461.ext E477
  have F485 := F462.ext E477
  have F486 := F463.ext E477
  have F487 := F464.ext E477
  have F488 := F465.ext E477
  have F489 := F466.ext E477
  have F490 := F467.ext E477
  have F491 := F468.ext E477
  have F492 := F469.ext E477
  have F493 := F470.ext E477
  have Z494 : n0 ≤ h477.size := Nat.le_trans Z472 E477.1
  have K495 := K474.ext E477
  have V496 : Arv Z h477 b477 k477 .boolean (3 : Int32) [(.int (0 : Int32)), (.int (0 : Int32)), (.int (0 : Int32))] (.int (0 : Int32)) := (Arv.new A477 (by decide)).pad (pad_rep [] (.int (0 : Int32)) 3)
  have k497 : ∀ t, Steps p.tables e below (T477.setTop (mkF m 70 #[.val (.ref a1), .val (.int (2 : Int32)), .val (.int (3 : Int32))] [(.ref b477), (.ref a1)])) t → Steps p.tables e below (s₁.setTop (entryFrame m #[(.ref a1), (.int (2 : Int32)), (.int (3 : Int32))] 3)) t := fun t k => k476 t (st477 t k)
  obtain ⟨T498, h498, X498, e498, W498, st498⟩ := putF X477 hx hZ hown (host := "") (Or.inl (hw _ (List.mem_of_getElem? (i := 28) rfl))) Via.refl e477 F482 F491 (Or.inr ⟨(hw _ (List.mem_of_getElem? (i := 29) rfl)), rfl, hnm⟩) (hw _ (List.mem_of_getElem? (i := 2) rfl)) (ty := (.array .boolean)) (by decide) rfl rfl (g := (mkF m 70 #[.val (.ref a1), .val (.int (2 : Int32)), .val (.int (3 : Int32))] [(.ref b477), (.ref a1)])) rfl rfl (hb hby d1_70)
  have F499 := F482.same W498
  have F500 := F483.other W498 (Or.inr (slot_ne (Or.inr (hw _ (List.mem_of_getElem? (i := 31) rfl))) (Or.inr (hw _ (List.mem_of_getElem? (i := 29) rfl))) (by decide) (t := (.array .boolean)) (t' := (.array .boolean)) (by decide) (by decide)))
  have F501 := F484.other W498 (Or.inr (slot_ne (Or.inr (hw _ (List.mem_of_getElem? (i := 33) rfl))) (Or.inr (hw _ (List.mem_of_getElem? (i := 29) rfl))) (by decide) (t := (.array .boolean)) (t' := (.array .boolean)) (by decide) (by decide)))
  have F502 := F485.other W498 (Or.inr (slot_ne (Or.inr (hw _ (List.mem_of_getElem? (i := 36) rfl))) (Or.inr (hw _ (List.mem_of_getElem? (i := 29) rfl))) (by decide) (t := (.array .int)) (t' := (.array .boolean)) (by decide) (by decide)))
  have F503 := F486.other W498 (Or.inr (slot_ne (Or.inr (hw _ (List.mem_of_getElem? (i := 38) rfl))) (Or.inr (hw _ (List.mem_of_getElem? (i := 29) rfl))) (by decide) (t := (.array .boolean)) (t' := (.array .boolean)) (by decide) (by decide)))
  have F504 := F487.other W498 (Or.inr (slot_ne (Or.inl (hw _ (List.mem_of_getElem? (i := 45) rfl))) (Or.inr (hw _ (List.mem_of_getElem? (i := 29) rfl))) (by decide) (t := .int) (t' := (.array .boolean)) (by decide) (by decide)))
  have F505 := F488.other W498 (Or.inr (slot_ne (Or.inl (hw _ (List.mem_of_getElem? (i := 47) rfl))) (Or.inr (hw _ (List.mem_of_getElem? (i := 29) rfl))) (by decide) (t := .int) (t' := (.array .boolean)) (by decide) (by decide)))
  have F506 := F489.other W498 (Or.inr (slot_ne (Or.inl (hw _ (List.mem_of_getElem? (i := 49) rfl))) (Or.inr (hw _ (List.mem_of_getElem? (i := 29) rfl))) (by decide) (t := .int) (t' := (.array .boolean)) (by decide) (by decide)))
  have F507 := F490.other W498 (Or.inr (slot_ne (Or.inl (hw _ (List.mem_of_getElem? (i := 52) rfl))) (Or.inr (hw _ (List.mem_of_getElem? (i := 29) rfl))) (by decide) (t := .boolean) (t' := (.array .boolean)) (by decide) (by decide)))
  have F508 := F491.wr W498
  have F509 := F492.other W498 (Ne.symm n253)
  have F510 := F493.other W498 (Or.inr (slot_ne (Or.inr (hw _ (List.mem_of_getElem? (i := 18) rfl))) (Or.inr (hw _ (List.mem_of_getElem? (i := 29) rfl))) (by decide) (t := (.array .double)) (t' := (.array .boolean)) (by decide) (by decide)))
  have F511 := V496.other W498 (Ne.symm n478)
  have Z512 : n0 ≤ h498.size := Nat.le_trans Z494 (Nat.le_of_eq W498.size.symm)
  have N513 := Fr.snoc X498 N473 ga
  have K514 := K495.wr W498 (Or.inl (List.mem_of_getElem? (i := 0) rfl))
  have k515 : ∀ t, Steps p.tables e below (T498.setTop (mkF m 73 #[.val (.ref a1), .val (.int (2 : Int32)), .val (.int (3 : Int32))] [])) t → Steps p.tables e below (s₁.setTop (entryFrame m #[(.ref a1), (.int (2 : Int32)), (.int (3 : Int32))] 3)) t := fun t k => k497 t (st498 t k)
  have k516 : ∀ t, Steps p.tables e below (T498.setTop (mkF m 75 #[.val (.ref a1), .val (.int (2 : Int32)), .val (.int (3 : Int32))] [(.int (2 : Int32)), (.ref a1)])) t → Steps p.tables e below (s₁.setTop (entryFrame m #[(.ref a1), (.int (2 : Int32)), (.int (3 : Int32))] 3)) t := fun t k => k515 t (by
    show Steps p.tables e below (T498.setTop (mkF m 73 #[.val (.ref a1), .val (.int (2 : Int32)), .val (.int (3 : Int32))] [])) _
    refine XS.aloadN X498.here hx rfl (hb hby d1_73) rfl rfl ?_
    show Steps p.tables e below (T498.setTop (mkF m 74 #[.val (.ref a1), .val (.int (2 : Int32)), .val (.int (3 : Int32))] [(.ref a1)])) _
    refine XS.iloadN X498.here hx rfl (hb hby d1_74) rfl ?_
    exact k)
  obtain ⟨T517, h517, k517, X517, e517, E517, A517, st517⟩ := newP X498 hx hZ (hw _ (List.mem_of_getElem? (i := 27) rfl)) e498 (g := (mkF m 75 #[.val (.ref a1), .val (.int (2 : Int32)), .val (.int (3 : Int32))] [(.int (2 : Int32)), (.ref a1)])) rfl (hb hby d1_75) rfl (by decide) (cap := 2) (by decide) (by decide) (by decide) (by decide)
  obtain ⟨b517, g517⟩ : ∃ z, z = h498.size := ⟨_, rfl⟩
  rw [← g517] at A517 st517
  have n518 : a1 ≠ b517 := Nat.ne_of_lt (Nat.lt_of_lt_of_le F500.lt (Nat.le_of_eq g517.symm))
  have n519 : b252 ≠ b517 := Nat.ne_of_lt (Nat.lt_of_lt_of_le F509.lt (Nat.le_of_eq g517.symm))
  have g520 : n0 ≤ b517 := Nat.le_trans Z512 (Nat.le_of_eq g517.symm)
  have z521 : h0.size ≤ b517 := Nat.le_trans K514.1 (Nat.le_of_eq g517.symm)
  have F522 := F500.ext E517
  have F523 := F501.ext E517
  have F524 := F502.ext E517
  have F525 := F503.ext E517
  have F526 := F504.ext E517
  have F527 := F505.ext E517
  have F528 := F506.ext E517
  have F529 := F507.ext E517
  have F530 := F508.ext E517
  have F531 := F509.ext E517
  have F532 := F510.ext E517
  have Z533 : n0 ≤ h517.size := Nat.le_trans Z512 E517.1
  have K534 := K514.ext E517
  have V535 : Arv Z h517 b517 k517 .boolean (2 : Int32) [(.int (0 : Int32)), (.int (0 : Int32))] (.int (0 : Int32)) := (Arv.new A517 (by decide)).pad (pad_rep [] (.int (0 : Int32)) 2)
  have k536 : ∀ t, Steps p.tables e below (T517.setTop (mkF m 77 #[.val (.ref a1), .val (.int (2 : Int32)), .val (.int (3 : Int32))] [(.ref b517), (.ref a1)])) t → Steps p.tables e below (s₁.setTop (entryFrame m #[(.ref a1), (.int (2 : Int32)), (.int (3 : Int32))] 3)) t := fun t k => k516 t (st517 t k)
  obtain ⟨T537, h537, X537, e537, W537, st537⟩ := putF X517 hx hZ hown (host := "") (Or.inl (hw _ (List.mem_of_getElem? (i := 30) rfl))) Via.refl e517 F522 F530 (Or.inr ⟨(hw _ (List.mem_of_getElem? (i := 31) rfl)), rfl, hnm⟩) (hw _ (List.mem_of_getElem? (i := 2) rfl)) (ty := (.array .boolean)) (by decide) rfl rfl (g := (mkF m 77 #[.val (.ref a1), .val (.int (2 : Int32)), .val (.int (3 : Int32))] [(.ref b517), (.ref a1)])) rfl rfl (hb hby d1_77)
  have F538 := F522.same W537
  have F539 := F523.other W537 (Or.inr (slot_ne (Or.inr (hw _ (List.mem_of_getElem? (i := 33) rfl))) (Or.inr (hw _ (List.mem_of_getElem? (i := 31) rfl))) (by decide) (t := (.array .boolean)) (t' := (.array .boolean)) (by decide) (by decide)))
  have F540 := F524.other W537 (Or.inr (slot_ne (Or.inr (hw _ (List.mem_of_getElem? (i := 36) rfl))) (Or.inr (hw _ (List.mem_of_getElem? (i := 31) rfl))) (by decide) (t := (.array .int)) (t' := (.array .boolean)) (by decide) (by decide)))
  have F541 := F525.other W537 (Or.inr (slot_ne (Or.inr (hw _ (List.mem_of_getElem? (i := 38) rfl))) (Or.inr (hw _ (List.mem_of_getElem? (i := 31) rfl))) (by decide) (t := (.array .boolean)) (t' := (.array .boolean)) (by decide) (by decide)))
  have F542 := F526.other W537 (Or.inr (slot_ne (Or.inl (hw _ (List.mem_of_getElem? (i := 45) rfl))) (Or.inr (hw _ (List.mem_of_getElem? (i := 31) rfl))) (by decide) (t := .int) (t' := (.array .boolean)) (by decide) (by decide)))
  have F543 := F527.other W537 (Or.inr (slot_ne (Or.inl (hw _ (List.mem_of_getElem? (i := 47) rfl))) (Or.inr (hw _ (List.mem_of_getElem? (i := 31) rfl))) (by decide) (t := .int) (t' := (.array .boolean)) (by decide) (by decide)))
  have F544 := F528.other W537 (Or.inr (slot_ne (Or.inl (hw _ (List.mem_of_getElem? (i := 49) rfl))) (Or.inr (hw _ (List.mem_of_getElem? (i := 31) rfl))) (by decide) (t := .int) (t' := (.array .boolean)) (by decide) (by decide)))
  have F545 := F529.other W537 (Or.inr (slot_ne (Or.inl (hw _ (List.mem_of_getElem? (i := 52) rfl))) (Or.inr (hw _ (List.mem_of_getElem? (i := 31) rfl))) (by decide) (t := .boolean) (t' := (.array .boolean)) (by decide) (by decide)))
  have F546 := F530.wr W537
  have F547 := F531.other W537 (Ne.symm n253)
  have F548 := F532.other W537 (Or.inr (slot_ne (Or.inr (hw _ (List.mem_of_getElem? (i := 18) rfl))) (Or.inr (hw _ (List.mem_of_getElem? (i := 31) rfl))) (by decide) (t := (.array .double)) (t' := (.array .boolean)) (by decide) (by decide)))
  have F549 := V535.other W537 (Ne.symm n518)
  have Z550 : n0 ≤ h537.size := Nat.le_trans Z533 (Nat.le_of_eq W537.size.symm)
  have N551 := Fr.snoc X537 N513 ga
  have K552 := K534.wr W537 (Or.inl (List.mem_of_getElem? (i := 0) rfl))
  have k553 : ∀ t, Steps p.tables e below (T537.setTop (mkF m 80 #[.val (.ref a1), .val (.int (2 : Int32)), .val (.int (3 : Int32))] [])) t → Steps p.tables e below (s₁.setTop (entryFrame m #[(.ref a1), (.int (2 : Int32)), (.int (3 : Int32))] 3)) t := fun t k => k536 t (st537 t k)
  have k554 : ∀ t, Steps p.tables e below (T537.setTop (mkF m 84 #[.val (.ref a1), .val (.int (2 : Int32)), .val (.int (3 : Int32))] [(.int (6 : Int32)), (.ref a1)])) t → Steps p.tables e below (s₁.setTop (entryFrame m #[(.ref a1), (.int (2 : Int32)), (.int (3 : Int32))] 3)) t := fun t k => k553 t (by
    show Steps p.tables e below (T537.setTop (mkF m 80 #[.val (.ref a1), .val (.int (2 : Int32)), .val (.int (3 : Int32))] [])) _
    refine XS.aloadN X537.here hx rfl (hb hby d1_80) rfl rfl ?_
    show Steps p.tables e below (T537.setTop (mkF m 81 #[.val (.ref a1), .val (.int (2 : Int32)), .val (.int (3 : Int32))] [(.ref a1)])) _
    refine XS.iloadN X537.here hx rfl (hb hby d1_81) rfl ?_
    show Steps p.tables e below (T537.setTop (mkF m 82 #[.val (.ref a1), .val (.int (2 : Int32)), .val (.int (3 : Int32))] [(.int (2 : Int32)), (.ref a1)])) _
    refine XS.iloadN X537.here hx rfl (hb hby d1_82) rfl ?_
    show Steps p.tables e below (T537.setTop (mkF m 83 #[.val (.ref a1), .val (.int (2 : Int32)), .val (.int (3 : Int32))] [(.int (3 : Int32)), (.int (2 : Int32)), (.ref a1)])) _
    refine XS.imul X537.here hx rfl (hb hby d1_83) rfl ?_
    show Steps p.tables e below (T537.setTop (mkF m 84 #[.val (.ref a1), .val (.int (2 : Int32)), .val (.int (3 : Int32))] [(.int ((2 : Int32) * (3 : Int32))), (.ref a1)])) _
    refine castTop (g' := (mkF m 84 #[.val (.ref a1), .val (.int (2 : Int32)), .val (.int (3 : Int32))] [(.int (6 : Int32)), (.ref a1)])) (by rw [show ((2 : Int32) * (3 : Int32)) = (6 : Int32) by decide]) ?_
    exact k)
  obtain ⟨T555, h555, k555, X555, e555, E555, A555, st555⟩ := newP X537 hx hZ (hw _ (List.mem_of_getElem? (i := 27) rfl)) e537 (g := (mkF m 84 #[.val (.ref a1), .val (.int (2 : Int32)), .val (.int (3 : Int32))] [(.int (6 : Int32)), (.ref a1)])) rfl (hb hby d1_84) rfl (by decide) (cap := 6) (by decide) (by decide) (by decide) (by decide)
  obtain ⟨b555, g555⟩ : ∃ z, z = h537.size := ⟨_, rfl⟩
  rw [← g555] at A555 st555
  have n556 : a1 ≠ b555 := Nat.ne_of_lt (Nat.lt_of_lt_of_le F539.lt (Nat.le_of_eq g555.symm))
  have n557 : b252 ≠ b555 := Nat.ne_of_lt (Nat.lt_of_lt_of_le F547.lt (Nat.le_of_eq g555.symm))
  have g558 : n0 ≤ b555 := Nat.le_trans Z550 (Nat.le_of_eq g555.symm)
  have z559 : h0.size ≤ b555 := Nat.le_trans K552.1 (Nat.le_of_eq g555.symm)
  have F560 := F539.ext E555
  have F561 := F540.ext E555
  have F562 := F541.ext E555
  have F563 := F542.ext E555
  have F564 := F543.ext E555
  have F565 := F544.ext E555
  have F566 := F545.ext E555
  have F567 := F546.ext E555
  have F568 := F547.ext E555
  have F569 := F548.ext E555
  have Z570 : n0 ≤ h555.size := Nat.le_trans Z550 E555.1
  have K571 := K552.ext E555
  have V572 : Arv Z h555 b555 k555 .boolean (6 : Int32) [(.int (0 : Int32)), (.int (0 : Int32)), (.int (0 : Int32)), (.int (0 : Int32)), (.int (0 : Int32)), (.int (0 : Int32))] (.int (0 : Int32)) := (Arv.new A555 (by decide)).pad (pad_rep [] (.int (0 : Int32)) 6)
  have k573 : ∀ t, Steps p.tables e below (T555.setTop (mkF m 86 #[.val (.ref a1), .val (.int (2 : Int32)), .val (.int (3 : Int32))] [(.ref b555), (.ref a1)])) t → Steps p.tables e below (s₁.setTop (entryFrame m #[(.ref a1), (.int (2 : Int32)), (.int (3 : Int32))] 3)) t := fun t k => k554 t (st555 t k)
  obtain ⟨T574, h574, X574, e574, W574, st574⟩ := putF X555 hx hZ hown (host := "") (Or.inl (hw _ (List.mem_of_getElem? (i := 32) rfl))) Via.refl e555 F560 F567 (Or.inr ⟨(hw _ (List.mem_of_getElem? (i := 33) rfl)), rfl, hnm⟩) (hw _ (List.mem_of_getElem? (i := 2) rfl)) (ty := (.array .boolean)) (by decide) rfl rfl (g := (mkF m 86 #[.val (.ref a1), .val (.int (2 : Int32)), .val (.int (3 : Int32))] [(.ref b555), (.ref a1)])) rfl rfl (hb hby d1_86)
  have F575 := F560.same W574
  have F576 := F561.other W574 (Or.inr (slot_ne (Or.inr (hw _ (List.mem_of_getElem? (i := 36) rfl))) (Or.inr (hw _ (List.mem_of_getElem? (i := 33) rfl))) (by decide) (t := (.array .int)) (t' := (.array .boolean)) (by decide) (by decide)))
  have F577 := F562.other W574 (Or.inr (slot_ne (Or.inr (hw _ (List.mem_of_getElem? (i := 38) rfl))) (Or.inr (hw _ (List.mem_of_getElem? (i := 33) rfl))) (by decide) (t := (.array .boolean)) (t' := (.array .boolean)) (by decide) (by decide)))
  have F578 := F563.other W574 (Or.inr (slot_ne (Or.inl (hw _ (List.mem_of_getElem? (i := 45) rfl))) (Or.inr (hw _ (List.mem_of_getElem? (i := 33) rfl))) (by decide) (t := .int) (t' := (.array .boolean)) (by decide) (by decide)))
  have F579 := F564.other W574 (Or.inr (slot_ne (Or.inl (hw _ (List.mem_of_getElem? (i := 47) rfl))) (Or.inr (hw _ (List.mem_of_getElem? (i := 33) rfl))) (by decide) (t := .int) (t' := (.array .boolean)) (by decide) (by decide)))
  have F580 := F565.other W574 (Or.inr (slot_ne (Or.inl (hw _ (List.mem_of_getElem? (i := 49) rfl))) (Or.inr (hw _ (List.mem_of_getElem? (i := 33) rfl))) (by decide) (t := .int) (t' := (.array .boolean)) (by decide) (by decide)))
  have F581 := F566.other W574 (Or.inr (slot_ne (Or.inl (hw _ (List.mem_of_getElem? (i := 52) rfl))) (Or.inr (hw _ (List.mem_of_getElem? (i := 33) rfl))) (by decide) (t := .boolean) (t' := (.array .boolean)) (by decide) (by decide)))
  have F582 := F567.wr W574
  have F583 := F568.other W574 (Ne.symm n253)
  have F584 := F569.other W574 (Or.inr (slot_ne (Or.inr (hw _ (List.mem_of_getElem? (i := 18) rfl))) (Or.inr (hw _ (List.mem_of_getElem? (i := 33) rfl))) (by decide) (t := (.array .double)) (t' := (.array .boolean)) (by decide) (by decide)))
  have F585 := V572.other W574 (Ne.symm n556)
  have Z586 : n0 ≤ h574.size := Nat.le_trans Z570 (Nat.le_of_eq W574.size.symm)
  have N587 := Fr.snoc X574 N551 ga
  have K588 := K571.wr W574 (Or.inl (List.mem_of_getElem? (i := 0) rfl))
  have k589 : ∀ t, Steps p.tables e below (T574.setTop (mkF m 89 #[.val (.ref a1), .val (.int (2 : Int32)), .val (.int (3 : Int32))] [])) t → Steps p.tables e below (s₁.setTop (entryFrame m #[(.ref a1), (.int (2 : Int32)), (.int (3 : Int32))] 3)) t := fun t k => k573 t (st574 t k)
  have k590 : ∀ t, Steps p.tables e below (T574.setTop (mkF m 91 #[.val (.ref a1), .val (.int (2 : Int32)), .val (.int (3 : Int32))] [(.int (2 : Int32)), (.ref a1)])) t → Steps p.tables e below (s₁.setTop (entryFrame m #[(.ref a1), (.int (2 : Int32)), (.int (3 : Int32))] 3)) t := fun t k => k589 t (by
    show Steps p.tables e below (T574.setTop (mkF m 89 #[.val (.ref a1), .val (.int (2 : Int32)), .val (.int (3 : Int32))] [])) _
    refine XS.aloadN X574.here hx rfl (hb hby d1_89) rfl rfl ?_
    show Steps p.tables e below (T574.setTop (mkF m 90 #[.val (.ref a1), .val (.int (2 : Int32)), .val (.int (3 : Int32))] [(.ref a1)])) _
    refine XS.iloadN X574.here hx rfl (hb hby d1_90) rfl ?_
    exact k)
  obtain ⟨T591, h591, k591, X591, e591, E591, A591, st591⟩ := newP X574 hx hZ (hw _ (List.mem_of_getElem? (i := 34) rfl)) e574 (g := (mkF m 91 #[.val (.ref a1), .val (.int (2 : Int32)), .val (.int (3 : Int32))] [(.int (2 : Int32)), (.ref a1)])) rfl (hb hby d1_91) rfl (by decide) (cap := 2) (by decide) (by decide) (by decide) (by decide)
  obtain ⟨b591, g591⟩ : ∃ z, z = h574.size := ⟨_, rfl⟩
  rw [← g591] at A591 st591
  have n592 : a1 ≠ b591 := Nat.ne_of_lt (Nat.lt_of_lt_of_le F576.lt (Nat.le_of_eq g591.symm))
  have n593 : b252 ≠ b591 := Nat.ne_of_lt (Nat.lt_of_lt_of_le F583.lt (Nat.le_of_eq g591.symm))
  have n594 : b555 ≠ b591 := Nat.ne_of_lt (Nat.lt_of_lt_of_le F585.lt (Nat.le_of_eq g591.symm))
  have g595 : n0 ≤ b591 := Nat.le_trans Z586 (Nat.le_of_eq g591.symm)
  have z596 : h0.size ≤ b591 := Nat.le_trans K588.1 (Nat.le_of_eq g591.symm)
  have F597 := F576.ext E591
  have F598 := F577.ext E591
  have F599 := F578.ext E591
  have F600 := F579.ext E591
  have F601 := F580.ext E591
  have F602 := F581.ext E591
  have F603 := F582.ext E591
  have F604 := F583.ext E591
  have F605 := F584.ext E591
  have F606 := F585.ext E591
  have F607 := F575.ext E591
  have Z608 : n0 ≤ h591.size := Nat.le_trans Z586 E591.1
  have K609 := K588.ext E591
  have V610 : Arv Z h591 b591 k591 .int (2 : Int32) [(.int (0 : Int32)), (.int (0 : Int32))] (.int (0 : Int32)) := (Arv.new A591 (by decide)).pad (pad_rep [] (.int (0 : Int32)) 2)
  have k611 : ∀ t, Steps p.tables e below (T591.setTop (mkF m 93 #[.val (.ref a1), .val (.int (2 : Int32)), .val (.int (3 : Int32))] [(.ref b591), (.ref a1)])) t → Steps p.tables e below (s₁.setTop (entryFrame m #[(.ref a1), (.int (2 : Int32)), (.int (3 : Int32))] 3)) t := fun t k => k590 t (st591 t k)
  obtain ⟨T612, h612, X612, e612, W612, st612⟩ := putF X591 hx hZ hown (host := "") (Or.inl (hw _ (List.mem_of_getElem? (i := 35) rfl))) Via.refl e591 F597 F603 (Or.inr ⟨(hw _ (List.mem_of_getElem? (i := 36) rfl)), rfl, hnm⟩) (hw _ (List.mem_of_getElem? (i := 2) rfl)) (ty := (.array .int)) (by decide) rfl rfl (g := (mkF m 93 #[.val (.ref a1), .val (.int (2 : Int32)), .val (.int (3 : Int32))] [(.ref b591), (.ref a1)])) rfl rfl (hb hby d1_93)
  have F613 := F597.same W612
  have F614 := F598.other W612 (Or.inr (slot_ne (Or.inr (hw _ (List.mem_of_getElem? (i := 38) rfl))) (Or.inr (hw _ (List.mem_of_getElem? (i := 36) rfl))) (by decide) (t := (.array .boolean)) (t' := (.array .int)) (by decide) (by decide)))
  have F615 := F599.other W612 (Or.inr (slot_ne (Or.inl (hw _ (List.mem_of_getElem? (i := 45) rfl))) (Or.inr (hw _ (List.mem_of_getElem? (i := 36) rfl))) (by decide) (t := .int) (t' := (.array .int)) (by decide) (by decide)))
  have F616 := F600.other W612 (Or.inr (slot_ne (Or.inl (hw _ (List.mem_of_getElem? (i := 47) rfl))) (Or.inr (hw _ (List.mem_of_getElem? (i := 36) rfl))) (by decide) (t := .int) (t' := (.array .int)) (by decide) (by decide)))
  have F617 := F601.other W612 (Or.inr (slot_ne (Or.inl (hw _ (List.mem_of_getElem? (i := 49) rfl))) (Or.inr (hw _ (List.mem_of_getElem? (i := 36) rfl))) (by decide) (t := .int) (t' := (.array .int)) (by decide) (by decide)))
  have F618 := F602.other W612 (Or.inr (slot_ne (Or.inl (hw _ (List.mem_of_getElem? (i := 52) rfl))) (Or.inr (hw _ (List.mem_of_getElem? (i := 36) rfl))) (by decide) (t := .boolean) (t' := (.array .int)) (by decide) (by decide)))
  have F619 := F603.wr W612
  have F620 := F604.other W612 (Ne.symm n253)
  have F621 := F605.other W612 (Or.inr (slot_ne (Or.inr (hw _ (List.mem_of_getElem? (i := 18) rfl))) (Or.inr (hw _ (List.mem_of_getElem? (i := 36) rfl))) (by decide) (t := (.array .double)) (t' := (.array .int)) (by decide) (by decide)))
  have F622 := F606.other W612 (Ne.symm n556)
  have F623 := F607.other W612 (Or.inr (slot_ne (Or.inr (hw _ (List.mem_of_getElem? (i := 33) rfl))) (Or.inr (hw _ (List.mem_of_getElem? (i := 36) rfl))) (by decide) (t := (.array .boolean)) (t' := (.array .int)) (by decide) (by decide)))
  have F624 := V610.other W612 (Ne.symm n592)
  have Z625 : n0 ≤ h612.size := Nat.le_trans Z608 (Nat.le_of_eq W612.size.symm)
  have N626 := Fr.snoc X612 N587 ga
  have K627 := K609.wr W612 (Or.inl (List.mem_of_getElem? (i := 0) rfl))
  have k628 : ∀ t, Steps p.tables e below (T612.setTop (mkF m 96 #[.val (.ref a1), .val (.int (2 : Int32)), .val (.int (3 : Int32))] [])) t → Steps p.tables e below (s₁.setTop (entryFrame m #[(.ref a1), (.int (2 : Int32)), (.int (3 : Int32))] 3)) t := fun t k => k611 t (st612 t k)
  have k629 : ∀ t, Steps p.tables e below (T612.setTop (mkF m 98 #[.val (.ref a1), .val (.int (2 : Int32)), .val (.int (3 : Int32))] [(.int (2 : Int32)), (.ref a1)])) t → Steps p.tables e below (s₁.setTop (entryFrame m #[(.ref a1), (.int (2 : Int32)), (.int (3 : Int32))] 3)) t := fun t k => k628 t (by
    show Steps p.tables e below (T612.setTop (mkF m 96 #[.val (.ref a1), .val (.int (2 : Int32)), .val (.int (3 : Int32))] [])) _
    refine XS.aloadN X612.here hx rfl (hb hby d1_96) rfl rfl ?_
    show Steps p.tables e below (T612.setTop (mkF m 97 #[.val (.ref a1), .val (.int (2 : Int32)), .val (.int (3 : Int32))] [(.ref a1)])) _
    refine XS.iloadN X612.here hx rfl (hb hby d1_97) rfl ?_
    exact k)
  obtain ⟨T630, h630, k630, X630, e630, E630, A630, st630⟩ := newP X612 hx hZ (hw _ (List.mem_of_getElem? (i := 27) rfl)) e612 (g := (mkF m 98 #[.val (.ref a1), .val (.int (2 : Int32)), .val (.int (3 : Int32))] [(.int (2 : Int32)), (.ref a1)])) rfl (hb hby d1_98) rfl (by decide) (cap := 2) (by decide) (by decide) (by decide) (by decide)
  obtain ⟨b630, g630⟩ : ∃ z, z = h612.size := ⟨_, rfl⟩
  rw [← g630] at A630 st630
  have n631 : a1 ≠ b630 := Nat.ne_of_lt (Nat.lt_of_lt_of_le F614.lt (Nat.le_of_eq g630.symm))
  have n632 : b252 ≠ b630 := Nat.ne_of_lt (Nat.lt_of_lt_of_le F620.lt (Nat.le_of_eq g630.symm))
  have n633 : b555 ≠ b630 := Nat.ne_of_lt (Nat.lt_of_lt_of_le F622.lt (Nat.le_of_eq g630.symm))
  have g634 : n0 ≤ b630 := Nat.le_trans Z625 (Nat.le_of_eq g630.symm)
  have z635 : h0.size ≤ b630 := Nat.le_trans K627.1 (Nat.le_of_eq g630.symm)
  have F636 := F614.ext E630
  have F637 := F615.ext E630
  have F638 := F616.ext E630
  have F639 := F617.ext E630
  have F640 := F618.ext E630
  have F641 := F619.ext E630
  have F642 := F620.ext E630
  have F643 := F621.ext E630
  have F644 := F622.ext E630
  have F645 := F623.ext E630
  have Z646 : n0 ≤ h630.size := Nat.le_trans Z625 E630.1
  have K647 := K627.ext E630
  have V648 : Arv Z h630 b630 k630 .boolean (2 : Int32) [(.int (0 : Int32)), (.int (0 : Int32))] (.int (0 : Int32)) := (Arv.new A630 (by decide)).pad (pad_rep [] (.int (0 : Int32)) 2)
  have k649 : ∀ t, Steps p.tables e below (T630.setTop (mkF m 100 #[.val (.ref a1), .val (.int (2 : Int32)), .val (.int (3 : Int32))] [(.ref b630), (.ref a1)])) t → Steps p.tables e below (s₁.setTop (entryFrame m #[(.ref a1), (.int (2 : Int32)), (.int (3 : Int32))] 3)) t := fun t k => k629 t (st630 t k)
  obtain ⟨T650, h650, X650, e650, W650, st650⟩ := putF X630 hx hZ hown (host := "") (Or.inl (hw _ (List.mem_of_getElem? (i := 37) rfl))) Via.refl e630 F636 F641 (Or.inr ⟨(hw _ (List.mem_of_getElem? (i := 38) rfl)), rfl, hnm⟩) (hw _ (List.mem_of_getElem? (i := 2) rfl)) (ty := (.array .boolean)) (by decide) rfl rfl (g := (mkF m 100 #[.val (.ref a1), .val (.int (2 : Int32)), .val (.int (3 : Int32))] [(.ref b630), (.ref a1)])) rfl rfl (hb hby d1_100)
  have F651 := F636.same W650
  have F652 := F637.other W650 (Or.inr (slot_ne (Or.inl (hw _ (List.mem_of_getElem? (i := 45) rfl))) (Or.inr (hw _ (List.mem_of_getElem? (i := 38) rfl))) (by decide) (t := .int) (t' := (.array .boolean)) (by decide) (by decide)))
  have F653 := F638.other W650 (Or.inr (slot_ne (Or.inl (hw _ (List.mem_of_getElem? (i := 47) rfl))) (Or.inr (hw _ (List.mem_of_getElem? (i := 38) rfl))) (by decide) (t := .int) (t' := (.array .boolean)) (by decide) (by decide)))
  have F654 := F639.other W650 (Or.inr (slot_ne (Or.inl (hw _ (List.mem_of_getElem? (i := 49) rfl))) (Or.inr (hw _ (List.mem_of_getElem? (i := 38) rfl))) (by decide) (t := .int) (t' := (.array .boolean)) (by decide) (by decide)))
  have F655 := F640.other W650 (Or.inr (slot_ne (Or.inl (hw _ (List.mem_of_getElem? (i := 52) rfl))) (Or.inr (hw _ (List.mem_of_getElem? (i := 38) rfl))) (by decide) (t := .boolean) (t' := (.array .boolean)) (by decide) (by decide)))
  have F656 := F641.wr W650
  have F657 := F642.other W650 (Ne.symm n253)
  have F658 := F643.other W650 (Or.inr (slot_ne (Or.inr (hw _ (List.mem_of_getElem? (i := 18) rfl))) (Or.inr (hw _ (List.mem_of_getElem? (i := 38) rfl))) (by decide) (t := (.array .double)) (t' := (.array .boolean)) (by decide) (by decide)))
  have F659 := F644.other W650 (Ne.symm n556)
  have F660 := F645.other W650 (Or.inr (slot_ne (Or.inr (hw _ (List.mem_of_getElem? (i := 33) rfl))) (Or.inr (hw _ (List.mem_of_getElem? (i := 38) rfl))) (by decide) (t := (.array .boolean)) (t' := (.array .boolean)) (by decide) (by decide)))
  have F661 := V648.other W650 (Ne.symm n631)
  have Z662 : n0 ≤ h650.size := Nat.le_trans Z646 (Nat.le_of_eq W650.size.symm)
  have N663 := Fr.snoc X650 N626 ga
  have K664 := K647.wr W650 (Or.inl (List.mem_of_getElem? (i := 0) rfl))
  have k665 : ∀ t, Steps p.tables e below (T650.setTop (mkF m 103 #[.val (.ref a1), .val (.int (2 : Int32)), .val (.int (3 : Int32))] [])) t → Steps p.tables e below (s₁.setTop (entryFrame m #[(.ref a1), (.int (2 : Int32)), (.int (3 : Int32))] 3)) t := fun t k => k649 t (st650 t k)
  obtain ⟨fs, hr, hrun, hended, hW, hsame⟩ := X650.leave (v := none) (fun _ => rfl)
  refine ⟨_, _, k665 _ (X650.returnOut hx Bd.returns (hb hby d1_103) hr), hrun, hended, _, _, rfl, ?_, ⟨_, rfl⟩, hW, hsame.mono (by decide) (by decide)⟩
  show Q_rm1 Z a1 h0 n0 _ T650.heap _
  rw [e650]
  exact ⟨b252, b555, k252, k555, rfl, N663, K664, g254, g558, n253, n556, n557, F656, F658, F660, F652, F653, F654, F655, F657, F659⟩
theorem ef_3_RII (m : MethodId) (x0 : Addr) (x1 : Int32) (x2 : Int32) : entryFrame m #[(.ref x0), (.int x1), (.int x2)] 5 = mkF m 0 #[.val (.ref x0), .val (.int x1), .val (.int x2), .unset, .unset] [] := by first | (simp [entryFrame, mkF, argsToLocals, Value.category]; done) | rfl
theorem d3_0 : decode prog_40_method_2_code 0 = .ok (.iconst 0, 1) := by decide +kernel
theorem d3_1 : decode prog_40_method_2_code 1 = .ok (.istore_n 3, 1) := by decide +kernel
theorem d3_2 : decode prog_40_method_2_code 2 = .ok (.iload_n 3, 1) := by decide +kernel
theorem d3_3 : decode prog_40_method_2_code 3 = .ok (.aload_n 0, 1) := by decide +kernel
theorem d3_4 : decode prog_40_method_2_code 4 = .ok (.getfield 51, 3) := by decide +kernel
theorem d3_7 : decode prog_40_method_2_code 7 = .ok (.if_icmp .ge 68, 3) := by decide +kernel
theorem d3_75 : decode prog_40_method_2_code 75 = .ok (.aload_n 0, 1) := by decide +kernel
theorem d3_76 : decode prog_40_method_2_code 76 = .ok (.iconst 0, 1) := by decide +kernel
theorem d3_77 : decode prog_40_method_2_code 77 = .ok (.putfield 51, 3) := by decide +kernel
theorem d3_80 : decode prog_40_method_2_code 80 = .ok (.aload_n 0, 1) := by decide +kernel
theorem d3_81 : decode prog_40_method_2_code 81 = .ok (.iload_n 1, 1) := by decide +kernel
theorem d3_82 : decode prog_40_method_2_code 82 = .ok (.putfield 64, 3) := by decide +kernel
theorem d3_85 : decode prog_40_method_2_code 85 = .ok (.aload_n 0, 1) := by decide +kernel
theorem d3_86 : decode prog_40_method_2_code 86 = .ok (.iload_n 2, 1) := by decide +kernel
theorem d3_87 : decode prog_40_method_2_code 87 = .ok (.putfield 55, 3) := by decide +kernel
theorem d3_90 : decode prog_40_method_2_code 90 = .ok (.iconst 0, 1) := by decide +kernel
theorem d3_91 : decode prog_40_method_2_code 91 = .ok (.istore_n 3, 1) := by decide +kernel
theorem d3_92 : decode prog_40_method_2_code 92 = .ok (.iload_n 3, 1) := by decide +kernel
theorem d3_93 : decode prog_40_method_2_code 93 = .ok (.aload_n 0, 1) := by decide +kernel
theorem d3_94 : decode prog_40_method_2_code 94 = .ok (.getfield 55, 3) := by decide +kernel
theorem d3_97 : decode prog_40_method_2_code 97 = .ok (.if_icmp .ge 18, 3) := by decide +kernel
theorem d3_100 : decode prog_40_method_2_code 100 = .ok (.aload_n 0, 1) := by decide +kernel
theorem d3_101 : decode prog_40_method_2_code 101 = .ok (.getfield 19, 3) := by decide +kernel
theorem d3_104 : decode prog_40_method_2_code 104 = .ok (.iload_n 3, 1) := by decide +kernel
theorem d3_105 : decode prog_40_method_2_code 105 = .ok (.ldc2_w 69, 3) := by decide +kernel
theorem d3_108 : decode prog_40_method_2_code 108 = .ok (.dastore, 1) := by decide +kernel
theorem d3_109 : decode prog_40_method_2_code 109 = .ok (.iinc 3 1, 3) := by decide +kernel
theorem d3_112 : decode prog_40_method_2_code 112 = .ok (.goto (-20), 3) := by decide +kernel
theorem d3_115 : decode prog_40_method_2_code 115 = .ok (.aload_n 0, 1) := by decide +kernel
theorem d3_116 : decode prog_40_method_2_code 116 = .ok (.getfield 71, 3) := by decide +kernel
theorem d3_119 : decode prog_40_method_2_code 119 = .ok (.ifCond .eq 16, 3) := by decide +kernel
theorem d3_135 : decode prog_40_method_2_code 135 = .ok (.return_, 1) := by decide +kernel
def Q_rm3 (Z : State) (a1 : Addr) (b1 : Addr) (b2 : Addr) (k1 : ClassId) (k2 : ClassId) (h0 : Heap) (n0 : Nat) (v : Option Value) (h : Heap) (L : List Loc) : Prop := v = none ∧ Fr n0 L ∧ Keep h0 h [a1, b1] ∧ Exa Z h a1 "com/example/istra/istra/engine/NodeModel" ∧ Fld Z h a1 "com/example/istra/istra/engine/NodeModel" "wantingCount" "I" (.int (0 : Int32)) ∧ Fld Z h a1 "com/example/istra/istra/engine/NodeModel" "approaches" "I" (.int (2 : Int32)) ∧ Fld Z h a1 "com/example/istra/istra/engine/NodeModel" "columns" "I" (.int (3 : Int32)) ∧ Fld Z h a1 "com/example/istra/istra/engine/NodeModel" "anyClosed" "Z" (.int (0 : Int32)) ∧ Fld Z h a1 "com/example/istra/istra/engine/NodeModel" "supply" "[D" (.ref b1) ∧ Fld Z h a1 "com/example/istra/istra/engine/NodeModel" "closed" "[Z" (.ref b2) ∧ Arv Z h b1 k1 .double (3 : Int32) [(.double (9218868437227405312 : UInt64)), (.double (9218868437227405312 : UInt64)), (.double (9218868437227405312 : UInt64))] (.double (0 : UInt64)) ∧ Arv Z h b2 k2 .boolean (6 : Int32) [(.int (0 : Int32)), (.int (0 : Int32)), (.int (0 : Int32)), (.int (0 : Int32)), (.int (0 : Int32)), (.int (0 : Int32))] (.int (0 : Int32))
set_option maxRecDepth 65536 in
set_option maxHeartbeats 40000000 in
theorem rm3 (l : Launch) (Z : State) (a0 : Array Value) (hw : ∀ d ∈ tables_1, d.before a0 Z = true) (ws : List Jvm.Cond) (a1 : Addr) (b1 : Addr) (b2 : Addr) (k1 : ClassId) (k2 : ClassId) (h0 : Heap) (n0 : Nat) (Z0 : n0 ≤ h0.size) (F_wantingCount : Fld Z h0 a1 "com/example/istra/istra/engine/NodeModel" "wantingCount" "I" (.int (0 : Int32))) (F_approaches : Fld Z h0 a1 "com/example/istra/istra/engine/NodeModel" "approaches" "I" (.int (0 : Int32))) (F_columns : Fld Z h0 a1 "com/example/istra/istra/engine/NodeModel" "columns" "I" (.int (0 : Int32))) (F_anyClosed : Fld Z h0 a1 "com/example/istra/istra/engine/NodeModel" "anyClosed" "Z" (.int (0 : Int32))) (F_supply : Fld Z h0 a1 "com/example/istra/istra/engine/NodeModel" "supply" "[D" (.ref b1)) (F_closed : Fld Z h0 a1 "com/example/istra/istra/engine/NodeModel" "closed" "[Z" (.ref b2)) (E1 : Exa Z h0 a1 "com/example/istra/istra/engine/NodeModel") (V1 : Arv Z h0 b1 k1 .double (3 : Int32) [(.double (0 : UInt64)), (.double (0 : UInt64)), (.double (0 : UInt64))] (.double (0 : UInt64))) (V2 : Arv Z h0 b2 k2 .boolean (6 : Int32) [(.int (0 : Int32)), (.int (0 : Int32)), (.int (0 : Int32)), (.int (0 : Int32)), (.int (0 : Int32)), (.int (0 : Int32))] (.int (0 : Int32))) (ga : n0 ≤ a1) (gb1 : n0 ≤ b1) (gb2 : n0 ≤ b2) (n1 : a1 ≠ b1) (n2 : a1 ≠ b2) (n3 : b1 ≠ b2) :
    MetFree l (⟨"com/example/istra/istra/engine/NodeModel", "open", "(II)V"⟩ : MethodName) (head1 (Jvm.Cond.code (⟨"com/example/istra/istra/engine/NodeModel", "open", "(II)V"⟩ : MethodName) prog_40_method_2_code 5 none :: ws) ({ frames := 0, cells := 0, slots := 0, locals := 0 } : Room)) (fun a U => a = #[(.ref a1), (.int (2 : Int32)), (.int (3 : Int32))] ∧ Z.Warmed39 U.vm ∧ U.heap = h0) (fun _ _ _ _ _ => True) (fun _ U o U' => ∃ v L, o = .returned v ∧ Q_rm3 Z a1 b1 b2 k1 k2 h0 n0 v U'.heap L ∧ FrameEnd U o U' L ({ frames := 0, cells := 0, slots := 0, locals := 0 } : Room).cells ({ frames := 0, cells := 0, slots := 0, locals := 0 } : Room).slots) := by
  refine MetFree.of_bodySF (plainFor_of_name pn_com_2fexample_2fistra_2fistra_2fengine_2fNodeModel) hisR ?_
  intro p e s m args below meth c s₁ Bd hml0 hP hK
  obtain ⟨rfl, hZ, hh⟩ := hP
  have hx := Bd.exec
  have hby := Bd.bytes
  have hml : c.maxLocals = 5 := hml0
  have hown : s.vm.findClass "com/example/istra/istra/engine/NodeModel" = some m.cls := findClass_of_methodNamed Bd.named
  have hnm := (name_of_methodNamed Bd.named Bd.method).1
  have X0 : Stand p l e ({ frames := 0, cells := 0, slots := 0, locals := 0 } : Room) s m #[(.ref a1), (.int (2 : Int32)), (.int (3 : Int32))] below meth c s₁ [] 0 0 := Stand.of_body Bd
  have e0 : s₁.heap = h0 := by rw [← hh, Bd.state]; rfl
  have N0 := Fr.nil n0
  have k0 : ∀ t, Steps p.tables e below (s₁.setTop (mkF m 0 #[.val (.ref a1), .val (.int (2 : Int32)), .val (.int (3 : Int32)), .unset, .unset] [])) t → Steps p.tables e below (s₁.setTop (entryFrame m #[(.ref a1), (.int (2 : Int32)), (.int (3 : Int32))] 5)) t := fun t k => castTop (ef_3_RII m a1 (2 : Int32) (3 : Int32)) k
  have K0 := Keep.refl h0 [a1, b1]
  have k101 : ∀ t, Steps p.tables e below (s₁.setTop (mkF m 4 #[.val (.ref a1), .val (.int (2 : Int32)), .val (.int (3 : Int32)), .val (.int (0 : Int32)), .unset] [(.ref a1), (.int (0 : Int32))])) t → Steps p.tables e below (s₁.setTop (entryFrame m #[(.ref a1), (.int (2 : Int32)), (.int (3 : Int32))] 5)) t := fun t k => k0 t (by
    show Steps p.tables e below (s₁.setTop (mkF m 0 #[.val (.ref a1), .val (.int (2 : Int32)), .val (.int (3 : Int32)), .unset, .unset] [])) _
    refine XS.iconst X0.here hx rfl (hb hby d3_0) ?_
    show Steps p.tables e below (s₁.setTop (mkF m 1 #[.val (.ref a1), .val (.int (2 : Int32)), .val (.int (3 : Int32)), .unset, .unset] [(.int (0 : Int32))])) _
    refine XS.istoreN X0.here hx rfl (hb hby d3_1) rfl (l' := #[.val (.ref a1), .val (.int (2 : Int32)), .val (.int (3 : Int32)), .val (.int (0 : Int32)), .unset]) rfl ?_
    show Steps p.tables e below (s₁.setTop (mkF m 2 #[.val (.ref a1), .val (.int (2 : Int32)), .val (.int (3 : Int32)), .val (.int (0 : Int32)), .unset] [])) _
    refine XS.iloadN X0.here hx rfl (hb hby d3_2) rfl ?_
    show Steps p.tables e below (s₁.setTop (mkF m 3 #[.val (.ref a1), .val (.int (2 : Int32)), .val (.int (3 : Int32)), .val (.int (0 : Int32)), .unset] [(.int (0 : Int32))])) _
    refine XS.aloadN X0.here hx rfl (hb hby d3_3) rfl rfl ?_
    exact k)
  obtain ⟨T102, X102, e102, st102⟩ := getF X0 hx hZ hown (host := "") (Or.inl (hw _ (List.mem_of_getElem? (i := 44) rfl))) Via.refl e0 F_wantingCount (g := (mkF m 4 #[.val (.ref a1), .val (.int (2 : Int32)), .val (.int (3 : Int32)), .val (.int (0 : Int32)), .unset] [(.ref a1), (.int (0 : Int32))])) rfl rfl (hb hby d3_4)
  have k103 : ∀ t, Steps p.tables e below (T102.setTop (mkF m 7 #[.val (.ref a1), .val (.int (2 : Int32)), .val (.int (3 : Int32)), .val (.int (0 : Int32)), .unset] [(.int (0 : Int32)), (.int (0 : Int32))])) t → Steps p.tables e below (s₁.setTop (entryFrame m #[(.ref a1), (.int (2 : Int32)), (.int (3 : Int32))] 5)) t := fun t k => k101 t (st102 t k)
  have k104 : ∀ t, Steps p.tables e below (T102.setTop (mkF m 77 #[.val (.ref a1), .val (.int (2 : Int32)), .val (.int (3 : Int32)), .val (.int (0 : Int32)), .unset] [(.int (0 : Int32)), (.ref a1)])) t → Steps p.tables e below (s₁.setTop (entryFrame m #[(.ref a1), (.int (2 : Int32)), (.int (3 : Int32))] 5)) t := fun t k => k103 t (by
    show Steps p.tables e below (T102.setTop (mkF m 7 #[.val (.ref a1), .val (.int (2 : Int32)), .val (.int (3 : Int32)), .val (.int (0 : Int32)), .unset] [(.int (0 : Int32)), (.int (0 : Int32))])) _
    refine XS.icmpYes X102.here hx rfl (pc0 := 7) (pc' := 75) rfl (hb hby d3_7) rfl (flt (by decide)).2.1 (by decide) (by decide) ?_
    show Steps p.tables e below (T102.setTop (mkF m 75 #[.val (.ref a1), .val (.int (2 : Int32)), .val (.int (3 : Int32)), .val (.int (0 : Int32)), .unset] [])) _
    refine XS.aloadN X102.here hx rfl (hb hby d3_75) rfl rfl ?_
    show Steps p.tables e below (T102.setTop (mkF m 76 #[.val (.ref a1), .val (.int (2 : Int32)), .val (.int (3 : Int32)), .val (.int (0 : Int32)), .unset] [(.ref a1)])) _
    refine XS.iconst X102.here hx rfl (hb hby d3_76) ?_
    exact k)
  obtain ⟨T105, h105, X105, e105, W105, st105⟩ := putF X102 hx hZ hown (host := "") (Or.inl (hw _ (List.mem_of_getElem? (i := 44) rfl))) Via.refl e102 F_wantingCount E1 (Or.inl (hw _ (List.mem_of_getElem? (i := 45) rfl))) (hw _ (List.mem_of_getElem? (i := 2) rfl)) (ty := .int) (by decide) rfl rfl (g := (mkF m 77 #[.val (.ref a1), .val (.int (2 : Int32)), .val (.int (3 : Int32)), .val (.int (0 : Int32)), .unset] [(.int (0 : Int32)), (.ref a1)])) rfl rfl (hb hby d3_77)
  have F106 := F_wantingCount.same W105
  have F107 := F_approaches.other W105 (Or.inr (slot_ne (Or.inl (hw _ (List.mem_of_getElem? (i := 47) rfl))) (Or.inl (hw _ (List.mem_of_getElem? (i := 45) rfl))) (by decide) (t := .int) (t' := .int) (by decide) (by decide)))
  have F108 := F_columns.other W105 (Or.inr (slot_ne (Or.inl (hw _ (List.mem_of_getElem? (i := 49) rfl))) (Or.inl (hw _ (List.mem_of_getElem? (i := 45) rfl))) (by decide) (t := .int) (t' := .int) (by decide) (by decide)))
  have F109 := F_anyClosed.other W105 (Or.inr (slot_ne (Or.inl (hw _ (List.mem_of_getElem? (i := 52) rfl))) (Or.inl (hw _ (List.mem_of_getElem? (i := 45) rfl))) (by decide) (t := .boolean) (t' := .int) (by decide) (by decide)))
  have F110 := F_supply.other W105 (Or.inr (slot_ne (Or.inr (hw _ (List.mem_of_getElem? (i := 18) rfl))) (Or.inl (hw _ (List.mem_of_getElem? (i := 45) rfl))) (by decide) (t := (.array .double)) (t' := .int) (by decide) (by decide)))
  have F111 := F_closed.other W105 (Or.inr (slot_ne (Or.inr (hw _ (List.mem_of_getElem? (i := 33) rfl))) (Or.inl (hw _ (List.mem_of_getElem? (i := 45) rfl))) (by decide) (t := (.array .boolean)) (t' := .int) (by decide) (by decide)))
  have F112 := E1.wr W105
  have F113 := V1.other W105 (Ne.symm n1)
  have F114 := V2.other W105 (Ne.symm n2)
  have Z115 : n0 ≤ h105.size := Nat.le_trans Z0 (Nat.le_of_eq W105.size.symm)
  have N116 := Fr.snoc X105 N0 ga
  have K117 := K0.wr W105 (Or.inl (List.mem_of_getElem? (i := 0) rfl))
  have k118 : ∀ t, Steps p.tables e below (T105.setTop (mkF m 80 #[.val (.ref a1), .val (.int (2 : Int32)), .val (.int (3 : Int32)), .val (.int (0 : Int32)), .unset] [])) t → Steps p.tables e below (s₁.setTop (entryFrame m #[(.ref a1), (.int (2 : Int32)), (.int (3 : Int32))] 5)) t := fun t k => k104 t (st105 t k)
  have k119 : ∀ t, Steps p.tables e below (T105.setTop (mkF m 82 #[.val (.ref a1), .val (.int (2 : Int32)), .val (.int (3 : Int32)), .val (.int (0 : Int32)), .unset] [(.int (2 : Int32)), (.ref a1)])) t → Steps p.tables e below (s₁.setTop (entryFrame m #[(.ref a1), (.int (2 : Int32)), (.int (3 : Int32))] 5)) t := fun t k => k118 t (by
    show Steps p.tables e below (T105.setTop (mkF m 80 #[.val (.ref a1), .val (.int (2 : Int32)), .val (.int (3 : Int32)), .val (.int (0 : Int32)), .unset] [])) _
    refine XS.aloadN X105.here hx rfl (hb hby d3_80) rfl rfl ?_
    show Steps p.tables e below (T105.setTop (mkF m 81 #[.val (.ref a1), .val (.int (2 : Int32)), .val (.int (3 : Int32)), .val (.int (0 : Int32)), .unset] [(.ref a1)])) _
    refine XS.iloadN X105.here hx rfl (hb hby d3_81) rfl ?_
    exact k)
  obtain ⟨T120, h120, X120, e120, W120, st120⟩ := putF X105 hx hZ hown (host := "") (Or.inl (hw _ (List.mem_of_getElem? (i := 46) rfl))) Via.refl e105 F107 F112 (Or.inl (hw _ (List.mem_of_getElem? (i := 47) rfl))) (hw _ (List.mem_of_getElem? (i := 2) rfl)) (ty := .int) (by decide) rfl rfl (g := (mkF m 82 #[.val (.ref a1), .val (.int (2 : Int32)), .val (.int (3 : Int32)), .val (.int (0 : Int32)), .unset] [(.int (2 : Int32)), (.ref a1)])) rfl rfl (hb hby d3_82)
  have F121 := F107.same W120
  have F122 := F108.other W120 (Or.inr (slot_ne (Or.inl (hw _ (List.mem_of_getElem? (i := 49) rfl))) (Or.inl (hw _ (List.mem_of_getElem? (i := 47) rfl))) (by decide) (t := .int) (t' := .int) (by decide) (by decide)))
  have F123 := F109.other W120 (Or.inr (slot_ne (Or.inl (hw _ (List.mem_of_getElem? (i := 52) rfl))) (Or.inl (hw _ (List.mem_of_getElem? (i := 47) rfl))) (by decide) (t := .boolean) (t' := .int) (by decide) (by decide)))
  have F124 := F110.other W120 (Or.inr (slot_ne (Or.inr (hw _ (List.mem_of_getElem? (i := 18) rfl))) (Or.inl (hw _ (List.mem_of_getElem? (i := 47) rfl))) (by decide) (t := (.array .double)) (t' := .int) (by decide) (by decide)))
  have F125 := F111.other W120 (Or.inr (slot_ne (Or.inr (hw _ (List.mem_of_getElem? (i := 33) rfl))) (Or.inl (hw _ (List.mem_of_getElem? (i := 47) rfl))) (by decide) (t := (.array .boolean)) (t' := .int) (by decide) (by decide)))
  have F126 := F112.wr W120
  have F127 := F113.other W120 (Ne.symm n1)
  have F128 := F114.other W120 (Ne.symm n2)
  have F129 := F106.other W120 (Or.inr (slot_ne (Or.inl (hw _ (List.mem_of_getElem? (i := 45) rfl))) (Or.inl (hw _ (List.mem_of_getElem? (i := 47) rfl))) (by decide) (t := .int) (t' := .int) (by decide) (by decide)))
  have Z130 : n0 ≤ h120.size := Nat.le_trans Z115 (Nat.le_of_eq W120.size.symm)
  have N131 := Fr.snoc X120 N116 ga
  have K132 := K117.wr W120 (Or.inl (List.mem_of_getElem? (i := 0) rfl))
  have k133 : ∀ t, Steps p.tables e below (T120.setTop (mkF m 85 #[.val (.ref a1), .val (.int (2 : Int32)), .val (.int (3 : Int32)), .val (.int (0 : Int32)), .unset] [])) t → Steps p.tables e below (s₁.setTop (entryFrame m #[(.ref a1), (.int (2 : Int32)), (.int (3 : Int32))] 5)) t := fun t k => k119 t (st120 t k)
  have k134 : ∀ t, Steps p.tables e below (T120.setTop (mkF m 87 #[.val (.ref a1), .val (.int (2 : Int32)), .val (.int (3 : Int32)), .val (.int (0 : Int32)), .unset] [(.int (3 : Int32)), (.ref a1)])) t → Steps p.tables e below (s₁.setTop (entryFrame m #[(.ref a1), (.int (2 : Int32)), (.int (3 : Int32))] 5)) t := fun t k => k133 t (by
    show Steps p.tables e below (T120.setTop (mkF m 85 #[.val (.ref a1), .val (.int (2 : Int32)), .val (.int (3 : Int32)), .val (.int (0 : Int32)), .unset] [])) _
    refine XS.aloadN X120.here hx rfl (hb hby d3_85) rfl rfl ?_
    show Steps p.tables e below (T120.setTop (mkF m 86 #[.val (.ref a1), .val (.int (2 : Int32)), .val (.int (3 : Int32)), .val (.int (0 : Int32)), .unset] [(.ref a1)])) _
    refine XS.iloadN X120.here hx rfl (hb hby d3_86) rfl ?_
    exact k)
  obtain ⟨T135, h135, X135, e135, W135, st135⟩ := putF X120 hx hZ hown (host := "") (Or.inl (hw _ (List.mem_of_getElem? (i := 48) rfl))) Via.refl e120 F122 F126 (Or.inl (hw _ (List.mem_of_getElem? (i := 49) rfl))) (hw _ (List.mem_of_getElem? (i := 2) rfl)) (ty := .int) (by decide) rfl rfl (g := (mkF m 87 #[.val (.ref a1), .val (.int (2 : Int32)), .val (.int (3 : Int32)), .val (.int (0 : Int32)), .unset] [(.int (3 : Int32)), (.ref a1)])) rfl rfl (hb hby d3_87)
  have F136 := F122.same W135
  have F137 := F123.other W135 (Or.inr (slot_ne (Or.inl (hw _ (List.mem_of_getElem? (i := 52) rfl))) (Or.inl (hw _ (List.mem_of_getElem? (i := 49) rfl))) (by decide) (t := .boolean) (t' := .int) (by decide) (by decide)))
  have F138 := F124.other W135 (Or.inr (slot_ne (Or.inr (hw _ (List.mem_of_getElem? (i := 18) rfl))) (Or.inl (hw _ (List.mem_of_getElem? (i := 49) rfl))) (by decide) (t := (.array .double)) (t' := .int) (by decide) (by decide)))
  have F139 := F125.other W135 (Or.inr (slot_ne (Or.inr (hw _ (List.mem_of_getElem? (i := 33) rfl))) (Or.inl (hw _ (List.mem_of_getElem? (i := 49) rfl))) (by decide) (t := (.array .boolean)) (t' := .int) (by decide) (by decide)))
  have F140 := F126.wr W135
  have F141 := F127.other W135 (Ne.symm n1)
  have F142 := F128.other W135 (Ne.symm n2)
  have F143 := F129.other W135 (Or.inr (slot_ne (Or.inl (hw _ (List.mem_of_getElem? (i := 45) rfl))) (Or.inl (hw _ (List.mem_of_getElem? (i := 49) rfl))) (by decide) (t := .int) (t' := .int) (by decide) (by decide)))
  have F144 := F121.other W135 (Or.inr (slot_ne (Or.inl (hw _ (List.mem_of_getElem? (i := 47) rfl))) (Or.inl (hw _ (List.mem_of_getElem? (i := 49) rfl))) (by decide) (t := .int) (t' := .int) (by decide) (by decide)))
  have Z145 : n0 ≤ h135.size := Nat.le_trans Z130 (Nat.le_of_eq W135.size.symm)
  have N146 := Fr.snoc X135 N131 ga
  have K147 := K132.wr W135 (Or.inl (List.mem_of_getElem? (i := 0) rfl))
  have k148 : ∀ t, Steps p.tables e below (T135.setTop (mkF m 90 #[.val (.ref a1), .val (.int (2 : Int32)), .val (.int (3 : Int32)), .val (.int (0 : Int32)), .unset] [])) t → Steps p.tables e below (s₁.setTop (entryFrame m #[(.ref a1), (.int (2 : Int32)), (.int (3 : Int32))] 5)) t := fun t k => k134 t (st135 t k)
  have k149 : ∀ t, Steps p.tables e below (T135.setTop (mkF m 94 #[.val (.ref a1), .val (.int (2 : Int32)), .val (.int (3 : Int32)), .val (.int (0 : Int32)), .unset] [(.ref a1), (.int (0 : Int32))])) t → Steps p.tables e below (s₁.setTop (entryFrame m #[(.ref a1), (.int (2 : Int32)), (.int (3 : Int32))] 5)) t := fun t k => k148 t (by
    show Steps p.tables e below (T135.setTop (mkF m 90 #[.val (.ref a1), .val (.int (2 : Int32)), .val (.int (3 : Int32)), .val (.int (0 : Int32)), .unset] [])) _
    refine XS.iconst X135.here hx rfl (hb hby d3_90) ?_
    show Steps p.tables e below (T135.setTop (mkF m 91 #[.val (.ref a1), .val (.int (2 : Int32)), .val (.int (3 : Int32)), .val (.int (0 : Int32)), .unset] [(.int (0 : Int32))])) _
    refine XS.istoreN X135.here hx rfl (hb hby d3_91) rfl (l' := #[.val (.ref a1), .val (.int (2 : Int32)), .val (.int (3 : Int32)), .val (.int (0 : Int32)), .unset]) rfl ?_
    show Steps p.tables e below (T135.setTop (mkF m 92 #[.val (.ref a1), .val (.int (2 : Int32)), .val (.int (3 : Int32)), .val (.int (0 : Int32)), .unset] [])) _
    refine XS.iloadN X135.here hx rfl (hb hby d3_92) rfl ?_
    show Steps p.tables e below (T135.setTop (mkF m 93 #[.val (.ref a1), .val (.int (2 : Int32)), .val (.int (3 : Int32)), .val (.int (0 : Int32)), .unset] [(.int (0 : Int32))])) _
    refine XS.aloadN X135.here hx rfl (hb hby d3_93) rfl rfl ?_
    exact k)
  obtain ⟨T150, X150, e150, st150⟩ := getF X135 hx hZ hown (host := "") (Or.inl (hw _ (List.mem_of_getElem? (i := 48) rfl))) Via.refl e135 F136 (g := (mkF m 94 #[.val (.ref a1), .val (.int (2 : Int32)), .val (.int (3 : Int32)), .val (.int (0 : Int32)), .unset] [(.ref a1), (.int (0 : Int32))])) rfl rfl (hb hby d3_94)
  have k151 : ∀ t, Steps p.tables e below (T150.setTop (mkF m 97 #[.val (.ref a1), .val (.int (2 : Int32)), .val (.int (3 : Int32)), .val (.int (0 : Int32)), .unset] [(.int (3 : Int32)), (.int (0 : Int32))])) t → Steps p.tables e below (s₁.setTop (entryFrame m #[(.ref a1), (.int (2 : Int32)), (.int (3 : Int32))] 5)) t := fun t k => k149 t (st150 t k)
  have k152 : ∀ t, Steps p.tables e below (T150.setTop (mkF m 101 #[.val (.ref a1), .val (.int (2 : Int32)), .val (.int (3 : Int32)), .val (.int (0 : Int32)), .unset] [(.ref a1)])) t → Steps p.tables e below (s₁.setTop (entryFrame m #[(.ref a1), (.int (2 : Int32)), (.int (3 : Int32))] 5)) t := fun t k => k151 t (by
    show Steps p.tables e below (T150.setTop (mkF m 97 #[.val (.ref a1), .val (.int (2 : Int32)), .val (.int (3 : Int32)), .val (.int (0 : Int32)), .unset] [(.int (3 : Int32)), (.int (0 : Int32))])) _
    refine XS.icmpNo X150.here hx rfl (hb hby d3_97) rfl (tlt (by decide)).2.1 ?_
    show Steps p.tables e below (T150.setTop (mkF m 100 #[.val (.ref a1), .val (.int (2 : Int32)), .val (.int (3 : Int32)), .val (.int (0 : Int32)), .unset] [])) _
    refine XS.aloadN X150.here hx rfl (hb hby d3_100) rfl rfl ?_
    exact k)
  obtain ⟨T153, X153, e153, st153⟩ := getF X150 hx hZ hown (host := "") (Or.inl (hw _ (List.mem_of_getElem? (i := 17) rfl))) Via.refl e150 F138 (g := (mkF m 101 #[.val (.ref a1), .val (.int (2 : Int32)), .val (.int (3 : Int32)), .val (.int (0 : Int32)), .unset] [(.ref a1)])) rfl rfl (hb hby d3_101)
  have k154 : ∀ t, Steps p.tables e below (T153.setTop (mkF m 104 #[.val (.ref a1), .val (.int (2 : Int32)), .val (.int (3 : Int32)), .val (.int (0 : Int32)), .unset] [(.ref b1)])) t → Steps p.tables e below (s₁.setTop (entryFrame m #[(.ref a1), (.int (2 : Int32)), (.int (3 : Int32))] 5)) t := fun t k => k152 t (st153 t k)
  have k155 : ∀ t, Steps p.tables e below (T153.setTop (mkF m 108 #[.val (.ref a1), .val (.int (2 : Int32)), .val (.int (3 : Int32)), .val (.int (0 : Int32)), .unset] [(.double (9218868437227405312 : UInt64)), (.int (0 : Int32)), (.ref b1)])) t → Steps p.tables e below (s₁.setTop (entryFrame m #[(.ref a1), (.int (2 : Int32)), (.int (3 : Int32))] 5)) t := fun t k => k154 t (by
    show Steps p.tables e below (T153.setTop (mkF m 104 #[.val (.ref a1), .val (.int (2 : Int32)), .val (.int (3 : Int32)), .val (.int (0 : Int32)), .unset] [(.ref b1)])) _
    refine XS.iloadN X153.here hx rfl (hb hby d3_104) rfl ?_
    show Steps p.tables e below (T153.setTop (mkF m 105 #[.val (.ref a1), .val (.int (2 : Int32)), .val (.int (3 : Int32)), .val (.int (0 : Int32)), .unset] [(.int (0 : Int32)), (.ref b1)])) _
    refine X153.ldc2DoubleC hx hown (mvT hZ (hw _ (List.mem_of_getElem? (i := 50) rfl))) (g := (mkF m 105 #[.val (.ref a1), .val (.int (2 : Int32)), .val (.int (3 : Int32)), .val (.int (0 : Int32)), .unset] [(.int (0 : Int32)), (.ref b1)])) rfl (hb hby d3_105) _ ?_
    exact k)
  obtain ⟨c156, Ar156, Aq156, As156, An156, Ah156, Ag156⟩ := id F141
  have hin156 : ¬ ((0 : Int32) < 0 ∨ c156.slots.size ≤ ((0 : Int32)).toNatClampNeg) := inb_of As156 ⟨by decide, by decide⟩
  obtain ⟨T156, h156, X156, e156, W156, st156⟩ := stD X153 hx hZ e153 Ar156 (j := (0 : Int32)) hin156 (g := (mkF m 108 #[.val (.ref a1), .val (.int (2 : Int32)), .val (.int (3 : Int32)), .val (.int (0 : Int32)), .unset] [(.double (9218868437227405312 : UInt64)), (.int (0 : Int32)), (.ref b1)])) rfl rfl (hb hby d3_108)
  have V157 := Arv.set Ar156 Aq156 As156 An156 Ah156 Ag156 rfl W156 0 rfl (Nat.le_of_ble_eq_true rfl)
  have F158 := F137.other W156 (Or.inl n1)
  have F159 := F138.other W156 (Or.inl n1)
  have F160 := F139.other W156 (Or.inl n1)
  have F161 := F140.wr W156
  have F162 := F142.other W156 (Ne.symm n3)
  have F163 := F143.other W156 (Or.inl n1)
  have F164 := F144.other W156 (Or.inl n1)
  have F165 := F136.other W156 (Or.inl n1)
  have Z166 : n0 ≤ h156.size := Nat.le_trans Z145 (Nat.le_of_eq W156.size.symm)
  have N167 := Fr.snoc X156 N146 gb1
  have K168 := K147.wr W156 (Or.inl (List.mem_of_getElem? (i := 1) rfl))
  have k169 : ∀ t, Steps p.tables e below (T156.setTop (mkF m 109 #[.val (.ref a1), .val (.int (2 : Int32)), .val (.int (3 : Int32)), .val (.int (0 : Int32)), .unset] [])) t → Steps p.tables e below (s₁.setTop (entryFrame m #[(.ref a1), (.int (2 : Int32)), (.int (3 : Int32))] 5)) t := fun t k => k155 t (st156 t k)
  have k170 : ∀ t, Steps p.tables e below (T156.setTop (mkF m 94 #[.val (.ref a1), .val (.int (2 : Int32)), .val (.int (3 : Int32)), .val (.int (1 : Int32)), .unset] [(.ref a1), (.int (1 : Int32))])) t → Steps p.tables e below (s₁.setTop (entryFrame m #[(.ref a1), (.int (2 : Int32)), (.int (3 : Int32))] 5)) t := fun t k => k169 t (by
    show Steps p.tables e below (T156.setTop (mkF m 109 #[.val (.ref a1), .val (.int (2 : Int32)), .val (.int (3 : Int32)), .val (.int (0 : Int32)), .unset] [])) _
    refine XS.iinc X156.here hx rfl (hb hby d3_109) rfl (l' := #[.val (.ref a1), .val (.int (2 : Int32)), .val (.int (3 : Int32)), .val (.int (1 : Int32)), .unset]) rfl ?_
    show Steps p.tables e below (T156.setTop (mkF m 112 #[.val (.ref a1), .val (.int (2 : Int32)), .val (.int (3 : Int32)), .val (.int (1 : Int32)), .unset] [])) _
    refine XS.goto X156.here hx rfl (pc0 := 112) (pc' := 92) rfl (hb hby d3_112) (by decide) (by decide) ?_
    show Steps p.tables e below (T156.setTop (mkF m 92 #[.val (.ref a1), .val (.int (2 : Int32)), .val (.int (3 : Int32)), .val (.int (1 : Int32)), .unset] [])) _
    refine XS.iloadN X156.here hx rfl (hb hby d3_92) rfl ?_
    show Steps p.tables e below (T156.setTop (mkF m 93 #[.val (.ref a1), .val (.int (2 : Int32)), .val (.int (3 : Int32)), .val (.int (1 : Int32)), .unset] [(.int (1 : Int32))])) _
    refine XS.aloadN X156.here hx rfl (hb hby d3_93) rfl rfl ?_
    exact k)
  obtain ⟨T171, X171, e171, st171⟩ := getF X156 hx hZ hown (host := "") (Or.inl (hw _ (List.mem_of_getElem? (i := 48) rfl))) Via.refl e156 F165 (g := (mkF m 94 #[.val (.ref a1), .val (.int (2 : Int32)), .val (.int (3 : Int32)), .val (.int (1 : Int32)), .unset] [(.ref a1), (.int (1 : Int32))])) rfl rfl (hb hby d3_94)
  have k172 : ∀ t, Steps p.tables e below (T171.setTop (mkF m 97 #[.val (.ref a1), .val (.int (2 : Int32)), .val (.int (3 : Int32)), .val (.int (1 : Int32)), .unset] [(.int (3 : Int32)), (.int (1 : Int32))])) t → Steps p.tables e below (s₁.setTop (entryFrame m #[(.ref a1), (.int (2 : Int32)), (.int (3 : Int32))] 5)) t := fun t k => k170 t (st171 t k)
  have k173 : ∀ t, Steps p.tables e below (T171.setTop (mkF m 101 #[.val (.ref a1), .val (.int (2 : Int32)), .val (.int (3 : Int32)), .val (.int (1 : Int32)), .unset] [(.ref a1)])) t → Steps p.tables e below (s₁.setTop (entryFrame m #[(.ref a1), (.int (2 : Int32)), (.int (3 : Int32))] 5)) t := fun t k => k172 t (by
    show Steps p.tables e below (T171.setTop (mkF m 97 #[.val (.ref a1), .val (.int (2 : Int32)), .val (.int (3 : Int32)), .val (.int (1 : Int32)), .unset] [(.int (3 : Int32)), (.int (1 : Int32))])) _
    refine XS.icmpNo X171.here hx rfl (hb hby d3_97) rfl (tlt (by decide)).2.1 ?_
    show Steps p.tables e below (T171.setTop (mkF m 100 #[.val (.ref a1), .val (.int (2 : Int32)), .val (.int (3 : Int32)), .val (.int (1 : Int32)), .unset] [])) _
    refine XS.aloadN X171.here hx rfl (hb hby d3_100) rfl rfl ?_
    exact k)
  obtain ⟨T174, X174, e174, st174⟩ := getF X171 hx hZ hown (host := "") (Or.inl (hw _ (List.mem_of_getElem? (i := 17) rfl))) Via.refl e171 F159 (g := (mkF m 101 #[.val (.ref a1), .val (.int (2 : Int32)), .val (.int (3 : Int32)), .val (.int (1 : Int32)), .unset] [(.ref a1)])) rfl rfl (hb hby d3_101)
  have k175 : ∀ t, Steps p.tables e below (T174.setTop (mkF m 104 #[.val (.ref a1), .val (.int (2 : Int32)), .val (.int (3 : Int32)), .val (.int (1 : Int32)), .unset] [(.ref b1)])) t → Steps p.tables e below (s₁.setTop (entryFrame m #[(.ref a1), (.int (2 : Int32)), (.int (3 : Int32))] 5)) t := fun t k => k173 t (st174 t k)
  have k176 : ∀ t, Steps p.tables e below (T174.setTop (mkF m 108 #[.val (.ref a1), .val (.int (2 : Int32)), .val (.int (3 : Int32)), .val (.int (1 : Int32)), .unset] [(.double (9218868437227405312 : UInt64)), (.int (1 : Int32)), (.ref b1)])) t → Steps p.tables e below (s₁.setTop (entryFrame m #[(.ref a1), (.int (2 : Int32)), (.int (3 : Int32))] 5)) t := fun t k => k175 t (by
    show Steps p.tables e below (T174.setTop (mkF m 104 #[.val (.ref a1), .val (.int (2 : Int32)), .val (.int (3 : Int32)), .val (.int (1 : Int32)), .unset] [(.ref b1)])) _
    refine XS.iloadN X174.here hx rfl (hb hby d3_104) rfl ?_
    show Steps p.tables e below (T174.setTop (mkF m 105 #[.val (.ref a1), .val (.int (2 : Int32)), .val (.int (3 : Int32)), .val (.int (1 : Int32)), .unset] [(.int (1 : Int32)), (.ref b1)])) _
    refine X174.ldc2DoubleC hx hown (mvT hZ (hw _ (List.mem_of_getElem? (i := 50) rfl))) (g := (mkF m 105 #[.val (.ref a1), .val (.int (2 : Int32)), .val (.int (3 : Int32)), .val (.int (1 : Int32)), .unset] [(.int (1 : Int32)), (.ref b1)])) rfl (hb hby d3_105) _ ?_
    exact k)
  obtain ⟨c177, Ar177, Aq177, As177, An177, Ah177, Ag177⟩ := id V157
  have hin177 : ¬ ((1 : Int32) < 0 ∨ c177.slots.size ≤ ((1 : Int32)).toNatClampNeg) := inb_of As177 ⟨by decide, by decide⟩
  obtain ⟨T177, h177, X177, e177, W177, st177⟩ := stD X174 hx hZ e174 Ar177 (j := (1 : Int32)) hin177 (g := (mkF m 108 #[.val (.ref a1), .val (.int (2 : Int32)), .val (.int (3 : Int32)), .val (.int (1 : Int32)), .unset] [(.double (9218868437227405312 : UInt64)), (.int (1 : Int32)), (.ref b1)])) rfl rfl (hb hby d3_108)
  have V178 := Arv.set Ar177 Aq177 As177 An177 Ah177 Ag177 rfl W177 1 rfl (Nat.le_of_ble_eq_true rfl)
  have F179 := F158.other W177 (Or.inl n1)
  have F180 := F159.other W177 (Or.inl n1)
  have F181 := F160.other W177 (Or.inl n1)
  have F182 := F161.wr W177
  have F183 := F162.other W177 (Ne.symm n3)
  have F184 := F163.other W177 (Or.inl n1)
  have F185 := F164.other W177 (Or.inl n1)
  have F186 := F165.other W177 (Or.inl n1)
  have Z187 : n0 ≤ h177.size := Nat.le_trans Z166 (Nat.le_of_eq W177.size.symm)
  have N188 := Fr.snoc X177 N167 gb1
  have K189 := K168.wr W177 (Or.inl (List.mem_of_getElem? (i := 1) rfl))
  have k190 : ∀ t, Steps p.tables e below (T177.setTop (mkF m 109 #[.val (.ref a1), .val (.int (2 : Int32)), .val (.int (3 : Int32)), .val (.int (1 : Int32)), .unset] [])) t → Steps p.tables e below (s₁.setTop (entryFrame m #[(.ref a1), (.int (2 : Int32)), (.int (3 : Int32))] 5)) t := fun t k => k176 t (st177 t k)
  have k191 : ∀ t, Steps p.tables e below (T177.setTop (mkF m 94 #[.val (.ref a1), .val (.int (2 : Int32)), .val (.int (3 : Int32)), .val (.int (2 : Int32)), .unset] [(.ref a1), (.int (2 : Int32))])) t → Steps p.tables e below (s₁.setTop (entryFrame m #[(.ref a1), (.int (2 : Int32)), (.int (3 : Int32))] 5)) t := fun t k => k190 t (by
    show Steps p.tables e below (T177.setTop (mkF m 109 #[.val (.ref a1), .val (.int (2 : Int32)), .val (.int (3 : Int32)), .val (.int (1 : Int32)), .unset] [])) _
    refine XS.iinc X177.here hx rfl (hb hby d3_109) rfl (l' := #[.val (.ref a1), .val (.int (2 : Int32)), .val (.int (3 : Int32)), .val (.int (2 : Int32)), .unset]) rfl ?_
    show Steps p.tables e below (T177.setTop (mkF m 112 #[.val (.ref a1), .val (.int (2 : Int32)), .val (.int (3 : Int32)), .val (.int (2 : Int32)), .unset] [])) _
    refine XS.goto X177.here hx rfl (pc0 := 112) (pc' := 92) rfl (hb hby d3_112) (by decide) (by decide) ?_
    show Steps p.tables e below (T177.setTop (mkF m 92 #[.val (.ref a1), .val (.int (2 : Int32)), .val (.int (3 : Int32)), .val (.int (2 : Int32)), .unset] [])) _
    refine XS.iloadN X177.here hx rfl (hb hby d3_92) rfl ?_
    show Steps p.tables e below (T177.setTop (mkF m 93 #[.val (.ref a1), .val (.int (2 : Int32)), .val (.int (3 : Int32)), .val (.int (2 : Int32)), .unset] [(.int (2 : Int32))])) _
    refine XS.aloadN X177.here hx rfl (hb hby d3_93) rfl rfl ?_
    exact k)
  obtain ⟨T192, X192, e192, st192⟩ := getF X177 hx hZ hown (host := "") (Or.inl (hw _ (List.mem_of_getElem? (i := 48) rfl))) Via.refl e177 F186 (g := (mkF m 94 #[.val (.ref a1), .val (.int (2 : Int32)), .val (.int (3 : Int32)), .val (.int (2 : Int32)), .unset] [(.ref a1), (.int (2 : Int32))])) rfl rfl (hb hby d3_94)
  have k193 : ∀ t, Steps p.tables e below (T192.setTop (mkF m 97 #[.val (.ref a1), .val (.int (2 : Int32)), .val (.int (3 : Int32)), .val (.int (2 : Int32)), .unset] [(.int (3 : Int32)), (.int (2 : Int32))])) t → Steps p.tables e below (s₁.setTop (entryFrame m #[(.ref a1), (.int (2 : Int32)), (.int (3 : Int32))] 5)) t := fun t k => k191 t (st192 t k)
  have k194 : ∀ t, Steps p.tables e below (T192.setTop (mkF m 101 #[.val (.ref a1), .val (.int (2 : Int32)), .val (.int (3 : Int32)), .val (.int (2 : Int32)), .unset] [(.ref a1)])) t → Steps p.tables e below (s₁.setTop (entryFrame m #[(.ref a1), (.int (2 : Int32)), (.int (3 : Int32))] 5)) t := fun t k => k193 t (by
    show Steps p.tables e below (T192.setTop (mkF m 97 #[.val (.ref a1), .val (.int (2 : Int32)), .val (.int (3 : Int32)), .val (.int (2 : Int32)), .unset] [(.int (3 : Int32)), (.int (2 : Int32))])) _
    refine XS.icmpNo X192.here hx rfl (hb hby d3_97) rfl (tlt (by decide)).2.1 ?_
    show Steps p.tables e below (T192.setTop (mkF m 100 #[.val (.ref a1), .val (.int (2 : Int32)), .val (.int (3 : Int32)), .val (.int (2 : Int32)), .unset] [])) _
    refine XS.aloadN X192.here hx rfl (hb hby d3_100) rfl rfl ?_
    exact k)
  obtain ⟨T195, X195, e195, st195⟩ := getF X192 hx hZ hown (host := "") (Or.inl (hw _ (List.mem_of_getElem? (i := 17) rfl))) Via.refl e192 F180 (g := (mkF m 101 #[.val (.ref a1), .val (.int (2 : Int32)), .val (.int (3 : Int32)), .val (.int (2 : Int32)), .unset] [(.ref a1)])) rfl rfl (hb hby d3_101)
  have k196 : ∀ t, Steps p.tables e below (T195.setTop (mkF m 104 #[.val (.ref a1), .val (.int (2 : Int32)), .val (.int (3 : Int32)), .val (.int (2 : Int32)), .unset] [(.ref b1)])) t → Steps p.tables e below (s₁.setTop (entryFrame m #[(.ref a1), (.int (2 : Int32)), (.int (3 : Int32))] 5)) t := fun t k => k194 t (st195 t k)
  have k197 : ∀ t, Steps p.tables e below (T195.setTop (mkF m 108 #[.val (.ref a1), .val (.int (2 : Int32)), .val (.int (3 : Int32)), .val (.int (2 : Int32)), .unset] [(.double (9218868437227405312 : UInt64)), (.int (2 : Int32)), (.ref b1)])) t → Steps p.tables e below (s₁.setTop (entryFrame m #[(.ref a1), (.int (2 : Int32)), (.int (3 : Int32))] 5)) t := fun t k => k196 t (by
    show Steps p.tables e below (T195.setTop (mkF m 104 #[.val (.ref a1), .val (.int (2 : Int32)), .val (.int (3 : Int32)), .val (.int (2 : Int32)), .unset] [(.ref b1)])) _
    refine XS.iloadN X195.here hx rfl (hb hby d3_104) rfl ?_
    show Steps p.tables e below (T195.setTop (mkF m 105 #[.val (.ref a1), .val (.int (2 : Int32)), .val (.int (3 : Int32)), .val (.int (2 : Int32)), .unset] [(.int (2 : Int32)), (.ref b1)])) _
    refine X195.ldc2DoubleC hx hown (mvT hZ (hw _ (List.mem_of_getElem? (i := 50) rfl))) (g := (mkF m 105 #[.val (.ref a1), .val (.int (2 : Int32)), .val (.int (3 : Int32)), .val (.int (2 : Int32)), .unset] [(.int (2 : Int32)), (.ref b1)])) rfl (hb hby d3_105) _ ?_
    exact k)
  obtain ⟨c198, Ar198, Aq198, As198, An198, Ah198, Ag198⟩ := id V178
  have hin198 : ¬ ((2 : Int32) < 0 ∨ c198.slots.size ≤ ((2 : Int32)).toNatClampNeg) := inb_of As198 ⟨by decide, by decide⟩
  obtain ⟨T198, h198, X198, e198, W198, st198⟩ := stD X195 hx hZ e195 Ar198 (j := (2 : Int32)) hin198 (g := (mkF m 108 #[.val (.ref a1), .val (.int (2 : Int32)), .val (.int (3 : Int32)), .val (.int (2 : Int32)), .unset] [(.double (9218868437227405312 : UInt64)), (.int (2 : Int32)), (.ref b1)])) rfl rfl (hb hby d3_108)
  have V199 := Arv.set Ar198 Aq198 As198 An198 Ah198 Ag198 rfl W198 2 rfl (Nat.le_of_ble_eq_true rfl)
  have F200 := F179.other W198 (Or.inl n1)
  have F201 := F180.other W198 (Or.inl n1)
  have F202 := F181.other W198 (Or.inl n1)
  have F203 := F182.wr W198
  have F204 := F183.other W198 (Ne.symm n3)
  have F205 := F184.other W198 (Or.inl n1)
  have F206 := F185.other W198 (Or.inl n1)
  have F207 := F186.other W198 (Or.inl n1)
  have Z208 : n0 ≤ h198.size := Nat.le_trans Z187 (Nat.le_of_eq W198.size.symm)
  have N209 := Fr.snoc X198 N188 gb1
  have K210 := K189.wr W198 (Or.inl (List.mem_of_getElem? (i := 1) rfl))
  have k211 : ∀ t, Steps p.tables e below (T198.setTop (mkF m 109 #[.val (.ref a1), .val (.int (2 : Int32)), .val (.int (3 : Int32)), .val (.int (2 : Int32)), .unset] [])) t → Steps p.tables e below (s₁.setTop (entryFrame m #[(.ref a1), (.int (2 : Int32)), (.int (3 : Int32))] 5)) t := fun t k => k197 t (st198 t k)
  have k212 : ∀ t, Steps p.tables e below (T198.setTop (mkF m 94 #[.val (.ref a1), .val (.int (2 : Int32)), .val (.int (3 : Int32)), .val (.int (3 : Int32)), .unset] [(.ref a1), (.int (3 : Int32))])) t → Steps p.tables e below (s₁.setTop (entryFrame m #[(.ref a1), (.int (2 : Int32)), (.int (3 : Int32))] 5)) t := fun t k => k211 t (by
    show Steps p.tables e below (T198.setTop (mkF m 109 #[.val (.ref a1), .val (.int (2 : Int32)), .val (.int (3 : Int32)), .val (.int (2 : Int32)), .unset] [])) _
    refine XS.iinc X198.here hx rfl (hb hby d3_109) rfl (l' := #[.val (.ref a1), .val (.int (2 : Int32)), .val (.int (3 : Int32)), .val (.int (3 : Int32)), .unset]) rfl ?_
    show Steps p.tables e below (T198.setTop (mkF m 112 #[.val (.ref a1), .val (.int (2 : Int32)), .val (.int (3 : Int32)), .val (.int (3 : Int32)), .unset] [])) _
    refine XS.goto X198.here hx rfl (pc0 := 112) (pc' := 92) rfl (hb hby d3_112) (by decide) (by decide) ?_
    show Steps p.tables e below (T198.setTop (mkF m 92 #[.val (.ref a1), .val (.int (2 : Int32)), .val (.int (3 : Int32)), .val (.int (3 : Int32)), .unset] [])) _
    refine XS.iloadN X198.here hx rfl (hb hby d3_92) rfl ?_
    show Steps p.tables e below (T198.setTop (mkF m 93 #[.val (.ref a1), .val (.int (2 : Int32)), .val (.int (3 : Int32)), .val (.int (3 : Int32)), .unset] [(.int (3 : Int32))])) _
    refine XS.aloadN X198.here hx rfl (hb hby d3_93) rfl rfl ?_
    exact k)
  obtain ⟨T213, X213, e213, st213⟩ := getF X198 hx hZ hown (host := "") (Or.inl (hw _ (List.mem_of_getElem? (i := 48) rfl))) Via.refl e198 F207 (g := (mkF m 94 #[.val (.ref a1), .val (.int (2 : Int32)), .val (.int (3 : Int32)), .val (.int (3 : Int32)), .unset] [(.ref a1), (.int (3 : Int32))])) rfl rfl (hb hby d3_94)
  have k214 : ∀ t, Steps p.tables e below (T213.setTop (mkF m 97 #[.val (.ref a1), .val (.int (2 : Int32)), .val (.int (3 : Int32)), .val (.int (3 : Int32)), .unset] [(.int (3 : Int32)), (.int (3 : Int32))])) t → Steps p.tables e below (s₁.setTop (entryFrame m #[(.ref a1), (.int (2 : Int32)), (.int (3 : Int32))] 5)) t := fun t k => k212 t (st213 t k)
  have k215 : ∀ t, Steps p.tables e below (T213.setTop (mkF m 116 #[.val (.ref a1), .val (.int (2 : Int32)), .val (.int (3 : Int32)), .val (.int (3 : Int32)), .unset] [(.ref a1)])) t → Steps p.tables e below (s₁.setTop (entryFrame m #[(.ref a1), (.int (2 : Int32)), (.int (3 : Int32))] 5)) t := fun t k => k214 t (by
    show Steps p.tables e below (T213.setTop (mkF m 97 #[.val (.ref a1), .val (.int (2 : Int32)), .val (.int (3 : Int32)), .val (.int (3 : Int32)), .unset] [(.int (3 : Int32)), (.int (3 : Int32))])) _
    refine XS.icmpYes X213.here hx rfl (pc0 := 97) (pc' := 115) rfl (hb hby d3_97) rfl (flt (by decide)).2.1 (by decide) (by decide) ?_
    show Steps p.tables e below (T213.setTop (mkF m 115 #[.val (.ref a1), .val (.int (2 : Int32)), .val (.int (3 : Int32)), .val (.int (3 : Int32)), .unset] [])) _
    refine XS.aloadN X213.here hx rfl (hb hby d3_115) rfl rfl ?_
    exact k)
  obtain ⟨T216, X216, e216, st216⟩ := getF X213 hx hZ hown (host := "") (Or.inl (hw _ (List.mem_of_getElem? (i := 51) rfl))) Via.refl e213 F200 (g := (mkF m 116 #[.val (.ref a1), .val (.int (2 : Int32)), .val (.int (3 : Int32)), .val (.int (3 : Int32)), .unset] [(.ref a1)])) rfl rfl (hb hby d3_116)
  have k217 : ∀ t, Steps p.tables e below (T216.setTop (mkF m 119 #[.val (.ref a1), .val (.int (2 : Int32)), .val (.int (3 : Int32)), .val (.int (3 : Int32)), .unset] [(.int (0 : Int32))])) t → Steps p.tables e below (s₁.setTop (entryFrame m #[(.ref a1), (.int (2 : Int32)), (.int (3 : Int32))] 5)) t := fun t k => k215 t (st216 t k)
  have k218 : ∀ t, Steps p.tables e below (T216.setTop (mkF m 135 #[.val (.ref a1), .val (.int (2 : Int32)), .val (.int (3 : Int32)), .val (.int (3 : Int32)), .unset] [])) t → Steps p.tables e below (s₁.setTop (entryFrame m #[(.ref a1), (.int (2 : Int32)), (.int (3 : Int32))] 5)) t := fun t k => k217 t (by
    show Steps p.tables e below (T216.setTop (mkF m 119 #[.val (.ref a1), .val (.int (2 : Int32)), .val (.int (3 : Int32)), .val (.int (3 : Int32)), .unset] [(.int (0 : Int32))])) _
    refine XS.ifYes X216.here hx rfl (pc0 := 119) (pc' := 135) rfl (hb hby d3_119) rfl ((if0 _ _).trans (teq (by decide)).1) (by decide) (by decide) ?_
    exact k)
  obtain ⟨fs, hr, hrun, hended, hW, hsame⟩ := X216.leave (v := none) (fun _ => rfl)
  refine ⟨_, _, k218 _ (X216.returnOut hx Bd.returns (hb hby d3_135) hr), hrun, hended, _, _, rfl, ?_, ⟨_, rfl⟩, hW, hsame.mono (by decide) (by decide)⟩
  show Q_rm3 Z a1 b1 b2 k1 k2 h0 n0 _ T216.heap _
  rw [e216]
  exact ⟨rfl, N209, K210, F203, F205, F206, F207, F200, F201, F202, V199, F204⟩
theorem ef_5_RID (m : MethodId) (x0 : Addr) (x1 : Int32) (x2 : UInt64) : entryFrame m #[(.ref x0), (.int x1), (.double x2)] 4 = mkF m 0 #[.val (.ref x0), .val (.int x1), .val (.double x2), .second] [] := by first | (simp [entryFrame, mkF, argsToLocals, Value.category]; done) | rfl
theorem d5_0 : decode prog_40_method_7_code 0 = .ok (.aload_n 0, 1) := by decide +kernel
theorem d5_1 : decode prog_40_method_7_code 1 = .ok (.getfield 19, 3) := by decide +kernel
theorem d5_4 : decode prog_40_method_7_code 4 = .ok (.iload_n 1, 1) := by decide +kernel
theorem d5_5 : decode prog_40_method_7_code 5 = .ok (.dload_n 2, 1) := by decide +kernel
theorem d5_6 : decode prog_40_method_7_code 6 = .ok (.dastore, 1) := by decide +kernel
theorem d5_7 : decode prog_40_method_7_code 7 = .ok (.return_, 1) := by decide +kernel
def Q_rm5 (Z : State) (a1 : Addr) (b1 : Addr) (b2 : Addr) (k1 : ClassId) (k2 : ClassId) (p1 : Int32) (v1 : UInt64) (y0 : Int32) (u0 : UInt64) (u1 : UInt64) (u2 : UInt64) (c0 : Int32) (c1 : Int32) (c2 : Int32) (c3 : Int32) (c4 : Int32) (c5 : Int32) (h0 : Heap) (n0 : Nat) (v : Option Value) (h : Heap) (L : List Loc) : Prop := v = none ∧ Fr n0 L ∧ Keep h0 h [b1] ∧ Exa Z h a1 "com/example/istra/istra/engine/NodeModel" ∧ Fld Z h a1 "com/example/istra/istra/engine/NodeModel" "wantingCount" "I" (.int (0 : Int32)) ∧ Fld Z h a1 "com/example/istra/istra/engine/NodeModel" "approaches" "I" (.int (2 : Int32)) ∧ Fld Z h a1 "com/example/istra/istra/engine/NodeModel" "columns" "I" (.int (3 : Int32)) ∧ Fld Z h a1 "com/example/istra/istra/engine/NodeModel" "anyClosed" "Z" (.int y0) ∧ Fld Z h a1 "com/example/istra/istra/engine/NodeModel" "supply" "[D" (.ref b1) ∧ Fld Z h a1 "com/example/istra/istra/engine/NodeModel" "closed" "[Z" (.ref b2) ∧ Arv Z h b1 k1 .double (3 : Int32) [(.double (if p1 = (0 : Int32) then v1 else u0)), (.double (if p1 = (1 : Int32) then v1 else u1)), (.double (if p1 = (2 : Int32) then v1 else u2))] (.double (0 : UInt64)) ∧ Arv Z h b2 k2 .boolean (6 : Int32) [(.int c0), (.int c1), (.int c2), (.int c3), (.int c4), (.int c5)] (.int (0 : Int32))
set_option maxRecDepth 65536 in
set_option maxHeartbeats 40000000 in
theorem rm5 (l : Launch) (Z : State) (a0 : Array Value) (hw : ∀ d ∈ tables_1, d.before a0 Z = true) (ws : List Jvm.Cond) (a1 : Addr) (b1 : Addr) (b2 : Addr) (k1 : ClassId) (k2 : ClassId) (p1 : Int32) (v1 : UInt64) (y0 : Int32) (u0 : UInt64) (u1 : UInt64) (u2 : UInt64) (c0 : Int32) (c1 : Int32) (c2 : Int32) (c3 : Int32) (c4 : Int32) (c5 : Int32) (h0 : Heap) (n0 : Nat) (Z0 : n0 ≤ h0.size) (F_wantingCount : Fld Z h0 a1 "com/example/istra/istra/engine/NodeModel" "wantingCount" "I" (.int (0 : Int32))) (F_approaches : Fld Z h0 a1 "com/example/istra/istra/engine/NodeModel" "approaches" "I" (.int (2 : Int32))) (F_columns : Fld Z h0 a1 "com/example/istra/istra/engine/NodeModel" "columns" "I" (.int (3 : Int32))) (F_anyClosed : Fld Z h0 a1 "com/example/istra/istra/engine/NodeModel" "anyClosed" "Z" (.int y0)) (F_supply : Fld Z h0 a1 "com/example/istra/istra/engine/NodeModel" "supply" "[D" (.ref b1)) (F_closed : Fld Z h0 a1 "com/example/istra/istra/engine/NodeModel" "closed" "[Z" (.ref b2)) (E1 : Exa Z h0 a1 "com/example/istra/istra/engine/NodeModel") (V1 : Arv Z h0 b1 k1 .double (3 : Int32) [(.double u0), (.double u1), (.double u2)] (.double (0 : UInt64))) (V2 : Arv Z h0 b2 k2 .boolean (6 : Int32) [(.int c0), (.int c1), (.int c2), (.int c3), (.int c4), (.int c5)] (.int (0 : Int32))) (ga : n0 ≤ a1) (gb1 : n0 ≤ b1) (gb2 : n0 ≤ b2) (n1 : a1 ≠ b1) (n2 : a1 ≠ b2) (n3 : b1 ≠ b2) (hp : p1 = (0 : Int32) ∨ p1 = (1 : Int32) ∨ p1 = (2 : Int32)) :
    MetFree l (⟨"com/example/istra/istra/engine/NodeModel", "supply", "(ID)V"⟩ : MethodName) (head1 (Jvm.Cond.code (⟨"com/example/istra/istra/engine/NodeModel", "supply", "(ID)V"⟩ : MethodName) prog_40_method_7_code 4 none :: ws) ({ frames := 0, cells := 0, slots := 0, locals := 0 } : Room)) (fun a U => a = #[(.ref a1), (.int p1), (.double v1)] ∧ Z.Warmed39 U.vm ∧ U.heap = h0) (fun _ _ _ _ _ => True) (fun _ U o U' => ∃ v L, o = .returned v ∧ Q_rm5 Z a1 b1 b2 k1 k2 p1 v1 y0 u0 u1 u2 c0 c1 c2 c3 c4 c5 h0 n0 v U'.heap L ∧ FrameEnd U o U' L ({ frames := 0, cells := 0, slots := 0, locals := 0 } : Room).cells ({ frames := 0, cells := 0, slots := 0, locals := 0 } : Room).slots) := by
  refine MetFree.of_bodySF (plainFor_of_name pn_com_2fexample_2fistra_2fistra_2fengine_2fNodeModel) hisR ?_
  intro p e s m args below meth c s₁ Bd hml0 hP hK
  obtain ⟨rfl, hZ, hh⟩ := hP
  have hx := Bd.exec
  have hby := Bd.bytes
  have hml : c.maxLocals = 4 := hml0
  have hown : s.vm.findClass "com/example/istra/istra/engine/NodeModel" = some m.cls := findClass_of_methodNamed Bd.named
  have hnm := (name_of_methodNamed Bd.named Bd.method).1
  have X0 : Stand p l e ({ frames := 0, cells := 0, slots := 0, locals := 0 } : Room) s m #[(.ref a1), (.int p1), (.double v1)] below meth c s₁ [] 0 0 := Stand.of_body Bd
  have e0 : s₁.heap = h0 := by rw [← hh, Bd.state]; rfl
  have N0 := Fr.nil n0
  have k0 : ∀ t, Steps p.tables e below (s₁.setTop (mkF m 0 #[.val (.ref a1), .val (.int p1), .val (.double v1), .second] [])) t → Steps p.tables e below (s₁.setTop (entryFrame m #[(.ref a1), (.int p1), (.double v1)] 4)) t := fun t k => castTop (ef_5_RID m a1 p1 v1) k
  have K0 := Keep.refl h0 [b1]
  have k101 : ∀ t, Steps p.tables e below (s₁.setTop (mkF m 1 #[.val (.ref a1), .val (.int p1), .val (.double v1), .second] [(.ref a1)])) t → Steps p.tables e below (s₁.setTop (entryFrame m #[(.ref a1), (.int p1), (.double v1)] 4)) t := fun t k => k0 t (by
    show Steps p.tables e below (s₁.setTop (mkF m 0 #[.val (.ref a1), .val (.int p1), .val (.double v1), .second] [])) _
    refine XS.aloadN X0.here hx rfl (hb hby d5_0) rfl rfl ?_
    exact k)
  obtain ⟨T102, X102, e102, st102⟩ := getF X0 hx hZ hown (host := "") (Or.inl (hw _ (List.mem_of_getElem? (i := 17) rfl))) Via.refl e0 F_supply (g := (mkF m 1 #[.val (.ref a1), .val (.int p1), .val (.double v1), .second] [(.ref a1)])) rfl rfl (hb hby d5_1)
  have k103 : ∀ t, Steps p.tables e below (T102.setTop (mkF m 4 #[.val (.ref a1), .val (.int p1), .val (.double v1), .second] [(.ref b1)])) t → Steps p.tables e below (s₁.setTop (entryFrame m #[(.ref a1), (.int p1), (.double v1)] 4)) t := fun t k => k101 t (st102 t k)
  have k104 : ∀ t, Steps p.tables e below (T102.setTop (mkF m 6 #[.val (.ref a1), .val (.int p1), .val (.double v1), .second] [(.double v1), (.int p1), (.ref b1)])) t → Steps p.tables e below (s₁.setTop (entryFrame m #[(.ref a1), (.int p1), (.double v1)] 4)) t := fun t k => k103 t (by
    show Steps p.tables e below (T102.setTop (mkF m 4 #[.val (.ref a1), .val (.int p1), .val (.double v1), .second] [(.ref b1)])) _
    refine XS.iloadN X102.here hx rfl (hb hby d5_4) rfl ?_
    show Steps p.tables e below (T102.setTop (mkF m 5 #[.val (.ref a1), .val (.int p1), .val (.double v1), .second] [(.int p1), (.ref b1)])) _
    refine XS.dloadN X102.here hx rfl (hb hby d5_5) rfl ?_
    exact k)
  rcases hp with rfl | rfl | rfl
  · obtain ⟨c105, Ar105, Aq105, As105, An105, Ah105, Ag105⟩ := id V1
    have hin105 : ¬ ((0 : Int32) < 0 ∨ c105.slots.size ≤ ((0 : Int32)).toNatClampNeg) := inb_of As105 ⟨by decide, by decide⟩
    obtain ⟨T105, h105, X105, e105, W105, st105⟩ := stD X102 hx hZ e102 Ar105 (j := (0 : Int32)) hin105 (g := (mkF m 6 #[.val (.ref a1), .val (.int (0 : Int32)), .val (.double v1), .second] [(.double v1), (.int (0 : Int32)), (.ref b1)])) rfl rfl (hb hby d5_6)
    have V106 := Arv.set Ar105 Aq105 As105 An105 Ah105 Ag105 rfl W105 0 rfl (Nat.le_of_ble_eq_true rfl)
    have F107 := F_wantingCount.other W105 (Or.inl n1)
    have F108 := F_approaches.other W105 (Or.inl n1)
    have F109 := F_columns.other W105 (Or.inl n1)
    have F110 := F_anyClosed.other W105 (Or.inl n1)
    have F111 := F_supply.other W105 (Or.inl n1)
    have F112 := F_closed.other W105 (Or.inl n1)
    have F113 := E1.wr W105
    have F114 := V2.other W105 (Ne.symm n3)
    have Z115 : n0 ≤ h105.size := Nat.le_trans Z0 (Nat.le_of_eq W105.size.symm)
    have N116 := Fr.snoc X105 N0 gb1
    have K117 := K0.wr W105 (Or.inl (List.mem_of_getElem? (i := 0) rfl))
    have k118 : ∀ t, Steps p.tables e below (T105.setTop (mkF m 7 #[.val (.ref a1), .val (.int (0 : Int32)), .val (.double v1), .second] [])) t → Steps p.tables e below (s₁.setTop (entryFrame m #[(.ref a1), (.int (0 : Int32)), (.double v1)] 4)) t := fun t k => k104 t (st105 t k)
    obtain ⟨fs, hr, hrun, hended, hW, hsame⟩ := X105.leave (v := none) (fun _ => rfl)
    refine ⟨_, _, k118 _ (X105.returnOut hx Bd.returns (hb hby d5_7) hr), hrun, hended, _, _, rfl, ?_, ⟨_, rfl⟩, hW, hsame.mono (by decide) (by decide)⟩
    show Q_rm5 Z a1 b1 b2 k1 k2 (0 : Int32) v1 y0 u0 u1 u2 c0 c1 c2 c3 c4 c5 h0 n0 _ T105.heap _
    rw [e105]
    exact ⟨rfl, N116, K117, F113, F107, F108, F109, F110, F111, F112, V106, F114⟩
  · obtain ⟨c119, Ar119, Aq119, As119, An119, Ah119, Ag119⟩ := id V1
    have hin119 : ¬ ((1 : Int32) < 0 ∨ c119.slots.size ≤ ((1 : Int32)).toNatClampNeg) := inb_of As119 ⟨by decide, by decide⟩
    obtain ⟨T119, h119, X119, e119, W119, st119⟩ := stD X102 hx hZ e102 Ar119 (j := (1 : Int32)) hin119 (g := (mkF m 6 #[.val (.ref a1), .val (.int (1 : Int32)), .val (.double v1), .second] [(.double v1), (.int (1 : Int32)), (.ref b1)])) rfl rfl (hb hby d5_6)
    have V120 := Arv.set Ar119 Aq119 As119 An119 Ah119 Ag119 rfl W119 1 rfl (Nat.le_of_ble_eq_true rfl)
    have F121 := F_wantingCount.other W119 (Or.inl n1)
    have F122 := F_approaches.other W119 (Or.inl n1)
    have F123 := F_columns.other W119 (Or.inl n1)
    have F124 := F_anyClosed.other W119 (Or.inl n1)
    have F125 := F_supply.other W119 (Or.inl n1)
    have F126 := F_closed.other W119 (Or.inl n1)
    have F127 := E1.wr W119
    have F128 := V2.other W119 (Ne.symm n3)
    have Z129 : n0 ≤ h119.size := Nat.le_trans Z0 (Nat.le_of_eq W119.size.symm)
    have N130 := Fr.snoc X119 N0 gb1
    have K131 := K0.wr W119 (Or.inl (List.mem_of_getElem? (i := 0) rfl))
    have k132 : ∀ t, Steps p.tables e below (T119.setTop (mkF m 7 #[.val (.ref a1), .val (.int (1 : Int32)), .val (.double v1), .second] [])) t → Steps p.tables e below (s₁.setTop (entryFrame m #[(.ref a1), (.int (1 : Int32)), (.double v1)] 4)) t := fun t k => k104 t (st119 t k)
    obtain ⟨fs, hr, hrun, hended, hW, hsame⟩ := X119.leave (v := none) (fun _ => rfl)
    refine ⟨_, _, k132 _ (X119.returnOut hx Bd.returns (hb hby d5_7) hr), hrun, hended, _, _, rfl, ?_, ⟨_, rfl⟩, hW, hsame.mono (by decide) (by decide)⟩
    show Q_rm5 Z a1 b1 b2 k1 k2 (1 : Int32) v1 y0 u0 u1 u2 c0 c1 c2 c3 c4 c5 h0 n0 _ T119.heap _
    rw [e119]
    exact ⟨rfl, N130, K131, F127, F121, F122, F123, F124, F125, F126, V120, F128⟩
  · obtain ⟨c133, Ar133, Aq133, As133, An133, Ah133, Ag133⟩ := id V1
    have hin133 : ¬ ((2 : Int32) < 0 ∨ c133.slots.size ≤ ((2 : Int32)).toNatClampNeg) := inb_of As133 ⟨by decide, by decide⟩
    obtain ⟨T133, h133, X133, e133, W133, st133⟩ := stD X102 hx hZ e102 Ar133 (j := (2 : Int32)) hin133 (g := (mkF m 6 #[.val (.ref a1), .val (.int (2 : Int32)), .val (.double v1), .second] [(.double v1), (.int (2 : Int32)), (.ref b1)])) rfl rfl (hb hby d5_6)
    have V134 := Arv.set Ar133 Aq133 As133 An133 Ah133 Ag133 rfl W133 2 rfl (Nat.le_of_ble_eq_true rfl)
    have F135 := F_wantingCount.other W133 (Or.inl n1)
    have F136 := F_approaches.other W133 (Or.inl n1)
    have F137 := F_columns.other W133 (Or.inl n1)
    have F138 := F_anyClosed.other W133 (Or.inl n1)
    have F139 := F_supply.other W133 (Or.inl n1)
    have F140 := F_closed.other W133 (Or.inl n1)
    have F141 := E1.wr W133
    have F142 := V2.other W133 (Ne.symm n3)
    have Z143 : n0 ≤ h133.size := Nat.le_trans Z0 (Nat.le_of_eq W133.size.symm)
    have N144 := Fr.snoc X133 N0 gb1
    have K145 := K0.wr W133 (Or.inl (List.mem_of_getElem? (i := 0) rfl))
    have k146 : ∀ t, Steps p.tables e below (T133.setTop (mkF m 7 #[.val (.ref a1), .val (.int (2 : Int32)), .val (.double v1), .second] [])) t → Steps p.tables e below (s₁.setTop (entryFrame m #[(.ref a1), (.int (2 : Int32)), (.double v1)] 4)) t := fun t k => k104 t (st133 t k)
    obtain ⟨fs, hr, hrun, hended, hW, hsame⟩ := X133.leave (v := none) (fun _ => rfl)
    refine ⟨_, _, k146 _ (X133.returnOut hx Bd.returns (hb hby d5_7) hr), hrun, hended, _, _, rfl, ?_, ⟨_, rfl⟩, hW, hsame.mono (by decide) (by decide)⟩
    show Q_rm5 Z a1 b1 b2 k1 k2 (2 : Int32) v1 y0 u0 u1 u2 c0 c1 c2 c3 c4 c5 h0 n0 _ T133.heap _
    rw [e133]
    exact ⟨rfl, N144, K145, F141, F135, F136, F137, F138, F139, F140, V134, F142⟩
theorem ef_6_RII (m : MethodId) (x0 : Addr) (x1 : Int32) (x2 : Int32) : entryFrame m #[(.ref x0), (.int x1), (.int x2)] 3 = mkF m 0 #[.val (.ref x0), .val (.int x1), .val (.int x2)] [] := by first | (simp [entryFrame, mkF, argsToLocals, Value.category]; done) | rfl
theorem d6_0 : decode prog_40_method_5_code 0 = .ok (.aload_n 0, 1) := by decide +kernel
theorem d6_1 : decode prog_40_method_5_code 1 = .ok (.getfield 41, 3) := by decide +kernel
theorem d6_4 : decode prog_40_method_5_code 4 = .ok (.iload_n 1, 1) := by decide +kernel
theorem d6_5 : decode prog_40_method_5_code 5 = .ok (.aload_n 0, 1) := by decide +kernel
theorem d6_6 : decode prog_40_method_5_code 6 = .ok (.getfield 55, 3) := by decide +kernel
theorem d6_9 : decode prog_40_method_5_code 9 = .ok (.imul, 1) := by decide +kernel
theorem d6_10 : decode prog_40_method_5_code 10 = .ok (.iload_n 2, 1) := by decide +kernel
theorem d6_11 : decode prog_40_method_5_code 11 = .ok (.iadd, 1) := by decide +kernel
theorem d6_12 : decode prog_40_method_5_code 12 = .ok (.iconst 1, 1) := by decide +kernel
theorem d6_13 : decode prog_40_method_5_code 13 = .ok (.bastore, 1) := by decide +kernel
theorem d6_14 : decode prog_40_method_5_code 14 = .ok (.aload_n 0, 1) := by decide +kernel
theorem d6_15 : decode prog_40_method_5_code 15 = .ok (.iconst 1, 1) := by decide +kernel
theorem d6_16 : decode prog_40_method_5_code 16 = .ok (.putfield 71, 3) := by decide +kernel
theorem d6_19 : decode prog_40_method_5_code 19 = .ok (.return_, 1) := by decide +kernel
def Q_rm6 (Z : State) (a1 : Addr) (b1 : Addr) (b2 : Addr) (k1 : ClassId) (k2 : ClassId) (p1 : Int32) (p2 : Int32) (y0 : Int32) (u0 : UInt64) (u1 : UInt64) (u2 : UInt64) (c0 : Int32) (c1 : Int32) (c2 : Int32) (c3 : Int32) (c4 : Int32) (c5 : Int32) (h0 : Heap) (n0 : Nat) (v : Option Value) (h : Heap) (L : List Loc) : Prop := v = none ∧ Fr n0 L ∧ Keep h0 h [a1, b2] ∧ Exa Z h a1 "com/example/istra/istra/engine/NodeModel" ∧ Fld Z h a1 "com/example/istra/istra/engine/NodeModel" "wantingCount" "I" (.int (0 : Int32)) ∧ Fld Z h a1 "com/example/istra/istra/engine/NodeModel" "approaches" "I" (.int (2 : Int32)) ∧ Fld Z h a1 "com/example/istra/istra/engine/NodeModel" "columns" "I" (.int (3 : Int32)) ∧ Fld Z h a1 "com/example/istra/istra/engine/NodeModel" "anyClosed" "Z" (.int (1 : Int32)) ∧ Fld Z h a1 "com/example/istra/istra/engine/NodeModel" "supply" "[D" (.ref b1) ∧ Fld Z h a1 "com/example/istra/istra/engine/NodeModel" "closed" "[Z" (.ref b2) ∧ Arv Z h b1 k1 .double (3 : Int32) [(.double u0), (.double u1), (.double u2)] (.double (0 : UInt64)) ∧ Arv Z h b2 k2 .boolean (6 : Int32) [(.int (if p1 = (0 : Int32) ∧ p2 = (0 : Int32) then (1 : Int32) else c0)), (.int (if p1 = (0 : Int32) ∧ p2 = (1 : Int32) then (1 : Int32) else c1)), (.int (if p1 = (0 : Int32) ∧ p2 = (2 : Int32) then (1 : Int32) else c2)), (.int (if p1 = (1 : Int32) ∧ p2 = (0 : Int32) then (1 : Int32) else c3)), (.int (if p1 = (1 : Int32) ∧ p2 = (1 : Int32) then (1 : Int32) else c4)), (.int (if p1 = (1 : Int32) ∧ p2 = (2 : Int32) then (1 : Int32) else c5))] (.int (0 : Int32))
set_option maxRecDepth 65536 in
set_option maxHeartbeats 40000000 in
theorem rm6 (l : Launch) (Z : State) (a0 : Array Value) (hw : ∀ d ∈ tables_1, d.before a0 Z = true) (ws : List Jvm.Cond) (a1 : Addr) (b1 : Addr) (b2 : Addr) (k1 : ClassId) (k2 : ClassId) (p1 : Int32) (p2 : Int32) (y0 : Int32) (u0 : UInt64) (u1 : UInt64) (u2 : UInt64) (c0 : Int32) (c1 : Int32) (c2 : Int32) (c3 : Int32) (c4 : Int32) (c5 : Int32) (h0 : Heap) (n0 : Nat) (Z0 : n0 ≤ h0.size) (F_wantingCount : Fld Z h0 a1 "com/example/istra/istra/engine/NodeModel" "wantingCount" "I" (.int (0 : Int32))) (F_approaches : Fld Z h0 a1 "com/example/istra/istra/engine/NodeModel" "approaches" "I" (.int (2 : Int32))) (F_columns : Fld Z h0 a1 "com/example/istra/istra/engine/NodeModel" "columns" "I" (.int (3 : Int32))) (F_anyClosed : Fld Z h0 a1 "com/example/istra/istra/engine/NodeModel" "anyClosed" "Z" (.int y0)) (F_supply : Fld Z h0 a1 "com/example/istra/istra/engine/NodeModel" "supply" "[D" (.ref b1)) (F_closed : Fld Z h0 a1 "com/example/istra/istra/engine/NodeModel" "closed" "[Z" (.ref b2)) (E1 : Exa Z h0 a1 "com/example/istra/istra/engine/NodeModel") (V1 : Arv Z h0 b1 k1 .double (3 : Int32) [(.double u0), (.double u1), (.double u2)] (.double (0 : UInt64))) (V2 : Arv Z h0 b2 k2 .boolean (6 : Int32) [(.int c0), (.int c1), (.int c2), (.int c3), (.int c4), (.int c5)] (.int (0 : Int32))) (ga : n0 ≤ a1) (gb1 : n0 ≤ b1) (gb2 : n0 ≤ b2) (n1 : a1 ≠ b1) (n2 : a1 ≠ b2) (n3 : b1 ≠ b2) (hp : p1 = (0 : Int32) ∨ p1 = (1 : Int32)) (hq : p2 = (0 : Int32) ∨ p2 = (1 : Int32) ∨ p2 = (2 : Int32)) :
    MetFree l (⟨"com/example/istra/istra/engine/NodeModel", "close", "(II)V"⟩ : MethodName) (head1 (Jvm.Cond.code (⟨"com/example/istra/istra/engine/NodeModel", "close", "(II)V"⟩ : MethodName) prog_40_method_5_code 3 none :: ws) ({ frames := 0, cells := 0, slots := 0, locals := 0 } : Room)) (fun a U => a = #[(.ref a1), (.int p1), (.int p2)] ∧ Z.Warmed39 U.vm ∧ U.heap = h0) (fun _ _ _ _ _ => True) (fun _ U o U' => ∃ v L, o = .returned v ∧ Q_rm6 Z a1 b1 b2 k1 k2 p1 p2 y0 u0 u1 u2 c0 c1 c2 c3 c4 c5 h0 n0 v U'.heap L ∧ FrameEnd U o U' L ({ frames := 0, cells := 0, slots := 0, locals := 0 } : Room).cells ({ frames := 0, cells := 0, slots := 0, locals := 0 } : Room).slots) := by
  refine MetFree.of_bodySF (plainFor_of_name pn_com_2fexample_2fistra_2fistra_2fengine_2fNodeModel) hisR ?_
  intro p e s m args below meth c s₁ Bd hml0 hP hK
  obtain ⟨rfl, hZ, hh⟩ := hP
  have hx := Bd.exec
  have hby := Bd.bytes
  have hml : c.maxLocals = 3 := hml0
  have hown : s.vm.findClass "com/example/istra/istra/engine/NodeModel" = some m.cls := findClass_of_methodNamed Bd.named
  have hnm := (name_of_methodNamed Bd.named Bd.method).1
  have X0 : Stand p l e ({ frames := 0, cells := 0, slots := 0, locals := 0 } : Room) s m #[(.ref a1), (.int p1), (.int p2)] below meth c s₁ [] 0 0 := Stand.of_body Bd
  have e0 : s₁.heap = h0 := by rw [← hh, Bd.state]; rfl
  have N0 := Fr.nil n0
  have k0 : ∀ t, Steps p.tables e below (s₁.setTop (mkF m 0 #[.val (.ref a1), .val (.int p1), .val (.int p2)] [])) t → Steps p.tables e below (s₁.setTop (entryFrame m #[(.ref a1), (.int p1), (.int p2)] 3)) t := fun t k => castTop (ef_6_RII m a1 p1 p2) k
  have K0 := Keep.refl h0 [a1, b2]
  have k101 : ∀ t, Steps p.tables e below (s₁.setTop (mkF m 1 #[.val (.ref a1), .val (.int p1), .val (.int p2)] [(.ref a1)])) t → Steps p.tables e below (s₁.setTop (entryFrame m #[(.ref a1), (.int p1), (.int p2)] 3)) t := fun t k => k0 t (by
    show Steps p.tables e below (s₁.setTop (mkF m 0 #[.val (.ref a1), .val (.int p1), .val (.int p2)] [])) _
    refine XS.aloadN X0.here hx rfl (hb hby d6_0) rfl rfl ?_
    exact k)
  obtain ⟨T102, X102, e102, st102⟩ := getF X0 hx hZ hown (host := "") (Or.inl (hw _ (List.mem_of_getElem? (i := 32) rfl))) Via.refl e0 F_closed (g := (mkF m 1 #[.val (.ref a1), .val (.int p1), .val (.int p2)] [(.ref a1)])) rfl rfl (hb hby d6_1)
  have k103 : ∀ t, Steps p.tables e below (T102.setTop (mkF m 4 #[.val (.ref a1), .val (.int p1), .val (.int p2)] [(.ref b2)])) t → Steps p.tables e below (s₁.setTop (entryFrame m #[(.ref a1), (.int p1), (.int p2)] 3)) t := fun t k => k101 t (st102 t k)
  rcases hp with rfl | rfl <;> rcases hq with rfl | rfl | rfl
  · have k104 : ∀ t, Steps p.tables e below (T102.setTop (mkF m 6 #[.val (.ref a1), .val (.int (0 : Int32)), .val (.int (0 : Int32))] [(.ref a1), (.int (0 : Int32)), (.ref b2)])) t → Steps p.tables e below (s₁.setTop (entryFrame m #[(.ref a1), (.int (0 : Int32)), (.int (0 : Int32))] 3)) t := fun t k => k103 t (by
      show Steps p.tables e below (T102.setTop (mkF m 4 #[.val (.ref a1), .val (.int (0 : Int32)), .val (.int (0 : Int32))] [(.ref b2)])) _
      refine XS.iloadN X102.here hx rfl (hb hby d6_4) rfl ?_
      show Steps p.tables e below (T102.setTop (mkF m 5 #[.val (.ref a1), .val (.int (0 : Int32)), .val (.int (0 : Int32))] [(.int (0 : Int32)), (.ref b2)])) _
      refine XS.aloadN X102.here hx rfl (hb hby d6_5) rfl rfl ?_
      exact k)
    obtain ⟨T105, X105, e105, st105⟩ := getF X102 hx hZ hown (host := "") (Or.inl (hw _ (List.mem_of_getElem? (i := 48) rfl))) Via.refl e102 F_columns (g := (mkF m 6 #[.val (.ref a1), .val (.int (0 : Int32)), .val (.int (0 : Int32))] [(.ref a1), (.int (0 : Int32)), (.ref b2)])) rfl rfl (hb hby d6_6)
    have k106 : ∀ t, Steps p.tables e below (T105.setTop (mkF m 9 #[.val (.ref a1), .val (.int (0 : Int32)), .val (.int (0 : Int32))] [(.int (3 : Int32)), (.int (0 : Int32)), (.ref b2)])) t → Steps p.tables e below (s₁.setTop (entryFrame m #[(.ref a1), (.int (0 : Int32)), (.int (0 : Int32))] 3)) t := fun t k => k104 t (st105 t k)
    have k107 : ∀ t, Steps p.tables e below (T105.setTop (mkF m 13 #[.val (.ref a1), .val (.int (0 : Int32)), .val (.int (0 : Int32))] [(.int (1 : Int32)), (.int (0 : Int32)), (.ref b2)])) t → Steps p.tables e below (s₁.setTop (entryFrame m #[(.ref a1), (.int (0 : Int32)), (.int (0 : Int32))] 3)) t := fun t k => k106 t (by
      show Steps p.tables e below (T105.setTop (mkF m 9 #[.val (.ref a1), .val (.int (0 : Int32)), .val (.int (0 : Int32))] [(.int (3 : Int32)), (.int (0 : Int32)), (.ref b2)])) _
      refine XS.imul X105.here hx rfl (hb hby d6_9) rfl ?_
      show Steps p.tables e below (T105.setTop (mkF m 10 #[.val (.ref a1), .val (.int (0 : Int32)), .val (.int (0 : Int32))] [(.int ((0 : Int32) * (3 : Int32))), (.ref b2)])) _
      refine castTop (g' := (mkF m 10 #[.val (.ref a1), .val (.int (0 : Int32)), .val (.int (0 : Int32))] [(.int (0 : Int32)), (.ref b2)])) (by rw [show ((0 : Int32) * (3 : Int32)) = (0 : Int32) by decide]) ?_
      show Steps p.tables e below (T105.setTop (mkF m 10 #[.val (.ref a1), .val (.int (0 : Int32)), .val (.int (0 : Int32))] [(.int (0 : Int32)), (.ref b2)])) _
      refine XS.iloadN X105.here hx rfl (hb hby d6_10) rfl ?_
      show Steps p.tables e below (T105.setTop (mkF m 11 #[.val (.ref a1), .val (.int (0 : Int32)), .val (.int (0 : Int32))] [(.int (0 : Int32)), (.int (0 : Int32)), (.ref b2)])) _
      refine XS.iadd X105.here hx rfl (hb hby d6_11) rfl ?_
      show Steps p.tables e below (T105.setTop (mkF m 12 #[.val (.ref a1), .val (.int (0 : Int32)), .val (.int (0 : Int32))] [(.int ((0 : Int32) + (0 : Int32))), (.ref b2)])) _
      refine castTop (g' := (mkF m 12 #[.val (.ref a1), .val (.int (0 : Int32)), .val (.int (0 : Int32))] [(.int (0 : Int32)), (.ref b2)])) (by rw [show ((0 : Int32) + (0 : Int32)) = (0 : Int32) by decide]) ?_
      show Steps p.tables e below (T105.setTop (mkF m 12 #[.val (.ref a1), .val (.int (0 : Int32)), .val (.int (0 : Int32))] [(.int (0 : Int32)), (.ref b2)])) _
      refine XS.iconst X105.here hx rfl (hb hby d6_12) ?_
      exact k)
    obtain ⟨c108, Ar108, Aq108, As108, An108, Ah108, Ag108⟩ := id V2
    have hin108 : ¬ ((0 : Int32) < 0 ∨ c108.slots.size ≤ ((0 : Int32)).toNatClampNeg) := inb_of As108 ⟨by decide, by decide⟩
    obtain ⟨T108, h108, X108, e108, W108, st108⟩ := stZ X105 hx hZ e105 Ar108 (j := (0 : Int32)) hin108 (g := (mkF m 13 #[.val (.ref a1), .val (.int (0 : Int32)), .val (.int (0 : Int32))] [(.int (1 : Int32)), (.int (0 : Int32)), (.ref b2)])) rfl rfl (hb hby d6_13)
    have V109 : Arv Z h108 b2 k2 .boolean (6 : Int32) [(.int (1 : Int32)), (.int c1), (.int c2), (.int c3), (.int c4), (.int c5)] (.int (0 : Int32)) := Arv.set Ar108 Aq108 As108 An108 Ah108 Ag108 (fits_nar_bool _) W108 0 rfl (Nat.le_of_ble_eq_true rfl)
    have F110 := F_wantingCount.other W108 (Or.inl n2)
    have F111 := F_approaches.other W108 (Or.inl n2)
    have F112 := F_columns.other W108 (Or.inl n2)
    have F113 := F_anyClosed.other W108 (Or.inl n2)
    have F114 := F_supply.other W108 (Or.inl n2)
    have F115 := F_closed.other W108 (Or.inl n2)
    have F116 := E1.wr W108
    have F117 := V1.other W108 n3
    have Z118 : n0 ≤ h108.size := Nat.le_trans Z0 (Nat.le_of_eq W108.size.symm)
    have N119 := Fr.snoc X108 N0 gb2
    have K120 := K0.wr W108 (Or.inl (List.mem_of_getElem? (i := 1) rfl))
    have k121 : ∀ t, Steps p.tables e below (T108.setTop (mkF m 14 #[.val (.ref a1), .val (.int (0 : Int32)), .val (.int (0 : Int32))] [])) t → Steps p.tables e below (s₁.setTop (entryFrame m #[(.ref a1), (.int (0 : Int32)), (.int (0 : Int32))] 3)) t := fun t k => k107 t (st108 t k)
    have k122 : ∀ t, Steps p.tables e below (T108.setTop (mkF m 16 #[.val (.ref a1), .val (.int (0 : Int32)), .val (.int (0 : Int32))] [(.int (1 : Int32)), (.ref a1)])) t → Steps p.tables e below (s₁.setTop (entryFrame m #[(.ref a1), (.int (0 : Int32)), (.int (0 : Int32))] 3)) t := fun t k => k121 t (by
      show Steps p.tables e below (T108.setTop (mkF m 14 #[.val (.ref a1), .val (.int (0 : Int32)), .val (.int (0 : Int32))] [])) _
      refine XS.aloadN X108.here hx rfl (hb hby d6_14) rfl rfl ?_
      show Steps p.tables e below (T108.setTop (mkF m 15 #[.val (.ref a1), .val (.int (0 : Int32)), .val (.int (0 : Int32))] [(.ref a1)])) _
      refine XS.iconst X108.here hx rfl (hb hby d6_15) ?_
      exact k)
    obtain ⟨T123, h123, X123, e123, W123, st123⟩ := putF X108 hx hZ hown (host := "") (Or.inl (hw _ (List.mem_of_getElem? (i := 51) rfl))) Via.refl e108 F113 F116 (Or.inl (hw _ (List.mem_of_getElem? (i := 52) rfl))) (hw _ (List.mem_of_getElem? (i := 2) rfl)) (ty := .boolean) (by decide) rfl rfl (g := (mkF m 16 #[.val (.ref a1), .val (.int (0 : Int32)), .val (.int (0 : Int32))] [(.int (1 : Int32)), (.ref a1)])) rfl rfl (hb hby d6_16)
    have F124 := F113.same W123
    have F125 := F110.other W123 (Or.inr (slot_ne (Or.inl (hw _ (List.mem_of_getElem? (i := 45) rfl))) (Or.inl (hw _ (List.mem_of_getElem? (i := 52) rfl))) (by decide) (t := .int) (t' := .boolean) (by decide) (by decide)))
    have F126 := F111.other W123 (Or.inr (slot_ne (Or.inl (hw _ (List.mem_of_getElem? (i := 47) rfl))) (Or.inl (hw _ (List.mem_of_getElem? (i := 52) rfl))) (by decide) (t := .int) (t' := .boolean) (by decide) (by decide)))
    have F127 := F112.other W123 (Or.inr (slot_ne (Or.inl (hw _ (List.mem_of_getElem? (i := 49) rfl))) (Or.inl (hw _ (List.mem_of_getElem? (i := 52) rfl))) (by decide) (t := .int) (t' := .boolean) (by decide) (by decide)))
    have F128 := F114.other W123 (Or.inr (slot_ne (Or.inr (hw _ (List.mem_of_getElem? (i := 18) rfl))) (Or.inl (hw _ (List.mem_of_getElem? (i := 52) rfl))) (by decide) (t := (.array .double)) (t' := .boolean) (by decide) (by decide)))
    have F129 := F115.other W123 (Or.inr (slot_ne (Or.inr (hw _ (List.mem_of_getElem? (i := 33) rfl))) (Or.inl (hw _ (List.mem_of_getElem? (i := 52) rfl))) (by decide) (t := (.array .boolean)) (t' := .boolean) (by decide) (by decide)))
    have F130 := F116.wr W123
    have F131 := F117.other W123 (Ne.symm n1)
    have F132 := V109.other W123 (Ne.symm n2)
    have Z133 : n0 ≤ h123.size := Nat.le_trans Z118 (Nat.le_of_eq W123.size.symm)
    have N134 := Fr.snoc X123 N119 ga
    have K135 := K120.wr W123 (Or.inl (List.mem_of_getElem? (i := 0) rfl))
    have k136 : ∀ t, Steps p.tables e below (T123.setTop (mkF m 19 #[.val (.ref a1), .val (.int (0 : Int32)), .val (.int (0 : Int32))] [])) t → Steps p.tables e below (s₁.setTop (entryFrame m #[(.ref a1), (.int (0 : Int32)), (.int (0 : Int32))] 3)) t := fun t k => k122 t (st123 t k)
    obtain ⟨fs, hr, hrun, hended, hW, hsame⟩ := X123.leave (v := none) (fun _ => rfl)
    refine ⟨_, _, k136 _ (X123.returnOut hx Bd.returns (hb hby d6_19) hr), hrun, hended, _, _, rfl, ?_, ⟨_, rfl⟩, hW, hsame.mono (by decide) (by decide)⟩
    show Q_rm6 Z a1 b1 b2 k1 k2 (0 : Int32) (0 : Int32) y0 u0 u1 u2 c0 c1 c2 c3 c4 c5 h0 n0 _ T123.heap _
    rw [e123]
    exact ⟨rfl, N134, K135, F130, F125, F126, F127, F124, F128, F129, F131, F132⟩
  · have k137 : ∀ t, Steps p.tables e below (T102.setTop (mkF m 6 #[.val (.ref a1), .val (.int (0 : Int32)), .val (.int (1 : Int32))] [(.ref a1), (.int (0 : Int32)), (.ref b2)])) t → Steps p.tables e below (s₁.setTop (entryFrame m #[(.ref a1), (.int (0 : Int32)), (.int (1 : Int32))] 3)) t := fun t k => k103 t (by
      show Steps p.tables e below (T102.setTop (mkF m 4 #[.val (.ref a1), .val (.int (0 : Int32)), .val (.int (1 : Int32))] [(.ref b2)])) _
      refine XS.iloadN X102.here hx rfl (hb hby d6_4) rfl ?_
      show Steps p.tables e below (T102.setTop (mkF m 5 #[.val (.ref a1), .val (.int (0 : Int32)), .val (.int (1 : Int32))] [(.int (0 : Int32)), (.ref b2)])) _
      refine XS.aloadN X102.here hx rfl (hb hby d6_5) rfl rfl ?_
      exact k)
    obtain ⟨T138, X138, e138, st138⟩ := getF X102 hx hZ hown (host := "") (Or.inl (hw _ (List.mem_of_getElem? (i := 48) rfl))) Via.refl e102 F_columns (g := (mkF m 6 #[.val (.ref a1), .val (.int (0 : Int32)), .val (.int (1 : Int32))] [(.ref a1), (.int (0 : Int32)), (.ref b2)])) rfl rfl (hb hby d6_6)
    have k139 : ∀ t, Steps p.tables e below (T138.setTop (mkF m 9 #[.val (.ref a1), .val (.int (0 : Int32)), .val (.int (1 : Int32))] [(.int (3 : Int32)), (.int (0 : Int32)), (.ref b2)])) t → Steps p.tables e below (s₁.setTop (entryFrame m #[(.ref a1), (.int (0 : Int32)), (.int (1 : Int32))] 3)) t := fun t k => k137 t (st138 t k)
    have k140 : ∀ t, Steps p.tables e below (T138.setTop (mkF m 13 #[.val (.ref a1), .val (.int (0 : Int32)), .val (.int (1 : Int32))] [(.int (1 : Int32)), (.int (1 : Int32)), (.ref b2)])) t → Steps p.tables e below (s₁.setTop (entryFrame m #[(.ref a1), (.int (0 : Int32)), (.int (1 : Int32))] 3)) t := fun t k => k139 t (by
      show Steps p.tables e below (T138.setTop (mkF m 9 #[.val (.ref a1), .val (.int (0 : Int32)), .val (.int (1 : Int32))] [(.int (3 : Int32)), (.int (0 : Int32)), (.ref b2)])) _
      refine XS.imul X138.here hx rfl (hb hby d6_9) rfl ?_
      show Steps p.tables e below (T138.setTop (mkF m 10 #[.val (.ref a1), .val (.int (0 : Int32)), .val (.int (1 : Int32))] [(.int ((0 : Int32) * (3 : Int32))), (.ref b2)])) _
      refine castTop (g' := (mkF m 10 #[.val (.ref a1), .val (.int (0 : Int32)), .val (.int (1 : Int32))] [(.int (0 : Int32)), (.ref b2)])) (by rw [show ((0 : Int32) * (3 : Int32)) = (0 : Int32) by decide]) ?_
      show Steps p.tables e below (T138.setTop (mkF m 10 #[.val (.ref a1), .val (.int (0 : Int32)), .val (.int (1 : Int32))] [(.int (0 : Int32)), (.ref b2)])) _
      refine XS.iloadN X138.here hx rfl (hb hby d6_10) rfl ?_
      show Steps p.tables e below (T138.setTop (mkF m 11 #[.val (.ref a1), .val (.int (0 : Int32)), .val (.int (1 : Int32))] [(.int (1 : Int32)), (.int (0 : Int32)), (.ref b2)])) _
      refine XS.iadd X138.here hx rfl (hb hby d6_11) rfl ?_
      show Steps p.tables e below (T138.setTop (mkF m 12 #[.val (.ref a1), .val (.int (0 : Int32)), .val (.int (1 : Int32))] [(.int ((0 : Int32) + (1 : Int32))), (.ref b2)])) _
      refine castTop (g' := (mkF m 12 #[.val (.ref a1), .val (.int (0 : Int32)), .val (.int (1 : Int32))] [(.int (1 : Int32)), (.ref b2)])) (by rw [show ((0 : Int32) + (1 : Int32)) = (1 : Int32) by decide]) ?_
      show Steps p.tables e below (T138.setTop (mkF m 12 #[.val (.ref a1), .val (.int (0 : Int32)), .val (.int (1 : Int32))] [(.int (1 : Int32)), (.ref b2)])) _
      refine XS.iconst X138.here hx rfl (hb hby d6_12) ?_
      exact k)
    obtain ⟨c141, Ar141, Aq141, As141, An141, Ah141, Ag141⟩ := id V2
    have hin141 : ¬ ((1 : Int32) < 0 ∨ c141.slots.size ≤ ((1 : Int32)).toNatClampNeg) := inb_of As141 ⟨by decide, by decide⟩
    obtain ⟨T141, h141, X141, e141, W141, st141⟩ := stZ X138 hx hZ e138 Ar141 (j := (1 : Int32)) hin141 (g := (mkF m 13 #[.val (.ref a1), .val (.int (0 : Int32)), .val (.int (1 : Int32))] [(.int (1 : Int32)), (.int (1 : Int32)), (.ref b2)])) rfl rfl (hb hby d6_13)
    have V142 : Arv Z h141 b2 k2 .boolean (6 : Int32) [(.int c0), (.int (1 : Int32)), (.int c2), (.int c3), (.int c4), (.int c5)] (.int (0 : Int32)) := Arv.set Ar141 Aq141 As141 An141 Ah141 Ag141 (fits_nar_bool _) W141 1 rfl (Nat.le_of_ble_eq_true rfl)
    have F143 := F_wantingCount.other W141 (Or.inl n2)
    have F144 := F_approaches.other W141 (Or.inl n2)
    have F145 := F_columns.other W141 (Or.inl n2)
    have F146 := F_anyClosed.other W141 (Or.inl n2)
    have F147 := F_supply.other W141 (Or.inl n2)
    have F148 := F_closed.other W141 (Or.inl n2)
    have F149 := E1.wr W141
    have F150 := V1.other W141 n3
    have Z151 : n0 ≤ h141.size := Nat.le_trans Z0 (Nat.le_of_eq W141.size.symm)
    have N152 := Fr.snoc X141 N0 gb2
    have K153 := K0.wr W141 (Or.inl (List.mem_of_getElem? (i := 1) rfl))
    have k154 : ∀ t, Steps p.tables e below (T141.setTop (mkF m 14 #[.val (.ref a1), .val (.int (0 : Int32)), .val (.int (1 : Int32))] [])) t → Steps p.tables e below (s₁.setTop (entryFrame m #[(.ref a1), (.int (0 : Int32)), (.int (1 : Int32))] 3)) t := fun t k => k140 t (st141 t k)
    have k155 : ∀ t, Steps p.tables e below (T141.setTop (mkF m 16 #[.val (.ref a1), .val (.int (0 : Int32)), .val (.int (1 : Int32))] [(.int (1 : Int32)), (.ref a1)])) t → Steps p.tables e below (s₁.setTop (entryFrame m #[(.ref a1), (.int (0 : Int32)), (.int (1 : Int32))] 3)) t := fun t k => k154 t (by
      show Steps p.tables e below (T141.setTop (mkF m 14 #[.val (.ref a1), .val (.int (0 : Int32)), .val (.int (1 : Int32))] [])) _
      refine XS.aloadN X141.here hx rfl (hb hby d6_14) rfl rfl ?_
      show Steps p.tables e below (T141.setTop (mkF m 15 #[.val (.ref a1), .val (.int (0 : Int32)), .val (.int (1 : Int32))] [(.ref a1)])) _
      refine XS.iconst X141.here hx rfl (hb hby d6_15) ?_
      exact k)
    obtain ⟨T156, h156, X156, e156, W156, st156⟩ := putF X141 hx hZ hown (host := "") (Or.inl (hw _ (List.mem_of_getElem? (i := 51) rfl))) Via.refl e141 F146 F149 (Or.inl (hw _ (List.mem_of_getElem? (i := 52) rfl))) (hw _ (List.mem_of_getElem? (i := 2) rfl)) (ty := .boolean) (by decide) rfl rfl (g := (mkF m 16 #[.val (.ref a1), .val (.int (0 : Int32)), .val (.int (1 : Int32))] [(.int (1 : Int32)), (.ref a1)])) rfl rfl (hb hby d6_16)
    have F157 := F146.same W156
    have F158 := F143.other W156 (Or.inr (slot_ne (Or.inl (hw _ (List.mem_of_getElem? (i := 45) rfl))) (Or.inl (hw _ (List.mem_of_getElem? (i := 52) rfl))) (by decide) (t := .int) (t' := .boolean) (by decide) (by decide)))
    have F159 := F144.other W156 (Or.inr (slot_ne (Or.inl (hw _ (List.mem_of_getElem? (i := 47) rfl))) (Or.inl (hw _ (List.mem_of_getElem? (i := 52) rfl))) (by decide) (t := .int) (t' := .boolean) (by decide) (by decide)))
    have F160 := F145.other W156 (Or.inr (slot_ne (Or.inl (hw _ (List.mem_of_getElem? (i := 49) rfl))) (Or.inl (hw _ (List.mem_of_getElem? (i := 52) rfl))) (by decide) (t := .int) (t' := .boolean) (by decide) (by decide)))
    have F161 := F147.other W156 (Or.inr (slot_ne (Or.inr (hw _ (List.mem_of_getElem? (i := 18) rfl))) (Or.inl (hw _ (List.mem_of_getElem? (i := 52) rfl))) (by decide) (t := (.array .double)) (t' := .boolean) (by decide) (by decide)))
    have F162 := F148.other W156 (Or.inr (slot_ne (Or.inr (hw _ (List.mem_of_getElem? (i := 33) rfl))) (Or.inl (hw _ (List.mem_of_getElem? (i := 52) rfl))) (by decide) (t := (.array .boolean)) (t' := .boolean) (by decide) (by decide)))
    have F163 := F149.wr W156
    have F164 := F150.other W156 (Ne.symm n1)
    have F165 := V142.other W156 (Ne.symm n2)
    have Z166 : n0 ≤ h156.size := Nat.le_trans Z151 (Nat.le_of_eq W156.size.symm)
    have N167 := Fr.snoc X156 N152 ga
    have K168 := K153.wr W156 (Or.inl (List.mem_of_getElem? (i := 0) rfl))
    have k169 : ∀ t, Steps p.tables e below (T156.setTop (mkF m 19 #[.val (.ref a1), .val (.int (0 : Int32)), .val (.int (1 : Int32))] [])) t → Steps p.tables e below (s₁.setTop (entryFrame m #[(.ref a1), (.int (0 : Int32)), (.int (1 : Int32))] 3)) t := fun t k => k155 t (st156 t k)
    obtain ⟨fs, hr, hrun, hended, hW, hsame⟩ := X156.leave (v := none) (fun _ => rfl)
    refine ⟨_, _, k169 _ (X156.returnOut hx Bd.returns (hb hby d6_19) hr), hrun, hended, _, _, rfl, ?_, ⟨_, rfl⟩, hW, hsame.mono (by decide) (by decide)⟩
    show Q_rm6 Z a1 b1 b2 k1 k2 (0 : Int32) (1 : Int32) y0 u0 u1 u2 c0 c1 c2 c3 c4 c5 h0 n0 _ T156.heap _
    rw [e156]
    exact ⟨rfl, N167, K168, F163, F158, F159, F160, F157, F161, F162, F164, F165⟩
  · have k170 : ∀ t, Steps p.tables e below (T102.setTop (mkF m 6 #[.val (.ref a1), .val (.int (0 : Int32)), .val (.int (2 : Int32))] [(.ref a1), (.int (0 : Int32)), (.ref b2)])) t → Steps p.tables e below (s₁.setTop (entryFrame m #[(.ref a1), (.int (0 : Int32)), (.int (2 : Int32))] 3)) t := fun t k => k103 t (by
      show Steps p.tables e below (T102.setTop (mkF m 4 #[.val (.ref a1), .val (.int (0 : Int32)), .val (.int (2 : Int32))] [(.ref b2)])) _
      refine XS.iloadN X102.here hx rfl (hb hby d6_4) rfl ?_
      show Steps p.tables e below (T102.setTop (mkF m 5 #[.val (.ref a1), .val (.int (0 : Int32)), .val (.int (2 : Int32))] [(.int (0 : Int32)), (.ref b2)])) _
      refine XS.aloadN X102.here hx rfl (hb hby d6_5) rfl rfl ?_
      exact k)
    obtain ⟨T171, X171, e171, st171⟩ := getF X102 hx hZ hown (host := "") (Or.inl (hw _ (List.mem_of_getElem? (i := 48) rfl))) Via.refl e102 F_columns (g := (mkF m 6 #[.val (.ref a1), .val (.int (0 : Int32)), .val (.int (2 : Int32))] [(.ref a1), (.int (0 : Int32)), (.ref b2)])) rfl rfl (hb hby d6_6)
    have k172 : ∀ t, Steps p.tables e below (T171.setTop (mkF m 9 #[.val (.ref a1), .val (.int (0 : Int32)), .val (.int (2 : Int32))] [(.int (3 : Int32)), (.int (0 : Int32)), (.ref b2)])) t → Steps p.tables e below (s₁.setTop (entryFrame m #[(.ref a1), (.int (0 : Int32)), (.int (2 : Int32))] 3)) t := fun t k => k170 t (st171 t k)
    have k173 : ∀ t, Steps p.tables e below (T171.setTop (mkF m 13 #[.val (.ref a1), .val (.int (0 : Int32)), .val (.int (2 : Int32))] [(.int (1 : Int32)), (.int (2 : Int32)), (.ref b2)])) t → Steps p.tables e below (s₁.setTop (entryFrame m #[(.ref a1), (.int (0 : Int32)), (.int (2 : Int32))] 3)) t := fun t k => k172 t (by
      show Steps p.tables e below (T171.setTop (mkF m 9 #[.val (.ref a1), .val (.int (0 : Int32)), .val (.int (2 : Int32))] [(.int (3 : Int32)), (.int (0 : Int32)), (.ref b2)])) _
      refine XS.imul X171.here hx rfl (hb hby d6_9) rfl ?_
      show Steps p.tables e below (T171.setTop (mkF m 10 #[.val (.ref a1), .val (.int (0 : Int32)), .val (.int (2 : Int32))] [(.int ((0 : Int32) * (3 : Int32))), (.ref b2)])) _
      refine castTop (g' := (mkF m 10 #[.val (.ref a1), .val (.int (0 : Int32)), .val (.int (2 : Int32))] [(.int (0 : Int32)), (.ref b2)])) (by rw [show ((0 : Int32) * (3 : Int32)) = (0 : Int32) by decide]) ?_
      show Steps p.tables e below (T171.setTop (mkF m 10 #[.val (.ref a1), .val (.int (0 : Int32)), .val (.int (2 : Int32))] [(.int (0 : Int32)), (.ref b2)])) _
      refine XS.iloadN X171.here hx rfl (hb hby d6_10) rfl ?_
      show Steps p.tables e below (T171.setTop (mkF m 11 #[.val (.ref a1), .val (.int (0 : Int32)), .val (.int (2 : Int32))] [(.int (2 : Int32)), (.int (0 : Int32)), (.ref b2)])) _
      refine XS.iadd X171.here hx rfl (hb hby d6_11) rfl ?_
      show Steps p.tables e below (T171.setTop (mkF m 12 #[.val (.ref a1), .val (.int (0 : Int32)), .val (.int (2 : Int32))] [(.int ((0 : Int32) + (2 : Int32))), (.ref b2)])) _
      refine castTop (g' := (mkF m 12 #[.val (.ref a1), .val (.int (0 : Int32)), .val (.int (2 : Int32))] [(.int (2 : Int32)), (.ref b2)])) (by rw [show ((0 : Int32) + (2 : Int32)) = (2 : Int32) by decide]) ?_
      show Steps p.tables e below (T171.setTop (mkF m 12 #[.val (.ref a1), .val (.int (0 : Int32)), .val (.int (2 : Int32))] [(.int (2 : Int32)), (.ref b2)])) _
      refine XS.iconst X171.here hx rfl (hb hby d6_12) ?_
      exact k)
    obtain ⟨c174, Ar174, Aq174, As174, An174, Ah174, Ag174⟩ := id V2
    have hin174 : ¬ ((2 : Int32) < 0 ∨ c174.slots.size ≤ ((2 : Int32)).toNatClampNeg) := inb_of As174 ⟨by decide, by decide⟩
    obtain ⟨T174, h174, X174, e174, W174, st174⟩ := stZ X171 hx hZ e171 Ar174 (j := (2 : Int32)) hin174 (g := (mkF m 13 #[.val (.ref a1), .val (.int (0 : Int32)), .val (.int (2 : Int32))] [(.int (1 : Int32)), (.int (2 : Int32)), (.ref b2)])) rfl rfl (hb hby d6_13)
    have V175 : Arv Z h174 b2 k2 .boolean (6 : Int32) [(.int c0), (.int c1), (.int (1 : Int32)), (.int c3), (.int c4), (.int c5)] (.int (0 : Int32)) := Arv.set Ar174 Aq174 As174 An174 Ah174 Ag174 (fits_nar_bool _) W174 2 rfl (Nat.le_of_ble_eq_true rfl)
    have F176 := F_wantingCount.other W174 (Or.inl n2)
    have F177 := F_approaches.other W174 (Or.inl n2)
    have F178 := F_columns.other W174 (Or.inl n2)
    have F179 := F_anyClosed.other W174 (Or.inl n2)
    have F180 := F_supply.other W174 (Or.inl n2)
    have F181 := F_closed.other W174 (Or.inl n2)
    have F182 := E1.wr W174
    have F183 := V1.other W174 n3
    have Z184 : n0 ≤ h174.size := Nat.le_trans Z0 (Nat.le_of_eq W174.size.symm)
    have N185 := Fr.snoc X174 N0 gb2
    have K186 := K0.wr W174 (Or.inl (List.mem_of_getElem? (i := 1) rfl))
    have k187 : ∀ t, Steps p.tables e below (T174.setTop (mkF m 14 #[.val (.ref a1), .val (.int (0 : Int32)), .val (.int (2 : Int32))] [])) t → Steps p.tables e below (s₁.setTop (entryFrame m #[(.ref a1), (.int (0 : Int32)), (.int (2 : Int32))] 3)) t := fun t k => k173 t (st174 t k)
    have k188 : ∀ t, Steps p.tables e below (T174.setTop (mkF m 16 #[.val (.ref a1), .val (.int (0 : Int32)), .val (.int (2 : Int32))] [(.int (1 : Int32)), (.ref a1)])) t → Steps p.tables e below (s₁.setTop (entryFrame m #[(.ref a1), (.int (0 : Int32)), (.int (2 : Int32))] 3)) t := fun t k => k187 t (by
      show Steps p.tables e below (T174.setTop (mkF m 14 #[.val (.ref a1), .val (.int (0 : Int32)), .val (.int (2 : Int32))] [])) _
      refine XS.aloadN X174.here hx rfl (hb hby d6_14) rfl rfl ?_
      show Steps p.tables e below (T174.setTop (mkF m 15 #[.val (.ref a1), .val (.int (0 : Int32)), .val (.int (2 : Int32))] [(.ref a1)])) _
      refine XS.iconst X174.here hx rfl (hb hby d6_15) ?_
      exact k)
    obtain ⟨T189, h189, X189, e189, W189, st189⟩ := putF X174 hx hZ hown (host := "") (Or.inl (hw _ (List.mem_of_getElem? (i := 51) rfl))) Via.refl e174 F179 F182 (Or.inl (hw _ (List.mem_of_getElem? (i := 52) rfl))) (hw _ (List.mem_of_getElem? (i := 2) rfl)) (ty := .boolean) (by decide) rfl rfl (g := (mkF m 16 #[.val (.ref a1), .val (.int (0 : Int32)), .val (.int (2 : Int32))] [(.int (1 : Int32)), (.ref a1)])) rfl rfl (hb hby d6_16)
    have F190 := F179.same W189
    have F191 := F176.other W189 (Or.inr (slot_ne (Or.inl (hw _ (List.mem_of_getElem? (i := 45) rfl))) (Or.inl (hw _ (List.mem_of_getElem? (i := 52) rfl))) (by decide) (t := .int) (t' := .boolean) (by decide) (by decide)))
    have F192 := F177.other W189 (Or.inr (slot_ne (Or.inl (hw _ (List.mem_of_getElem? (i := 47) rfl))) (Or.inl (hw _ (List.mem_of_getElem? (i := 52) rfl))) (by decide) (t := .int) (t' := .boolean) (by decide) (by decide)))
    have F193 := F178.other W189 (Or.inr (slot_ne (Or.inl (hw _ (List.mem_of_getElem? (i := 49) rfl))) (Or.inl (hw _ (List.mem_of_getElem? (i := 52) rfl))) (by decide) (t := .int) (t' := .boolean) (by decide) (by decide)))
    have F194 := F180.other W189 (Or.inr (slot_ne (Or.inr (hw _ (List.mem_of_getElem? (i := 18) rfl))) (Or.inl (hw _ (List.mem_of_getElem? (i := 52) rfl))) (by decide) (t := (.array .double)) (t' := .boolean) (by decide) (by decide)))
    have F195 := F181.other W189 (Or.inr (slot_ne (Or.inr (hw _ (List.mem_of_getElem? (i := 33) rfl))) (Or.inl (hw _ (List.mem_of_getElem? (i := 52) rfl))) (by decide) (t := (.array .boolean)) (t' := .boolean) (by decide) (by decide)))
    have F196 := F182.wr W189
    have F197 := F183.other W189 (Ne.symm n1)
    have F198 := V175.other W189 (Ne.symm n2)
    have Z199 : n0 ≤ h189.size := Nat.le_trans Z184 (Nat.le_of_eq W189.size.symm)
    have N200 := Fr.snoc X189 N185 ga
    have K201 := K186.wr W189 (Or.inl (List.mem_of_getElem? (i := 0) rfl))
    have k202 : ∀ t, Steps p.tables e below (T189.setTop (mkF m 19 #[.val (.ref a1), .val (.int (0 : Int32)), .val (.int (2 : Int32))] [])) t → Steps p.tables e below (s₁.setTop (entryFrame m #[(.ref a1), (.int (0 : Int32)), (.int (2 : Int32))] 3)) t := fun t k => k188 t (st189 t k)
    obtain ⟨fs, hr, hrun, hended, hW, hsame⟩ := X189.leave (v := none) (fun _ => rfl)
    refine ⟨_, _, k202 _ (X189.returnOut hx Bd.returns (hb hby d6_19) hr), hrun, hended, _, _, rfl, ?_, ⟨_, rfl⟩, hW, hsame.mono (by decide) (by decide)⟩
    show Q_rm6 Z a1 b1 b2 k1 k2 (0 : Int32) (2 : Int32) y0 u0 u1 u2 c0 c1 c2 c3 c4 c5 h0 n0 _ T189.heap _
    rw [e189]
    exact ⟨rfl, N200, K201, F196, F191, F192, F193, F190, F194, F195, F197, F198⟩
  · have k203 : ∀ t, Steps p.tables e below (T102.setTop (mkF m 6 #[.val (.ref a1), .val (.int (1 : Int32)), .val (.int (0 : Int32))] [(.ref a1), (.int (1 : Int32)), (.ref b2)])) t → Steps p.tables e below (s₁.setTop (entryFrame m #[(.ref a1), (.int (1 : Int32)), (.int (0 : Int32))] 3)) t := fun t k => k103 t (by
      show Steps p.tables e below (T102.setTop (mkF m 4 #[.val (.ref a1), .val (.int (1 : Int32)), .val (.int (0 : Int32))] [(.ref b2)])) _
      refine XS.iloadN X102.here hx rfl (hb hby d6_4) rfl ?_
      show Steps p.tables e below (T102.setTop (mkF m 5 #[.val (.ref a1), .val (.int (1 : Int32)), .val (.int (0 : Int32))] [(.int (1 : Int32)), (.ref b2)])) _
      refine XS.aloadN X102.here hx rfl (hb hby d6_5) rfl rfl ?_
      exact k)
    obtain ⟨T204, X204, e204, st204⟩ := getF X102 hx hZ hown (host := "") (Or.inl (hw _ (List.mem_of_getElem? (i := 48) rfl))) Via.refl e102 F_columns (g := (mkF m 6 #[.val (.ref a1), .val (.int (1 : Int32)), .val (.int (0 : Int32))] [(.ref a1), (.int (1 : Int32)), (.ref b2)])) rfl rfl (hb hby d6_6)
    have k205 : ∀ t, Steps p.tables e below (T204.setTop (mkF m 9 #[.val (.ref a1), .val (.int (1 : Int32)), .val (.int (0 : Int32))] [(.int (3 : Int32)), (.int (1 : Int32)), (.ref b2)])) t → Steps p.tables e below (s₁.setTop (entryFrame m #[(.ref a1), (.int (1 : Int32)), (.int (0 : Int32))] 3)) t := fun t k => k203 t (st204 t k)
    have k206 : ∀ t, Steps p.tables e below (T204.setTop (mkF m 13 #[.val (.ref a1), .val (.int (1 : Int32)), .val (.int (0 : Int32))] [(.int (1 : Int32)), (.int (3 : Int32)), (.ref b2)])) t → Steps p.tables e below (s₁.setTop (entryFrame m #[(.ref a1), (.int (1 : Int32)), (.int (0 : Int32))] 3)) t := fun t k => k205 t (by
      show Steps p.tables e below (T204.setTop (mkF m 9 #[.val (.ref a1), .val (.int (1 : Int32)), .val (.int (0 : Int32))] [(.int (3 : Int32)), (.int (1 : Int32)), (.ref b2)])) _
      refine XS.imul X204.here hx rfl (hb hby d6_9) rfl ?_
      show Steps p.tables e below (T204.setTop (mkF m 10 #[.val (.ref a1), .val (.int (1 : Int32)), .val (.int (0 : Int32))] [(.int ((1 : Int32) * (3 : Int32))), (.ref b2)])) _
      refine castTop (g' := (mkF m 10 #[.val (.ref a1), .val (.int (1 : Int32)), .val (.int (0 : Int32))] [(.int (3 : Int32)), (.ref b2)])) (by rw [show ((1 : Int32) * (3 : Int32)) = (3 : Int32) by decide]) ?_
      show Steps p.tables e below (T204.setTop (mkF m 10 #[.val (.ref a1), .val (.int (1 : Int32)), .val (.int (0 : Int32))] [(.int (3 : Int32)), (.ref b2)])) _
      refine XS.iloadN X204.here hx rfl (hb hby d6_10) rfl ?_
      show Steps p.tables e below (T204.setTop (mkF m 11 #[.val (.ref a1), .val (.int (1 : Int32)), .val (.int (0 : Int32))] [(.int (0 : Int32)), (.int (3 : Int32)), (.ref b2)])) _
      refine XS.iadd X204.here hx rfl (hb hby d6_11) rfl ?_
      show Steps p.tables e below (T204.setTop (mkF m 12 #[.val (.ref a1), .val (.int (1 : Int32)), .val (.int (0 : Int32))] [(.int ((3 : Int32) + (0 : Int32))), (.ref b2)])) _
      refine castTop (g' := (mkF m 12 #[.val (.ref a1), .val (.int (1 : Int32)), .val (.int (0 : Int32))] [(.int (3 : Int32)), (.ref b2)])) (by rw [show ((3 : Int32) + (0 : Int32)) = (3 : Int32) by decide]) ?_
      show Steps p.tables e below (T204.setTop (mkF m 12 #[.val (.ref a1), .val (.int (1 : Int32)), .val (.int (0 : Int32))] [(.int (3 : Int32)), (.ref b2)])) _
      refine XS.iconst X204.here hx rfl (hb hby d6_12) ?_
      exact k)
    obtain ⟨c207, Ar207, Aq207, As207, An207, Ah207, Ag207⟩ := id V2
    have hin207 : ¬ ((3 : Int32) < 0 ∨ c207.slots.size ≤ ((3 : Int32)).toNatClampNeg) := inb_of As207 ⟨by decide, by decide⟩
    obtain ⟨T207, h207, X207, e207, W207, st207⟩ := stZ X204 hx hZ e204 Ar207 (j := (3 : Int32)) hin207 (g := (mkF m 13 #[.val (.ref a1), .val (.int (1 : Int32)), .val (.int (0 : Int32))] [(.int (1 : Int32)), (.int (3 : Int32)), (.ref b2)])) rfl rfl (hb hby d6_13)
    have V208 : Arv Z h207 b2 k2 .boolean (6 : Int32) [(.int c0), (.int c1), (.int c2), (.int (1 : Int32)), (.int c4), (.int c5)] (.int (0 : Int32)) := Arv.set Ar207 Aq207 As207 An207 Ah207 Ag207 (fits_nar_bool _) W207 3 rfl (Nat.le_of_ble_eq_true rfl)
    have F209 := F_wantingCount.other W207 (Or.inl n2)
    have F210 := F_approaches.other W207 (Or.inl n2)
    have F211 := F_columns.other W207 (Or.inl n2)
    have F212 := F_anyClosed.other W207 (Or.inl n2)
    have F213 := F_supply.other W207 (Or.inl n2)
    have F214 := F_closed.other W207 (Or.inl n2)
    have F215 := E1.wr W207
    have F216 := V1.other W207 n3
    have Z217 : n0 ≤ h207.size := Nat.le_trans Z0 (Nat.le_of_eq W207.size.symm)
    have N218 := Fr.snoc X207 N0 gb2
    have K219 := K0.wr W207 (Or.inl (List.mem_of_getElem? (i := 1) rfl))
    have k220 : ∀ t, Steps p.tables e below (T207.setTop (mkF m 14 #[.val (.ref a1), .val (.int (1 : Int32)), .val (.int (0 : Int32))] [])) t → Steps p.tables e below (s₁.setTop (entryFrame m #[(.ref a1), (.int (1 : Int32)), (.int (0 : Int32))] 3)) t := fun t k => k206 t (st207 t k)
    have k221 : ∀ t, Steps p.tables e below (T207.setTop (mkF m 16 #[.val (.ref a1), .val (.int (1 : Int32)), .val (.int (0 : Int32))] [(.int (1 : Int32)), (.ref a1)])) t → Steps p.tables e below (s₁.setTop (entryFrame m #[(.ref a1), (.int (1 : Int32)), (.int (0 : Int32))] 3)) t := fun t k => k220 t (by
      show Steps p.tables e below (T207.setTop (mkF m 14 #[.val (.ref a1), .val (.int (1 : Int32)), .val (.int (0 : Int32))] [])) _
      refine XS.aloadN X207.here hx rfl (hb hby d6_14) rfl rfl ?_
      show Steps p.tables e below (T207.setTop (mkF m 15 #[.val (.ref a1), .val (.int (1 : Int32)), .val (.int (0 : Int32))] [(.ref a1)])) _
      refine XS.iconst X207.here hx rfl (hb hby d6_15) ?_
      exact k)
    obtain ⟨T222, h222, X222, e222, W222, st222⟩ := putF X207 hx hZ hown (host := "") (Or.inl (hw _ (List.mem_of_getElem? (i := 51) rfl))) Via.refl e207 F212 F215 (Or.inl (hw _ (List.mem_of_getElem? (i := 52) rfl))) (hw _ (List.mem_of_getElem? (i := 2) rfl)) (ty := .boolean) (by decide) rfl rfl (g := (mkF m 16 #[.val (.ref a1), .val (.int (1 : Int32)), .val (.int (0 : Int32))] [(.int (1 : Int32)), (.ref a1)])) rfl rfl (hb hby d6_16)
    have F223 := F212.same W222
    have F224 := F209.other W222 (Or.inr (slot_ne (Or.inl (hw _ (List.mem_of_getElem? (i := 45) rfl))) (Or.inl (hw _ (List.mem_of_getElem? (i := 52) rfl))) (by decide) (t := .int) (t' := .boolean) (by decide) (by decide)))
    have F225 := F210.other W222 (Or.inr (slot_ne (Or.inl (hw _ (List.mem_of_getElem? (i := 47) rfl))) (Or.inl (hw _ (List.mem_of_getElem? (i := 52) rfl))) (by decide) (t := .int) (t' := .boolean) (by decide) (by decide)))
    have F226 := F211.other W222 (Or.inr (slot_ne (Or.inl (hw _ (List.mem_of_getElem? (i := 49) rfl))) (Or.inl (hw _ (List.mem_of_getElem? (i := 52) rfl))) (by decide) (t := .int) (t' := .boolean) (by decide) (by decide)))
    have F227 := F213.other W222 (Or.inr (slot_ne (Or.inr (hw _ (List.mem_of_getElem? (i := 18) rfl))) (Or.inl (hw _ (List.mem_of_getElem? (i := 52) rfl))) (by decide) (t := (.array .double)) (t' := .boolean) (by decide) (by decide)))
    have F228 := F214.other W222 (Or.inr (slot_ne (Or.inr (hw _ (List.mem_of_getElem? (i := 33) rfl))) (Or.inl (hw _ (List.mem_of_getElem? (i := 52) rfl))) (by decide) (t := (.array .boolean)) (t' := .boolean) (by decide) (by decide)))
    have F229 := F215.wr W222
    have F230 := F216.other W222 (Ne.symm n1)
    have F231 := V208.other W222 (Ne.symm n2)
    have Z232 : n0 ≤ h222.size := Nat.le_trans Z217 (Nat.le_of_eq W222.size.symm)
    have N233 := Fr.snoc X222 N218 ga
    have K234 := K219.wr W222 (Or.inl (List.mem_of_getElem? (i := 0) rfl))
    have k235 : ∀ t, Steps p.tables e below (T222.setTop (mkF m 19 #[.val (.ref a1), .val (.int (1 : Int32)), .val (.int (0 : Int32))] [])) t → Steps p.tables e below (s₁.setTop (entryFrame m #[(.ref a1), (.int (1 : Int32)), (.int (0 : Int32))] 3)) t := fun t k => k221 t (st222 t k)
    obtain ⟨fs, hr, hrun, hended, hW, hsame⟩ := X222.leave (v := none) (fun _ => rfl)
    refine ⟨_, _, k235 _ (X222.returnOut hx Bd.returns (hb hby d6_19) hr), hrun, hended, _, _, rfl, ?_, ⟨_, rfl⟩, hW, hsame.mono (by decide) (by decide)⟩
    show Q_rm6 Z a1 b1 b2 k1 k2 (1 : Int32) (0 : Int32) y0 u0 u1 u2 c0 c1 c2 c3 c4 c5 h0 n0 _ T222.heap _
    rw [e222]
    exact ⟨rfl, N233, K234, F229, F224, F225, F226, F223, F227, F228, F230, F231⟩
  · have k236 : ∀ t, Steps p.tables e below (T102.setTop (mkF m 6 #[.val (.ref a1), .val (.int (1 : Int32)), .val (.int (1 : Int32))] [(.ref a1), (.int (1 : Int32)), (.ref b2)])) t → Steps p.tables e below (s₁.setTop (entryFrame m #[(.ref a1), (.int (1 : Int32)), (.int (1 : Int32))] 3)) t := fun t k => k103 t (by
      show Steps p.tables e below (T102.setTop (mkF m 4 #[.val (.ref a1), .val (.int (1 : Int32)), .val (.int (1 : Int32))] [(.ref b2)])) _
      refine XS.iloadN X102.here hx rfl (hb hby d6_4) rfl ?_
      show Steps p.tables e below (T102.setTop (mkF m 5 #[.val (.ref a1), .val (.int (1 : Int32)), .val (.int (1 : Int32))] [(.int (1 : Int32)), (.ref b2)])) _
      refine XS.aloadN X102.here hx rfl (hb hby d6_5) rfl rfl ?_
      exact k)
    obtain ⟨T237, X237, e237, st237⟩ := getF X102 hx hZ hown (host := "") (Or.inl (hw _ (List.mem_of_getElem? (i := 48) rfl))) Via.refl e102 F_columns (g := (mkF m 6 #[.val (.ref a1), .val (.int (1 : Int32)), .val (.int (1 : Int32))] [(.ref a1), (.int (1 : Int32)), (.ref b2)])) rfl rfl (hb hby d6_6)
    have k238 : ∀ t, Steps p.tables e below (T237.setTop (mkF m 9 #[.val (.ref a1), .val (.int (1 : Int32)), .val (.int (1 : Int32))] [(.int (3 : Int32)), (.int (1 : Int32)), (.ref b2)])) t → Steps p.tables e below (s₁.setTop (entryFrame m #[(.ref a1), (.int (1 : Int32)), (.int (1 : Int32))] 3)) t := fun t k => k236 t (st237 t k)
    have k239 : ∀ t, Steps p.tables e below (T237.setTop (mkF m 13 #[.val (.ref a1), .val (.int (1 : Int32)), .val (.int (1 : Int32))] [(.int (1 : Int32)), (.int (4 : Int32)), (.ref b2)])) t → Steps p.tables e below (s₁.setTop (entryFrame m #[(.ref a1), (.int (1 : Int32)), (.int (1 : Int32))] 3)) t := fun t k => k238 t (by
      show Steps p.tables e below (T237.setTop (mkF m 9 #[.val (.ref a1), .val (.int (1 : Int32)), .val (.int (1 : Int32))] [(.int (3 : Int32)), (.int (1 : Int32)), (.ref b2)])) _
      refine XS.imul X237.here hx rfl (hb hby d6_9) rfl ?_
      show Steps p.tables e below (T237.setTop (mkF m 10 #[.val (.ref a1), .val (.int (1 : Int32)), .val (.int (1 : Int32))] [(.int ((1 : Int32) * (3 : Int32))), (.ref b2)])) _
      refine castTop (g' := (mkF m 10 #[.val (.ref a1), .val (.int (1 : Int32)), .val (.int (1 : Int32))] [(.int (3 : Int32)), (.ref b2)])) (by rw [show ((1 : Int32) * (3 : Int32)) = (3 : Int32) by decide]) ?_
      show Steps p.tables e below (T237.setTop (mkF m 10 #[.val (.ref a1), .val (.int (1 : Int32)), .val (.int (1 : Int32))] [(.int (3 : Int32)), (.ref b2)])) _
      refine XS.iloadN X237.here hx rfl (hb hby d6_10) rfl ?_
      show Steps p.tables e below (T237.setTop (mkF m 11 #[.val (.ref a1), .val (.int (1 : Int32)), .val (.int (1 : Int32))] [(.int (1 : Int32)), (.int (3 : Int32)), (.ref b2)])) _
      refine XS.iadd X237.here hx rfl (hb hby d6_11) rfl ?_
      show Steps p.tables e below (T237.setTop (mkF m 12 #[.val (.ref a1), .val (.int (1 : Int32)), .val (.int (1 : Int32))] [(.int ((3 : Int32) + (1 : Int32))), (.ref b2)])) _
      refine castTop (g' := (mkF m 12 #[.val (.ref a1), .val (.int (1 : Int32)), .val (.int (1 : Int32))] [(.int (4 : Int32)), (.ref b2)])) (by rw [show ((3 : Int32) + (1 : Int32)) = (4 : Int32) by decide]) ?_
      show Steps p.tables e below (T237.setTop (mkF m 12 #[.val (.ref a1), .val (.int (1 : Int32)), .val (.int (1 : Int32))] [(.int (4 : Int32)), (.ref b2)])) _
      refine XS.iconst X237.here hx rfl (hb hby d6_12) ?_
      exact k)
    obtain ⟨c240, Ar240, Aq240, As240, An240, Ah240, Ag240⟩ := id V2
    have hin240 : ¬ ((4 : Int32) < 0 ∨ c240.slots.size ≤ ((4 : Int32)).toNatClampNeg) := inb_of As240 ⟨by decide, by decide⟩
    obtain ⟨T240, h240, X240, e240, W240, st240⟩ := stZ X237 hx hZ e237 Ar240 (j := (4 : Int32)) hin240 (g := (mkF m 13 #[.val (.ref a1), .val (.int (1 : Int32)), .val (.int (1 : Int32))] [(.int (1 : Int32)), (.int (4 : Int32)), (.ref b2)])) rfl rfl (hb hby d6_13)
    have V241 : Arv Z h240 b2 k2 .boolean (6 : Int32) [(.int c0), (.int c1), (.int c2), (.int c3), (.int (1 : Int32)), (.int c5)] (.int (0 : Int32)) := Arv.set Ar240 Aq240 As240 An240 Ah240 Ag240 (fits_nar_bool _) W240 4 rfl (Nat.le_of_ble_eq_true rfl)
    have F242 := F_wantingCount.other W240 (Or.inl n2)
    have F243 := F_approaches.other W240 (Or.inl n2)
    have F244 := F_columns.other W240 (Or.inl n2)
    have F245 := F_anyClosed.other W240 (Or.inl n2)
    have F246 := F_supply.other W240 (Or.inl n2)
    have F247 := F_closed.other W240 (Or.inl n2)
    have F248 := E1.wr W240
    have F249 := V1.other W240 n3
    have Z250 : n0 ≤ h240.size := Nat.le_trans Z0 (Nat.le_of_eq W240.size.symm)
    have N251 := Fr.snoc X240 N0 gb2
    have K252 := K0.wr W240 (Or.inl (List.mem_of_getElem? (i := 1) rfl))
    have k253 : ∀ t, Steps p.tables e below (T240.setTop (mkF m 14 #[.val (.ref a1), .val (.int (1 : Int32)), .val (.int (1 : Int32))] [])) t → Steps p.tables e below (s₁.setTop (entryFrame m #[(.ref a1), (.int (1 : Int32)), (.int (1 : Int32))] 3)) t := fun t k => k239 t (st240 t k)
    have k254 : ∀ t, Steps p.tables e below (T240.setTop (mkF m 16 #[.val (.ref a1), .val (.int (1 : Int32)), .val (.int (1 : Int32))] [(.int (1 : Int32)), (.ref a1)])) t → Steps p.tables e below (s₁.setTop (entryFrame m #[(.ref a1), (.int (1 : Int32)), (.int (1 : Int32))] 3)) t := fun t k => k253 t (by
      show Steps p.tables e below (T240.setTop (mkF m 14 #[.val (.ref a1), .val (.int (1 : Int32)), .val (.int (1 : Int32))] [])) _
      refine XS.aloadN X240.here hx rfl (hb hby d6_14) rfl rfl ?_
      show Steps p.tables e below (T240.setTop (mkF m 15 #[.val (.ref a1), .val (.int (1 : Int32)), .val (.int (1 : Int32))] [(.ref a1)])) _
      refine XS.iconst X240.here hx rfl (hb hby d6_15) ?_
      exact k)
    obtain ⟨T255, h255, X255, e255, W255, st255⟩ := putF X240 hx hZ hown (host := "") (Or.inl (hw _ (List.mem_of_getElem? (i := 51) rfl))) Via.refl e240 F245 F248 (Or.inl (hw _ (List.mem_of_getElem? (i := 52) rfl))) (hw _ (List.mem_of_getElem? (i := 2) rfl)) (ty := .boolean) (by decide) rfl rfl (g := (mkF m 16 #[.val (.ref a1), .val (.int (1 : Int32)), .val (.int (1 : Int32))] [(.int (1 : Int32)), (.ref a1)])) rfl rfl (hb hby d6_16)
    have F256 := F245.same W255
    have F257 := F242.other W255 (Or.inr (slot_ne (Or.inl (hw _ (List.mem_of_getElem? (i := 45) rfl))) (Or.inl (hw _ (List.mem_of_getElem? (i := 52) rfl))) (by decide) (t := .int) (t' := .boolean) (by decide) (by decide)))
    have F258 := F243.other W255 (Or.inr (slot_ne (Or.inl (hw _ (List.mem_of_getElem? (i := 47) rfl))) (Or.inl (hw _ (List.mem_of_getElem? (i := 52) rfl))) (by decide) (t := .int) (t' := .boolean) (by decide) (by decide)))
    have F259 := F244.other W255 (Or.inr (slot_ne (Or.inl (hw _ (List.mem_of_getElem? (i := 49) rfl))) (Or.inl (hw _ (List.mem_of_getElem? (i := 52) rfl))) (by decide) (t := .int) (t' := .boolean) (by decide) (by decide)))
    have F260 := F246.other W255 (Or.inr (slot_ne (Or.inr (hw _ (List.mem_of_getElem? (i := 18) rfl))) (Or.inl (hw _ (List.mem_of_getElem? (i := 52) rfl))) (by decide) (t := (.array .double)) (t' := .boolean) (by decide) (by decide)))
    have F261 := F247.other W255 (Or.inr (slot_ne (Or.inr (hw _ (List.mem_of_getElem? (i := 33) rfl))) (Or.inl (hw _ (List.mem_of_getElem? (i := 52) rfl))) (by decide) (t := (.array .boolean)) (t' := .boolean) (by decide) (by decide)))
    have F262 := F248.wr W255
    have F263 := F249.other W255 (Ne.symm n1)
    have F264 := V241.other W255 (Ne.symm n2)
    have Z265 : n0 ≤ h255.size := Nat.le_trans Z250 (Nat.le_of_eq W255.size.symm)
    have N266 := Fr.snoc X255 N251 ga
    have K267 := K252.wr W255 (Or.inl (List.mem_of_getElem? (i := 0) rfl))
    have k268 : ∀ t, Steps p.tables e below (T255.setTop (mkF m 19 #[.val (.ref a1), .val (.int (1 : Int32)), .val (.int (1 : Int32))] [])) t → Steps p.tables e below (s₁.setTop (entryFrame m #[(.ref a1), (.int (1 : Int32)), (.int (1 : Int32))] 3)) t := fun t k => k254 t (st255 t k)
    obtain ⟨fs, hr, hrun, hended, hW, hsame⟩ := X255.leave (v := none) (fun _ => rfl)
    refine ⟨_, _, k268 _ (X255.returnOut hx Bd.returns (hb hby d6_19) hr), hrun, hended, _, _, rfl, ?_, ⟨_, rfl⟩, hW, hsame.mono (by decide) (by decide)⟩
    show Q_rm6 Z a1 b1 b2 k1 k2 (1 : Int32) (1 : Int32) y0 u0 u1 u2 c0 c1 c2 c3 c4 c5 h0 n0 _ T255.heap _
    rw [e255]
    exact ⟨rfl, N266, K267, F262, F257, F258, F259, F256, F260, F261, F263, F264⟩
  · have k269 : ∀ t, Steps p.tables e below (T102.setTop (mkF m 6 #[.val (.ref a1), .val (.int (1 : Int32)), .val (.int (2 : Int32))] [(.ref a1), (.int (1 : Int32)), (.ref b2)])) t → Steps p.tables e below (s₁.setTop (entryFrame m #[(.ref a1), (.int (1 : Int32)), (.int (2 : Int32))] 3)) t := fun t k => k103 t (by
      show Steps p.tables e below (T102.setTop (mkF m 4 #[.val (.ref a1), .val (.int (1 : Int32)), .val (.int (2 : Int32))] [(.ref b2)])) _
      refine XS.iloadN X102.here hx rfl (hb hby d6_4) rfl ?_
      show Steps p.tables e below (T102.setTop (mkF m 5 #[.val (.ref a1), .val (.int (1 : Int32)), .val (.int (2 : Int32))] [(.int (1 : Int32)), (.ref b2)])) _
      refine XS.aloadN X102.here hx rfl (hb hby d6_5) rfl rfl ?_
      exact k)
    obtain ⟨T270, X270, e270, st270⟩ := getF X102 hx hZ hown (host := "") (Or.inl (hw _ (List.mem_of_getElem? (i := 48) rfl))) Via.refl e102 F_columns (g := (mkF m 6 #[.val (.ref a1), .val (.int (1 : Int32)), .val (.int (2 : Int32))] [(.ref a1), (.int (1 : Int32)), (.ref b2)])) rfl rfl (hb hby d6_6)
    have k271 : ∀ t, Steps p.tables e below (T270.setTop (mkF m 9 #[.val (.ref a1), .val (.int (1 : Int32)), .val (.int (2 : Int32))] [(.int (3 : Int32)), (.int (1 : Int32)), (.ref b2)])) t → Steps p.tables e below (s₁.setTop (entryFrame m #[(.ref a1), (.int (1 : Int32)), (.int (2 : Int32))] 3)) t := fun t k => k269 t (st270 t k)
    have k272 : ∀ t, Steps p.tables e below (T270.setTop (mkF m 13 #[.val (.ref a1), .val (.int (1 : Int32)), .val (.int (2 : Int32))] [(.int (1 : Int32)), (.int (5 : Int32)), (.ref b2)])) t → Steps p.tables e below (s₁.setTop (entryFrame m #[(.ref a1), (.int (1 : Int32)), (.int (2 : Int32))] 3)) t := fun t k => k271 t (by
      show Steps p.tables e below (T270.setTop (mkF m 9 #[.val (.ref a1), .val (.int (1 : Int32)), .val (.int (2 : Int32))] [(.int (3 : Int32)), (.int (1 : Int32)), (.ref b2)])) _
      refine XS.imul X270.here hx rfl (hb hby d6_9) rfl ?_
      show Steps p.tables e below (T270.setTop (mkF m 10 #[.val (.ref a1), .val (.int (1 : Int32)), .val (.int (2 : Int32))] [(.int ((1 : Int32) * (3 : Int32))), (.ref b2)])) _
      refine castTop (g' := (mkF m 10 #[.val (.ref a1), .val (.int (1 : Int32)), .val (.int (2 : Int32))] [(.int (3 : Int32)), (.ref b2)])) (by rw [show ((1 : Int32) * (3 : Int32)) = (3 : Int32) by decide]) ?_
      show Steps p.tables e below (T270.setTop (mkF m 10 #[.val (.ref a1), .val (.int (1 : Int32)), .val (.int (2 : Int32))] [(.int (3 : Int32)), (.ref b2)])) _
      refine XS.iloadN X270.here hx rfl (hb hby d6_10) rfl ?_
      show Steps p.tables e below (T270.setTop (mkF m 11 #[.val (.ref a1), .val (.int (1 : Int32)), .val (.int (2 : Int32))] [(.int (2 : Int32)), (.int (3 : Int32)), (.ref b2)])) _
      refine XS.iadd X270.here hx rfl (hb hby d6_11) rfl ?_
      show Steps p.tables e below (T270.setTop (mkF m 12 #[.val (.ref a1), .val (.int (1 : Int32)), .val (.int (2 : Int32))] [(.int ((3 : Int32) + (2 : Int32))), (.ref b2)])) _
      refine castTop (g' := (mkF m 12 #[.val (.ref a1), .val (.int (1 : Int32)), .val (.int (2 : Int32))] [(.int (5 : Int32)), (.ref b2)])) (by rw [show ((3 : Int32) + (2 : Int32)) = (5 : Int32) by decide]) ?_
      show Steps p.tables e below (T270.setTop (mkF m 12 #[.val (.ref a1), .val (.int (1 : Int32)), .val (.int (2 : Int32))] [(.int (5 : Int32)), (.ref b2)])) _
      refine XS.iconst X270.here hx rfl (hb hby d6_12) ?_
      exact k)
    obtain ⟨c273, Ar273, Aq273, As273, An273, Ah273, Ag273⟩ := id V2
    have hin273 : ¬ ((5 : Int32) < 0 ∨ c273.slots.size ≤ ((5 : Int32)).toNatClampNeg) := inb_of As273 ⟨by decide, by decide⟩
    obtain ⟨T273, h273, X273, e273, W273, st273⟩ := stZ X270 hx hZ e270 Ar273 (j := (5 : Int32)) hin273 (g := (mkF m 13 #[.val (.ref a1), .val (.int (1 : Int32)), .val (.int (2 : Int32))] [(.int (1 : Int32)), (.int (5 : Int32)), (.ref b2)])) rfl rfl (hb hby d6_13)
    have V274 : Arv Z h273 b2 k2 .boolean (6 : Int32) [(.int c0), (.int c1), (.int c2), (.int c3), (.int c4), (.int (1 : Int32))] (.int (0 : Int32)) := Arv.set Ar273 Aq273 As273 An273 Ah273 Ag273 (fits_nar_bool _) W273 5 rfl (Nat.le_of_ble_eq_true rfl)
    have F275 := F_wantingCount.other W273 (Or.inl n2)
    have F276 := F_approaches.other W273 (Or.inl n2)
    have F277 := F_columns.other W273 (Or.inl n2)
    have F278 := F_anyClosed.other W273 (Or.inl n2)
    have F279 := F_supply.other W273 (Or.inl n2)
    have F280 := F_closed.other W273 (Or.inl n2)
    have F281 := E1.wr W273
    have F282 := V1.other W273 n3
    have Z283 : n0 ≤ h273.size := Nat.le_trans Z0 (Nat.le_of_eq W273.size.symm)
    have N284 := Fr.snoc X273 N0 gb2
    have K285 := K0.wr W273 (Or.inl (List.mem_of_getElem? (i := 1) rfl))
    have k286 : ∀ t, Steps p.tables e below (T273.setTop (mkF m 14 #[.val (.ref a1), .val (.int (1 : Int32)), .val (.int (2 : Int32))] [])) t → Steps p.tables e below (s₁.setTop (entryFrame m #[(.ref a1), (.int (1 : Int32)), (.int (2 : Int32))] 3)) t := fun t k => k272 t (st273 t k)
    have k287 : ∀ t, Steps p.tables e below (T273.setTop (mkF m 16 #[.val (.ref a1), .val (.int (1 : Int32)), .val (.int (2 : Int32))] [(.int (1 : Int32)), (.ref a1)])) t → Steps p.tables e below (s₁.setTop (entryFrame m #[(.ref a1), (.int (1 : Int32)), (.int (2 : Int32))] 3)) t := fun t k => k286 t (by
      show Steps p.tables e below (T273.setTop (mkF m 14 #[.val (.ref a1), .val (.int (1 : Int32)), .val (.int (2 : Int32))] [])) _
      refine XS.aloadN X273.here hx rfl (hb hby d6_14) rfl rfl ?_
      show Steps p.tables e below (T273.setTop (mkF m 15 #[.val (.ref a1), .val (.int (1 : Int32)), .val (.int (2 : Int32))] [(.ref a1)])) _
      refine XS.iconst X273.here hx rfl (hb hby d6_15) ?_
      exact k)
    obtain ⟨T288, h288, X288, e288, W288, st288⟩ := putF X273 hx hZ hown (host := "") (Or.inl (hw _ (List.mem_of_getElem? (i := 51) rfl))) Via.refl e273 F278 F281 (Or.inl (hw _ (List.mem_of_getElem? (i := 52) rfl))) (hw _ (List.mem_of_getElem? (i := 2) rfl)) (ty := .boolean) (by decide) rfl rfl (g := (mkF m 16 #[.val (.ref a1), .val (.int (1 : Int32)), .val (.int (2 : Int32))] [(.int (1 : Int32)), (.ref a1)])) rfl rfl (hb hby d6_16)
    have F289 := F278.same W288
    have F290 := F275.other W288 (Or.inr (slot_ne (Or.inl (hw _ (List.mem_of_getElem? (i := 45) rfl))) (Or.inl (hw _ (List.mem_of_getElem? (i := 52) rfl))) (by decide) (t := .int) (t' := .boolean) (by decide) (by decide)))
    have F291 := F276.other W288 (Or.inr (slot_ne (Or.inl (hw _ (List.mem_of_getElem? (i := 47) rfl))) (Or.inl (hw _ (List.mem_of_getElem? (i := 52) rfl))) (by decide) (t := .int) (t' := .boolean) (by decide) (by decide)))
    have F292 := F277.other W288 (Or.inr (slot_ne (Or.inl (hw _ (List.mem_of_getElem? (i := 49) rfl))) (Or.inl (hw _ (List.mem_of_getElem? (i := 52) rfl))) (by decide) (t := .int) (t' := .boolean) (by decide) (by decide)))
    have F293 := F279.other W288 (Or.inr (slot_ne (Or.inr (hw _ (List.mem_of_getElem? (i := 18) rfl))) (Or.inl (hw _ (List.mem_of_getElem? (i := 52) rfl))) (by decide) (t := (.array .double)) (t' := .boolean) (by decide) (by decide)))
    have F294 := F280.other W288 (Or.inr (slot_ne (Or.inr (hw _ (List.mem_of_getElem? (i := 33) rfl))) (Or.inl (hw _ (List.mem_of_getElem? (i := 52) rfl))) (by decide) (t := (.array .boolean)) (t' := .boolean) (by decide) (by decide)))
    have F295 := F281.wr W288
    have F296 := F282.other W288 (Ne.symm n1)
    have F297 := V274.other W288 (Ne.symm n2)
    have Z298 : n0 ≤ h288.size := Nat.le_trans Z283 (Nat.le_of_eq W288.size.symm)
    have N299 := Fr.snoc X288 N284 ga
    have K300 := K285.wr W288 (Or.inl (List.mem_of_getElem? (i := 0) rfl))
    have k301 : ∀ t, Steps p.tables e below (T288.setTop (mkF m 19 #[.val (.ref a1), .val (.int (1 : Int32)), .val (.int (2 : Int32))] [])) t → Steps p.tables e below (s₁.setTop (entryFrame m #[(.ref a1), (.int (1 : Int32)), (.int (2 : Int32))] 3)) t := fun t k => k287 t (st288 t k)
    obtain ⟨fs, hr, hrun, hended, hW, hsame⟩ := X288.leave (v := none) (fun _ => rfl)
    refine ⟨_, _, k301 _ (X288.returnOut hx Bd.returns (hb hby d6_19) hr), hrun, hended, _, _, rfl, ?_, ⟨_, rfl⟩, hW, hsame.mono (by decide) (by decide)⟩
    show Q_rm6 Z a1 b1 b2 k1 k2 (1 : Int32) (2 : Int32) y0 u0 u1 u2 c0 c1 c2 c3 c4 c5 h0 n0 _ T288.heap _
    rw [e288]
    exact ⟨rfl, N299, K300, F295, F290, F291, F292, F289, F293, F294, F296, F297⟩
theorem ef_4_RII (m : MethodId) (x0 : Addr) (x1 : Int32) (x2 : Int32) : entryFrame m #[(.ref x0), (.int x1), (.int x2)] 3 = mkF m 0 #[.val (.ref x0), .val (.int x1), .val (.int x2)] [] := by first | (simp [entryFrame, mkF, argsToLocals, Value.category]; done) | rfl
theorem d4_0 : decode prog_40_method_6_code 0 = .ok (.aload_n 0, 1) := by decide +kernel
theorem d4_1 : decode prog_40_method_6_code 1 = .ok (.getfield 19, 3) := by decide +kernel
theorem d4_4 : decode prog_40_method_6_code 4 = .ok (.iload_n 2, 1) := by decide +kernel
theorem d4_5 : decode prog_40_method_6_code 5 = .ok (.daload, 1) := by decide +kernel
theorem d4_6 : decode prog_40_method_6_code 6 = .ok (.dconst 0, 1) := by decide +kernel
theorem d4_7 : decode prog_40_method_6_code 7 = .ok (.dcmp .l, 1) := by decide +kernel
theorem d4_8 : decode prog_40_method_6_code 8 = .ok (.ifCond .eq 19, 3) := by decide +kernel
theorem d4_27 : decode prog_40_method_6_code 27 = .ok (.iconst 1, 1) := by decide +kernel
theorem d4_28 : decode prog_40_method_6_code 28 = .ok (.goto 4, 3) := by decide +kernel
theorem d4_32 : decode prog_40_method_6_code 32 = .ok (.ireturn, 1) := by decide +kernel
theorem d4_11 : decode prog_40_method_6_code 11 = .ok (.aload_n 0, 1) := by decide +kernel
theorem d4_12 : decode prog_40_method_6_code 12 = .ok (.getfield 41, 3) := by decide +kernel
theorem d4_15 : decode prog_40_method_6_code 15 = .ok (.iload_n 1, 1) := by decide +kernel
theorem d4_16 : decode prog_40_method_6_code 16 = .ok (.aload_n 0, 1) := by decide +kernel
theorem d4_17 : decode prog_40_method_6_code 17 = .ok (.getfield 55, 3) := by decide +kernel
theorem d4_20 : decode prog_40_method_6_code 20 = .ok (.imul, 1) := by decide +kernel
theorem d4_21 : decode prog_40_method_6_code 21 = .ok (.iload_n 2, 1) := by decide +kernel
theorem d4_22 : decode prog_40_method_6_code 22 = .ok (.iadd, 1) := by decide +kernel
theorem d4_23 : decode prog_40_method_6_code 23 = .ok (.baload, 1) := by decide +kernel
theorem d4_24 : decode prog_40_method_6_code 24 = .ok (.ifCond .eq 7, 3) := by decide +kernel
theorem d4_31 : decode prog_40_method_6_code 31 = .ok (.iconst 0, 1) := by decide +kernel
def Q_rm4 (Z : State) (a1 : Addr) (b1 : Addr) (b2 : Addr) (k1 : ClassId) (k2 : ClassId) (p1 : Int32) (p2 : Int32) (y0 : Int32) (u0 : UInt64) (u1 : UInt64) (u2 : UInt64) (c0 : Int32) (c1 : Int32) (c2 : Int32) (c3 : Int32) (c4 : Int32) (c5 : Int32) (h0 : Heap) (n0 : Nat) (v : Option Value) (h : Heap) (L : List Loc) : Prop := v = some (.int (own_bl p1 p2 u0 u1 u2 c0 c1 c2 c3 c4 c5)) ∧ Fr n0 L ∧ h = h0
set_option maxRecDepth 65536 in
set_option maxHeartbeats 40000000 in
theorem rm4 (l : Launch) (Z : State) (a0 : Array Value) (hw : ∀ d ∈ tables_1, d.before a0 Z = true) (ws : List Jvm.Cond) (a1 : Addr) (b1 : Addr) (b2 : Addr) (k1 : ClassId) (k2 : ClassId) (p1 : Int32) (p2 : Int32) (y0 : Int32) (u0 : UInt64) (u1 : UInt64) (u2 : UInt64) (c0 : Int32) (c1 : Int32) (c2 : Int32) (c3 : Int32) (c4 : Int32) (c5 : Int32) (h0 : Heap) (n0 : Nat) (Z0 : n0 ≤ h0.size) (F_wantingCount : Fld Z h0 a1 "com/example/istra/istra/engine/NodeModel" "wantingCount" "I" (.int (0 : Int32))) (F_approaches : Fld Z h0 a1 "com/example/istra/istra/engine/NodeModel" "approaches" "I" (.int (2 : Int32))) (F_columns : Fld Z h0 a1 "com/example/istra/istra/engine/NodeModel" "columns" "I" (.int (3 : Int32))) (F_anyClosed : Fld Z h0 a1 "com/example/istra/istra/engine/NodeModel" "anyClosed" "Z" (.int y0)) (F_supply : Fld Z h0 a1 "com/example/istra/istra/engine/NodeModel" "supply" "[D" (.ref b1)) (F_closed : Fld Z h0 a1 "com/example/istra/istra/engine/NodeModel" "closed" "[Z" (.ref b2)) (E1 : Exa Z h0 a1 "com/example/istra/istra/engine/NodeModel") (V1 : Arv Z h0 b1 k1 .double (3 : Int32) [(.double u0), (.double u1), (.double u2)] (.double (0 : UInt64))) (V2 : Arv Z h0 b2 k2 .boolean (6 : Int32) [(.int c0), (.int c1), (.int c2), (.int c3), (.int c4), (.int c5)] (.int (0 : Int32))) (ga : n0 ≤ a1) (gb1 : n0 ≤ b1) (gb2 : n0 ≤ b2) (n1 : a1 ≠ b1) (n2 : a1 ≠ b2) (n3 : b1 ≠ b2) (hp : p1 = (0 : Int32) ∨ p1 = (1 : Int32)) (hq : p2 = (0 : Int32) ∨ p2 = (1 : Int32) ∨ p2 = (2 : Int32)) :
    MetFree l (⟨"com/example/istra/istra/engine/NodeModel", "blocked", "(II)Z"⟩ : MethodName) (head1 (Jvm.Cond.code (⟨"com/example/istra/istra/engine/NodeModel", "blocked", "(II)Z"⟩ : MethodName) prog_40_method_6_code 3 (some .boolean) :: ws) ({ frames := 0, cells := 0, slots := 0, locals := 0 } : Room)) (fun a U => a = #[(.ref a1), (.int p1), (.int p2)] ∧ Z.Warmed39 U.vm ∧ U.heap = h0) (fun _ _ _ _ _ => True) (fun _ U o U' => ∃ v L, o = .returned v ∧ Q_rm4 Z a1 b1 b2 k1 k2 p1 p2 y0 u0 u1 u2 c0 c1 c2 c3 c4 c5 h0 n0 v U'.heap L ∧ FrameEnd U o U' L ({ frames := 0, cells := 0, slots := 0, locals := 0 } : Room).cells ({ frames := 0, cells := 0, slots := 0, locals := 0 } : Room).slots) := by
  refine MetFree.of_bodySF (plainFor_of_name pn_com_2fexample_2fistra_2fistra_2fengine_2fNodeModel) hisR ?_
  intro p e s m args below meth c s₁ Bd hml0 hP hK
  obtain ⟨rfl, hZ, hh⟩ := hP
  have hx := Bd.exec
  have hby := Bd.bytes
  have hml : c.maxLocals = 3 := hml0
  have hown : s.vm.findClass "com/example/istra/istra/engine/NodeModel" = some m.cls := findClass_of_methodNamed Bd.named
  have hnm := (name_of_methodNamed Bd.named Bd.method).1
  have X0 : Stand p l e ({ frames := 0, cells := 0, slots := 0, locals := 0 } : Room) s m #[(.ref a1), (.int p1), (.int p2)] below meth c s₁ [] 0 0 := Stand.of_body Bd
  have e0 : s₁.heap = h0 := by rw [← hh, Bd.state]; rfl
  have N0 := Fr.nil n0
  have k0 : ∀ t, Steps p.tables e below (s₁.setTop (mkF m 0 #[.val (.ref a1), .val (.int p1), .val (.int p2)] [])) t → Steps p.tables e below (s₁.setTop (entryFrame m #[(.ref a1), (.int p1), (.int p2)] 3)) t := fun t k => castTop (ef_4_RII m a1 p1 p2) k
  have k101 : ∀ t, Steps p.tables e below (s₁.setTop (mkF m 1 #[.val (.ref a1), .val (.int p1), .val (.int p2)] [(.ref a1)])) t → Steps p.tables e below (s₁.setTop (entryFrame m #[(.ref a1), (.int p1), (.int p2)] 3)) t := fun t k => k0 t (by
    show Steps p.tables e below (s₁.setTop (mkF m 0 #[.val (.ref a1), .val (.int p1), .val (.int p2)] [])) _
    refine XS.aloadN X0.here hx rfl (hb hby d4_0) rfl rfl ?_
    exact k)
  rcases hp with rfl | rfl <;> rcases hq with rfl | rfl | rfl
  · obtain ⟨T102, X102, e102, st102⟩ := getF X0 hx hZ hown (host := "") (Or.inl (hw _ (List.mem_of_getElem? (i := 17) rfl))) Via.refl e0 F_supply (g := (mkF m 1 #[.val (.ref a1), .val (.int (0 : Int32)), .val (.int (0 : Int32))] [(.ref a1)])) rfl rfl (hb hby d4_1)
    have k103 : ∀ t, Steps p.tables e below (T102.setTop (mkF m 4 #[.val (.ref a1), .val (.int (0 : Int32)), .val (.int (0 : Int32))] [(.ref b1)])) t → Steps p.tables e below (s₁.setTop (entryFrame m #[(.ref a1), (.int (0 : Int32)), (.int (0 : Int32))] 3)) t := fun t k => k101 t (st102 t k)
    have k104 : ∀ t, Steps p.tables e below (T102.setTop (mkF m 5 #[.val (.ref a1), .val (.int (0 : Int32)), .val (.int (0 : Int32))] [(.int (0 : Int32)), (.ref b1)])) t → Steps p.tables e below (s₁.setTop (entryFrame m #[(.ref a1), (.int (0 : Int32)), (.int (0 : Int32))] 3)) t := fun t k => k103 t (by
      show Steps p.tables e below (T102.setTop (mkF m 4 #[.val (.ref a1), .val (.int (0 : Int32)), .val (.int (0 : Int32))] [(.ref b1)])) _
      refine XS.iloadN X102.here hx rfl (hb hby d4_4) rfl ?_
      exact k)
    obtain ⟨c105, Ar105, -, As105, An105, Ah105, -⟩ := id V1
    have hin105 : ¬ ((0 : Int32) < 0 ∨ c105.slots.size ≤ ((0 : Int32)).toNatClampNeg) := inb_of As105 ⟨by decide, by decide⟩
    have hat105 : c105.slots[((0 : Int32)).toNatClampNeg]? = some (.double u0) := Has.at Ah105 hin105 rfl
    have k106 : ∀ t, Steps p.tables e below (T102.setTop (mkF m 8 #[.val (.ref a1), .val (.int (0 : Int32)), .val (.int (0 : Int32))] [(.int (cmpValue (FP.dcmp u0 (0 : UInt64)) .l))])) t → Steps p.tables e below (s₁.setTop (entryFrame m #[(.ref a1), (.int (0 : Int32)), (.int (0 : Int32))] 3)) t := fun t k => k104 t (by
      show Steps p.tables e below (T102.setTop (mkF m 5 #[.val (.ref a1), .val (.int (0 : Int32)), .val (.int (0 : Int32))] [(.int (0 : Int32)), (.ref b1)])) _
      refine X102.daload hx (j := (0 : Int32)) (v := (.double u0)) (by rw [e102]; exact Ar105.1) (State.isArrayOf_alike hZ.alike Ar105.2.1) Ar105.2.2 hin105 hat105 (g := (mkF m 5 #[.val (.ref a1), .val (.int (0 : Int32)), .val (.int (0 : Int32))] [(.int (0 : Int32)), (.ref b1)])) rfl rfl (hb hby d4_5) _ ?_
      show Steps p.tables e below (T102.setTop (mkF m 6 #[.val (.ref a1), .val (.int (0 : Int32)), .val (.int (0 : Int32))] [(.double u0)])) _
      refine XS.dconst0 X102.here hx rfl (hb hby d4_6) (v := (0 : UInt64)) rfl ?_
      show Steps p.tables e below (T102.setTop (mkF m 7 #[.val (.ref a1), .val (.int (0 : Int32)), .val (.int (0 : Int32))] [(.double (0 : UInt64)), (.double u0)])) _
      refine XS.dcmpS X102.here hx rfl (hb hby d4_7) rfl rfl ?_
      exact k)
    by_cases s1 : (cmpValue (FP.dcmp u0 (0 : UInt64)) .l) = (0 : Int32)
    · have k107 : ∀ t, Steps p.tables e below (T102.setTop (mkF m 32 #[.val (.ref a1), .val (.int (0 : Int32)), .val (.int (0 : Int32))] [(.int (1 : Int32))])) t → Steps p.tables e below (s₁.setTop (entryFrame m #[(.ref a1), (.int (0 : Int32)), (.int (0 : Int32))] 3)) t := fun t k => k106 t (by
        show Steps p.tables e below (T102.setTop (mkF m 8 #[.val (.ref a1), .val (.int (0 : Int32)), .val (.int (0 : Int32))] [(.int (cmpValue (FP.dcmp u0 (0 : UInt64)) .l))])) _
        refine XS.ifYes X102.here hx rfl (pc0 := 8) (pc' := 27) rfl (hb hby d4_8) rfl ((if0 _ _).trans (teq s1).1) (by decide) (by decide) ?_
        show Steps p.tables e below (T102.setTop (mkF m 27 #[.val (.ref a1), .val (.int (0 : Int32)), .val (.int (0 : Int32))] [])) _
        refine XS.iconst X102.here hx rfl (hb hby d4_27) ?_
        show Steps p.tables e below (T102.setTop (mkF m 28 #[.val (.ref a1), .val (.int (0 : Int32)), .val (.int (0 : Int32))] [(.int (1 : Int32))])) _
        refine XS.goto X102.here hx rfl (pc0 := 28) (pc' := 32) rfl (hb hby d4_28) (by decide) (by decide) ?_
        exact k)
      obtain ⟨fs, hr, hrun, hended, hW, hsame⟩ := X102.leave (v := some (.int (1 : Int32))) (fun h => by rw [Bd.returns] at h; cases h)
      refine ⟨_, _, k107 _ (retOut X102 hx (t := .boolean) Bd.returns rfl (Or.inl ⟨rfl, Or.inr (Or.inl rfl), _, rfl⟩) (hb hby d4_32) hr), hrun, hended, _, _, rfl, ?_, ⟨_, rfl⟩, hW, hsame.mono (by decide) (by decide)⟩
      show Q_rm4 Z a1 b1 b2 k1 k2 (0 : Int32) (0 : Int32) y0 u0 u1 u2 c0 c1 c2 c3 c4 c5 h0 n0 _ T102.heap _
      rw [e102]
      exact ⟨by simp [own_bl, s1], N0, rfl⟩
    · have k108 : ∀ t, Steps p.tables e below (T102.setTop (mkF m 12 #[.val (.ref a1), .val (.int (0 : Int32)), .val (.int (0 : Int32))] [(.ref a1)])) t → Steps p.tables e below (s₁.setTop (entryFrame m #[(.ref a1), (.int (0 : Int32)), (.int (0 : Int32))] 3)) t := fun t k => k106 t (by
        show Steps p.tables e below (T102.setTop (mkF m 8 #[.val (.ref a1), .val (.int (0 : Int32)), .val (.int (0 : Int32))] [(.int (cmpValue (FP.dcmp u0 (0 : UInt64)) .l))])) _
        refine XS.ifNo X102.here hx rfl (hb hby d4_8) rfl ((if0 _ _).trans (feq s1).1) ?_
        show Steps p.tables e below (T102.setTop (mkF m 11 #[.val (.ref a1), .val (.int (0 : Int32)), .val (.int (0 : Int32))] [])) _
        refine XS.aloadN X102.here hx rfl (hb hby d4_11) rfl rfl ?_
        exact k)
      obtain ⟨T109, X109, e109, st109⟩ := getF X102 hx hZ hown (host := "") (Or.inl (hw _ (List.mem_of_getElem? (i := 32) rfl))) Via.refl e102 F_closed (g := (mkF m 12 #[.val (.ref a1), .val (.int (0 : Int32)), .val (.int (0 : Int32))] [(.ref a1)])) rfl rfl (hb hby d4_12)
      have k110 : ∀ t, Steps p.tables e below (T109.setTop (mkF m 15 #[.val (.ref a1), .val (.int (0 : Int32)), .val (.int (0 : Int32))] [(.ref b2)])) t → Steps p.tables e below (s₁.setTop (entryFrame m #[(.ref a1), (.int (0 : Int32)), (.int (0 : Int32))] 3)) t := fun t k => k108 t (st109 t k)
      have k111 : ∀ t, Steps p.tables e below (T109.setTop (mkF m 17 #[.val (.ref a1), .val (.int (0 : Int32)), .val (.int (0 : Int32))] [(.ref a1), (.int (0 : Int32)), (.ref b2)])) t → Steps p.tables e below (s₁.setTop (entryFrame m #[(.ref a1), (.int (0 : Int32)), (.int (0 : Int32))] 3)) t := fun t k => k110 t (by
        show Steps p.tables e below (T109.setTop (mkF m 15 #[.val (.ref a1), .val (.int (0 : Int32)), .val (.int (0 : Int32))] [(.ref b2)])) _
        refine XS.iloadN X109.here hx rfl (hb hby d4_15) rfl ?_
        show Steps p.tables e below (T109.setTop (mkF m 16 #[.val (.ref a1), .val (.int (0 : Int32)), .val (.int (0 : Int32))] [(.int (0 : Int32)), (.ref b2)])) _
        refine XS.aloadN X109.here hx rfl (hb hby d4_16) rfl rfl ?_
        exact k)
      obtain ⟨T112, X112, e112, st112⟩ := getF X109 hx hZ hown (host := "") (Or.inl (hw _ (List.mem_of_getElem? (i := 48) rfl))) Via.refl e109 F_columns (g := (mkF m 17 #[.val (.ref a1), .val (.int (0 : Int32)), .val (.int (0 : Int32))] [(.ref a1), (.int (0 : Int32)), (.ref b2)])) rfl rfl (hb hby d4_17)
      have k113 : ∀ t, Steps p.tables e below (T112.setTop (mkF m 20 #[.val (.ref a1), .val (.int (0 : Int32)), .val (.int (0 : Int32))] [(.int (3 : Int32)), (.int (0 : Int32)), (.ref b2)])) t → Steps p.tables e below (s₁.setTop (entryFrame m #[(.ref a1), (.int (0 : Int32)), (.int (0 : Int32))] 3)) t := fun t k => k111 t (st112 t k)
      have k114 : ∀ t, Steps p.tables e below (T112.setTop (mkF m 23 #[.val (.ref a1), .val (.int (0 : Int32)), .val (.int (0 : Int32))] [(.int (0 : Int32)), (.ref b2)])) t → Steps p.tables e below (s₁.setTop (entryFrame m #[(.ref a1), (.int (0 : Int32)), (.int (0 : Int32))] 3)) t := fun t k => k113 t (by
        show Steps p.tables e below (T112.setTop (mkF m 20 #[.val (.ref a1), .val (.int (0 : Int32)), .val (.int (0 : Int32))] [(.int (3 : Int32)), (.int (0 : Int32)), (.ref b2)])) _
        refine XS.imul X112.here hx rfl (hb hby d4_20) rfl ?_
        show Steps p.tables e below (T112.setTop (mkF m 21 #[.val (.ref a1), .val (.int (0 : Int32)), .val (.int (0 : Int32))] [(.int ((0 : Int32) * (3 : Int32))), (.ref b2)])) _
        refine castTop (g' := (mkF m 21 #[.val (.ref a1), .val (.int (0 : Int32)), .val (.int (0 : Int32))] [(.int (0 : Int32)), (.ref b2)])) (by rw [show ((0 : Int32) * (3 : Int32)) = (0 : Int32) by decide]) ?_
        show Steps p.tables e below (T112.setTop (mkF m 21 #[.val (.ref a1), .val (.int (0 : Int32)), .val (.int (0 : Int32))] [(.int (0 : Int32)), (.ref b2)])) _
        refine XS.iloadN X112.here hx rfl (hb hby d4_21) rfl ?_
        show Steps p.tables e below (T112.setTop (mkF m 22 #[.val (.ref a1), .val (.int (0 : Int32)), .val (.int (0 : Int32))] [(.int (0 : Int32)), (.int (0 : Int32)), (.ref b2)])) _
        refine XS.iadd X112.here hx rfl (hb hby d4_22) rfl ?_
        show Steps p.tables e below (T112.setTop (mkF m 23 #[.val (.ref a1), .val (.int (0 : Int32)), .val (.int (0 : Int32))] [(.int ((0 : Int32) + (0 : Int32))), (.ref b2)])) _
        refine castTop (g' := (mkF m 23 #[.val (.ref a1), .val (.int (0 : Int32)), .val (.int (0 : Int32))] [(.int (0 : Int32)), (.ref b2)])) (by rw [show ((0 : Int32) + (0 : Int32)) = (0 : Int32) by decide]) ?_
        exact k)
      obtain ⟨c115, Ar115, -, As115, An115, Ah115, -⟩ := id V2
      have hin115 : ¬ ((0 : Int32) < 0 ∨ c115.slots.size ≤ ((0 : Int32)).toNatClampNeg) := inb_of As115 ⟨by decide, by decide⟩
      have hat115 : c115.slots[((0 : Int32)).toNatClampNeg]? = some (.int c0) := Has.at Ah115 hin115 rfl
      have k116 : ∀ t, Steps p.tables e below (T112.setTop (mkF m 24 #[.val (.ref a1), .val (.int (0 : Int32)), .val (.int (0 : Int32))] [(.int c0)])) t → Steps p.tables e below (s₁.setTop (entryFrame m #[(.ref a1), (.int (0 : Int32)), (.int (0 : Int32))] 3)) t := fun t k => k114 t (by
        show Steps p.tables e below (T112.setTop (mkF m 23 #[.val (.ref a1), .val (.int (0 : Int32)), .val (.int (0 : Int32))] [(.int (0 : Int32)), (.ref b2)])) _
        refine X112.baloadBooleans hx (j := (0 : Int32)) (v := (.int c0)) (by rw [e112]; exact Ar115.1) (State.isArrayOf_alike hZ.alike Ar115.2.1) Ar115.2.2 hin115 hat115 (g := (mkF m 23 #[.val (.ref a1), .val (.int (0 : Int32)), .val (.int (0 : Int32))] [(.int (0 : Int32)), (.ref b2)])) rfl rfl (hb hby d4_23) _ ?_
        exact k)
      by_cases s2 : c0 = (0 : Int32)
      · have k117 : ∀ t, Steps p.tables e below (T112.setTop (mkF m 32 #[.val (.ref a1), .val (.int (0 : Int32)), .val (.int (0 : Int32))] [(.int (0 : Int32))])) t → Steps p.tables e below (s₁.setTop (entryFrame m #[(.ref a1), (.int (0 : Int32)), (.int (0 : Int32))] 3)) t := fun t k => k116 t (by
          show Steps p.tables e below (T112.setTop (mkF m 24 #[.val (.ref a1), .val (.int (0 : Int32)), .val (.int (0 : Int32))] [(.int c0)])) _
          refine XS.ifYes X112.here hx rfl (pc0 := 24) (pc' := 31) rfl (hb hby d4_24) rfl ((if0 _ _).trans (teq s2).1) (by decide) (by decide) ?_
          show Steps p.tables e below (T112.setTop (mkF m 31 #[.val (.ref a1), .val (.int (0 : Int32)), .val (.int (0 : Int32))] [])) _
          refine XS.iconst X112.here hx rfl (hb hby d4_31) ?_
          exact k)
        obtain ⟨fs, hr, hrun, hended, hW, hsame⟩ := X112.leave (v := some (.int (0 : Int32))) (fun h => by rw [Bd.returns] at h; cases h)
        refine ⟨_, _, k117 _ (retOut X112 hx (t := .boolean) Bd.returns rfl (Or.inl ⟨rfl, Or.inr (Or.inl rfl), _, rfl⟩) (hb hby d4_32) hr), hrun, hended, _, _, rfl, ?_, ⟨_, rfl⟩, hW, hsame.mono (by decide) (by decide)⟩
        show Q_rm4 Z a1 b1 b2 k1 k2 (0 : Int32) (0 : Int32) y0 u0 u1 u2 c0 c1 c2 c3 c4 c5 h0 n0 _ T112.heap _
        rw [e112]
        exact ⟨by simp [own_bl, s1, s2], N0, rfl⟩
      · have k118 : ∀ t, Steps p.tables e below (T112.setTop (mkF m 32 #[.val (.ref a1), .val (.int (0 : Int32)), .val (.int (0 : Int32))] [(.int (1 : Int32))])) t → Steps p.tables e below (s₁.setTop (entryFrame m #[(.ref a1), (.int (0 : Int32)), (.int (0 : Int32))] 3)) t := fun t k => k116 t (by
          show Steps p.tables e below (T112.setTop (mkF m 24 #[.val (.ref a1), .val (.int (0 : Int32)), .val (.int (0 : Int32))] [(.int c0)])) _
          refine XS.ifNo X112.here hx rfl (hb hby d4_24) rfl ((if0 _ _).trans (feq s2).1) ?_
          show Steps p.tables e below (T112.setTop (mkF m 27 #[.val (.ref a1), .val (.int (0 : Int32)), .val (.int (0 : Int32))] [])) _
          refine XS.iconst X112.here hx rfl (hb hby d4_27) ?_
          show Steps p.tables e below (T112.setTop (mkF m 28 #[.val (.ref a1), .val (.int (0 : Int32)), .val (.int (0 : Int32))] [(.int (1 : Int32))])) _
          refine XS.goto X112.here hx rfl (pc0 := 28) (pc' := 32) rfl (hb hby d4_28) (by decide) (by decide) ?_
          exact k)
        obtain ⟨fs, hr, hrun, hended, hW, hsame⟩ := X112.leave (v := some (.int (1 : Int32))) (fun h => by rw [Bd.returns] at h; cases h)
        refine ⟨_, _, k118 _ (retOut X112 hx (t := .boolean) Bd.returns rfl (Or.inl ⟨rfl, Or.inr (Or.inl rfl), _, rfl⟩) (hb hby d4_32) hr), hrun, hended, _, _, rfl, ?_, ⟨_, rfl⟩, hW, hsame.mono (by decide) (by decide)⟩
        show Q_rm4 Z a1 b1 b2 k1 k2 (0 : Int32) (0 : Int32) y0 u0 u1 u2 c0 c1 c2 c3 c4 c5 h0 n0 _ T112.heap _
        rw [e112]
        exact ⟨by simp [own_bl, s1, s2], N0, rfl⟩
  · obtain ⟨T119, X119, e119, st119⟩ := getF X0 hx hZ hown (host := "") (Or.inl (hw _ (List.mem_of_getElem? (i := 17) rfl))) Via.refl e0 F_supply (g := (mkF m 1 #[.val (.ref a1), .val (.int (0 : Int32)), .val (.int (1 : Int32))] [(.ref a1)])) rfl rfl (hb hby d4_1)
    have k120 : ∀ t, Steps p.tables e below (T119.setTop (mkF m 4 #[.val (.ref a1), .val (.int (0 : Int32)), .val (.int (1 : Int32))] [(.ref b1)])) t → Steps p.tables e below (s₁.setTop (entryFrame m #[(.ref a1), (.int (0 : Int32)), (.int (1 : Int32))] 3)) t := fun t k => k101 t (st119 t k)
    have k121 : ∀ t, Steps p.tables e below (T119.setTop (mkF m 5 #[.val (.ref a1), .val (.int (0 : Int32)), .val (.int (1 : Int32))] [(.int (1 : Int32)), (.ref b1)])) t → Steps p.tables e below (s₁.setTop (entryFrame m #[(.ref a1), (.int (0 : Int32)), (.int (1 : Int32))] 3)) t := fun t k => k120 t (by
      show Steps p.tables e below (T119.setTop (mkF m 4 #[.val (.ref a1), .val (.int (0 : Int32)), .val (.int (1 : Int32))] [(.ref b1)])) _
      refine XS.iloadN X119.here hx rfl (hb hby d4_4) rfl ?_
      exact k)
    obtain ⟨c122, Ar122, -, As122, An122, Ah122, -⟩ := id V1
    have hin122 : ¬ ((1 : Int32) < 0 ∨ c122.slots.size ≤ ((1 : Int32)).toNatClampNeg) := inb_of As122 ⟨by decide, by decide⟩
    have hat122 : c122.slots[((1 : Int32)).toNatClampNeg]? = some (.double u1) := Has.at Ah122 hin122 rfl
    have k123 : ∀ t, Steps p.tables e below (T119.setTop (mkF m 8 #[.val (.ref a1), .val (.int (0 : Int32)), .val (.int (1 : Int32))] [(.int (cmpValue (FP.dcmp u1 (0 : UInt64)) .l))])) t → Steps p.tables e below (s₁.setTop (entryFrame m #[(.ref a1), (.int (0 : Int32)), (.int (1 : Int32))] 3)) t := fun t k => k121 t (by
      show Steps p.tables e below (T119.setTop (mkF m 5 #[.val (.ref a1), .val (.int (0 : Int32)), .val (.int (1 : Int32))] [(.int (1 : Int32)), (.ref b1)])) _
      refine X119.daload hx (j := (1 : Int32)) (v := (.double u1)) (by rw [e119]; exact Ar122.1) (State.isArrayOf_alike hZ.alike Ar122.2.1) Ar122.2.2 hin122 hat122 (g := (mkF m 5 #[.val (.ref a1), .val (.int (0 : Int32)), .val (.int (1 : Int32))] [(.int (1 : Int32)), (.ref b1)])) rfl rfl (hb hby d4_5) _ ?_
      show Steps p.tables e below (T119.setTop (mkF m 6 #[.val (.ref a1), .val (.int (0 : Int32)), .val (.int (1 : Int32))] [(.double u1)])) _
      refine XS.dconst0 X119.here hx rfl (hb hby d4_6) (v := (0 : UInt64)) rfl ?_
      show Steps p.tables e below (T119.setTop (mkF m 7 #[.val (.ref a1), .val (.int (0 : Int32)), .val (.int (1 : Int32))] [(.double (0 : UInt64)), (.double u1)])) _
      refine XS.dcmpS X119.here hx rfl (hb hby d4_7) rfl rfl ?_
      exact k)
    by_cases s1 : (cmpValue (FP.dcmp u1 (0 : UInt64)) .l) = (0 : Int32)
    · have k124 : ∀ t, Steps p.tables e below (T119.setTop (mkF m 32 #[.val (.ref a1), .val (.int (0 : Int32)), .val (.int (1 : Int32))] [(.int (1 : Int32))])) t → Steps p.tables e below (s₁.setTop (entryFrame m #[(.ref a1), (.int (0 : Int32)), (.int (1 : Int32))] 3)) t := fun t k => k123 t (by
        show Steps p.tables e below (T119.setTop (mkF m 8 #[.val (.ref a1), .val (.int (0 : Int32)), .val (.int (1 : Int32))] [(.int (cmpValue (FP.dcmp u1 (0 : UInt64)) .l))])) _
        refine XS.ifYes X119.here hx rfl (pc0 := 8) (pc' := 27) rfl (hb hby d4_8) rfl ((if0 _ _).trans (teq s1).1) (by decide) (by decide) ?_
        show Steps p.tables e below (T119.setTop (mkF m 27 #[.val (.ref a1), .val (.int (0 : Int32)), .val (.int (1 : Int32))] [])) _
        refine XS.iconst X119.here hx rfl (hb hby d4_27) ?_
        show Steps p.tables e below (T119.setTop (mkF m 28 #[.val (.ref a1), .val (.int (0 : Int32)), .val (.int (1 : Int32))] [(.int (1 : Int32))])) _
        refine XS.goto X119.here hx rfl (pc0 := 28) (pc' := 32) rfl (hb hby d4_28) (by decide) (by decide) ?_
        exact k)
      obtain ⟨fs, hr, hrun, hended, hW, hsame⟩ := X119.leave (v := some (.int (1 : Int32))) (fun h => by rw [Bd.returns] at h; cases h)
      refine ⟨_, _, k124 _ (retOut X119 hx (t := .boolean) Bd.returns rfl (Or.inl ⟨rfl, Or.inr (Or.inl rfl), _, rfl⟩) (hb hby d4_32) hr), hrun, hended, _, _, rfl, ?_, ⟨_, rfl⟩, hW, hsame.mono (by decide) (by decide)⟩
      show Q_rm4 Z a1 b1 b2 k1 k2 (0 : Int32) (1 : Int32) y0 u0 u1 u2 c0 c1 c2 c3 c4 c5 h0 n0 _ T119.heap _
      rw [e119]
      exact ⟨by simp [own_bl, s1], N0, rfl⟩
    · have k125 : ∀ t, Steps p.tables e below (T119.setTop (mkF m 12 #[.val (.ref a1), .val (.int (0 : Int32)), .val (.int (1 : Int32))] [(.ref a1)])) t → Steps p.tables e below (s₁.setTop (entryFrame m #[(.ref a1), (.int (0 : Int32)), (.int (1 : Int32))] 3)) t := fun t k => k123 t (by
        show Steps p.tables e below (T119.setTop (mkF m 8 #[.val (.ref a1), .val (.int (0 : Int32)), .val (.int (1 : Int32))] [(.int (cmpValue (FP.dcmp u1 (0 : UInt64)) .l))])) _
        refine XS.ifNo X119.here hx rfl (hb hby d4_8) rfl ((if0 _ _).trans (feq s1).1) ?_
        show Steps p.tables e below (T119.setTop (mkF m 11 #[.val (.ref a1), .val (.int (0 : Int32)), .val (.int (1 : Int32))] [])) _
        refine XS.aloadN X119.here hx rfl (hb hby d4_11) rfl rfl ?_
        exact k)
      obtain ⟨T126, X126, e126, st126⟩ := getF X119 hx hZ hown (host := "") (Or.inl (hw _ (List.mem_of_getElem? (i := 32) rfl))) Via.refl e119 F_closed (g := (mkF m 12 #[.val (.ref a1), .val (.int (0 : Int32)), .val (.int (1 : Int32))] [(.ref a1)])) rfl rfl (hb hby d4_12)
      have k127 : ∀ t, Steps p.tables e below (T126.setTop (mkF m 15 #[.val (.ref a1), .val (.int (0 : Int32)), .val (.int (1 : Int32))] [(.ref b2)])) t → Steps p.tables e below (s₁.setTop (entryFrame m #[(.ref a1), (.int (0 : Int32)), (.int (1 : Int32))] 3)) t := fun t k => k125 t (st126 t k)
      have k128 : ∀ t, Steps p.tables e below (T126.setTop (mkF m 17 #[.val (.ref a1), .val (.int (0 : Int32)), .val (.int (1 : Int32))] [(.ref a1), (.int (0 : Int32)), (.ref b2)])) t → Steps p.tables e below (s₁.setTop (entryFrame m #[(.ref a1), (.int (0 : Int32)), (.int (1 : Int32))] 3)) t := fun t k => k127 t (by
        show Steps p.tables e below (T126.setTop (mkF m 15 #[.val (.ref a1), .val (.int (0 : Int32)), .val (.int (1 : Int32))] [(.ref b2)])) _
        refine XS.iloadN X126.here hx rfl (hb hby d4_15) rfl ?_
        show Steps p.tables e below (T126.setTop (mkF m 16 #[.val (.ref a1), .val (.int (0 : Int32)), .val (.int (1 : Int32))] [(.int (0 : Int32)), (.ref b2)])) _
        refine XS.aloadN X126.here hx rfl (hb hby d4_16) rfl rfl ?_
        exact k)
      obtain ⟨T129, X129, e129, st129⟩ := getF X126 hx hZ hown (host := "") (Or.inl (hw _ (List.mem_of_getElem? (i := 48) rfl))) Via.refl e126 F_columns (g := (mkF m 17 #[.val (.ref a1), .val (.int (0 : Int32)), .val (.int (1 : Int32))] [(.ref a1), (.int (0 : Int32)), (.ref b2)])) rfl rfl (hb hby d4_17)
      have k130 : ∀ t, Steps p.tables e below (T129.setTop (mkF m 20 #[.val (.ref a1), .val (.int (0 : Int32)), .val (.int (1 : Int32))] [(.int (3 : Int32)), (.int (0 : Int32)), (.ref b2)])) t → Steps p.tables e below (s₁.setTop (entryFrame m #[(.ref a1), (.int (0 : Int32)), (.int (1 : Int32))] 3)) t := fun t k => k128 t (st129 t k)
      have k131 : ∀ t, Steps p.tables e below (T129.setTop (mkF m 23 #[.val (.ref a1), .val (.int (0 : Int32)), .val (.int (1 : Int32))] [(.int (1 : Int32)), (.ref b2)])) t → Steps p.tables e below (s₁.setTop (entryFrame m #[(.ref a1), (.int (0 : Int32)), (.int (1 : Int32))] 3)) t := fun t k => k130 t (by
        show Steps p.tables e below (T129.setTop (mkF m 20 #[.val (.ref a1), .val (.int (0 : Int32)), .val (.int (1 : Int32))] [(.int (3 : Int32)), (.int (0 : Int32)), (.ref b2)])) _
        refine XS.imul X129.here hx rfl (hb hby d4_20) rfl ?_
        show Steps p.tables e below (T129.setTop (mkF m 21 #[.val (.ref a1), .val (.int (0 : Int32)), .val (.int (1 : Int32))] [(.int ((0 : Int32) * (3 : Int32))), (.ref b2)])) _
        refine castTop (g' := (mkF m 21 #[.val (.ref a1), .val (.int (0 : Int32)), .val (.int (1 : Int32))] [(.int (0 : Int32)), (.ref b2)])) (by rw [show ((0 : Int32) * (3 : Int32)) = (0 : Int32) by decide]) ?_
        show Steps p.tables e below (T129.setTop (mkF m 21 #[.val (.ref a1), .val (.int (0 : Int32)), .val (.int (1 : Int32))] [(.int (0 : Int32)), (.ref b2)])) _
        refine XS.iloadN X129.here hx rfl (hb hby d4_21) rfl ?_
        show Steps p.tables e below (T129.setTop (mkF m 22 #[.val (.ref a1), .val (.int (0 : Int32)), .val (.int (1 : Int32))] [(.int (1 : Int32)), (.int (0 : Int32)), (.ref b2)])) _
        refine XS.iadd X129.here hx rfl (hb hby d4_22) rfl ?_
        show Steps p.tables e below (T129.setTop (mkF m 23 #[.val (.ref a1), .val (.int (0 : Int32)), .val (.int (1 : Int32))] [(.int ((0 : Int32) + (1 : Int32))), (.ref b2)])) _
        refine castTop (g' := (mkF m 23 #[.val (.ref a1), .val (.int (0 : Int32)), .val (.int (1 : Int32))] [(.int (1 : Int32)), (.ref b2)])) (by rw [show ((0 : Int32) + (1 : Int32)) = (1 : Int32) by decide]) ?_
        exact k)
      obtain ⟨c132, Ar132, -, As132, An132, Ah132, -⟩ := id V2
      have hin132 : ¬ ((1 : Int32) < 0 ∨ c132.slots.size ≤ ((1 : Int32)).toNatClampNeg) := inb_of As132 ⟨by decide, by decide⟩
      have hat132 : c132.slots[((1 : Int32)).toNatClampNeg]? = some (.int c1) := Has.at Ah132 hin132 rfl
      have k133 : ∀ t, Steps p.tables e below (T129.setTop (mkF m 24 #[.val (.ref a1), .val (.int (0 : Int32)), .val (.int (1 : Int32))] [(.int c1)])) t → Steps p.tables e below (s₁.setTop (entryFrame m #[(.ref a1), (.int (0 : Int32)), (.int (1 : Int32))] 3)) t := fun t k => k131 t (by
        show Steps p.tables e below (T129.setTop (mkF m 23 #[.val (.ref a1), .val (.int (0 : Int32)), .val (.int (1 : Int32))] [(.int (1 : Int32)), (.ref b2)])) _
        refine X129.baloadBooleans hx (j := (1 : Int32)) (v := (.int c1)) (by rw [e129]; exact Ar132.1) (State.isArrayOf_alike hZ.alike Ar132.2.1) Ar132.2.2 hin132 hat132 (g := (mkF m 23 #[.val (.ref a1), .val (.int (0 : Int32)), .val (.int (1 : Int32))] [(.int (1 : Int32)), (.ref b2)])) rfl rfl (hb hby d4_23) _ ?_
        exact k)
      by_cases s2 : c1 = (0 : Int32)
      · have k134 : ∀ t, Steps p.tables e below (T129.setTop (mkF m 32 #[.val (.ref a1), .val (.int (0 : Int32)), .val (.int (1 : Int32))] [(.int (0 : Int32))])) t → Steps p.tables e below (s₁.setTop (entryFrame m #[(.ref a1), (.int (0 : Int32)), (.int (1 : Int32))] 3)) t := fun t k => k133 t (by
          show Steps p.tables e below (T129.setTop (mkF m 24 #[.val (.ref a1), .val (.int (0 : Int32)), .val (.int (1 : Int32))] [(.int c1)])) _
          refine XS.ifYes X129.here hx rfl (pc0 := 24) (pc' := 31) rfl (hb hby d4_24) rfl ((if0 _ _).trans (teq s2).1) (by decide) (by decide) ?_
          show Steps p.tables e below (T129.setTop (mkF m 31 #[.val (.ref a1), .val (.int (0 : Int32)), .val (.int (1 : Int32))] [])) _
          refine XS.iconst X129.here hx rfl (hb hby d4_31) ?_
          exact k)
        obtain ⟨fs, hr, hrun, hended, hW, hsame⟩ := X129.leave (v := some (.int (0 : Int32))) (fun h => by rw [Bd.returns] at h; cases h)
        refine ⟨_, _, k134 _ (retOut X129 hx (t := .boolean) Bd.returns rfl (Or.inl ⟨rfl, Or.inr (Or.inl rfl), _, rfl⟩) (hb hby d4_32) hr), hrun, hended, _, _, rfl, ?_, ⟨_, rfl⟩, hW, hsame.mono (by decide) (by decide)⟩
        show Q_rm4 Z a1 b1 b2 k1 k2 (0 : Int32) (1 : Int32) y0 u0 u1 u2 c0 c1 c2 c3 c4 c5 h0 n0 _ T129.heap _
        rw [e129]
        exact ⟨by simp [own_bl, s1, s2], N0, rfl⟩
      · have k135 : ∀ t, Steps p.tables e below (T129.setTop (mkF m 32 #[.val (.ref a1), .val (.int (0 : Int32)), .val (.int (1 : Int32))] [(.int (1 : Int32))])) t → Steps p.tables e below (s₁.setTop (entryFrame m #[(.ref a1), (.int (0 : Int32)), (.int (1 : Int32))] 3)) t := fun t k => k133 t (by
          show Steps p.tables e below (T129.setTop (mkF m 24 #[.val (.ref a1), .val (.int (0 : Int32)), .val (.int (1 : Int32))] [(.int c1)])) _
          refine XS.ifNo X129.here hx rfl (hb hby d4_24) rfl ((if0 _ _).trans (feq s2).1) ?_
          show Steps p.tables e below (T129.setTop (mkF m 27 #[.val (.ref a1), .val (.int (0 : Int32)), .val (.int (1 : Int32))] [])) _
          refine XS.iconst X129.here hx rfl (hb hby d4_27) ?_
          show Steps p.tables e below (T129.setTop (mkF m 28 #[.val (.ref a1), .val (.int (0 : Int32)), .val (.int (1 : Int32))] [(.int (1 : Int32))])) _
          refine XS.goto X129.here hx rfl (pc0 := 28) (pc' := 32) rfl (hb hby d4_28) (by decide) (by decide) ?_
          exact k)
        obtain ⟨fs, hr, hrun, hended, hW, hsame⟩ := X129.leave (v := some (.int (1 : Int32))) (fun h => by rw [Bd.returns] at h; cases h)
        refine ⟨_, _, k135 _ (retOut X129 hx (t := .boolean) Bd.returns rfl (Or.inl ⟨rfl, Or.inr (Or.inl rfl), _, rfl⟩) (hb hby d4_32) hr), hrun, hended, _, _, rfl, ?_, ⟨_, rfl⟩, hW, hsame.mono (by decide) (by decide)⟩
        show Q_rm4 Z a1 b1 b2 k1 k2 (0 : Int32) (1 : Int32) y0 u0 u1 u2 c0 c1 c2 c3 c4 c5 h0 n0 _ T129.heap _
        rw [e129]
        exact ⟨by simp [own_bl, s1, s2], N0, rfl⟩
  · obtain ⟨T136, X136, e136, st136⟩ := getF X0 hx hZ hown (host := "") (Or.inl (hw _ (List.mem_of_getElem? (i := 17) rfl))) Via.refl e0 F_supply (g := (mkF m 1 #[.val (.ref a1), .val (.int (0 : Int32)), .val (.int (2 : Int32))] [(.ref a1)])) rfl rfl (hb hby d4_1)
    have k137 : ∀ t, Steps p.tables e below (T136.setTop (mkF m 4 #[.val (.ref a1), .val (.int (0 : Int32)), .val (.int (2 : Int32))] [(.ref b1)])) t → Steps p.tables e below (s₁.setTop (entryFrame m #[(.ref a1), (.int (0 : Int32)), (.int (2 : Int32))] 3)) t := fun t k => k101 t (st136 t k)
    have k138 : ∀ t, Steps p.tables e below (T136.setTop (mkF m 5 #[.val (.ref a1), .val (.int (0 : Int32)), .val (.int (2 : Int32))] [(.int (2 : Int32)), (.ref b1)])) t → Steps p.tables e below (s₁.setTop (entryFrame m #[(.ref a1), (.int (0 : Int32)), (.int (2 : Int32))] 3)) t := fun t k => k137 t (by
      show Steps p.tables e below (T136.setTop (mkF m 4 #[.val (.ref a1), .val (.int (0 : Int32)), .val (.int (2 : Int32))] [(.ref b1)])) _
      refine XS.iloadN X136.here hx rfl (hb hby d4_4) rfl ?_
      exact k)
    obtain ⟨c139, Ar139, -, As139, An139, Ah139, -⟩ := id V1
    have hin139 : ¬ ((2 : Int32) < 0 ∨ c139.slots.size ≤ ((2 : Int32)).toNatClampNeg) := inb_of As139 ⟨by decide, by decide⟩
    have hat139 : c139.slots[((2 : Int32)).toNatClampNeg]? = some (.double u2) := Has.at Ah139 hin139 rfl
    have k140 : ∀ t, Steps p.tables e below (T136.setTop (mkF m 8 #[.val (.ref a1), .val (.int (0 : Int32)), .val (.int (2 : Int32))] [(.int (cmpValue (FP.dcmp u2 (0 : UInt64)) .l))])) t → Steps p.tables e below (s₁.setTop (entryFrame m #[(.ref a1), (.int (0 : Int32)), (.int (2 : Int32))] 3)) t := fun t k => k138 t (by
      show Steps p.tables e below (T136.setTop (mkF m 5 #[.val (.ref a1), .val (.int (0 : Int32)), .val (.int (2 : Int32))] [(.int (2 : Int32)), (.ref b1)])) _
      refine X136.daload hx (j := (2 : Int32)) (v := (.double u2)) (by rw [e136]; exact Ar139.1) (State.isArrayOf_alike hZ.alike Ar139.2.1) Ar139.2.2 hin139 hat139 (g := (mkF m 5 #[.val (.ref a1), .val (.int (0 : Int32)), .val (.int (2 : Int32))] [(.int (2 : Int32)), (.ref b1)])) rfl rfl (hb hby d4_5) _ ?_
      show Steps p.tables e below (T136.setTop (mkF m 6 #[.val (.ref a1), .val (.int (0 : Int32)), .val (.int (2 : Int32))] [(.double u2)])) _
      refine XS.dconst0 X136.here hx rfl (hb hby d4_6) (v := (0 : UInt64)) rfl ?_
      show Steps p.tables e below (T136.setTop (mkF m 7 #[.val (.ref a1), .val (.int (0 : Int32)), .val (.int (2 : Int32))] [(.double (0 : UInt64)), (.double u2)])) _
      refine XS.dcmpS X136.here hx rfl (hb hby d4_7) rfl rfl ?_
      exact k)
    by_cases s1 : (cmpValue (FP.dcmp u2 (0 : UInt64)) .l) = (0 : Int32)
    · have k141 : ∀ t, Steps p.tables e below (T136.setTop (mkF m 32 #[.val (.ref a1), .val (.int (0 : Int32)), .val (.int (2 : Int32))] [(.int (1 : Int32))])) t → Steps p.tables e below (s₁.setTop (entryFrame m #[(.ref a1), (.int (0 : Int32)), (.int (2 : Int32))] 3)) t := fun t k => k140 t (by
        show Steps p.tables e below (T136.setTop (mkF m 8 #[.val (.ref a1), .val (.int (0 : Int32)), .val (.int (2 : Int32))] [(.int (cmpValue (FP.dcmp u2 (0 : UInt64)) .l))])) _
        refine XS.ifYes X136.here hx rfl (pc0 := 8) (pc' := 27) rfl (hb hby d4_8) rfl ((if0 _ _).trans (teq s1).1) (by decide) (by decide) ?_
        show Steps p.tables e below (T136.setTop (mkF m 27 #[.val (.ref a1), .val (.int (0 : Int32)), .val (.int (2 : Int32))] [])) _
        refine XS.iconst X136.here hx rfl (hb hby d4_27) ?_
        show Steps p.tables e below (T136.setTop (mkF m 28 #[.val (.ref a1), .val (.int (0 : Int32)), .val (.int (2 : Int32))] [(.int (1 : Int32))])) _
        refine XS.goto X136.here hx rfl (pc0 := 28) (pc' := 32) rfl (hb hby d4_28) (by decide) (by decide) ?_
        exact k)
      obtain ⟨fs, hr, hrun, hended, hW, hsame⟩ := X136.leave (v := some (.int (1 : Int32))) (fun h => by rw [Bd.returns] at h; cases h)
      refine ⟨_, _, k141 _ (retOut X136 hx (t := .boolean) Bd.returns rfl (Or.inl ⟨rfl, Or.inr (Or.inl rfl), _, rfl⟩) (hb hby d4_32) hr), hrun, hended, _, _, rfl, ?_, ⟨_, rfl⟩, hW, hsame.mono (by decide) (by decide)⟩
      show Q_rm4 Z a1 b1 b2 k1 k2 (0 : Int32) (2 : Int32) y0 u0 u1 u2 c0 c1 c2 c3 c4 c5 h0 n0 _ T136.heap _
      rw [e136]
      exact ⟨by simp [own_bl, s1], N0, rfl⟩
    · have k142 : ∀ t, Steps p.tables e below (T136.setTop (mkF m 12 #[.val (.ref a1), .val (.int (0 : Int32)), .val (.int (2 : Int32))] [(.ref a1)])) t → Steps p.tables e below (s₁.setTop (entryFrame m #[(.ref a1), (.int (0 : Int32)), (.int (2 : Int32))] 3)) t := fun t k => k140 t (by
        show Steps p.tables e below (T136.setTop (mkF m 8 #[.val (.ref a1), .val (.int (0 : Int32)), .val (.int (2 : Int32))] [(.int (cmpValue (FP.dcmp u2 (0 : UInt64)) .l))])) _
        refine XS.ifNo X136.here hx rfl (hb hby d4_8) rfl ((if0 _ _).trans (feq s1).1) ?_
        show Steps p.tables e below (T136.setTop (mkF m 11 #[.val (.ref a1), .val (.int (0 : Int32)), .val (.int (2 : Int32))] [])) _
        refine XS.aloadN X136.here hx rfl (hb hby d4_11) rfl rfl ?_
        exact k)
      obtain ⟨T143, X143, e143, st143⟩ := getF X136 hx hZ hown (host := "") (Or.inl (hw _ (List.mem_of_getElem? (i := 32) rfl))) Via.refl e136 F_closed (g := (mkF m 12 #[.val (.ref a1), .val (.int (0 : Int32)), .val (.int (2 : Int32))] [(.ref a1)])) rfl rfl (hb hby d4_12)
      have k144 : ∀ t, Steps p.tables e below (T143.setTop (mkF m 15 #[.val (.ref a1), .val (.int (0 : Int32)), .val (.int (2 : Int32))] [(.ref b2)])) t → Steps p.tables e below (s₁.setTop (entryFrame m #[(.ref a1), (.int (0 : Int32)), (.int (2 : Int32))] 3)) t := fun t k => k142 t (st143 t k)
      have k145 : ∀ t, Steps p.tables e below (T143.setTop (mkF m 17 #[.val (.ref a1), .val (.int (0 : Int32)), .val (.int (2 : Int32))] [(.ref a1), (.int (0 : Int32)), (.ref b2)])) t → Steps p.tables e below (s₁.setTop (entryFrame m #[(.ref a1), (.int (0 : Int32)), (.int (2 : Int32))] 3)) t := fun t k => k144 t (by
        show Steps p.tables e below (T143.setTop (mkF m 15 #[.val (.ref a1), .val (.int (0 : Int32)), .val (.int (2 : Int32))] [(.ref b2)])) _
        refine XS.iloadN X143.here hx rfl (hb hby d4_15) rfl ?_
        show Steps p.tables e below (T143.setTop (mkF m 16 #[.val (.ref a1), .val (.int (0 : Int32)), .val (.int (2 : Int32))] [(.int (0 : Int32)), (.ref b2)])) _
        refine XS.aloadN X143.here hx rfl (hb hby d4_16) rfl rfl ?_
        exact k)
      obtain ⟨T146, X146, e146, st146⟩ := getF X143 hx hZ hown (host := "") (Or.inl (hw _ (List.mem_of_getElem? (i := 48) rfl))) Via.refl e143 F_columns (g := (mkF m 17 #[.val (.ref a1), .val (.int (0 : Int32)), .val (.int (2 : Int32))] [(.ref a1), (.int (0 : Int32)), (.ref b2)])) rfl rfl (hb hby d4_17)
      have k147 : ∀ t, Steps p.tables e below (T146.setTop (mkF m 20 #[.val (.ref a1), .val (.int (0 : Int32)), .val (.int (2 : Int32))] [(.int (3 : Int32)), (.int (0 : Int32)), (.ref b2)])) t → Steps p.tables e below (s₁.setTop (entryFrame m #[(.ref a1), (.int (0 : Int32)), (.int (2 : Int32))] 3)) t := fun t k => k145 t (st146 t k)
      have k148 : ∀ t, Steps p.tables e below (T146.setTop (mkF m 23 #[.val (.ref a1), .val (.int (0 : Int32)), .val (.int (2 : Int32))] [(.int (2 : Int32)), (.ref b2)])) t → Steps p.tables e below (s₁.setTop (entryFrame m #[(.ref a1), (.int (0 : Int32)), (.int (2 : Int32))] 3)) t := fun t k => k147 t (by
        show Steps p.tables e below (T146.setTop (mkF m 20 #[.val (.ref a1), .val (.int (0 : Int32)), .val (.int (2 : Int32))] [(.int (3 : Int32)), (.int (0 : Int32)), (.ref b2)])) _
        refine XS.imul X146.here hx rfl (hb hby d4_20) rfl ?_
        show Steps p.tables e below (T146.setTop (mkF m 21 #[.val (.ref a1), .val (.int (0 : Int32)), .val (.int (2 : Int32))] [(.int ((0 : Int32) * (3 : Int32))), (.ref b2)])) _
        refine castTop (g' := (mkF m 21 #[.val (.ref a1), .val (.int (0 : Int32)), .val (.int (2 : Int32))] [(.int (0 : Int32)), (.ref b2)])) (by rw [show ((0 : Int32) * (3 : Int32)) = (0 : Int32) by decide]) ?_
        show Steps p.tables e below (T146.setTop (mkF m 21 #[.val (.ref a1), .val (.int (0 : Int32)), .val (.int (2 : Int32))] [(.int (0 : Int32)), (.ref b2)])) _
        refine XS.iloadN X146.here hx rfl (hb hby d4_21) rfl ?_
        show Steps p.tables e below (T146.setTop (mkF m 22 #[.val (.ref a1), .val (.int (0 : Int32)), .val (.int (2 : Int32))] [(.int (2 : Int32)), (.int (0 : Int32)), (.ref b2)])) _
        refine XS.iadd X146.here hx rfl (hb hby d4_22) rfl ?_
        show Steps p.tables e below (T146.setTop (mkF m 23 #[.val (.ref a1), .val (.int (0 : Int32)), .val (.int (2 : Int32))] [(.int ((0 : Int32) + (2 : Int32))), (.ref b2)])) _
        refine castTop (g' := (mkF m 23 #[.val (.ref a1), .val (.int (0 : Int32)), .val (.int (2 : Int32))] [(.int (2 : Int32)), (.ref b2)])) (by rw [show ((0 : Int32) + (2 : Int32)) = (2 : Int32) by decide]) ?_
        exact k)
      obtain ⟨c149, Ar149, -, As149, An149, Ah149, -⟩ := id V2
      have hin149 : ¬ ((2 : Int32) < 0 ∨ c149.slots.size ≤ ((2 : Int32)).toNatClampNeg) := inb_of As149 ⟨by decide, by decide⟩
      have hat149 : c149.slots[((2 : Int32)).toNatClampNeg]? = some (.int c2) := Has.at Ah149 hin149 rfl
      have k150 : ∀ t, Steps p.tables e below (T146.setTop (mkF m 24 #[.val (.ref a1), .val (.int (0 : Int32)), .val (.int (2 : Int32))] [(.int c2)])) t → Steps p.tables e below (s₁.setTop (entryFrame m #[(.ref a1), (.int (0 : Int32)), (.int (2 : Int32))] 3)) t := fun t k => k148 t (by
        show Steps p.tables e below (T146.setTop (mkF m 23 #[.val (.ref a1), .val (.int (0 : Int32)), .val (.int (2 : Int32))] [(.int (2 : Int32)), (.ref b2)])) _
        refine X146.baloadBooleans hx (j := (2 : Int32)) (v := (.int c2)) (by rw [e146]; exact Ar149.1) (State.isArrayOf_alike hZ.alike Ar149.2.1) Ar149.2.2 hin149 hat149 (g := (mkF m 23 #[.val (.ref a1), .val (.int (0 : Int32)), .val (.int (2 : Int32))] [(.int (2 : Int32)), (.ref b2)])) rfl rfl (hb hby d4_23) _ ?_
        exact k)
      by_cases s2 : c2 = (0 : Int32)
      · have k151 : ∀ t, Steps p.tables e below (T146.setTop (mkF m 32 #[.val (.ref a1), .val (.int (0 : Int32)), .val (.int (2 : Int32))] [(.int (0 : Int32))])) t → Steps p.tables e below (s₁.setTop (entryFrame m #[(.ref a1), (.int (0 : Int32)), (.int (2 : Int32))] 3)) t := fun t k => k150 t (by
          show Steps p.tables e below (T146.setTop (mkF m 24 #[.val (.ref a1), .val (.int (0 : Int32)), .val (.int (2 : Int32))] [(.int c2)])) _
          refine XS.ifYes X146.here hx rfl (pc0 := 24) (pc' := 31) rfl (hb hby d4_24) rfl ((if0 _ _).trans (teq s2).1) (by decide) (by decide) ?_
          show Steps p.tables e below (T146.setTop (mkF m 31 #[.val (.ref a1), .val (.int (0 : Int32)), .val (.int (2 : Int32))] [])) _
          refine XS.iconst X146.here hx rfl (hb hby d4_31) ?_
          exact k)
        obtain ⟨fs, hr, hrun, hended, hW, hsame⟩ := X146.leave (v := some (.int (0 : Int32))) (fun h => by rw [Bd.returns] at h; cases h)
        refine ⟨_, _, k151 _ (retOut X146 hx (t := .boolean) Bd.returns rfl (Or.inl ⟨rfl, Or.inr (Or.inl rfl), _, rfl⟩) (hb hby d4_32) hr), hrun, hended, _, _, rfl, ?_, ⟨_, rfl⟩, hW, hsame.mono (by decide) (by decide)⟩
        show Q_rm4 Z a1 b1 b2 k1 k2 (0 : Int32) (2 : Int32) y0 u0 u1 u2 c0 c1 c2 c3 c4 c5 h0 n0 _ T146.heap _
        rw [e146]
        exact ⟨by simp [own_bl, s1, s2], N0, rfl⟩
      · have k152 : ∀ t, Steps p.tables e below (T146.setTop (mkF m 32 #[.val (.ref a1), .val (.int (0 : Int32)), .val (.int (2 : Int32))] [(.int (1 : Int32))])) t → Steps p.tables e below (s₁.setTop (entryFrame m #[(.ref a1), (.int (0 : Int32)), (.int (2 : Int32))] 3)) t := fun t k => k150 t (by
          show Steps p.tables e below (T146.setTop (mkF m 24 #[.val (.ref a1), .val (.int (0 : Int32)), .val (.int (2 : Int32))] [(.int c2)])) _
          refine XS.ifNo X146.here hx rfl (hb hby d4_24) rfl ((if0 _ _).trans (feq s2).1) ?_
          show Steps p.tables e below (T146.setTop (mkF m 27 #[.val (.ref a1), .val (.int (0 : Int32)), .val (.int (2 : Int32))] [])) _
          refine XS.iconst X146.here hx rfl (hb hby d4_27) ?_
          show Steps p.tables e below (T146.setTop (mkF m 28 #[.val (.ref a1), .val (.int (0 : Int32)), .val (.int (2 : Int32))] [(.int (1 : Int32))])) _
          refine XS.goto X146.here hx rfl (pc0 := 28) (pc' := 32) rfl (hb hby d4_28) (by decide) (by decide) ?_
          exact k)
        obtain ⟨fs, hr, hrun, hended, hW, hsame⟩ := X146.leave (v := some (.int (1 : Int32))) (fun h => by rw [Bd.returns] at h; cases h)
        refine ⟨_, _, k152 _ (retOut X146 hx (t := .boolean) Bd.returns rfl (Or.inl ⟨rfl, Or.inr (Or.inl rfl), _, rfl⟩) (hb hby d4_32) hr), hrun, hended, _, _, rfl, ?_, ⟨_, rfl⟩, hW, hsame.mono (by decide) (by decide)⟩
        show Q_rm4 Z a1 b1 b2 k1 k2 (0 : Int32) (2 : Int32) y0 u0 u1 u2 c0 c1 c2 c3 c4 c5 h0 n0 _ T146.heap _
        rw [e146]
        exact ⟨by simp [own_bl, s1, s2], N0, rfl⟩
  · obtain ⟨T153, X153, e153, st153⟩ := getF X0 hx hZ hown (host := "") (Or.inl (hw _ (List.mem_of_getElem? (i := 17) rfl))) Via.refl e0 F_supply (g := (mkF m 1 #[.val (.ref a1), .val (.int (1 : Int32)), .val (.int (0 : Int32))] [(.ref a1)])) rfl rfl (hb hby d4_1)
    have k154 : ∀ t, Steps p.tables e below (T153.setTop (mkF m 4 #[.val (.ref a1), .val (.int (1 : Int32)), .val (.int (0 : Int32))] [(.ref b1)])) t → Steps p.tables e below (s₁.setTop (entryFrame m #[(.ref a1), (.int (1 : Int32)), (.int (0 : Int32))] 3)) t := fun t k => k101 t (st153 t k)
    have k155 : ∀ t, Steps p.tables e below (T153.setTop (mkF m 5 #[.val (.ref a1), .val (.int (1 : Int32)), .val (.int (0 : Int32))] [(.int (0 : Int32)), (.ref b1)])) t → Steps p.tables e below (s₁.setTop (entryFrame m #[(.ref a1), (.int (1 : Int32)), (.int (0 : Int32))] 3)) t := fun t k => k154 t (by
      show Steps p.tables e below (T153.setTop (mkF m 4 #[.val (.ref a1), .val (.int (1 : Int32)), .val (.int (0 : Int32))] [(.ref b1)])) _
      refine XS.iloadN X153.here hx rfl (hb hby d4_4) rfl ?_
      exact k)
    obtain ⟨c156, Ar156, -, As156, An156, Ah156, -⟩ := id V1
    have hin156 : ¬ ((0 : Int32) < 0 ∨ c156.slots.size ≤ ((0 : Int32)).toNatClampNeg) := inb_of As156 ⟨by decide, by decide⟩
    have hat156 : c156.slots[((0 : Int32)).toNatClampNeg]? = some (.double u0) := Has.at Ah156 hin156 rfl
    have k157 : ∀ t, Steps p.tables e below (T153.setTop (mkF m 8 #[.val (.ref a1), .val (.int (1 : Int32)), .val (.int (0 : Int32))] [(.int (cmpValue (FP.dcmp u0 (0 : UInt64)) .l))])) t → Steps p.tables e below (s₁.setTop (entryFrame m #[(.ref a1), (.int (1 : Int32)), (.int (0 : Int32))] 3)) t := fun t k => k155 t (by
      show Steps p.tables e below (T153.setTop (mkF m 5 #[.val (.ref a1), .val (.int (1 : Int32)), .val (.int (0 : Int32))] [(.int (0 : Int32)), (.ref b1)])) _
      refine X153.daload hx (j := (0 : Int32)) (v := (.double u0)) (by rw [e153]; exact Ar156.1) (State.isArrayOf_alike hZ.alike Ar156.2.1) Ar156.2.2 hin156 hat156 (g := (mkF m 5 #[.val (.ref a1), .val (.int (1 : Int32)), .val (.int (0 : Int32))] [(.int (0 : Int32)), (.ref b1)])) rfl rfl (hb hby d4_5) _ ?_
      show Steps p.tables e below (T153.setTop (mkF m 6 #[.val (.ref a1), .val (.int (1 : Int32)), .val (.int (0 : Int32))] [(.double u0)])) _
      refine XS.dconst0 X153.here hx rfl (hb hby d4_6) (v := (0 : UInt64)) rfl ?_
      show Steps p.tables e below (T153.setTop (mkF m 7 #[.val (.ref a1), .val (.int (1 : Int32)), .val (.int (0 : Int32))] [(.double (0 : UInt64)), (.double u0)])) _
      refine XS.dcmpS X153.here hx rfl (hb hby d4_7) rfl rfl ?_
      exact k)
    by_cases s1 : (cmpValue (FP.dcmp u0 (0 : UInt64)) .l) = (0 : Int32)
    · have k158 : ∀ t, Steps p.tables e below (T153.setTop (mkF m 32 #[.val (.ref a1), .val (.int (1 : Int32)), .val (.int (0 : Int32))] [(.int (1 : Int32))])) t → Steps p.tables e below (s₁.setTop (entryFrame m #[(.ref a1), (.int (1 : Int32)), (.int (0 : Int32))] 3)) t := fun t k => k157 t (by
        show Steps p.tables e below (T153.setTop (mkF m 8 #[.val (.ref a1), .val (.int (1 : Int32)), .val (.int (0 : Int32))] [(.int (cmpValue (FP.dcmp u0 (0 : UInt64)) .l))])) _
        refine XS.ifYes X153.here hx rfl (pc0 := 8) (pc' := 27) rfl (hb hby d4_8) rfl ((if0 _ _).trans (teq s1).1) (by decide) (by decide) ?_
        show Steps p.tables e below (T153.setTop (mkF m 27 #[.val (.ref a1), .val (.int (1 : Int32)), .val (.int (0 : Int32))] [])) _
        refine XS.iconst X153.here hx rfl (hb hby d4_27) ?_
        show Steps p.tables e below (T153.setTop (mkF m 28 #[.val (.ref a1), .val (.int (1 : Int32)), .val (.int (0 : Int32))] [(.int (1 : Int32))])) _
        refine XS.goto X153.here hx rfl (pc0 := 28) (pc' := 32) rfl (hb hby d4_28) (by decide) (by decide) ?_
        exact k)
      obtain ⟨fs, hr, hrun, hended, hW, hsame⟩ := X153.leave (v := some (.int (1 : Int32))) (fun h => by rw [Bd.returns] at h; cases h)
      refine ⟨_, _, k158 _ (retOut X153 hx (t := .boolean) Bd.returns rfl (Or.inl ⟨rfl, Or.inr (Or.inl rfl), _, rfl⟩) (hb hby d4_32) hr), hrun, hended, _, _, rfl, ?_, ⟨_, rfl⟩, hW, hsame.mono (by decide) (by decide)⟩
      show Q_rm4 Z a1 b1 b2 k1 k2 (1 : Int32) (0 : Int32) y0 u0 u1 u2 c0 c1 c2 c3 c4 c5 h0 n0 _ T153.heap _
      rw [e153]
      exact ⟨by simp [own_bl, s1], N0, rfl⟩
    · have k159 : ∀ t, Steps p.tables e below (T153.setTop (mkF m 12 #[.val (.ref a1), .val (.int (1 : Int32)), .val (.int (0 : Int32))] [(.ref a1)])) t → Steps p.tables e below (s₁.setTop (entryFrame m #[(.ref a1), (.int (1 : Int32)), (.int (0 : Int32))] 3)) t := fun t k => k157 t (by
        show Steps p.tables e below (T153.setTop (mkF m 8 #[.val (.ref a1), .val (.int (1 : Int32)), .val (.int (0 : Int32))] [(.int (cmpValue (FP.dcmp u0 (0 : UInt64)) .l))])) _
        refine XS.ifNo X153.here hx rfl (hb hby d4_8) rfl ((if0 _ _).trans (feq s1).1) ?_
        show Steps p.tables e below (T153.setTop (mkF m 11 #[.val (.ref a1), .val (.int (1 : Int32)), .val (.int (0 : Int32))] [])) _
        refine XS.aloadN X153.here hx rfl (hb hby d4_11) rfl rfl ?_
        exact k)
      obtain ⟨T160, X160, e160, st160⟩ := getF X153 hx hZ hown (host := "") (Or.inl (hw _ (List.mem_of_getElem? (i := 32) rfl))) Via.refl e153 F_closed (g := (mkF m 12 #[.val (.ref a1), .val (.int (1 : Int32)), .val (.int (0 : Int32))] [(.ref a1)])) rfl rfl (hb hby d4_12)
      have k161 : ∀ t, Steps p.tables e below (T160.setTop (mkF m 15 #[.val (.ref a1), .val (.int (1 : Int32)), .val (.int (0 : Int32))] [(.ref b2)])) t → Steps p.tables e below (s₁.setTop (entryFrame m #[(.ref a1), (.int (1 : Int32)), (.int (0 : Int32))] 3)) t := fun t k => k159 t (st160 t k)
      have k162 : ∀ t, Steps p.tables e below (T160.setTop (mkF m 17 #[.val (.ref a1), .val (.int (1 : Int32)), .val (.int (0 : Int32))] [(.ref a1), (.int (1 : Int32)), (.ref b2)])) t → Steps p.tables e below (s₁.setTop (entryFrame m #[(.ref a1), (.int (1 : Int32)), (.int (0 : Int32))] 3)) t := fun t k => k161 t (by
        show Steps p.tables e below (T160.setTop (mkF m 15 #[.val (.ref a1), .val (.int (1 : Int32)), .val (.int (0 : Int32))] [(.ref b2)])) _
        refine XS.iloadN X160.here hx rfl (hb hby d4_15) rfl ?_
        show Steps p.tables e below (T160.setTop (mkF m 16 #[.val (.ref a1), .val (.int (1 : Int32)), .val (.int (0 : Int32))] [(.int (1 : Int32)), (.ref b2)])) _
        refine XS.aloadN X160.here hx rfl (hb hby d4_16) rfl rfl ?_
        exact k)
      obtain ⟨T163, X163, e163, st163⟩ := getF X160 hx hZ hown (host := "") (Or.inl (hw _ (List.mem_of_getElem? (i := 48) rfl))) Via.refl e160 F_columns (g := (mkF m 17 #[.val (.ref a1), .val (.int (1 : Int32)), .val (.int (0 : Int32))] [(.ref a1), (.int (1 : Int32)), (.ref b2)])) rfl rfl (hb hby d4_17)
      have k164 : ∀ t, Steps p.tables e below (T163.setTop (mkF m 20 #[.val (.ref a1), .val (.int (1 : Int32)), .val (.int (0 : Int32))] [(.int (3 : Int32)), (.int (1 : Int32)), (.ref b2)])) t → Steps p.tables e below (s₁.setTop (entryFrame m #[(.ref a1), (.int (1 : Int32)), (.int (0 : Int32))] 3)) t := fun t k => k162 t (st163 t k)
      have k165 : ∀ t, Steps p.tables e below (T163.setTop (mkF m 23 #[.val (.ref a1), .val (.int (1 : Int32)), .val (.int (0 : Int32))] [(.int (3 : Int32)), (.ref b2)])) t → Steps p.tables e below (s₁.setTop (entryFrame m #[(.ref a1), (.int (1 : Int32)), (.int (0 : Int32))] 3)) t := fun t k => k164 t (by
        show Steps p.tables e below (T163.setTop (mkF m 20 #[.val (.ref a1), .val (.int (1 : Int32)), .val (.int (0 : Int32))] [(.int (3 : Int32)), (.int (1 : Int32)), (.ref b2)])) _
        refine XS.imul X163.here hx rfl (hb hby d4_20) rfl ?_
        show Steps p.tables e below (T163.setTop (mkF m 21 #[.val (.ref a1), .val (.int (1 : Int32)), .val (.int (0 : Int32))] [(.int ((1 : Int32) * (3 : Int32))), (.ref b2)])) _
        refine castTop (g' := (mkF m 21 #[.val (.ref a1), .val (.int (1 : Int32)), .val (.int (0 : Int32))] [(.int (3 : Int32)), (.ref b2)])) (by rw [show ((1 : Int32) * (3 : Int32)) = (3 : Int32) by decide]) ?_
        show Steps p.tables e below (T163.setTop (mkF m 21 #[.val (.ref a1), .val (.int (1 : Int32)), .val (.int (0 : Int32))] [(.int (3 : Int32)), (.ref b2)])) _
        refine XS.iloadN X163.here hx rfl (hb hby d4_21) rfl ?_
        show Steps p.tables e below (T163.setTop (mkF m 22 #[.val (.ref a1), .val (.int (1 : Int32)), .val (.int (0 : Int32))] [(.int (0 : Int32)), (.int (3 : Int32)), (.ref b2)])) _
        refine XS.iadd X163.here hx rfl (hb hby d4_22) rfl ?_
        show Steps p.tables e below (T163.setTop (mkF m 23 #[.val (.ref a1), .val (.int (1 : Int32)), .val (.int (0 : Int32))] [(.int ((3 : Int32) + (0 : Int32))), (.ref b2)])) _
        refine castTop (g' := (mkF m 23 #[.val (.ref a1), .val (.int (1 : Int32)), .val (.int (0 : Int32))] [(.int (3 : Int32)), (.ref b2)])) (by rw [show ((3 : Int32) + (0 : Int32)) = (3 : Int32) by decide]) ?_
        exact k)
      obtain ⟨c166, Ar166, -, As166, An166, Ah166, -⟩ := id V2
      have hin166 : ¬ ((3 : Int32) < 0 ∨ c166.slots.size ≤ ((3 : Int32)).toNatClampNeg) := inb_of As166 ⟨by decide, by decide⟩
      have hat166 : c166.slots[((3 : Int32)).toNatClampNeg]? = some (.int c3) := Has.at Ah166 hin166 rfl
      have k167 : ∀ t, Steps p.tables e below (T163.setTop (mkF m 24 #[.val (.ref a1), .val (.int (1 : Int32)), .val (.int (0 : Int32))] [(.int c3)])) t → Steps p.tables e below (s₁.setTop (entryFrame m #[(.ref a1), (.int (1 : Int32)), (.int (0 : Int32))] 3)) t := fun t k => k165 t (by
        show Steps p.tables e below (T163.setTop (mkF m 23 #[.val (.ref a1), .val (.int (1 : Int32)), .val (.int (0 : Int32))] [(.int (3 : Int32)), (.ref b2)])) _
        refine X163.baloadBooleans hx (j := (3 : Int32)) (v := (.int c3)) (by rw [e163]; exact Ar166.1) (State.isArrayOf_alike hZ.alike Ar166.2.1) Ar166.2.2 hin166 hat166 (g := (mkF m 23 #[.val (.ref a1), .val (.int (1 : Int32)), .val (.int (0 : Int32))] [(.int (3 : Int32)), (.ref b2)])) rfl rfl (hb hby d4_23) _ ?_
        exact k)
      by_cases s2 : c3 = (0 : Int32)
      · have k168 : ∀ t, Steps p.tables e below (T163.setTop (mkF m 32 #[.val (.ref a1), .val (.int (1 : Int32)), .val (.int (0 : Int32))] [(.int (0 : Int32))])) t → Steps p.tables e below (s₁.setTop (entryFrame m #[(.ref a1), (.int (1 : Int32)), (.int (0 : Int32))] 3)) t := fun t k => k167 t (by
          show Steps p.tables e below (T163.setTop (mkF m 24 #[.val (.ref a1), .val (.int (1 : Int32)), .val (.int (0 : Int32))] [(.int c3)])) _
          refine XS.ifYes X163.here hx rfl (pc0 := 24) (pc' := 31) rfl (hb hby d4_24) rfl ((if0 _ _).trans (teq s2).1) (by decide) (by decide) ?_
          show Steps p.tables e below (T163.setTop (mkF m 31 #[.val (.ref a1), .val (.int (1 : Int32)), .val (.int (0 : Int32))] [])) _
          refine XS.iconst X163.here hx rfl (hb hby d4_31) ?_
          exact k)
        obtain ⟨fs, hr, hrun, hended, hW, hsame⟩ := X163.leave (v := some (.int (0 : Int32))) (fun h => by rw [Bd.returns] at h; cases h)
        refine ⟨_, _, k168 _ (retOut X163 hx (t := .boolean) Bd.returns rfl (Or.inl ⟨rfl, Or.inr (Or.inl rfl), _, rfl⟩) (hb hby d4_32) hr), hrun, hended, _, _, rfl, ?_, ⟨_, rfl⟩, hW, hsame.mono (by decide) (by decide)⟩
        show Q_rm4 Z a1 b1 b2 k1 k2 (1 : Int32) (0 : Int32) y0 u0 u1 u2 c0 c1 c2 c3 c4 c5 h0 n0 _ T163.heap _
        rw [e163]
        exact ⟨by simp [own_bl, s1, s2], N0, rfl⟩
      · have k169 : ∀ t, Steps p.tables e below (T163.setTop (mkF m 32 #[.val (.ref a1), .val (.int (1 : Int32)), .val (.int (0 : Int32))] [(.int (1 : Int32))])) t → Steps p.tables e below (s₁.setTop (entryFrame m #[(.ref a1), (.int (1 : Int32)), (.int (0 : Int32))] 3)) t := fun t k => k167 t (by
          show Steps p.tables e below (T163.setTop (mkF m 24 #[.val (.ref a1), .val (.int (1 : Int32)), .val (.int (0 : Int32))] [(.int c3)])) _
          refine XS.ifNo X163.here hx rfl (hb hby d4_24) rfl ((if0 _ _).trans (feq s2).1) ?_
          show Steps p.tables e below (T163.setTop (mkF m 27 #[.val (.ref a1), .val (.int (1 : Int32)), .val (.int (0 : Int32))] [])) _
          refine XS.iconst X163.here hx rfl (hb hby d4_27) ?_
          show Steps p.tables e below (T163.setTop (mkF m 28 #[.val (.ref a1), .val (.int (1 : Int32)), .val (.int (0 : Int32))] [(.int (1 : Int32))])) _
          refine XS.goto X163.here hx rfl (pc0 := 28) (pc' := 32) rfl (hb hby d4_28) (by decide) (by decide) ?_
          exact k)
        obtain ⟨fs, hr, hrun, hended, hW, hsame⟩ := X163.leave (v := some (.int (1 : Int32))) (fun h => by rw [Bd.returns] at h; cases h)
        refine ⟨_, _, k169 _ (retOut X163 hx (t := .boolean) Bd.returns rfl (Or.inl ⟨rfl, Or.inr (Or.inl rfl), _, rfl⟩) (hb hby d4_32) hr), hrun, hended, _, _, rfl, ?_, ⟨_, rfl⟩, hW, hsame.mono (by decide) (by decide)⟩
        show Q_rm4 Z a1 b1 b2 k1 k2 (1 : Int32) (0 : Int32) y0 u0 u1 u2 c0 c1 c2 c3 c4 c5 h0 n0 _ T163.heap _
        rw [e163]
        exact ⟨by simp [own_bl, s1, s2], N0, rfl⟩
  · obtain ⟨T170, X170, e170, st170⟩ := getF X0 hx hZ hown (host := "") (Or.inl (hw _ (List.mem_of_getElem? (i := 17) rfl))) Via.refl e0 F_supply (g := (mkF m 1 #[.val (.ref a1), .val (.int (1 : Int32)), .val (.int (1 : Int32))] [(.ref a1)])) rfl rfl (hb hby d4_1)
    have k171 : ∀ t, Steps p.tables e below (T170.setTop (mkF m 4 #[.val (.ref a1), .val (.int (1 : Int32)), .val (.int (1 : Int32))] [(.ref b1)])) t → Steps p.tables e below (s₁.setTop (entryFrame m #[(.ref a1), (.int (1 : Int32)), (.int (1 : Int32))] 3)) t := fun t k => k101 t (st170 t k)
    have k172 : ∀ t, Steps p.tables e below (T170.setTop (mkF m 5 #[.val (.ref a1), .val (.int (1 : Int32)), .val (.int (1 : Int32))] [(.int (1 : Int32)), (.ref b1)])) t → Steps p.tables e below (s₁.setTop (entryFrame m #[(.ref a1), (.int (1 : Int32)), (.int (1 : Int32))] 3)) t := fun t k => k171 t (by
      show Steps p.tables e below (T170.setTop (mkF m 4 #[.val (.ref a1), .val (.int (1 : Int32)), .val (.int (1 : Int32))] [(.ref b1)])) _
      refine XS.iloadN X170.here hx rfl (hb hby d4_4) rfl ?_
      exact k)
    obtain ⟨c173, Ar173, -, As173, An173, Ah173, -⟩ := id V1
    have hin173 : ¬ ((1 : Int32) < 0 ∨ c173.slots.size ≤ ((1 : Int32)).toNatClampNeg) := inb_of As173 ⟨by decide, by decide⟩
    have hat173 : c173.slots[((1 : Int32)).toNatClampNeg]? = some (.double u1) := Has.at Ah173 hin173 rfl
    have k174 : ∀ t, Steps p.tables e below (T170.setTop (mkF m 8 #[.val (.ref a1), .val (.int (1 : Int32)), .val (.int (1 : Int32))] [(.int (cmpValue (FP.dcmp u1 (0 : UInt64)) .l))])) t → Steps p.tables e below (s₁.setTop (entryFrame m #[(.ref a1), (.int (1 : Int32)), (.int (1 : Int32))] 3)) t := fun t k => k172 t (by
      show Steps p.tables e below (T170.setTop (mkF m 5 #[.val (.ref a1), .val (.int (1 : Int32)), .val (.int (1 : Int32))] [(.int (1 : Int32)), (.ref b1)])) _
      refine X170.daload hx (j := (1 : Int32)) (v := (.double u1)) (by rw [e170]; exact Ar173.1) (State.isArrayOf_alike hZ.alike Ar173.2.1) Ar173.2.2 hin173 hat173 (g := (mkF m 5 #[.val (.ref a1), .val (.int (1 : Int32)), .val (.int (1 : Int32))] [(.int (1 : Int32)), (.ref b1)])) rfl rfl (hb hby d4_5) _ ?_
      show Steps p.tables e below (T170.setTop (mkF m 6 #[.val (.ref a1), .val (.int (1 : Int32)), .val (.int (1 : Int32))] [(.double u1)])) _
      refine XS.dconst0 X170.here hx rfl (hb hby d4_6) (v := (0 : UInt64)) rfl ?_
      show Steps p.tables e below (T170.setTop (mkF m 7 #[.val (.ref a1), .val (.int (1 : Int32)), .val (.int (1 : Int32))] [(.double (0 : UInt64)), (.double u1)])) _
      refine XS.dcmpS X170.here hx rfl (hb hby d4_7) rfl rfl ?_
      exact k)
    by_cases s1 : (cmpValue (FP.dcmp u1 (0 : UInt64)) .l) = (0 : Int32)
    · have k175 : ∀ t, Steps p.tables e below (T170.setTop (mkF m 32 #[.val (.ref a1), .val (.int (1 : Int32)), .val (.int (1 : Int32))] [(.int (1 : Int32))])) t → Steps p.tables e below (s₁.setTop (entryFrame m #[(.ref a1), (.int (1 : Int32)), (.int (1 : Int32))] 3)) t := fun t k => k174 t (by
        show Steps p.tables e below (T170.setTop (mkF m 8 #[.val (.ref a1), .val (.int (1 : Int32)), .val (.int (1 : Int32))] [(.int (cmpValue (FP.dcmp u1 (0 : UInt64)) .l))])) _
        refine XS.ifYes X170.here hx rfl (pc0 := 8) (pc' := 27) rfl (hb hby d4_8) rfl ((if0 _ _).trans (teq s1).1) (by decide) (by decide) ?_
        show Steps p.tables e below (T170.setTop (mkF m 27 #[.val (.ref a1), .val (.int (1 : Int32)), .val (.int (1 : Int32))] [])) _
        refine XS.iconst X170.here hx rfl (hb hby d4_27) ?_
        show Steps p.tables e below (T170.setTop (mkF m 28 #[.val (.ref a1), .val (.int (1 : Int32)), .val (.int (1 : Int32))] [(.int (1 : Int32))])) _
        refine XS.goto X170.here hx rfl (pc0 := 28) (pc' := 32) rfl (hb hby d4_28) (by decide) (by decide) ?_
        exact k)
      obtain ⟨fs, hr, hrun, hended, hW, hsame⟩ := X170.leave (v := some (.int (1 : Int32))) (fun h => by rw [Bd.returns] at h; cases h)
      refine ⟨_, _, k175 _ (retOut X170 hx (t := .boolean) Bd.returns rfl (Or.inl ⟨rfl, Or.inr (Or.inl rfl), _, rfl⟩) (hb hby d4_32) hr), hrun, hended, _, _, rfl, ?_, ⟨_, rfl⟩, hW, hsame.mono (by decide) (by decide)⟩
      show Q_rm4 Z a1 b1 b2 k1 k2 (1 : Int32) (1 : Int32) y0 u0 u1 u2 c0 c1 c2 c3 c4 c5 h0 n0 _ T170.heap _
      rw [e170]
      exact ⟨by simp [own_bl, s1], N0, rfl⟩
    · have k176 : ∀ t, Steps p.tables e below (T170.setTop (mkF m 12 #[.val (.ref a1), .val (.int (1 : Int32)), .val (.int (1 : Int32))] [(.ref a1)])) t → Steps p.tables e below (s₁.setTop (entryFrame m #[(.ref a1), (.int (1 : Int32)), (.int (1 : Int32))] 3)) t := fun t k => k174 t (by
        show Steps p.tables e below (T170.setTop (mkF m 8 #[.val (.ref a1), .val (.int (1 : Int32)), .val (.int (1 : Int32))] [(.int (cmpValue (FP.dcmp u1 (0 : UInt64)) .l))])) _
        refine XS.ifNo X170.here hx rfl (hb hby d4_8) rfl ((if0 _ _).trans (feq s1).1) ?_
        show Steps p.tables e below (T170.setTop (mkF m 11 #[.val (.ref a1), .val (.int (1 : Int32)), .val (.int (1 : Int32))] [])) _
        refine XS.aloadN X170.here hx rfl (hb hby d4_11) rfl rfl ?_
        exact k)
      obtain ⟨T177, X177, e177, st177⟩ := getF X170 hx hZ hown (host := "") (Or.inl (hw _ (List.mem_of_getElem? (i := 32) rfl))) Via.refl e170 F_closed (g := (mkF m 12 #[.val (.ref a1), .val (.int (1 : Int32)), .val (.int (1 : Int32))] [(.ref a1)])) rfl rfl (hb hby d4_12)
      have k178 : ∀ t, Steps p.tables e below (T177.setTop (mkF m 15 #[.val (.ref a1), .val (.int (1 : Int32)), .val (.int (1 : Int32))] [(.ref b2)])) t → Steps p.tables e below (s₁.setTop (entryFrame m #[(.ref a1), (.int (1 : Int32)), (.int (1 : Int32))] 3)) t := fun t k => k176 t (st177 t k)
      have k179 : ∀ t, Steps p.tables e below (T177.setTop (mkF m 17 #[.val (.ref a1), .val (.int (1 : Int32)), .val (.int (1 : Int32))] [(.ref a1), (.int (1 : Int32)), (.ref b2)])) t → Steps p.tables e below (s₁.setTop (entryFrame m #[(.ref a1), (.int (1 : Int32)), (.int (1 : Int32))] 3)) t := fun t k => k178 t (by
        show Steps p.tables e below (T177.setTop (mkF m 15 #[.val (.ref a1), .val (.int (1 : Int32)), .val (.int (1 : Int32))] [(.ref b2)])) _
        refine XS.iloadN X177.here hx rfl (hb hby d4_15) rfl ?_
        show Steps p.tables e below (T177.setTop (mkF m 16 #[.val (.ref a1), .val (.int (1 : Int32)), .val (.int (1 : Int32))] [(.int (1 : Int32)), (.ref b2)])) _
        refine XS.aloadN X177.here hx rfl (hb hby d4_16) rfl rfl ?_
        exact k)
      obtain ⟨T180, X180, e180, st180⟩ := getF X177 hx hZ hown (host := "") (Or.inl (hw _ (List.mem_of_getElem? (i := 48) rfl))) Via.refl e177 F_columns (g := (mkF m 17 #[.val (.ref a1), .val (.int (1 : Int32)), .val (.int (1 : Int32))] [(.ref a1), (.int (1 : Int32)), (.ref b2)])) rfl rfl (hb hby d4_17)
      have k181 : ∀ t, Steps p.tables e below (T180.setTop (mkF m 20 #[.val (.ref a1), .val (.int (1 : Int32)), .val (.int (1 : Int32))] [(.int (3 : Int32)), (.int (1 : Int32)), (.ref b2)])) t → Steps p.tables e below (s₁.setTop (entryFrame m #[(.ref a1), (.int (1 : Int32)), (.int (1 : Int32))] 3)) t := fun t k => k179 t (st180 t k)
      have k182 : ∀ t, Steps p.tables e below (T180.setTop (mkF m 23 #[.val (.ref a1), .val (.int (1 : Int32)), .val (.int (1 : Int32))] [(.int (4 : Int32)), (.ref b2)])) t → Steps p.tables e below (s₁.setTop (entryFrame m #[(.ref a1), (.int (1 : Int32)), (.int (1 : Int32))] 3)) t := fun t k => k181 t (by
        show Steps p.tables e below (T180.setTop (mkF m 20 #[.val (.ref a1), .val (.int (1 : Int32)), .val (.int (1 : Int32))] [(.int (3 : Int32)), (.int (1 : Int32)), (.ref b2)])) _
        refine XS.imul X180.here hx rfl (hb hby d4_20) rfl ?_
        show Steps p.tables e below (T180.setTop (mkF m 21 #[.val (.ref a1), .val (.int (1 : Int32)), .val (.int (1 : Int32))] [(.int ((1 : Int32) * (3 : Int32))), (.ref b2)])) _
        refine castTop (g' := (mkF m 21 #[.val (.ref a1), .val (.int (1 : Int32)), .val (.int (1 : Int32))] [(.int (3 : Int32)), (.ref b2)])) (by rw [show ((1 : Int32) * (3 : Int32)) = (3 : Int32) by decide]) ?_
        show Steps p.tables e below (T180.setTop (mkF m 21 #[.val (.ref a1), .val (.int (1 : Int32)), .val (.int (1 : Int32))] [(.int (3 : Int32)), (.ref b2)])) _
        refine XS.iloadN X180.here hx rfl (hb hby d4_21) rfl ?_
        show Steps p.tables e below (T180.setTop (mkF m 22 #[.val (.ref a1), .val (.int (1 : Int32)), .val (.int (1 : Int32))] [(.int (1 : Int32)), (.int (3 : Int32)), (.ref b2)])) _
        refine XS.iadd X180.here hx rfl (hb hby d4_22) rfl ?_
        show Steps p.tables e below (T180.setTop (mkF m 23 #[.val (.ref a1), .val (.int (1 : Int32)), .val (.int (1 : Int32))] [(.int ((3 : Int32) + (1 : Int32))), (.ref b2)])) _
        refine castTop (g' := (mkF m 23 #[.val (.ref a1), .val (.int (1 : Int32)), .val (.int (1 : Int32))] [(.int (4 : Int32)), (.ref b2)])) (by rw [show ((3 : Int32) + (1 : Int32)) = (4 : Int32) by decide]) ?_
        exact k)
      obtain ⟨c183, Ar183, -, As183, An183, Ah183, -⟩ := id V2
      have hin183 : ¬ ((4 : Int32) < 0 ∨ c183.slots.size ≤ ((4 : Int32)).toNatClampNeg) := inb_of As183 ⟨by decide, by decide⟩
      have hat183 : c183.slots[((4 : Int32)).toNatClampNeg]? = some (.int c4) := Has.at Ah183 hin183 rfl
      have k184 : ∀ t, Steps p.tables e below (T180.setTop (mkF m 24 #[.val (.ref a1), .val (.int (1 : Int32)), .val (.int (1 : Int32))] [(.int c4)])) t → Steps p.tables e below (s₁.setTop (entryFrame m #[(.ref a1), (.int (1 : Int32)), (.int (1 : Int32))] 3)) t := fun t k => k182 t (by
        show Steps p.tables e below (T180.setTop (mkF m 23 #[.val (.ref a1), .val (.int (1 : Int32)), .val (.int (1 : Int32))] [(.int (4 : Int32)), (.ref b2)])) _
        refine X180.baloadBooleans hx (j := (4 : Int32)) (v := (.int c4)) (by rw [e180]; exact Ar183.1) (State.isArrayOf_alike hZ.alike Ar183.2.1) Ar183.2.2 hin183 hat183 (g := (mkF m 23 #[.val (.ref a1), .val (.int (1 : Int32)), .val (.int (1 : Int32))] [(.int (4 : Int32)), (.ref b2)])) rfl rfl (hb hby d4_23) _ ?_
        exact k)
      by_cases s2 : c4 = (0 : Int32)
      · have k185 : ∀ t, Steps p.tables e below (T180.setTop (mkF m 32 #[.val (.ref a1), .val (.int (1 : Int32)), .val (.int (1 : Int32))] [(.int (0 : Int32))])) t → Steps p.tables e below (s₁.setTop (entryFrame m #[(.ref a1), (.int (1 : Int32)), (.int (1 : Int32))] 3)) t := fun t k => k184 t (by
          show Steps p.tables e below (T180.setTop (mkF m 24 #[.val (.ref a1), .val (.int (1 : Int32)), .val (.int (1 : Int32))] [(.int c4)])) _
          refine XS.ifYes X180.here hx rfl (pc0 := 24) (pc' := 31) rfl (hb hby d4_24) rfl ((if0 _ _).trans (teq s2).1) (by decide) (by decide) ?_
          show Steps p.tables e below (T180.setTop (mkF m 31 #[.val (.ref a1), .val (.int (1 : Int32)), .val (.int (1 : Int32))] [])) _
          refine XS.iconst X180.here hx rfl (hb hby d4_31) ?_
          exact k)
        obtain ⟨fs, hr, hrun, hended, hW, hsame⟩ := X180.leave (v := some (.int (0 : Int32))) (fun h => by rw [Bd.returns] at h; cases h)
        refine ⟨_, _, k185 _ (retOut X180 hx (t := .boolean) Bd.returns rfl (Or.inl ⟨rfl, Or.inr (Or.inl rfl), _, rfl⟩) (hb hby d4_32) hr), hrun, hended, _, _, rfl, ?_, ⟨_, rfl⟩, hW, hsame.mono (by decide) (by decide)⟩
        show Q_rm4 Z a1 b1 b2 k1 k2 (1 : Int32) (1 : Int32) y0 u0 u1 u2 c0 c1 c2 c3 c4 c5 h0 n0 _ T180.heap _
        rw [e180]
        exact ⟨by simp [own_bl, s1, s2], N0, rfl⟩
      · have k186 : ∀ t, Steps p.tables e below (T180.setTop (mkF m 32 #[.val (.ref a1), .val (.int (1 : Int32)), .val (.int (1 : Int32))] [(.int (1 : Int32))])) t → Steps p.tables e below (s₁.setTop (entryFrame m #[(.ref a1), (.int (1 : Int32)), (.int (1 : Int32))] 3)) t := fun t k => k184 t (by
          show Steps p.tables e below (T180.setTop (mkF m 24 #[.val (.ref a1), .val (.int (1 : Int32)), .val (.int (1 : Int32))] [(.int c4)])) _
          refine XS.ifNo X180.here hx rfl (hb hby d4_24) rfl ((if0 _ _).trans (feq s2).1) ?_
          show Steps p.tables e below (T180.setTop (mkF m 27 #[.val (.ref a1), .val (.int (1 : Int32)), .val (.int (1 : Int32))] [])) _
          refine XS.iconst X180.here hx rfl (hb hby d4_27) ?_
          show Steps p.tables e below (T180.setTop (mkF m 28 #[.val (.ref a1), .val (.int (1 : Int32)), .val (.int (1 : Int32))] [(.int (1 : Int32))])) _
          refine XS.goto X180.here hx rfl (pc0 := 28) (pc' := 32) rfl (hb hby d4_28) (by decide) (by decide) ?_
          exact k)
        obtain ⟨fs, hr, hrun, hended, hW, hsame⟩ := X180.leave (v := some (.int (1 : Int32))) (fun h => by rw [Bd.returns] at h; cases h)
        refine ⟨_, _, k186 _ (retOut X180 hx (t := .boolean) Bd.returns rfl (Or.inl ⟨rfl, Or.inr (Or.inl rfl), _, rfl⟩) (hb hby d4_32) hr), hrun, hended, _, _, rfl, ?_, ⟨_, rfl⟩, hW, hsame.mono (by decide) (by decide)⟩
        show Q_rm4 Z a1 b1 b2 k1 k2 (1 : Int32) (1 : Int32) y0 u0 u1 u2 c0 c1 c2 c3 c4 c5 h0 n0 _ T180.heap _
        rw [e180]
        exact ⟨by simp [own_bl, s1, s2], N0, rfl⟩
  · obtain ⟨T187, X187, e187, st187⟩ := getF X0 hx hZ hown (host := "") (Or.inl (hw _ (List.mem_of_getElem? (i := 17) rfl))) Via.refl e0 F_supply (g := (mkF m 1 #[.val (.ref a1), .val (.int (1 : Int32)), .val (.int (2 : Int32))] [(.ref a1)])) rfl rfl (hb hby d4_1)
    have k188 : ∀ t, Steps p.tables e below (T187.setTop (mkF m 4 #[.val (.ref a1), .val (.int (1 : Int32)), .val (.int (2 : Int32))] [(.ref b1)])) t → Steps p.tables e below (s₁.setTop (entryFrame m #[(.ref a1), (.int (1 : Int32)), (.int (2 : Int32))] 3)) t := fun t k => k101 t (st187 t k)
    have k189 : ∀ t, Steps p.tables e below (T187.setTop (mkF m 5 #[.val (.ref a1), .val (.int (1 : Int32)), .val (.int (2 : Int32))] [(.int (2 : Int32)), (.ref b1)])) t → Steps p.tables e below (s₁.setTop (entryFrame m #[(.ref a1), (.int (1 : Int32)), (.int (2 : Int32))] 3)) t := fun t k => k188 t (by
      show Steps p.tables e below (T187.setTop (mkF m 4 #[.val (.ref a1), .val (.int (1 : Int32)), .val (.int (2 : Int32))] [(.ref b1)])) _
      refine XS.iloadN X187.here hx rfl (hb hby d4_4) rfl ?_
      exact k)
    obtain ⟨c190, Ar190, -, As190, An190, Ah190, -⟩ := id V1
    have hin190 : ¬ ((2 : Int32) < 0 ∨ c190.slots.size ≤ ((2 : Int32)).toNatClampNeg) := inb_of As190 ⟨by decide, by decide⟩
    have hat190 : c190.slots[((2 : Int32)).toNatClampNeg]? = some (.double u2) := Has.at Ah190 hin190 rfl
    have k191 : ∀ t, Steps p.tables e below (T187.setTop (mkF m 8 #[.val (.ref a1), .val (.int (1 : Int32)), .val (.int (2 : Int32))] [(.int (cmpValue (FP.dcmp u2 (0 : UInt64)) .l))])) t → Steps p.tables e below (s₁.setTop (entryFrame m #[(.ref a1), (.int (1 : Int32)), (.int (2 : Int32))] 3)) t := fun t k => k189 t (by
      show Steps p.tables e below (T187.setTop (mkF m 5 #[.val (.ref a1), .val (.int (1 : Int32)), .val (.int (2 : Int32))] [(.int (2 : Int32)), (.ref b1)])) _
      refine X187.daload hx (j := (2 : Int32)) (v := (.double u2)) (by rw [e187]; exact Ar190.1) (State.isArrayOf_alike hZ.alike Ar190.2.1) Ar190.2.2 hin190 hat190 (g := (mkF m 5 #[.val (.ref a1), .val (.int (1 : Int32)), .val (.int (2 : Int32))] [(.int (2 : Int32)), (.ref b1)])) rfl rfl (hb hby d4_5) _ ?_
      show Steps p.tables e below (T187.setTop (mkF m 6 #[.val (.ref a1), .val (.int (1 : Int32)), .val (.int (2 : Int32))] [(.double u2)])) _
      refine XS.dconst0 X187.here hx rfl (hb hby d4_6) (v := (0 : UInt64)) rfl ?_
      show Steps p.tables e below (T187.setTop (mkF m 7 #[.val (.ref a1), .val (.int (1 : Int32)), .val (.int (2 : Int32))] [(.double (0 : UInt64)), (.double u2)])) _
      refine XS.dcmpS X187.here hx rfl (hb hby d4_7) rfl rfl ?_
      exact k)
    by_cases s1 : (cmpValue (FP.dcmp u2 (0 : UInt64)) .l) = (0 : Int32)
    · have k192 : ∀ t, Steps p.tables e below (T187.setTop (mkF m 32 #[.val (.ref a1), .val (.int (1 : Int32)), .val (.int (2 : Int32))] [(.int (1 : Int32))])) t → Steps p.tables e below (s₁.setTop (entryFrame m #[(.ref a1), (.int (1 : Int32)), (.int (2 : Int32))] 3)) t := fun t k => k191 t (by
        show Steps p.tables e below (T187.setTop (mkF m 8 #[.val (.ref a1), .val (.int (1 : Int32)), .val (.int (2 : Int32))] [(.int (cmpValue (FP.dcmp u2 (0 : UInt64)) .l))])) _
        refine XS.ifYes X187.here hx rfl (pc0 := 8) (pc' := 27) rfl (hb hby d4_8) rfl ((if0 _ _).trans (teq s1).1) (by decide) (by decide) ?_
        show Steps p.tables e below (T187.setTop (mkF m 27 #[.val (.ref a1), .val (.int (1 : Int32)), .val (.int (2 : Int32))] [])) _
        refine XS.iconst X187.here hx rfl (hb hby d4_27) ?_
        show Steps p.tables e below (T187.setTop (mkF m 28 #[.val (.ref a1), .val (.int (1 : Int32)), .val (.int (2 : Int32))] [(.int (1 : Int32))])) _
        refine XS.goto X187.here hx rfl (pc0 := 28) (pc' := 32) rfl (hb hby d4_28) (by decide) (by decide) ?_
        exact k)
      obtain ⟨fs, hr, hrun, hended, hW, hsame⟩ := X187.leave (v := some (.int (1 : Int32))) (fun h => by rw [Bd.returns] at h; cases h)
      refine ⟨_, _, k192 _ (retOut X187 hx (t := .boolean) Bd.returns rfl (Or.inl ⟨rfl, Or.inr (Or.inl rfl), _, rfl⟩) (hb hby d4_32) hr), hrun, hended, _, _, rfl, ?_, ⟨_, rfl⟩, hW, hsame.mono (by decide) (by decide)⟩
      show Q_rm4 Z a1 b1 b2 k1 k2 (1 : Int32) (2 : Int32) y0 u0 u1 u2 c0 c1 c2 c3 c4 c5 h0 n0 _ T187.heap _
      rw [e187]
      exact ⟨by simp [own_bl, s1], N0, rfl⟩
    · have k193 : ∀ t, Steps p.tables e below (T187.setTop (mkF m 12 #[.val (.ref a1), .val (.int (1 : Int32)), .val (.int (2 : Int32))] [(.ref a1)])) t → Steps p.tables e below (s₁.setTop (entryFrame m #[(.ref a1), (.int (1 : Int32)), (.int (2 : Int32))] 3)) t := fun t k => k191 t (by
        show Steps p.tables e below (T187.setTop (mkF m 8 #[.val (.ref a1), .val (.int (1 : Int32)), .val (.int (2 : Int32))] [(.int (cmpValue (FP.dcmp u2 (0 : UInt64)) .l))])) _
        refine XS.ifNo X187.here hx rfl (hb hby d4_8) rfl ((if0 _ _).trans (feq s1).1) ?_
        show Steps p.tables e below (T187.setTop (mkF m 11 #[.val (.ref a1), .val (.int (1 : Int32)), .val (.int (2 : Int32))] [])) _
        refine XS.aloadN X187.here hx rfl (hb hby d4_11) rfl rfl ?_
        exact k)
      obtain ⟨T194, X194, e194, st194⟩ := getF X187 hx hZ hown (host := "") (Or.inl (hw _ (List.mem_of_getElem? (i := 32) rfl))) Via.refl e187 F_closed (g := (mkF m 12 #[.val (.ref a1), .val (.int (1 : Int32)), .val (.int (2 : Int32))] [(.ref a1)])) rfl rfl (hb hby d4_12)
      have k195 : ∀ t, Steps p.tables e below (T194.setTop (mkF m 15 #[.val (.ref a1), .val (.int (1 : Int32)), .val (.int (2 : Int32))] [(.ref b2)])) t → Steps p.tables e below (s₁.setTop (entryFrame m #[(.ref a1), (.int (1 : Int32)), (.int (2 : Int32))] 3)) t := fun t k => k193 t (st194 t k)
      have k196 : ∀ t, Steps p.tables e below (T194.setTop (mkF m 17 #[.val (.ref a1), .val (.int (1 : Int32)), .val (.int (2 : Int32))] [(.ref a1), (.int (1 : Int32)), (.ref b2)])) t → Steps p.tables e below (s₁.setTop (entryFrame m #[(.ref a1), (.int (1 : Int32)), (.int (2 : Int32))] 3)) t := fun t k => k195 t (by
        show Steps p.tables e below (T194.setTop (mkF m 15 #[.val (.ref a1), .val (.int (1 : Int32)), .val (.int (2 : Int32))] [(.ref b2)])) _
        refine XS.iloadN X194.here hx rfl (hb hby d4_15) rfl ?_
        show Steps p.tables e below (T194.setTop (mkF m 16 #[.val (.ref a1), .val (.int (1 : Int32)), .val (.int (2 : Int32))] [(.int (1 : Int32)), (.ref b2)])) _
        refine XS.aloadN X194.here hx rfl (hb hby d4_16) rfl rfl ?_
        exact k)
      obtain ⟨T197, X197, e197, st197⟩ := getF X194 hx hZ hown (host := "") (Or.inl (hw _ (List.mem_of_getElem? (i := 48) rfl))) Via.refl e194 F_columns (g := (mkF m 17 #[.val (.ref a1), .val (.int (1 : Int32)), .val (.int (2 : Int32))] [(.ref a1), (.int (1 : Int32)), (.ref b2)])) rfl rfl (hb hby d4_17)
      have k198 : ∀ t, Steps p.tables e below (T197.setTop (mkF m 20 #[.val (.ref a1), .val (.int (1 : Int32)), .val (.int (2 : Int32))] [(.int (3 : Int32)), (.int (1 : Int32)), (.ref b2)])) t → Steps p.tables e below (s₁.setTop (entryFrame m #[(.ref a1), (.int (1 : Int32)), (.int (2 : Int32))] 3)) t := fun t k => k196 t (st197 t k)
      have k199 : ∀ t, Steps p.tables e below (T197.setTop (mkF m 23 #[.val (.ref a1), .val (.int (1 : Int32)), .val (.int (2 : Int32))] [(.int (5 : Int32)), (.ref b2)])) t → Steps p.tables e below (s₁.setTop (entryFrame m #[(.ref a1), (.int (1 : Int32)), (.int (2 : Int32))] 3)) t := fun t k => k198 t (by
        show Steps p.tables e below (T197.setTop (mkF m 20 #[.val (.ref a1), .val (.int (1 : Int32)), .val (.int (2 : Int32))] [(.int (3 : Int32)), (.int (1 : Int32)), (.ref b2)])) _
        refine XS.imul X197.here hx rfl (hb hby d4_20) rfl ?_
        show Steps p.tables e below (T197.setTop (mkF m 21 #[.val (.ref a1), .val (.int (1 : Int32)), .val (.int (2 : Int32))] [(.int ((1 : Int32) * (3 : Int32))), (.ref b2)])) _
        refine castTop (g' := (mkF m 21 #[.val (.ref a1), .val (.int (1 : Int32)), .val (.int (2 : Int32))] [(.int (3 : Int32)), (.ref b2)])) (by rw [show ((1 : Int32) * (3 : Int32)) = (3 : Int32) by decide]) ?_
        show Steps p.tables e below (T197.setTop (mkF m 21 #[.val (.ref a1), .val (.int (1 : Int32)), .val (.int (2 : Int32))] [(.int (3 : Int32)), (.ref b2)])) _
        refine XS.iloadN X197.here hx rfl (hb hby d4_21) rfl ?_
        show Steps p.tables e below (T197.setTop (mkF m 22 #[.val (.ref a1), .val (.int (1 : Int32)), .val (.int (2 : Int32))] [(.int (2 : Int32)), (.int (3 : Int32)), (.ref b2)])) _
        refine XS.iadd X197.here hx rfl (hb hby d4_22) rfl ?_
        show Steps p.tables e below (T197.setTop (mkF m 23 #[.val (.ref a1), .val (.int (1 : Int32)), .val (.int (2 : Int32))] [(.int ((3 : Int32) + (2 : Int32))), (.ref b2)])) _
        refine castTop (g' := (mkF m 23 #[.val (.ref a1), .val (.int (1 : Int32)), .val (.int (2 : Int32))] [(.int (5 : Int32)), (.ref b2)])) (by rw [show ((3 : Int32) + (2 : Int32)) = (5 : Int32) by decide]) ?_
        exact k)
      obtain ⟨c200, Ar200, -, As200, An200, Ah200, -⟩ := id V2
      have hin200 : ¬ ((5 : Int32) < 0 ∨ c200.slots.size ≤ ((5 : Int32)).toNatClampNeg) := inb_of As200 ⟨by decide, by decide⟩
      have hat200 : c200.slots[((5 : Int32)).toNatClampNeg]? = some (.int c5) := Has.at Ah200 hin200 rfl
      have k201 : ∀ t, Steps p.tables e below (T197.setTop (mkF m 24 #[.val (.ref a1), .val (.int (1 : Int32)), .val (.int (2 : Int32))] [(.int c5)])) t → Steps p.tables e below (s₁.setTop (entryFrame m #[(.ref a1), (.int (1 : Int32)), (.int (2 : Int32))] 3)) t := fun t k => k199 t (by
        show Steps p.tables e below (T197.setTop (mkF m 23 #[.val (.ref a1), .val (.int (1 : Int32)), .val (.int (2 : Int32))] [(.int (5 : Int32)), (.ref b2)])) _
        refine X197.baloadBooleans hx (j := (5 : Int32)) (v := (.int c5)) (by rw [e197]; exact Ar200.1) (State.isArrayOf_alike hZ.alike Ar200.2.1) Ar200.2.2 hin200 hat200 (g := (mkF m 23 #[.val (.ref a1), .val (.int (1 : Int32)), .val (.int (2 : Int32))] [(.int (5 : Int32)), (.ref b2)])) rfl rfl (hb hby d4_23) _ ?_
        exact k)
      by_cases s2 : c5 = (0 : Int32)
      · have k202 : ∀ t, Steps p.tables e below (T197.setTop (mkF m 32 #[.val (.ref a1), .val (.int (1 : Int32)), .val (.int (2 : Int32))] [(.int (0 : Int32))])) t → Steps p.tables e below (s₁.setTop (entryFrame m #[(.ref a1), (.int (1 : Int32)), (.int (2 : Int32))] 3)) t := fun t k => k201 t (by
          show Steps p.tables e below (T197.setTop (mkF m 24 #[.val (.ref a1), .val (.int (1 : Int32)), .val (.int (2 : Int32))] [(.int c5)])) _
          refine XS.ifYes X197.here hx rfl (pc0 := 24) (pc' := 31) rfl (hb hby d4_24) rfl ((if0 _ _).trans (teq s2).1) (by decide) (by decide) ?_
          show Steps p.tables e below (T197.setTop (mkF m 31 #[.val (.ref a1), .val (.int (1 : Int32)), .val (.int (2 : Int32))] [])) _
          refine XS.iconst X197.here hx rfl (hb hby d4_31) ?_
          exact k)
        obtain ⟨fs, hr, hrun, hended, hW, hsame⟩ := X197.leave (v := some (.int (0 : Int32))) (fun h => by rw [Bd.returns] at h; cases h)
        refine ⟨_, _, k202 _ (retOut X197 hx (t := .boolean) Bd.returns rfl (Or.inl ⟨rfl, Or.inr (Or.inl rfl), _, rfl⟩) (hb hby d4_32) hr), hrun, hended, _, _, rfl, ?_, ⟨_, rfl⟩, hW, hsame.mono (by decide) (by decide)⟩
        show Q_rm4 Z a1 b1 b2 k1 k2 (1 : Int32) (2 : Int32) y0 u0 u1 u2 c0 c1 c2 c3 c4 c5 h0 n0 _ T197.heap _
        rw [e197]
        exact ⟨by simp [own_bl, s1, s2], N0, rfl⟩
      · have k203 : ∀ t, Steps p.tables e below (T197.setTop (mkF m 32 #[.val (.ref a1), .val (.int (1 : Int32)), .val (.int (2 : Int32))] [(.int (1 : Int32))])) t → Steps p.tables e below (s₁.setTop (entryFrame m #[(.ref a1), (.int (1 : Int32)), (.int (2 : Int32))] 3)) t := fun t k => k201 t (by
          show Steps p.tables e below (T197.setTop (mkF m 24 #[.val (.ref a1), .val (.int (1 : Int32)), .val (.int (2 : Int32))] [(.int c5)])) _
          refine XS.ifNo X197.here hx rfl (hb hby d4_24) rfl ((if0 _ _).trans (feq s2).1) ?_
          show Steps p.tables e below (T197.setTop (mkF m 27 #[.val (.ref a1), .val (.int (1 : Int32)), .val (.int (2 : Int32))] [])) _
          refine XS.iconst X197.here hx rfl (hb hby d4_27) ?_
          show Steps p.tables e below (T197.setTop (mkF m 28 #[.val (.ref a1), .val (.int (1 : Int32)), .val (.int (2 : Int32))] [(.int (1 : Int32))])) _
          refine XS.goto X197.here hx rfl (pc0 := 28) (pc' := 32) rfl (hb hby d4_28) (by decide) (by decide) ?_
          exact k)
        obtain ⟨fs, hr, hrun, hended, hW, hsame⟩ := X197.leave (v := some (.int (1 : Int32))) (fun h => by rw [Bd.returns] at h; cases h)
        refine ⟨_, _, k203 _ (retOut X197 hx (t := .boolean) Bd.returns rfl (Or.inl ⟨rfl, Or.inr (Or.inl rfl), _, rfl⟩) (hb hby d4_32) hr), hrun, hended, _, _, rfl, ?_, ⟨_, rfl⟩, hW, hsame.mono (by decide) (by decide)⟩
        show Q_rm4 Z a1 b1 b2 k1 k2 (1 : Int32) (2 : Int32) y0 u0 u1 u2 c0 c1 c2 c3 c4 c5 h0 n0 _ T197.heap _
        rw [e197]
        exact ⟨by simp [own_bl, s1, s2], N0, rfl⟩
theorem ef_0_IIIIII (m : MethodId) (x0 : Int32) (x1 : Int32) (x2 : Int32) (x3 : Int32) (x4 : Int32) (x5 : Int32) : entryFrame m #[(.int x0), (.int x1), (.int x2), (.int x3), (.int x4), (.int x5)] maxLocals = mkF m 0 #[.val (.int x0), .val (.int x1), .val (.int x2), .val (.int x3), .val (.int x4), .val (.int x5), .unset, .unset, .unset, .unset, .unset, .unset, .unset, .unset, .unset, .unset, .unset, .unset] [] := by first | (simp [entryFrame, mkF, argsToLocals, Value.category, maxLocals]; done) | rfl
theorem pd__28II_29V : parseMethodDescriptor "(II)V" = some ⟨[.int, .int], none⟩ := by decide +kernel
theorem pd__28ID_29V : parseMethodDescriptor "(ID)V" = some ⟨[.int, .double], none⟩ := by decide +kernel
theorem pd__28II_29Z : parseMethodDescriptor "(II)Z" = some ⟨[.int, .int], some .boolean⟩ := by decide +kernel
def Q_rm0 (Z : State) (p0 : Int32) (p1 : Int32) (p2 : Int32) (p3 : Int32) (p4 : Int32) (p5 : Int32) (h0 : Heap) (n0 : Nat) (v : Option Value) (h : Heap) (L : List Loc) : Prop := v = some (.int 1) ∧ Fr n0 L
theorem pn_com_2fexample_2fistra_2fistra_2fengine_2fNodeModelBlockedPinLaw : plainName "com/example/istra/istra/engine/NodeModelBlockedPinLaw" = true := by first | (simp [plainName, overriddenIn]; done) | decide +kernel
set_option maxRecDepth 65536 in
set_option maxHeartbeats 40000000 in
theorem rm0 (l : Launch) (Z : State) (a0 : Array Value) (hw : ∀ d ∈ tables_1, d.before a0 Z = true) (ws : List Jvm.Cond) (p0 : Int32) (p1 : Int32) (p2 : Int32) (p3 : Int32) (p4 : Int32) (p5 : Int32) (h0 : Heap) (n0 : Nat) (Z0 : n0 ≤ h0.size) :
    MetFree l x (head1 (Jvm.Cond.code x code maxLocals ret :: ws) room_1) (fun a U => a = #[(.int p0), (.int p1), (.int p2), (.int p3), (.int p4), (.int p5)] ∧ Z.Warmed39 U.vm ∧ U.heap = h0) (fun _ _ _ _ _ => True) (fun _ U o U' => ∃ v L, o = .returned v ∧ Q_rm0 Z p0 p1 p2 p3 p4 p5 h0 n0 v U'.heap L ∧ FrameEnd U o U' L room_1.cells room_1.slots) := by
  refine MetFree.of_bodySF (plainFor_of_name pn_com_2fexample_2fistra_2fistra_2fengine_2fNodeModelBlockedPinLaw) hisR ?_
  intro p e s m args below meth c s₁ Bd hml0 hP hK
  obtain ⟨rfl, hZ, hh⟩ := hP
  have hx := Bd.exec
  have hby := Bd.bytes
  have hml : c.maxLocals = 18 := hml0
  have hown : s.vm.findClass "com/example/istra/istra/engine/NodeModelBlockedPinLaw" = some m.cls := findClass_of_methodNamed Bd.named
  have hnm := (name_of_methodNamed Bd.named Bd.method).1
  have X0 : Stand p l e room_1 s m #[(.int p0), (.int p1), (.int p2), (.int p3), (.int p4), (.int p5)] below meth c s₁ [] 0 0 := Stand.of_body Bd
  have e0 : s₁.heap = h0 := by rw [← hh, Bd.state]; rfl
  have N0 := Fr.nil n0
  have k0 : ∀ t, Steps p.tables e below (s₁.setTop (mkF m 0 #[.val (.int p0), .val (.int p1), .val (.int p2), .val (.int p3), .val (.int p4), .val (.int p5), .unset, .unset, .unset, .unset, .unset, .unset, .unset, .unset, .unset, .unset, .unset, .unset] [])) t → Steps p.tables e below (s₁.setTop (entryFrame m #[(.int p0), (.int p1), (.int p2), (.int p3), (.int p4), (.int p5)] maxLocals)) t := fun t k => castTop (ef_0_IIIIII m p0 p1 p2 p3 p4 p5) k
  have k101 : ∀ t, Steps p.tables e below (s₁.setTop (mkF m 3 #[.val (.int p0), .val (.int p1), .val (.int p2), .val (.int p3), .val (.int p4), .val (.int p5), .unset, .unset, .unset, .unset, .unset, .unset, .unset, .unset, .unset, .unset, .unset, .unset] [(.int (p0 &&& (1 : Int32)))])) t → Steps p.tables e below (s₁.setTop (entryFrame m #[(.int p0), (.int p1), (.int p2), (.int p3), (.int p4), (.int p5)] maxLocals)) t := fun t k => k0 t (by
    show Steps p.tables e below (s₁.setTop (mkF m 0 #[.val (.int p0), .val (.int p1), .val (.int p2), .val (.int p3), .val (.int p4), .val (.int p5), .unset, .unset, .unset, .unset, .unset, .unset, .unset, .unset, .unset, .unset, .unset, .unset] [])) _
    refine XS.iloadN X0.here hx rfl (hb hby at_0) rfl ?_
    show Steps p.tables e below (s₁.setTop (mkF m 1 #[.val (.int p0), .val (.int p1), .val (.int p2), .val (.int p3), .val (.int p4), .val (.int p5), .unset, .unset, .unset, .unset, .unset, .unset, .unset, .unset, .unset, .unset, .unset, .unset] [(.int p0)])) _
    refine XS.iconst X0.here hx rfl (hb hby at_1) ?_
    show Steps p.tables e below (s₁.setTop (mkF m 2 #[.val (.int p0), .val (.int p1), .val (.int p2), .val (.int p3), .val (.int p4), .val (.int p5), .unset, .unset, .unset, .unset, .unset, .unset, .unset, .unset, .unset, .unset, .unset, .unset] [(.int (1 : Int32)), (.int p0)])) _
    refine XS.iand X0.here hx rfl (hb hby at_2) rfl ?_
    exact k)
  obtain ⟨i103, hi103⟩ : ∃ z : Int32, z = (if (p0 &&& (1 : Int32)) = (0 : Int32) then (0 : Int32) else (1 : Int32)) := ⟨_, rfl⟩
  have k104 : ∀ t, Steps p.tables e below (s₁.setTop (mkF m 11 #[.val (.int p0), .val (.int p1), .val (.int p2), .val (.int p3), .val (.int p4), .val (.int p5), .unset, .unset, .unset, .unset, .unset, .unset, .unset, .unset, .unset, .unset, .unset, .unset] [(.int i103)])) t → Steps p.tables e below (s₁.setTop (entryFrame m #[(.int p0), (.int p1), (.int p2), (.int p3), (.int p4), (.int p5)] maxLocals)) t := fun t k => k101 t (by
    by_cases c102 : (p0 &&& (1 : Int32)) = (0 : Int32)
    · rw [if_pos c102] at hi103
      show Steps p.tables e below (s₁.setTop (mkF m 3 #[.val (.int p0), .val (.int p1), .val (.int p2), .val (.int p3), .val (.int p4), .val (.int p5), .unset, .unset, .unset, .unset, .unset, .unset, .unset, .unset, .unset, .unset, .unset, .unset] [(.int (p0 &&& (1 : Int32)))])) _
      refine XS.ifYes X0.here hx rfl (pc0 := 3) (pc' := 10) rfl (hb hby at_3) rfl ((if0 _ _).trans (teq c102).1) (by decide) (by decide) ?_
      show Steps p.tables e below (s₁.setTop (mkF m 10 #[.val (.int p0), .val (.int p1), .val (.int p2), .val (.int p3), .val (.int p4), .val (.int p5), .unset, .unset, .unset, .unset, .unset, .unset, .unset, .unset, .unset, .unset, .unset, .unset] [])) _
      refine XS.iconst X0.here hx rfl (hb hby at_10) ?_
      show Steps p.tables e below (s₁.setTop (mkF m 11 #[.val (.int p0), .val (.int p1), .val (.int p2), .val (.int p3), .val (.int p4), .val (.int p5), .unset, .unset, .unset, .unset, .unset, .unset, .unset, .unset, .unset, .unset, .unset, .unset] [(.int (0 : Int32))])) _
      exact castTop (by rw [hi103]) k
    · rw [if_neg c102] at hi103
      show Steps p.tables e below (s₁.setTop (mkF m 3 #[.val (.int p0), .val (.int p1), .val (.int p2), .val (.int p3), .val (.int p4), .val (.int p5), .unset, .unset, .unset, .unset, .unset, .unset, .unset, .unset, .unset, .unset, .unset, .unset] [(.int (p0 &&& (1 : Int32)))])) _
      refine XS.ifNo X0.here hx rfl (hb hby at_3) rfl ((if0 _ _).trans (feq c102).1) ?_
      show Steps p.tables e below (s₁.setTop (mkF m 6 #[.val (.int p0), .val (.int p1), .val (.int p2), .val (.int p3), .val (.int p4), .val (.int p5), .unset, .unset, .unset, .unset, .unset, .unset, .unset, .unset, .unset, .unset, .unset, .unset] [])) _
      refine XS.iconst X0.here hx rfl (hb hby at_6) ?_
      show Steps p.tables e below (s₁.setTop (mkF m 7 #[.val (.int p0), .val (.int p1), .val (.int p2), .val (.int p3), .val (.int p4), .val (.int p5), .unset, .unset, .unset, .unset, .unset, .unset, .unset, .unset, .unset, .unset, .unset, .unset] [(.int (1 : Int32))])) _
      refine XS.goto X0.here hx rfl (pc0 := 7) (pc' := 11) rfl (hb hby at_7) (by decide) (by decide) ?_
      show Steps p.tables e below (s₁.setTop (mkF m 11 #[.val (.int p0), .val (.int p1), .val (.int p2), .val (.int p3), .val (.int p4), .val (.int p5), .unset, .unset, .unset, .unset, .unset, .unset, .unset, .unset, .unset, .unset, .unset, .unset] [(.int (1 : Int32))])) _
      exact castTop (by rw [hi103]) k)
  have k105 : ∀ t, Steps p.tables e below (s₁.setTop (mkF m 16 #[.val (.int p0), .val (.int p1), .val (.int p2), .val (.int p3), .val (.int p4), .val (.int p5), .val (.int i103), .unset, .unset, .unset, .unset, .unset, .unset, .unset, .unset, .unset, .unset, .unset] [(.int (p0 &&& (2 : Int32)))])) t → Steps p.tables e below (s₁.setTop (entryFrame m #[(.int p0), (.int p1), (.int p2), (.int p3), (.int p4), (.int p5)] maxLocals)) t := fun t k => k104 t (by
    show Steps p.tables e below (s₁.setTop (mkF m 11 #[.val (.int p0), .val (.int p1), .val (.int p2), .val (.int p3), .val (.int p4), .val (.int p5), .unset, .unset, .unset, .unset, .unset, .unset, .unset, .unset, .unset, .unset, .unset, .unset] [(.int i103)])) _
    refine XS.istore X0.here hx rfl (hb hby at_11) rfl (l' := #[.val (.int p0), .val (.int p1), .val (.int p2), .val (.int p3), .val (.int p4), .val (.int p5), .val (.int i103), .unset, .unset, .unset, .unset, .unset, .unset, .unset, .unset, .unset, .unset, .unset]) rfl ?_
    show Steps p.tables e below (s₁.setTop (mkF m 13 #[.val (.int p0), .val (.int p1), .val (.int p2), .val (.int p3), .val (.int p4), .val (.int p5), .val (.int i103), .unset, .unset, .unset, .unset, .unset, .unset, .unset, .unset, .unset, .unset, .unset] [])) _
    refine XS.iloadN X0.here hx rfl (hb hby at_13) rfl ?_
    show Steps p.tables e below (s₁.setTop (mkF m 14 #[.val (.int p0), .val (.int p1), .val (.int p2), .val (.int p3), .val (.int p4), .val (.int p5), .val (.int i103), .unset, .unset, .unset, .unset, .unset, .unset, .unset, .unset, .unset, .unset, .unset] [(.int p0)])) _
    refine XS.iconst X0.here hx rfl (hb hby at_14) ?_
    show Steps p.tables e below (s₁.setTop (mkF m 15 #[.val (.int p0), .val (.int p1), .val (.int p2), .val (.int p3), .val (.int p4), .val (.int p5), .val (.int i103), .unset, .unset, .unset, .unset, .unset, .unset, .unset, .unset, .unset, .unset, .unset] [(.int (2 : Int32)), (.int p0)])) _
    refine XS.iand X0.here hx rfl (hb hby at_15) rfl ?_
    exact k)
  obtain ⟨i107, hi107⟩ : ∃ z : Int32, z = (if (p0 &&& (2 : Int32)) = (0 : Int32) then (0 : Int32) else (1 : Int32)) := ⟨_, rfl⟩
  have k108 : ∀ t, Steps p.tables e below (s₁.setTop (mkF m 24 #[.val (.int p0), .val (.int p1), .val (.int p2), .val (.int p3), .val (.int p4), .val (.int p5), .val (.int i103), .unset, .unset, .unset, .unset, .unset, .unset, .unset, .unset, .unset, .unset, .unset] [(.int i107)])) t → Steps p.tables e below (s₁.setTop (entryFrame m #[(.int p0), (.int p1), (.int p2), (.int p3), (.int p4), (.int p5)] maxLocals)) t := fun t k => k105 t (by
    by_cases c106 : (p0 &&& (2 : Int32)) = (0 : Int32)
    · rw [if_pos c106] at hi107
      show Steps p.tables e below (s₁.setTop (mkF m 16 #[.val (.int p0), .val (.int p1), .val (.int p2), .val (.int p3), .val (.int p4), .val (.int p5), .val (.int i103), .unset, .unset, .unset, .unset, .unset, .unset, .unset, .unset, .unset, .unset, .unset] [(.int (p0 &&& (2 : Int32)))])) _
      refine XS.ifYes X0.here hx rfl (pc0 := 16) (pc' := 23) rfl (hb hby at_16) rfl ((if0 _ _).trans (teq c106).1) (by decide) (by decide) ?_
      show Steps p.tables e below (s₁.setTop (mkF m 23 #[.val (.int p0), .val (.int p1), .val (.int p2), .val (.int p3), .val (.int p4), .val (.int p5), .val (.int i103), .unset, .unset, .unset, .unset, .unset, .unset, .unset, .unset, .unset, .unset, .unset] [])) _
      refine XS.iconst X0.here hx rfl (hb hby at_23) ?_
      show Steps p.tables e below (s₁.setTop (mkF m 24 #[.val (.int p0), .val (.int p1), .val (.int p2), .val (.int p3), .val (.int p4), .val (.int p5), .val (.int i103), .unset, .unset, .unset, .unset, .unset, .unset, .unset, .unset, .unset, .unset, .unset] [(.int (0 : Int32))])) _
      exact castTop (by rw [hi107]) k
    · rw [if_neg c106] at hi107
      show Steps p.tables e below (s₁.setTop (mkF m 16 #[.val (.int p0), .val (.int p1), .val (.int p2), .val (.int p3), .val (.int p4), .val (.int p5), .val (.int i103), .unset, .unset, .unset, .unset, .unset, .unset, .unset, .unset, .unset, .unset, .unset] [(.int (p0 &&& (2 : Int32)))])) _
      refine XS.ifNo X0.here hx rfl (hb hby at_16) rfl ((if0 _ _).trans (feq c106).1) ?_
      show Steps p.tables e below (s₁.setTop (mkF m 19 #[.val (.int p0), .val (.int p1), .val (.int p2), .val (.int p3), .val (.int p4), .val (.int p5), .val (.int i103), .unset, .unset, .unset, .unset, .unset, .unset, .unset, .unset, .unset, .unset, .unset] [])) _
      refine XS.iconst X0.here hx rfl (hb hby at_19) ?_
      show Steps p.tables e below (s₁.setTop (mkF m 20 #[.val (.int p0), .val (.int p1), .val (.int p2), .val (.int p3), .val (.int p4), .val (.int p5), .val (.int i103), .unset, .unset, .unset, .unset, .unset, .unset, .unset, .unset, .unset, .unset, .unset] [(.int (1 : Int32))])) _
      refine XS.goto X0.here hx rfl (pc0 := 20) (pc' := 24) rfl (hb hby at_20) (by decide) (by decide) ?_
      show Steps p.tables e below (s₁.setTop (mkF m 24 #[.val (.int p0), .val (.int p1), .val (.int p2), .val (.int p3), .val (.int p4), .val (.int p5), .val (.int i103), .unset, .unset, .unset, .unset, .unset, .unset, .unset, .unset, .unset, .unset, .unset] [(.int (1 : Int32))])) _
      exact castTop (by rw [hi107]) k)
  obtain ⟨v, hv⟩ : ∃ z : Int32, z = (p1 &&& (3 : Int32)) := ⟨_, rfl⟩
  obtain ⟨sc, hsc⟩ : ∃ z : Int32, z = ((p2 &&& (2147483647 : Int32)) % (3 : Int32)) := ⟨_, rfl⟩
  obtain ⟨ca, hca⟩ : ∃ z : Int32, z = (p3 &&& (1 : Int32)) := ⟨_, rfl⟩
  obtain ⟨cc, hcc⟩ : ∃ z : Int32, z = ((p4 &&& (2147483647 : Int32)) % (3 : Int32)) := ⟨_, rfl⟩
  obtain ⟨qa, hqa⟩ : ∃ z : Int32, z = (p5 &&& (1 : Int32)) := ⟨_, rfl⟩
  obtain ⟨qc, hqc⟩ : ∃ z : Int32, z = (((p5.toUInt32 >>> ((1 : Int32) &&& 31).toUInt32).toInt32) % (3 : Int32)) := ⟨_, rfl⟩
  have k109 : ∀ t, Steps p.tables e below (s₁.setTop (mkF m 67 #[.val (.int p0), .val (.int p1), .val (.int p2), .val (.int p3), .val (.int p4), .val (.int p5), .val (.int i103), .val (.int i107), .val (.int v), .val (.int sc), .val (.int ca), .val (.int cc), .val (.int qa), .val (.int qc), .unset, .unset, .unset, .unset] [])) t → Steps p.tables e below (s₁.setTop (entryFrame m #[(.int p0), (.int p1), (.int p2), (.int p3), (.int p4), (.int p5)] maxLocals)) t := fun t k => k108 t (by
    show Steps p.tables e below (s₁.setTop (mkF m 24 #[.val (.int p0), .val (.int p1), .val (.int p2), .val (.int p3), .val (.int p4), .val (.int p5), .val (.int i103), .unset, .unset, .unset, .unset, .unset, .unset, .unset, .unset, .unset, .unset, .unset] [(.int i107)])) _
    refine XS.istore X0.here hx rfl (hb hby at_24) rfl (l' := #[.val (.int p0), .val (.int p1), .val (.int p2), .val (.int p3), .val (.int p4), .val (.int p5), .val (.int i103), .val (.int i107), .unset, .unset, .unset, .unset, .unset, .unset, .unset, .unset, .unset, .unset]) rfl ?_
    show Steps p.tables e below (s₁.setTop (mkF m 26 #[.val (.int p0), .val (.int p1), .val (.int p2), .val (.int p3), .val (.int p4), .val (.int p5), .val (.int i103), .val (.int i107), .unset, .unset, .unset, .unset, .unset, .unset, .unset, .unset, .unset, .unset] [])) _
    refine XS.iloadN X0.here hx rfl (hb hby at_26) rfl ?_
    show Steps p.tables e below (s₁.setTop (mkF m 27 #[.val (.int p0), .val (.int p1), .val (.int p2), .val (.int p3), .val (.int p4), .val (.int p5), .val (.int i103), .val (.int i107), .unset, .unset, .unset, .unset, .unset, .unset, .unset, .unset, .unset, .unset] [(.int p1)])) _
    refine XS.iconst X0.here hx rfl (hb hby at_27) ?_
    show Steps p.tables e below (s₁.setTop (mkF m 28 #[.val (.int p0), .val (.int p1), .val (.int p2), .val (.int p3), .val (.int p4), .val (.int p5), .val (.int i103), .val (.int i107), .unset, .unset, .unset, .unset, .unset, .unset, .unset, .unset, .unset, .unset] [(.int (3 : Int32)), (.int p1)])) _
    refine XS.iand X0.here hx rfl (hb hby at_28) rfl ?_
    show Steps p.tables e below (s₁.setTop (mkF m 29 #[.val (.int p0), .val (.int p1), .val (.int p2), .val (.int p3), .val (.int p4), .val (.int p5), .val (.int i103), .val (.int i107), .unset, .unset, .unset, .unset, .unset, .unset, .unset, .unset, .unset, .unset] [(.int (p1 &&& (3 : Int32)))])) _
    refine castTop (g' := (mkF m 29 #[.val (.int p0), .val (.int p1), .val (.int p2), .val (.int p3), .val (.int p4), .val (.int p5), .val (.int i103), .val (.int i107), .unset, .unset, .unset, .unset, .unset, .unset, .unset, .unset, .unset, .unset] [(.int v)])) (by rw [hv]) ?_
    show Steps p.tables e below (s₁.setTop (mkF m 29 #[.val (.int p0), .val (.int p1), .val (.int p2), .val (.int p3), .val (.int p4), .val (.int p5), .val (.int i103), .val (.int i107), .unset, .unset, .unset, .unset, .unset, .unset, .unset, .unset, .unset, .unset] [(.int v)])) _
    refine XS.istore X0.here hx rfl (hb hby at_29) rfl (l' := #[.val (.int p0), .val (.int p1), .val (.int p2), .val (.int p3), .val (.int p4), .val (.int p5), .val (.int i103), .val (.int i107), .val (.int v), .unset, .unset, .unset, .unset, .unset, .unset, .unset, .unset, .unset]) rfl ?_
    show Steps p.tables e below (s₁.setTop (mkF m 31 #[.val (.int p0), .val (.int p1), .val (.int p2), .val (.int p3), .val (.int p4), .val (.int p5), .val (.int i103), .val (.int i107), .val (.int v), .unset, .unset, .unset, .unset, .unset, .unset, .unset, .unset, .unset] [])) _
    refine XS.iloadN X0.here hx rfl (hb hby at_31) rfl ?_
    show Steps p.tables e below (s₁.setTop (mkF m 32 #[.val (.int p0), .val (.int p1), .val (.int p2), .val (.int p3), .val (.int p4), .val (.int p5), .val (.int i103), .val (.int i107), .val (.int v), .unset, .unset, .unset, .unset, .unset, .unset, .unset, .unset, .unset] [(.int p2)])) _
    refine X0.ldcInt hx hown (mvT hZ (hw _ (List.mem_of_getElem? (i := 0) rfl))) (g := (mkF m 32 #[.val (.int p0), .val (.int p1), .val (.int p2), .val (.int p3), .val (.int p4), .val (.int p5), .val (.int i103), .val (.int i107), .val (.int v), .unset, .unset, .unset, .unset, .unset, .unset, .unset, .unset, .unset] [(.int p2)])) rfl (hb hby at_32) _ ?_
    show Steps p.tables e below (s₁.setTop (mkF m 34 #[.val (.int p0), .val (.int p1), .val (.int p2), .val (.int p3), .val (.int p4), .val (.int p5), .val (.int i103), .val (.int i107), .val (.int v), .unset, .unset, .unset, .unset, .unset, .unset, .unset, .unset, .unset] [(.int (2147483647 : Int32)), (.int p2)])) _
    refine XS.iand X0.here hx rfl (hb hby at_34) rfl ?_
    show Steps p.tables e below (s₁.setTop (mkF m 35 #[.val (.int p0), .val (.int p1), .val (.int p2), .val (.int p3), .val (.int p4), .val (.int p5), .val (.int i103), .val (.int i107), .val (.int v), .unset, .unset, .unset, .unset, .unset, .unset, .unset, .unset, .unset] [(.int (p2 &&& (2147483647 : Int32)))])) _
    refine XS.iconst X0.here hx rfl (hb hby at_35) ?_
    show Steps p.tables e below (s₁.setTop (mkF m 36 #[.val (.int p0), .val (.int p1), .val (.int p2), .val (.int p3), .val (.int p4), .val (.int p5), .val (.int i103), .val (.int i107), .val (.int v), .unset, .unset, .unset, .unset, .unset, .unset, .unset, .unset, .unset] [(.int (3 : Int32)), (.int (p2 &&& (2147483647 : Int32)))])) _
    refine iremM X0 hx rfl (hb hby at_36) rfl (by decide) ?_
    show Steps p.tables e below (s₁.setTop (mkF m 37 #[.val (.int p0), .val (.int p1), .val (.int p2), .val (.int p3), .val (.int p4), .val (.int p5), .val (.int i103), .val (.int i107), .val (.int v), .unset, .unset, .unset, .unset, .unset, .unset, .unset, .unset, .unset] [(.int ((p2 &&& (2147483647 : Int32)) % (3 : Int32)))])) _
    refine castTop (g' := (mkF m 37 #[.val (.int p0), .val (.int p1), .val (.int p2), .val (.int p3), .val (.int p4), .val (.int p5), .val (.int i103), .val (.int i107), .val (.int v), .unset, .unset, .unset, .unset, .unset, .unset, .unset, .unset, .unset] [(.int sc)])) (by rw [hsc]) ?_
    show Steps p.tables e below (s₁.setTop (mkF m 37 #[.val (.int p0), .val (.int p1), .val (.int p2), .val (.int p3), .val (.int p4), .val (.int p5), .val (.int i103), .val (.int i107), .val (.int v), .unset, .unset, .unset, .unset, .unset, .unset, .unset, .unset, .unset] [(.int sc)])) _
    refine XS.istore X0.here hx rfl (hb hby at_37) rfl (l' := #[.val (.int p0), .val (.int p1), .val (.int p2), .val (.int p3), .val (.int p4), .val (.int p5), .val (.int i103), .val (.int i107), .val (.int v), .val (.int sc), .unset, .unset, .unset, .unset, .unset, .unset, .unset, .unset]) rfl ?_
    show Steps p.tables e below (s₁.setTop (mkF m 39 #[.val (.int p0), .val (.int p1), .val (.int p2), .val (.int p3), .val (.int p4), .val (.int p5), .val (.int i103), .val (.int i107), .val (.int v), .val (.int sc), .unset, .unset, .unset, .unset, .unset, .unset, .unset, .unset] [])) _
    refine XS.iloadN X0.here hx rfl (hb hby at_39) rfl ?_
    show Steps p.tables e below (s₁.setTop (mkF m 40 #[.val (.int p0), .val (.int p1), .val (.int p2), .val (.int p3), .val (.int p4), .val (.int p5), .val (.int i103), .val (.int i107), .val (.int v), .val (.int sc), .unset, .unset, .unset, .unset, .unset, .unset, .unset, .unset] [(.int p3)])) _
    refine XS.iconst X0.here hx rfl (hb hby at_40) ?_
    show Steps p.tables e below (s₁.setTop (mkF m 41 #[.val (.int p0), .val (.int p1), .val (.int p2), .val (.int p3), .val (.int p4), .val (.int p5), .val (.int i103), .val (.int i107), .val (.int v), .val (.int sc), .unset, .unset, .unset, .unset, .unset, .unset, .unset, .unset] [(.int (1 : Int32)), (.int p3)])) _
    refine XS.iand X0.here hx rfl (hb hby at_41) rfl ?_
    show Steps p.tables e below (s₁.setTop (mkF m 42 #[.val (.int p0), .val (.int p1), .val (.int p2), .val (.int p3), .val (.int p4), .val (.int p5), .val (.int i103), .val (.int i107), .val (.int v), .val (.int sc), .unset, .unset, .unset, .unset, .unset, .unset, .unset, .unset] [(.int (p3 &&& (1 : Int32)))])) _
    refine castTop (g' := (mkF m 42 #[.val (.int p0), .val (.int p1), .val (.int p2), .val (.int p3), .val (.int p4), .val (.int p5), .val (.int i103), .val (.int i107), .val (.int v), .val (.int sc), .unset, .unset, .unset, .unset, .unset, .unset, .unset, .unset] [(.int ca)])) (by rw [hca]) ?_
    show Steps p.tables e below (s₁.setTop (mkF m 42 #[.val (.int p0), .val (.int p1), .val (.int p2), .val (.int p3), .val (.int p4), .val (.int p5), .val (.int i103), .val (.int i107), .val (.int v), .val (.int sc), .unset, .unset, .unset, .unset, .unset, .unset, .unset, .unset] [(.int ca)])) _
    refine XS.istore X0.here hx rfl (hb hby at_42) rfl (l' := #[.val (.int p0), .val (.int p1), .val (.int p2), .val (.int p3), .val (.int p4), .val (.int p5), .val (.int i103), .val (.int i107), .val (.int v), .val (.int sc), .val (.int ca), .unset, .unset, .unset, .unset, .unset, .unset, .unset]) rfl ?_
    show Steps p.tables e below (s₁.setTop (mkF m 44 #[.val (.int p0), .val (.int p1), .val (.int p2), .val (.int p3), .val (.int p4), .val (.int p5), .val (.int i103), .val (.int i107), .val (.int v), .val (.int sc), .val (.int ca), .unset, .unset, .unset, .unset, .unset, .unset, .unset] [])) _
    refine XS.iload X0.here hx rfl (hb hby at_44) rfl ?_
    show Steps p.tables e below (s₁.setTop (mkF m 46 #[.val (.int p0), .val (.int p1), .val (.int p2), .val (.int p3), .val (.int p4), .val (.int p5), .val (.int i103), .val (.int i107), .val (.int v), .val (.int sc), .val (.int ca), .unset, .unset, .unset, .unset, .unset, .unset, .unset] [(.int p4)])) _
    refine X0.ldcInt hx hown (mvT hZ (hw _ (List.mem_of_getElem? (i := 0) rfl))) (g := (mkF m 46 #[.val (.int p0), .val (.int p1), .val (.int p2), .val (.int p3), .val (.int p4), .val (.int p5), .val (.int i103), .val (.int i107), .val (.int v), .val (.int sc), .val (.int ca), .unset, .unset, .unset, .unset, .unset, .unset, .unset] [(.int p4)])) rfl (hb hby at_46) _ ?_
    show Steps p.tables e below (s₁.setTop (mkF m 48 #[.val (.int p0), .val (.int p1), .val (.int p2), .val (.int p3), .val (.int p4), .val (.int p5), .val (.int i103), .val (.int i107), .val (.int v), .val (.int sc), .val (.int ca), .unset, .unset, .unset, .unset, .unset, .unset, .unset] [(.int (2147483647 : Int32)), (.int p4)])) _
    refine XS.iand X0.here hx rfl (hb hby at_48) rfl ?_
    show Steps p.tables e below (s₁.setTop (mkF m 49 #[.val (.int p0), .val (.int p1), .val (.int p2), .val (.int p3), .val (.int p4), .val (.int p5), .val (.int i103), .val (.int i107), .val (.int v), .val (.int sc), .val (.int ca), .unset, .unset, .unset, .unset, .unset, .unset, .unset] [(.int (p4 &&& (2147483647 : Int32)))])) _
    refine XS.iconst X0.here hx rfl (hb hby at_49) ?_
    show Steps p.tables e below (s₁.setTop (mkF m 50 #[.val (.int p0), .val (.int p1), .val (.int p2), .val (.int p3), .val (.int p4), .val (.int p5), .val (.int i103), .val (.int i107), .val (.int v), .val (.int sc), .val (.int ca), .unset, .unset, .unset, .unset, .unset, .unset, .unset] [(.int (3 : Int32)), (.int (p4 &&& (2147483647 : Int32)))])) _
    refine iremM X0 hx rfl (hb hby at_50) rfl (by decide) ?_
    show Steps p.tables e below (s₁.setTop (mkF m 51 #[.val (.int p0), .val (.int p1), .val (.int p2), .val (.int p3), .val (.int p4), .val (.int p5), .val (.int i103), .val (.int i107), .val (.int v), .val (.int sc), .val (.int ca), .unset, .unset, .unset, .unset, .unset, .unset, .unset] [(.int ((p4 &&& (2147483647 : Int32)) % (3 : Int32)))])) _
    refine castTop (g' := (mkF m 51 #[.val (.int p0), .val (.int p1), .val (.int p2), .val (.int p3), .val (.int p4), .val (.int p5), .val (.int i103), .val (.int i107), .val (.int v), .val (.int sc), .val (.int ca), .unset, .unset, .unset, .unset, .unset, .unset, .unset] [(.int cc)])) (by rw [hcc]) ?_
    show Steps p.tables e below (s₁.setTop (mkF m 51 #[.val (.int p0), .val (.int p1), .val (.int p2), .val (.int p3), .val (.int p4), .val (.int p5), .val (.int i103), .val (.int i107), .val (.int v), .val (.int sc), .val (.int ca), .unset, .unset, .unset, .unset, .unset, .unset, .unset] [(.int cc)])) _
    refine XS.istore X0.here hx rfl (hb hby at_51) rfl (l' := #[.val (.int p0), .val (.int p1), .val (.int p2), .val (.int p3), .val (.int p4), .val (.int p5), .val (.int i103), .val (.int i107), .val (.int v), .val (.int sc), .val (.int ca), .val (.int cc), .unset, .unset, .unset, .unset, .unset, .unset]) rfl ?_
    show Steps p.tables e below (s₁.setTop (mkF m 53 #[.val (.int p0), .val (.int p1), .val (.int p2), .val (.int p3), .val (.int p4), .val (.int p5), .val (.int i103), .val (.int i107), .val (.int v), .val (.int sc), .val (.int ca), .val (.int cc), .unset, .unset, .unset, .unset, .unset, .unset] [])) _
    refine XS.iload X0.here hx rfl (hb hby at_53) rfl ?_
    show Steps p.tables e below (s₁.setTop (mkF m 55 #[.val (.int p0), .val (.int p1), .val (.int p2), .val (.int p3), .val (.int p4), .val (.int p5), .val (.int i103), .val (.int i107), .val (.int v), .val (.int sc), .val (.int ca), .val (.int cc), .unset, .unset, .unset, .unset, .unset, .unset] [(.int p5)])) _
    refine XS.iconst X0.here hx rfl (hb hby at_55) ?_
    show Steps p.tables e below (s₁.setTop (mkF m 56 #[.val (.int p0), .val (.int p1), .val (.int p2), .val (.int p3), .val (.int p4), .val (.int p5), .val (.int i103), .val (.int i107), .val (.int v), .val (.int sc), .val (.int ca), .val (.int cc), .unset, .unset, .unset, .unset, .unset, .unset] [(.int (1 : Int32)), (.int p5)])) _
    refine XS.iand X0.here hx rfl (hb hby at_56) rfl ?_
    show Steps p.tables e below (s₁.setTop (mkF m 57 #[.val (.int p0), .val (.int p1), .val (.int p2), .val (.int p3), .val (.int p4), .val (.int p5), .val (.int i103), .val (.int i107), .val (.int v), .val (.int sc), .val (.int ca), .val (.int cc), .unset, .unset, .unset, .unset, .unset, .unset] [(.int (p5 &&& (1 : Int32)))])) _
    refine castTop (g' := (mkF m 57 #[.val (.int p0), .val (.int p1), .val (.int p2), .val (.int p3), .val (.int p4), .val (.int p5), .val (.int i103), .val (.int i107), .val (.int v), .val (.int sc), .val (.int ca), .val (.int cc), .unset, .unset, .unset, .unset, .unset, .unset] [(.int qa)])) (by rw [hqa]) ?_
    show Steps p.tables e below (s₁.setTop (mkF m 57 #[.val (.int p0), .val (.int p1), .val (.int p2), .val (.int p3), .val (.int p4), .val (.int p5), .val (.int i103), .val (.int i107), .val (.int v), .val (.int sc), .val (.int ca), .val (.int cc), .unset, .unset, .unset, .unset, .unset, .unset] [(.int qa)])) _
    refine XS.istore X0.here hx rfl (hb hby at_57) rfl (l' := #[.val (.int p0), .val (.int p1), .val (.int p2), .val (.int p3), .val (.int p4), .val (.int p5), .val (.int i103), .val (.int i107), .val (.int v), .val (.int sc), .val (.int ca), .val (.int cc), .val (.int qa), .unset, .unset, .unset, .unset, .unset]) rfl ?_
    show Steps p.tables e below (s₁.setTop (mkF m 59 #[.val (.int p0), .val (.int p1), .val (.int p2), .val (.int p3), .val (.int p4), .val (.int p5), .val (.int i103), .val (.int i107), .val (.int v), .val (.int sc), .val (.int ca), .val (.int cc), .val (.int qa), .unset, .unset, .unset, .unset, .unset] [])) _
    refine XS.iload X0.here hx rfl (hb hby at_59) rfl ?_
    show Steps p.tables e below (s₁.setTop (mkF m 61 #[.val (.int p0), .val (.int p1), .val (.int p2), .val (.int p3), .val (.int p4), .val (.int p5), .val (.int i103), .val (.int i107), .val (.int v), .val (.int sc), .val (.int ca), .val (.int cc), .val (.int qa), .unset, .unset, .unset, .unset, .unset] [(.int p5)])) _
    refine XS.iconst X0.here hx rfl (hb hby at_61) ?_
    show Steps p.tables e below (s₁.setTop (mkF m 62 #[.val (.int p0), .val (.int p1), .val (.int p2), .val (.int p3), .val (.int p4), .val (.int p5), .val (.int i103), .val (.int i107), .val (.int v), .val (.int sc), .val (.int ca), .val (.int cc), .val (.int qa), .unset, .unset, .unset, .unset, .unset] [(.int (1 : Int32)), (.int p5)])) _
    refine XS.iushr X0.here hx rfl (hb hby at_62) rfl ?_
    show Steps p.tables e below (s₁.setTop (mkF m 63 #[.val (.int p0), .val (.int p1), .val (.int p2), .val (.int p3), .val (.int p4), .val (.int p5), .val (.int i103), .val (.int i107), .val (.int v), .val (.int sc), .val (.int ca), .val (.int cc), .val (.int qa), .unset, .unset, .unset, .unset, .unset] [(.int ((p5.toUInt32 >>> ((1 : Int32) &&& 31).toUInt32).toInt32))])) _
    refine XS.iconst X0.here hx rfl (hb hby at_63) ?_
    show Steps p.tables e below (s₁.setTop (mkF m 64 #[.val (.int p0), .val (.int p1), .val (.int p2), .val (.int p3), .val (.int p4), .val (.int p5), .val (.int i103), .val (.int i107), .val (.int v), .val (.int sc), .val (.int ca), .val (.int cc), .val (.int qa), .unset, .unset, .unset, .unset, .unset] [(.int (3 : Int32)), (.int ((p5.toUInt32 >>> ((1 : Int32) &&& 31).toUInt32).toInt32))])) _
    refine iremM X0 hx rfl (hb hby at_64) rfl (by decide) ?_
    show Steps p.tables e below (s₁.setTop (mkF m 65 #[.val (.int p0), .val (.int p1), .val (.int p2), .val (.int p3), .val (.int p4), .val (.int p5), .val (.int i103), .val (.int i107), .val (.int v), .val (.int sc), .val (.int ca), .val (.int cc), .val (.int qa), .unset, .unset, .unset, .unset, .unset] [(.int (((p5.toUInt32 >>> ((1 : Int32) &&& 31).toUInt32).toInt32) % (3 : Int32)))])) _
    refine castTop (g' := (mkF m 65 #[.val (.int p0), .val (.int p1), .val (.int p2), .val (.int p3), .val (.int p4), .val (.int p5), .val (.int i103), .val (.int i107), .val (.int v), .val (.int sc), .val (.int ca), .val (.int cc), .val (.int qa), .unset, .unset, .unset, .unset, .unset] [(.int qc)])) (by rw [hqc]) ?_
    show Steps p.tables e below (s₁.setTop (mkF m 65 #[.val (.int p0), .val (.int p1), .val (.int p2), .val (.int p3), .val (.int p4), .val (.int p5), .val (.int i103), .val (.int i107), .val (.int v), .val (.int sc), .val (.int ca), .val (.int cc), .val (.int qa), .unset, .unset, .unset, .unset, .unset] [(.int qc)])) _
    refine XS.istore X0.here hx rfl (hb hby at_65) rfl (l' := #[.val (.int p0), .val (.int p1), .val (.int p2), .val (.int p3), .val (.int p4), .val (.int p5), .val (.int i103), .val (.int i107), .val (.int v), .val (.int sc), .val (.int ca), .val (.int cc), .val (.int qa), .val (.int qc), .unset, .unset, .unset, .unset]) rfl ?_
    exact k)
  have Bv := own_m4 p1 v hv
  have Bsc := own_r3 p2 sc hsc
  have Bca := own_m2 p3 ca hca
  have Bcc := own_r3 p4 cc hcc
  have Bqa := own_m2 p5 qa hqa
  have Bqc := own_q3 p5 qc hqc
  obtain ⟨T110, h110, X110, e110, E110, A110, D110, -, st110⟩ := newO X0 hx hZ hown (hw _ (List.mem_of_getElem? (i := 1) rfl)) (hw _ (List.mem_of_getElem? (i := 2) rfl)) (hw _ (List.mem_of_getElem? (i := 3) rfl)) e0 (g := (mkF m 67 #[.val (.int p0), .val (.int p1), .val (.int p2), .val (.int p3), .val (.int p4), .val (.int p5), .val (.int i103), .val (.int i107), .val (.int v), .val (.int sc), .val (.int ca), .val (.int cc), .val (.int qa), .val (.int qc), .unset, .unset, .unset, .unset] [])) rfl (hb hby at_67) (by decide) (by decide)
  obtain ⟨b110, g110⟩ : ∃ z, z = h0.size := ⟨_, rfl⟩
  rw [← g110] at A110 D110 st110
  have g111 : n0 ≤ b110 := Nat.le_trans Z0 (Nat.le_of_eq g110.symm)
  have Z112 : n0 ≤ h110.size := Nat.le_trans Z0 E110.1
  have F113 : Fld Z h110 b110 "com/example/istra/istra/engine/NodeModel" "demand" "[D" .null := D110 (Or.inr (hw _ (List.mem_of_getElem? (i := 12) rfl))) (ty := (.array .double)) (by decide)
  have F114 : Fld Z h110 b110 "com/example/istra/istra/engine/NodeModel" "moved" "[D" .null := D110 (Or.inr (hw _ (List.mem_of_getElem? (i := 14) rfl))) (ty := (.array .double)) (by decide)
  have F115 : Fld Z h110 b110 "com/example/istra/istra/engine/NodeModel" "left" "[D" .null := D110 (Or.inr (hw _ (List.mem_of_getElem? (i := 16) rfl))) (ty := (.array .double)) (by decide)
  have F116 : Fld Z h110 b110 "com/example/istra/istra/engine/NodeModel" "supply" "[D" .null := D110 (Or.inr (hw _ (List.mem_of_getElem? (i := 18) rfl))) (ty := (.array .double)) (by decide)
  have F117 : Fld Z h110 b110 "com/example/istra/istra/engine/NodeModel" "room" "[D" .null := D110 (Or.inr (hw _ (List.mem_of_getElem? (i := 20) rfl))) (ty := (.array .double)) (by decide)
  have F118 : Fld Z h110 b110 "com/example/istra/istra/engine/NodeModel" "wanted" "[D" .null := D110 (Or.inr (hw _ (List.mem_of_getElem? (i := 22) rfl))) (ty := (.array .double)) (by decide)
  have F119 : Fld Z h110 b110 "com/example/istra/istra/engine/NodeModel" "fraction" "[D" .null := D110 (Or.inr (hw _ (List.mem_of_getElem? (i := 24) rfl))) (ty := (.array .double)) (by decide)
  have F120 : Fld Z h110 b110 "com/example/istra/istra/engine/NodeModel" "given" "[D" .null := D110 (Or.inr (hw _ (List.mem_of_getElem? (i := 26) rfl))) (ty := (.array .double)) (by decide)
  have F121 : Fld Z h110 b110 "com/example/istra/istra/engine/NodeModel" "spare" "[Z" .null := D110 (Or.inr (hw _ (List.mem_of_getElem? (i := 29) rfl))) (ty := (.array .boolean)) (by decide)
  have F122 : Fld Z h110 b110 "com/example/istra/istra/engine/NodeModel" "finished" "[Z" .null := D110 (Or.inr (hw _ (List.mem_of_getElem? (i := 31) rfl))) (ty := (.array .boolean)) (by decide)
  have F123 : Fld Z h110 b110 "com/example/istra/istra/engine/NodeModel" "closed" "[Z" .null := D110 (Or.inr (hw _ (List.mem_of_getElem? (i := 33) rfl))) (ty := (.array .boolean)) (by decide)
  have F124 : Fld Z h110 b110 "com/example/istra/istra/engine/NodeModel" "wanting" "[I" .null := D110 (Or.inr (hw _ (List.mem_of_getElem? (i := 36) rfl))) (ty := (.array .int)) (by decide)
  have F125 : Fld Z h110 b110 "com/example/istra/istra/engine/NodeModel" "listed" "[Z" .null := D110 (Or.inr (hw _ (List.mem_of_getElem? (i := 38) rfl))) (ty := (.array .boolean)) (by decide)
  have F126 : Fld Z h110 b110 "com/example/istra/istra/engine/NodeModel" "wantingCount" "I" (.int (0 : Int32)) := D110 (Or.inl (hw _ (List.mem_of_getElem? (i := 45) rfl))) (ty := .int) (by decide)
  have F127 : Fld Z h110 b110 "com/example/istra/istra/engine/NodeModel" "approaches" "I" (.int (0 : Int32)) := D110 (Or.inl (hw _ (List.mem_of_getElem? (i := 47) rfl))) (ty := .int) (by decide)
  have F128 : Fld Z h110 b110 "com/example/istra/istra/engine/NodeModel" "columns" "I" (.int (0 : Int32)) := D110 (Or.inl (hw _ (List.mem_of_getElem? (i := 49) rfl))) (ty := .int) (by decide)
  have F129 : Fld Z h110 b110 "com/example/istra/istra/engine/NodeModel" "anyClosed" "Z" (.int (0 : Int32)) := D110 (Or.inl (hw _ (List.mem_of_getElem? (i := 52) rfl))) (ty := .boolean) (by decide)
  have k130 : ∀ t, Steps p.tables e below (T110.setTop (mkF m 70 #[.val (.int p0), .val (.int p1), .val (.int p2), .val (.int p3), .val (.int p4), .val (.int p5), .val (.int i103), .val (.int i107), .val (.int v), .val (.int sc), .val (.int ca), .val (.int cc), .val (.int qa), .val (.int qc), .unset, .unset, .unset, .unset] [(.ref b110)])) t → Steps p.tables e below (s₁.setTop (entryFrame m #[(.int p0), (.int p1), (.int p2), (.int p3), (.int p4), (.int p5)] maxLocals)) t := fun t k => k109 t (st110 t k)
  have k131 : ∀ t, Steps p.tables e below (T110.setTop (mkF m 73 #[.val (.int p0), .val (.int p1), .val (.int p2), .val (.int p3), .val (.int p4), .val (.int p5), .val (.int i103), .val (.int i107), .val (.int v), .val (.int sc), .val (.int ca), .val (.int cc), .val (.int qa), .val (.int qc), .unset, .unset, .unset, .unset] [(.int (3 : Int32)), (.int (2 : Int32)), (.ref b110), (.ref b110)])) t → Steps p.tables e below (s₁.setTop (entryFrame m #[(.int p0), (.int p1), (.int p2), (.int p3), (.int p4), (.int p5)] maxLocals)) t := fun t k => k130 t (by
    show Steps p.tables e below (T110.setTop (mkF m 70 #[.val (.int p0), .val (.int p1), .val (.int p2), .val (.int p3), .val (.int p4), .val (.int p5), .val (.int i103), .val (.int i107), .val (.int v), .val (.int sc), .val (.int ca), .val (.int cc), .val (.int qa), .val (.int qc), .unset, .unset, .unset, .unset] [(.ref b110)])) _
    refine XS.dup X110.here hx rfl (hb hby at_70) rfl rfl ?_
    show Steps p.tables e below (T110.setTop (mkF m 71 #[.val (.int p0), .val (.int p1), .val (.int p2), .val (.int p3), .val (.int p4), .val (.int p5), .val (.int i103), .val (.int i107), .val (.int v), .val (.int sc), .val (.int ca), .val (.int cc), .val (.int qa), .val (.int qc), .unset, .unset, .unset, .unset] [(.ref b110), (.ref b110)])) _
    refine XS.iconst X110.here hx rfl (hb hby at_71) ?_
    show Steps p.tables e below (T110.setTop (mkF m 72 #[.val (.int p0), .val (.int p1), .val (.int p2), .val (.int p3), .val (.int p4), .val (.int p5), .val (.int i103), .val (.int i107), .val (.int v), .val (.int sc), .val (.int ca), .val (.int cc), .val (.int qa), .val (.int qc), .unset, .unset, .unset, .unset] [(.int (2 : Int32)), (.ref b110), (.ref b110)])) _
    refine XS.iconst X110.here hx rfl (hb hby at_72) ?_
    exact k)
  obtain ⟨_, _, ⟨T132, L132, k132, n132⟩, -, X132, ⟨Lc132, hQ132, l132, y132, z132⟩, st132⟩ := X110.specialBack hx (y := (⟨"com/example/istra/istra/engine/NodeModel", "<init>", "(II)V"⟩ : MethodName)) rfl hown (mvT hZ (hw _ (List.mem_of_getElem? (i := 4) rfl))) (mvT hZ (hw _ (List.mem_of_getElem? (i := 5) rfl))) (mvT hZ (hw _ (List.mem_of_getElem? (i := 6) rfl))) (by decide) (backOf (W := 1) (rm1 l Z a0 hw [] b110 h110 n0 Z112 F113 F114 F115 F116 F117 F118 F119 F120 F121 F122 F123 F124 F125 F126 F127 F128 F129 A110 g111) hZ (hw _ (List.mem_of_getElem? (i := 6) rfl)) (hw _ (List.mem_of_getElem? (i := 3) rfl)) (by decide) (by decide)) (g := (mkF m 73 #[.val (.int p0), .val (.int p1), .val (.int p2), .val (.int p3), .val (.int p4), .val (.int p5), .val (.int i103), .val (.int i107), .val (.int v), .val (.int sc), .val (.int ca), .val (.int cc), .val (.int qa), .val (.int qc), .unset, .unset, .unset, .unset] [(.int (3 : Int32)), (.int (2 : Int32)), (.ref b110), (.ref b110)])) rfl (by rw [hml]; rfl) (Steps.refl _) (a := b110) (argsL := [(.int (2 : Int32)), (.int (3 : Int32))]) (rest := [(.ref b110)]) (lenOf pd__28II_29V rfl) rfl (by show 2 * 0 + _ ≤ _; exact Nat.le_of_eq rfl) (hb hby at_73) (fun _ _ => ⟨rfl, e110, (by decide : 1 + 13 ≤ _), (by decide : 17 + 48 ≤ _)⟩)
  dsimp only [Pt.U, Pt.locs, Pt.cells, Pt.slots] at X132 l132 y132 z132 st132 hQ132
  subst l132 y132 z132
  obtain ⟨h132, e132⟩ : ∃ h', T132.heap = h' := ⟨_, rfl⟩
  rw [e132] at hQ132
  obtain ⟨bs, bc, ks, kc, rfl, N132q, K132, gs, gc, ns, nc, nsc, G132e, G132s, G132c, G132_0, G132_1, G132_2, G132_3, Vs, Vc⟩ := hQ132
  have N133 := Fr.app N0 N132q
  have k134 : ∀ t, Steps p.tables e below (T132.setTop (mkF m 76 #[.val (.int p0), .val (.int p1), .val (.int p2), .val (.int p3), .val (.int p4), .val (.int p5), .val (.int i103), .val (.int i107), .val (.int v), .val (.int sc), .val (.int ca), .val (.int cc), .val (.int qa), .val (.int qc), .unset, .unset, .unset, .unset] [(.ref b110)])) t → Steps p.tables e below (s₁.setTop (entryFrame m #[(.int p0), (.int p1), (.int p2), (.int p3), (.int p4), (.int p5)] maxLocals)) t := fun t k => k131 t (st132.trans k)
  have F135 := A110.keep K132
  have Z136 : n0 ≤ h132.size := Nat.le_trans Z112 K132.1
  have k137 : ∀ t, Steps p.tables e below (T132.setTop (mkF m 82 #[.val (.int p0), .val (.int p1), .val (.int p2), .val (.int p3), .val (.int p4), .val (.int p5), .val (.int i103), .val (.int i107), .val (.int v), .val (.int sc), .val (.int ca), .val (.int cc), .val (.int qa), .val (.int qc), .val (.ref b110), .unset, .unset, .unset] [(.int (3 : Int32)), (.int (2 : Int32)), (.ref b110)])) t → Steps p.tables e below (s₁.setTop (entryFrame m #[(.int p0), (.int p1), (.int p2), (.int p3), (.int p4), (.int p5)] maxLocals)) t := fun t k => k134 t (by
    show Steps p.tables e below (T132.setTop (mkF m 76 #[.val (.int p0), .val (.int p1), .val (.int p2), .val (.int p3), .val (.int p4), .val (.int p5), .val (.int i103), .val (.int i107), .val (.int v), .val (.int sc), .val (.int ca), .val (.int cc), .val (.int qa), .val (.int qc), .unset, .unset, .unset, .unset] [(.ref b110)])) _
    refine XS.astore X132.here hx rfl (hb hby at_76) rfl rfl (l' := #[.val (.int p0), .val (.int p1), .val (.int p2), .val (.int p3), .val (.int p4), .val (.int p5), .val (.int i103), .val (.int i107), .val (.int v), .val (.int sc), .val (.int ca), .val (.int cc), .val (.int qa), .val (.int qc), .val (.ref b110), .unset, .unset, .unset]) rfl ?_
    show Steps p.tables e below (T132.setTop (mkF m 78 #[.val (.int p0), .val (.int p1), .val (.int p2), .val (.int p3), .val (.int p4), .val (.int p5), .val (.int i103), .val (.int i107), .val (.int v), .val (.int sc), .val (.int ca), .val (.int cc), .val (.int qa), .val (.int qc), .val (.ref b110), .unset, .unset, .unset] [])) _
    refine XS.aload X132.here hx rfl (hb hby at_78) rfl rfl ?_
    show Steps p.tables e below (T132.setTop (mkF m 80 #[.val (.int p0), .val (.int p1), .val (.int p2), .val (.int p3), .val (.int p4), .val (.int p5), .val (.int i103), .val (.int i107), .val (.int v), .val (.int sc), .val (.int ca), .val (.int cc), .val (.int qa), .val (.int qc), .val (.ref b110), .unset, .unset, .unset] [(.ref b110)])) _
    refine XS.iconst X132.here hx rfl (hb hby at_80) ?_
    show Steps p.tables e below (T132.setTop (mkF m 81 #[.val (.int p0), .val (.int p1), .val (.int p2), .val (.int p3), .val (.int p4), .val (.int p5), .val (.int i103), .val (.int i107), .val (.int v), .val (.int sc), .val (.int ca), .val (.int cc), .val (.int qa), .val (.int qc), .val (.ref b110), .unset, .unset, .unset] [(.int (2 : Int32)), (.ref b110)])) _
    refine XS.iconst X132.here hx rfl (hb hby at_81) ?_
    exact k)
  obtain ⟨cq138, kq138, q138a, q138b, q138c⟩ := isOf hZ e132 G132e
  obtain ⟨_, _, ⟨T138, L138, k138, n138⟩, -, X138, ⟨Lc138, hQ138, l138, y138, z138⟩, st138⟩ := X132.virtualBack hx (y := (⟨"com/example/istra/istra/engine/NodeModel", "open", "(II)V"⟩ : MethodName)) (z := (⟨"com/example/istra/istra/engine/NodeModel", "open", "(II)V"⟩ : MethodName)) hown (mvT hZ (hw _ (List.mem_of_getElem? (i := 39) rfl))) (mvT hZ (hw _ (List.mem_of_getElem? (i := 40) rfl))) (notFace_of_selects (args := #[]) (mvT hZ (hw _ (List.mem_of_getElem? (i := 42) rfl)))) (mvT hZ (hw _ (List.mem_of_getElem? (i := 42) rfl))) (mvT hZ (hw _ (List.mem_of_getElem? (i := 41) rfl))) (by decide) (backOf (W := 0) (rm3 l Z a0 hw [] b110 bs bc ks kc h132 n0 Z136 G132_0 G132_1 G132_2 G132_3 G132s G132c G132e Vs Vc g111 gs gc ns nc nsc) hZ (hw _ (List.mem_of_getElem? (i := 43) rfl)) (hw _ (List.mem_of_getElem? (i := 3) rfl)) (by decide) (by decide)) q138a q138c (g := (mkF m 82 #[.val (.int p0), .val (.int p1), .val (.int p2), .val (.int p3), .val (.int p4), .val (.int p5), .val (.int i103), .val (.int i107), .val (.int v), .val (.int sc), .val (.int ca), .val (.int cc), .val (.int qa), .val (.int qc), .val (.ref b110), .unset, .unset, .unset] [(.int (3 : Int32)), (.int (2 : Int32)), (.ref b110)])) rfl (by rw [hml]; rfl) (Steps.refl _) (argsL := [(.int (2 : Int32)), (.int (3 : Int32))]) (rest := []) (lenOf pd__28II_29V rfl) rfl (by show 2 * 0 + _ ≤ _; exact Nat.le_of_eq rfl) (hb hby at_82) (fun _ _ => ⟨rfl, e132, (by decide : 14 + 0 ≤ _), (by decide : 65 + 0 ≤ _)⟩)
  dsimp only [Pt.U, Pt.locs, Pt.cells, Pt.slots] at X138 l138 y138 z138 st138 hQ138
  subst l138 y138 z138
  obtain ⟨h138, e138⟩ : ∃ h', T138.heap = h' := ⟨_, rfl⟩
  rw [e138] at hQ138
  obtain ⟨rfl, N138q, K138, G138e, G138_0, G138_1, G138_2, G138_3, G138s, G138c, G138V, G138W⟩ := hQ138
  have N139 := Fr.app N133 N138q
  have k140 : ∀ t, Steps p.tables e below (T138.setTop (mkF m 85 #[.val (.int p0), .val (.int p1), .val (.int p2), .val (.int p3), .val (.int p4), .val (.int p5), .val (.int i103), .val (.int i107), .val (.int v), .val (.int sc), .val (.int ca), .val (.int cc), .val (.int qa), .val (.int qc), .val (.ref b110), .unset, .unset, .unset] [])) t → Steps p.tables e below (s₁.setTop (entryFrame m #[(.int p0), (.int p1), (.int p2), (.int p3), (.int p4), (.int p5)] maxLocals)) t := fun t k => k137 t (st138.trans k)
  have F141 := G132e.keep K138
  have F142 := Vc.keep K138 (ninS (Ne.symm nc) (ninS (Ne.symm nsc) nin0))
  have Z143 : n0 ≤ h138.size := Nat.le_trans Z136 K138.1
  have k144 : ∀ t, Steps p.tables e below (T138.setTop (mkF m 87 #[.val (.int p0), .val (.int p1), .val (.int p2), .val (.int p3), .val (.int p4), .val (.int p5), .val (.int i103), .val (.int i107), .val (.int v), .val (.int sc), .val (.int ca), .val (.int cc), .val (.int qa), .val (.int qc), .val (.ref b110), .unset, .unset, .unset] [(.int i103)])) t → Steps p.tables e below (s₁.setTop (entryFrame m #[(.int p0), (.int p1), (.int p2), (.int p3), (.int p4), (.int p5)] maxLocals)) t := fun t k => k140 t (by
    show Steps p.tables e below (T138.setTop (mkF m 85 #[.val (.int p0), .val (.int p1), .val (.int p2), .val (.int p3), .val (.int p4), .val (.int p5), .val (.int i103), .val (.int i107), .val (.int v), .val (.int sc), .val (.int ca), .val (.int cc), .val (.int qa), .val (.int qc), .val (.ref b110), .unset, .unset, .unset] [])) _
    refine XS.iload X138.here hx rfl (hb hby at_85) rfl ?_
    exact k)
  obtain ⟨vv, hvv⟩ : ∃ z : UInt64, z = FP.i2d v := ⟨_, rfl⟩
  obtain ⟨T145, h145, Ls145, s0, s1, s2, X145, e145, N145, Zq145, F160, F161, F162, F163, F164, F165, F166, F167, F168, hs0, hs1, hs2, kq145⟩ : ∃ (T145 : State) (h145 : Heap) (Ls145 : List Loc) (s0 : UInt64) (s1 : UInt64) (s2 : UInt64), Stand p l e room_1 s m #[(.int p0), (.int p1), (.int p2), (.int p3), (.int p4), (.int p5)] below meth c T145 Ls145 14 65 ∧ T145.heap = h145 ∧ Fr n0 Ls145 ∧ n0 ≤ h145.size ∧ Exa Z h145 b110 "com/example/istra/istra/engine/NodeModel" ∧ Fld Z h145 b110 "com/example/istra/istra/engine/NodeModel" "supply" "[D" (.ref bs) ∧ Fld Z h145 b110 "com/example/istra/istra/engine/NodeModel" "closed" "[Z" (.ref bc) ∧ Fld Z h145 b110 "com/example/istra/istra/engine/NodeModel" "wantingCount" "I" (.int (0 : Int32)) ∧ Fld Z h145 b110 "com/example/istra/istra/engine/NodeModel" "approaches" "I" (.int (2 : Int32)) ∧ Fld Z h145 b110 "com/example/istra/istra/engine/NodeModel" "columns" "I" (.int (3 : Int32)) ∧ Fld Z h145 b110 "com/example/istra/istra/engine/NodeModel" "anyClosed" "Z" (.int (0 : Int32)) ∧ Arv Z h145 bs ks .double (3 : Int32) [(.double s0), (.double s1), (.double s2)] (.double (0 : UInt64)) ∧ Arv Z h145 bc kc .boolean (6 : Int32) [(.int (0 : Int32)), (.int (0 : Int32)), (.int (0 : Int32)), (.int (0 : Int32)), (.int (0 : Int32)), (.int (0 : Int32))] (.int (0 : Int32)) ∧ s0 = (if i103 = (0 : Int32) then (9218868437227405312 : UInt64) else (if sc = (0 : Int32) then vv else (9218868437227405312 : UInt64))) ∧ s1 = (if i103 = (0 : Int32) then (9218868437227405312 : UInt64) else (if sc = (1 : Int32) then vv else (9218868437227405312 : UInt64))) ∧ s2 = (if i103 = (0 : Int32) then (9218868437227405312 : UInt64) else (if sc = (2 : Int32) then vv else (9218868437227405312 : UInt64))) ∧ ∀ t, Steps p.tables e below (T145.setTop (mkF m 100 #[.val (.int p0), .val (.int p1), .val (.int p2), .val (.int p3), .val (.int p4), .val (.int p5), .val (.int i103), .val (.int i107), .val (.int v), .val (.int sc), .val (.int ca), .val (.int cc), .val (.int qa), .val (.int qc), .val (.ref b110), .unset, .unset, .unset] [])) t → Steps p.tables e below (s₁.setTop (entryFrame m #[(.int p0), (.int p1), (.int p2), (.int p3), (.int p4), (.int p5)] maxLocals)) t := by
    by_cases f1 : i103 = (0 : Int32)
    · have k146 : ∀ t, Steps p.tables e below (T138.setTop (mkF m 100 #[.val (.int p0), .val (.int p1), .val (.int p2), .val (.int p3), .val (.int p4), .val (.int p5), .val (.int i103), .val (.int i107), .val (.int v), .val (.int sc), .val (.int ca), .val (.int cc), .val (.int qa), .val (.int qc), .val (.ref b110), .unset, .unset, .unset] [])) t → Steps p.tables e below (s₁.setTop (entryFrame m #[(.int p0), (.int p1), (.int p2), (.int p3), (.int p4), (.int p5)] maxLocals)) t := fun t k => k144 t (by
        show Steps p.tables e below (T138.setTop (mkF m 87 #[.val (.int p0), .val (.int p1), .val (.int p2), .val (.int p3), .val (.int p4), .val (.int p5), .val (.int i103), .val (.int i107), .val (.int v), .val (.int sc), .val (.int ca), .val (.int cc), .val (.int qa), .val (.int qc), .val (.ref b110), .unset, .unset, .unset] [(.int i103)])) _
        refine XS.ifYes X138.here hx rfl (pc0 := 87) (pc' := 100) rfl (hb hby at_87) rfl ((if0 _ _).trans (teq f1).1) (by decide) (by decide) ?_
        exact k)
      exact ⟨T138, h138, _, (9218868437227405312 : UInt64), (9218868437227405312 : UInt64), (9218868437227405312 : UInt64), X138, e138, N139, Z143, G138e, G138s, G138c, G138_0, G138_1, G138_2, G138_3, G138V, G138W, (by rw [if_pos f1]), (by rw [if_pos f1]), (by rw [if_pos f1]), k146⟩
    · obtain ⟨vv2, hvv2⟩ : ∃ z : UInt64, FP.i2d v = z := ⟨_, rfl⟩
      have evv : vv2 = vv := by rw [hvv, ← hvv2]
      have k147 : ∀ t, Steps p.tables e below (T138.setTop (mkF m 97 #[.val (.int p0), .val (.int p1), .val (.int p2), .val (.int p3), .val (.int p4), .val (.int p5), .val (.int i103), .val (.int i107), .val (.int v), .val (.int sc), .val (.int ca), .val (.int cc), .val (.int qa), .val (.int qc), .val (.ref b110), .unset, .unset, .unset] [(.double vv2), (.int sc), (.ref b110)])) t → Steps p.tables e below (s₁.setTop (entryFrame m #[(.int p0), (.int p1), (.int p2), (.int p3), (.int p4), (.int p5)] maxLocals)) t := fun t k => k144 t (by
        show Steps p.tables e below (T138.setTop (mkF m 87 #[.val (.int p0), .val (.int p1), .val (.int p2), .val (.int p3), .val (.int p4), .val (.int p5), .val (.int i103), .val (.int i107), .val (.int v), .val (.int sc), .val (.int ca), .val (.int cc), .val (.int qa), .val (.int qc), .val (.ref b110), .unset, .unset, .unset] [(.int i103)])) _
        refine XS.ifNo X138.here hx rfl (hb hby at_87) rfl ((if0 _ _).trans (feq f1).1) ?_
        show Steps p.tables e below (T138.setTop (mkF m 90 #[.val (.int p0), .val (.int p1), .val (.int p2), .val (.int p3), .val (.int p4), .val (.int p5), .val (.int i103), .val (.int i107), .val (.int v), .val (.int sc), .val (.int ca), .val (.int cc), .val (.int qa), .val (.int qc), .val (.ref b110), .unset, .unset, .unset] [])) _
        refine XS.aload X138.here hx rfl (hb hby at_90) rfl rfl ?_
        show Steps p.tables e below (T138.setTop (mkF m 92 #[.val (.int p0), .val (.int p1), .val (.int p2), .val (.int p3), .val (.int p4), .val (.int p5), .val (.int i103), .val (.int i107), .val (.int v), .val (.int sc), .val (.int ca), .val (.int cc), .val (.int qa), .val (.int qc), .val (.ref b110), .unset, .unset, .unset] [(.ref b110)])) _
        refine XS.iload X138.here hx rfl (hb hby at_92) rfl ?_
        show Steps p.tables e below (T138.setTop (mkF m 94 #[.val (.int p0), .val (.int p1), .val (.int p2), .val (.int p3), .val (.int p4), .val (.int p5), .val (.int i103), .val (.int i107), .val (.int v), .val (.int sc), .val (.int ca), .val (.int cc), .val (.int qa), .val (.int qc), .val (.ref b110), .unset, .unset, .unset] [(.int sc), (.ref b110)])) _
        refine XS.iload X138.here hx rfl (hb hby at_94) rfl ?_
        show Steps p.tables e below (T138.setTop (mkF m 96 #[.val (.int p0), .val (.int p1), .val (.int p2), .val (.int p3), .val (.int p4), .val (.int p5), .val (.int i103), .val (.int i107), .val (.int v), .val (.int sc), .val (.int ca), .val (.int cc), .val (.int qa), .val (.int qc), .val (.ref b110), .unset, .unset, .unset] [(.int v), (.int sc), (.ref b110)])) _
        refine XS.i2dS X138.here hx rfl (hb hby at_96) rfl hvv2 ?_
        exact k)
      obtain ⟨cq148, kq148, q148a, q148b, q148c⟩ := isOf hZ e138 G138e
      obtain ⟨_, _, ⟨T148, L148, k148, n148⟩, -, X148, ⟨Lc148, hQ148, l148, y148, z148⟩, st148⟩ := X138.virtualBack hx (y := (⟨"com/example/istra/istra/engine/NodeModel", "supply", "(ID)V"⟩ : MethodName)) (z := (⟨"com/example/istra/istra/engine/NodeModel", "supply", "(ID)V"⟩ : MethodName)) hown (mvT hZ (hw _ (List.mem_of_getElem? (i := 58) rfl))) (mvT hZ (hw _ (List.mem_of_getElem? (i := 59) rfl))) (notFace_of_selects (args := #[]) (mvT hZ (hw _ (List.mem_of_getElem? (i := 61) rfl)))) (mvT hZ (hw _ (List.mem_of_getElem? (i := 61) rfl))) (mvT hZ (hw _ (List.mem_of_getElem? (i := 60) rfl))) (by decide) (backOf (W := 0) (rm5 l Z a0 hw [] b110 bs bc ks kc sc vv2 (0 : Int32) (9218868437227405312 : UInt64) (9218868437227405312 : UInt64) (9218868437227405312 : UInt64) (0 : Int32) (0 : Int32) (0 : Int32) (0 : Int32) (0 : Int32) (0 : Int32) h138 n0 Z143 G138_0 G138_1 G138_2 G138_3 G138s G138c G138e G138V G138W g111 gs gc ns nc nsc Bsc) hZ (hw _ (List.mem_of_getElem? (i := 62) rfl)) (hw _ (List.mem_of_getElem? (i := 3) rfl)) (by decide) (by decide)) q148a q148c (g := (mkF m 97 #[.val (.int p0), .val (.int p1), .val (.int p2), .val (.int p3), .val (.int p4), .val (.int p5), .val (.int i103), .val (.int i107), .val (.int v), .val (.int sc), .val (.int ca), .val (.int cc), .val (.int qa), .val (.int qc), .val (.ref b110), .unset, .unset, .unset] [(.double vv2), (.int sc), (.ref b110)])) rfl (by rw [hml]; rfl) (Steps.refl _) (argsL := [(.int sc), (.double vv2)]) (rest := []) (lenOf pd__28ID_29V rfl) rfl (by show 2 * 0 + _ ≤ _; exact Nat.le_of_eq rfl) (hb hby at_97) (fun _ _ => ⟨rfl, e138, (by decide : 14 + 0 ≤ _), (by decide : 65 + 0 ≤ _)⟩)
      dsimp only [Pt.U, Pt.locs, Pt.cells, Pt.slots] at X148 l148 y148 z148 st148 hQ148
      subst l148 y148 z148
      obtain ⟨h148, e148⟩ : ∃ h', T148.heap = h' := ⟨_, rfl⟩
      rw [e148] at hQ148
      obtain ⟨rfl, N148q, K148, G148e, G148_0, G148_1, G148_2, G148_3, G148s, G148c, G148V, G148W⟩ := hQ148
      have N149 := Fr.app N139 N148q
      have k150 : ∀ t, Steps p.tables e below (T148.setTop (mkF m 100 #[.val (.int p0), .val (.int p1), .val (.int p2), .val (.int p3), .val (.int p4), .val (.int p5), .val (.int i103), .val (.int i107), .val (.int v), .val (.int sc), .val (.int ca), .val (.int cc), .val (.int qa), .val (.int qc), .val (.ref b110), .unset, .unset, .unset] [])) t → Steps p.tables e below (s₁.setTop (entryFrame m #[(.int p0), (.int p1), (.int p2), (.int p3), (.int p4), (.int p5)] maxLocals)) t := fun t k => k147 t (st148.trans k)
      have F151 := G138e.keep K148
      have F152 := G138s.keep K148 (ninS ns nin0)
      have F153 := G138c.keep K148 (ninS ns nin0)
      have F154 := G138_0.keep K148 (ninS ns nin0)
      have F155 := G138_1.keep K148 (ninS ns nin0)
      have F156 := G138_2.keep K148 (ninS ns nin0)
      have F157 := G138_3.keep K148 (ninS ns nin0)
      have F158 := G138W.keep K148 (ninS (Ne.symm nsc) nin0)
      have Z159 : n0 ≤ h148.size := Nat.le_trans Z143 K148.1
      exact ⟨T148, h148, _, (if sc = (0 : Int32) then vv2 else (9218868437227405312 : UInt64)), (if sc = (1 : Int32) then vv2 else (9218868437227405312 : UInt64)), (if sc = (2 : Int32) then vv2 else (9218868437227405312 : UInt64)), X148, e148, N149, Z159, G148e, G148s, G148c, G148_0, G148_1, G148_2, G148_3, G148V, G148W, (by rw [if_neg f1, evv]), (by rw [if_neg f1, evv]), (by rw [if_neg f1, evv]), k150⟩
  have k169 : ∀ t, Steps p.tables e below (T145.setTop (mkF m 102 #[.val (.int p0), .val (.int p1), .val (.int p2), .val (.int p3), .val (.int p4), .val (.int p5), .val (.int i103), .val (.int i107), .val (.int v), .val (.int sc), .val (.int ca), .val (.int cc), .val (.int qa), .val (.int qc), .val (.ref b110), .unset, .unset, .unset] [(.int i107)])) t → Steps p.tables e below (s₁.setTop (entryFrame m #[(.int p0), (.int p1), (.int p2), (.int p3), (.int p4), (.int p5)] maxLocals)) t := fun t k => kq145 t (by
    show Steps p.tables e below (T145.setTop (mkF m 100 #[.val (.int p0), .val (.int p1), .val (.int p2), .val (.int p3), .val (.int p4), .val (.int p5), .val (.int i103), .val (.int i107), .val (.int v), .val (.int sc), .val (.int ca), .val (.int cc), .val (.int qa), .val (.int qc), .val (.ref b110), .unset, .unset, .unset] [])) _
    refine XS.iload X145.here hx rfl (hb hby at_100) rfl ?_
    exact k)
  obtain ⟨T170, h170, Ls170, y, x0, x1, x2, x3, x4, x5, X170, e170, N170, Zq170, F179, F180, F181, F182, F183, F184, F185, F186, F187, hx0, hx1, hx2, hx3, hx4, hx5, kq170⟩ : ∃ (T170 : State) (h170 : Heap) (Ls170 : List Loc) (y : Int32) (x0 : Int32) (x1 : Int32) (x2 : Int32) (x3 : Int32) (x4 : Int32) (x5 : Int32), Stand p l e room_1 s m #[(.int p0), (.int p1), (.int p2), (.int p3), (.int p4), (.int p5)] below meth c T170 Ls170 14 65 ∧ T170.heap = h170 ∧ Fr n0 Ls170 ∧ n0 ≤ h170.size ∧ Exa Z h170 b110 "com/example/istra/istra/engine/NodeModel" ∧ Fld Z h170 b110 "com/example/istra/istra/engine/NodeModel" "supply" "[D" (.ref bs) ∧ Fld Z h170 b110 "com/example/istra/istra/engine/NodeModel" "closed" "[Z" (.ref bc) ∧ Fld Z h170 b110 "com/example/istra/istra/engine/NodeModel" "wantingCount" "I" (.int (0 : Int32)) ∧ Fld Z h170 b110 "com/example/istra/istra/engine/NodeModel" "approaches" "I" (.int (2 : Int32)) ∧ Fld Z h170 b110 "com/example/istra/istra/engine/NodeModel" "columns" "I" (.int (3 : Int32)) ∧ Fld Z h170 b110 "com/example/istra/istra/engine/NodeModel" "anyClosed" "Z" (.int y) ∧ Arv Z h170 bs ks .double (3 : Int32) [(.double s0), (.double s1), (.double s2)] (.double (0 : UInt64)) ∧ Arv Z h170 bc kc .boolean (6 : Int32) [(.int x0), (.int x1), (.int x2), (.int x3), (.int x4), (.int x5)] (.int (0 : Int32)) ∧ x0 = (if i107 = (0 : Int32) then (0 : Int32) else (if ca = (0 : Int32) ∧ cc = (0 : Int32) then (1 : Int32) else (0 : Int32))) ∧ x1 = (if i107 = (0 : Int32) then (0 : Int32) else (if ca = (0 : Int32) ∧ cc = (1 : Int32) then (1 : Int32) else (0 : Int32))) ∧ x2 = (if i107 = (0 : Int32) then (0 : Int32) else (if ca = (0 : Int32) ∧ cc = (2 : Int32) then (1 : Int32) else (0 : Int32))) ∧ x3 = (if i107 = (0 : Int32) then (0 : Int32) else (if ca = (1 : Int32) ∧ cc = (0 : Int32) then (1 : Int32) else (0 : Int32))) ∧ x4 = (if i107 = (0 : Int32) then (0 : Int32) else (if ca = (1 : Int32) ∧ cc = (1 : Int32) then (1 : Int32) else (0 : Int32))) ∧ x5 = (if i107 = (0 : Int32) then (0 : Int32) else (if ca = (1 : Int32) ∧ cc = (2 : Int32) then (1 : Int32) else (0 : Int32))) ∧ ∀ t, Steps p.tables e below (T170.setTop (mkF m 114 #[.val (.int p0), .val (.int p1), .val (.int p2), .val (.int p3), .val (.int p4), .val (.int p5), .val (.int i103), .val (.int i107), .val (.int v), .val (.int sc), .val (.int ca), .val (.int cc), .val (.int qa), .val (.int qc), .val (.ref b110), .unset, .unset, .unset] [])) t → Steps p.tables e below (s₁.setTop (entryFrame m #[(.int p0), (.int p1), (.int p2), (.int p3), (.int p4), (.int p5)] maxLocals)) t := by
    by_cases f2 : i107 = (0 : Int32)
    · have k171 : ∀ t, Steps p.tables e below (T145.setTop (mkF m 114 #[.val (.int p0), .val (.int p1), .val (.int p2), .val (.int p3), .val (.int p4), .val (.int p5), .val (.int i103), .val (.int i107), .val (.int v), .val (.int sc), .val (.int ca), .val (.int cc), .val (.int qa), .val (.int qc), .val (.ref b110), .unset, .unset, .unset] [])) t → Steps p.tables e below (s₁.setTop (entryFrame m #[(.int p0), (.int p1), (.int p2), (.int p3), (.int p4), (.int p5)] maxLocals)) t := fun t k => k169 t (by
        show Steps p.tables e below (T145.setTop (mkF m 102 #[.val (.int p0), .val (.int p1), .val (.int p2), .val (.int p3), .val (.int p4), .val (.int p5), .val (.int i103), .val (.int i107), .val (.int v), .val (.int sc), .val (.int ca), .val (.int cc), .val (.int qa), .val (.int qc), .val (.ref b110), .unset, .unset, .unset] [(.int i107)])) _
        refine XS.ifYes X145.here hx rfl (pc0 := 102) (pc' := 114) rfl (hb hby at_102) rfl ((if0 _ _).trans (teq f2).1) (by decide) (by decide) ?_
        exact k)
      exact ⟨T145, h145, _, (0 : Int32), (0 : Int32), (0 : Int32), (0 : Int32), (0 : Int32), (0 : Int32), (0 : Int32), X145, e145, N145, Zq145, F160, F161, F162, F163, F164, F165, F166, F167, F168, (by rw [if_pos f2]), (by rw [if_pos f2]), (by rw [if_pos f2]), (by rw [if_pos f2]), (by rw [if_pos f2]), (by rw [if_pos f2]), k171⟩
    · have k172 : ∀ t, Steps p.tables e below (T145.setTop (mkF m 111 #[.val (.int p0), .val (.int p1), .val (.int p2), .val (.int p3), .val (.int p4), .val (.int p5), .val (.int i103), .val (.int i107), .val (.int v), .val (.int sc), .val (.int ca), .val (.int cc), .val (.int qa), .val (.int qc), .val (.ref b110), .unset, .unset, .unset] [(.int cc), (.int ca), (.ref b110)])) t → Steps p.tables e below (s₁.setTop (entryFrame m #[(.int p0), (.int p1), (.int p2), (.int p3), (.int p4), (.int p5)] maxLocals)) t := fun t k => k169 t (by
        show Steps p.tables e below (T145.setTop (mkF m 102 #[.val (.int p0), .val (.int p1), .val (.int p2), .val (.int p3), .val (.int p4), .val (.int p5), .val (.int i103), .val (.int i107), .val (.int v), .val (.int sc), .val (.int ca), .val (.int cc), .val (.int qa), .val (.int qc), .val (.ref b110), .unset, .unset, .unset] [(.int i107)])) _
        refine XS.ifNo X145.here hx rfl (hb hby at_102) rfl ((if0 _ _).trans (feq f2).1) ?_
        show Steps p.tables e below (T145.setTop (mkF m 105 #[.val (.int p0), .val (.int p1), .val (.int p2), .val (.int p3), .val (.int p4), .val (.int p5), .val (.int i103), .val (.int i107), .val (.int v), .val (.int sc), .val (.int ca), .val (.int cc), .val (.int qa), .val (.int qc), .val (.ref b110), .unset, .unset, .unset] [])) _
        refine XS.aload X145.here hx rfl (hb hby at_105) rfl rfl ?_
        show Steps p.tables e below (T145.setTop (mkF m 107 #[.val (.int p0), .val (.int p1), .val (.int p2), .val (.int p3), .val (.int p4), .val (.int p5), .val (.int i103), .val (.int i107), .val (.int v), .val (.int sc), .val (.int ca), .val (.int cc), .val (.int qa), .val (.int qc), .val (.ref b110), .unset, .unset, .unset] [(.ref b110)])) _
        refine XS.iload X145.here hx rfl (hb hby at_107) rfl ?_
        show Steps p.tables e below (T145.setTop (mkF m 109 #[.val (.int p0), .val (.int p1), .val (.int p2), .val (.int p3), .val (.int p4), .val (.int p5), .val (.int i103), .val (.int i107), .val (.int v), .val (.int sc), .val (.int ca), .val (.int cc), .val (.int qa), .val (.int qc), .val (.ref b110), .unset, .unset, .unset] [(.int ca), (.ref b110)])) _
        refine XS.iload X145.here hx rfl (hb hby at_109) rfl ?_
        exact k)
      obtain ⟨cq173, kq173, q173a, q173b, q173c⟩ := isOf hZ e145 F160
      obtain ⟨_, _, ⟨T173, L173, k173, n173⟩, -, X173, ⟨Lc173, hQ173, l173, y173, z173⟩, st173⟩ := X145.virtualBack hx (y := (⟨"com/example/istra/istra/engine/NodeModel", "close", "(II)V"⟩ : MethodName)) (z := (⟨"com/example/istra/istra/engine/NodeModel", "close", "(II)V"⟩ : MethodName)) hown (mvT hZ (hw _ (List.mem_of_getElem? (i := 63) rfl))) (mvT hZ (hw _ (List.mem_of_getElem? (i := 64) rfl))) (notFace_of_selects (args := #[]) (mvT hZ (hw _ (List.mem_of_getElem? (i := 66) rfl)))) (mvT hZ (hw _ (List.mem_of_getElem? (i := 66) rfl))) (mvT hZ (hw _ (List.mem_of_getElem? (i := 65) rfl))) (by decide) (backOf (W := 0) (rm6 l Z a0 hw [] b110 bs bc ks kc ca cc (0 : Int32) s0 s1 s2 (0 : Int32) (0 : Int32) (0 : Int32) (0 : Int32) (0 : Int32) (0 : Int32) h145 n0 Zq145 F163 F164 F165 F166 F161 F162 F160 F167 F168 g111 gs gc ns nc nsc Bca Bcc) hZ (hw _ (List.mem_of_getElem? (i := 67) rfl)) (hw _ (List.mem_of_getElem? (i := 3) rfl)) (by decide) (by decide)) q173a q173c (g := (mkF m 111 #[.val (.int p0), .val (.int p1), .val (.int p2), .val (.int p3), .val (.int p4), .val (.int p5), .val (.int i103), .val (.int i107), .val (.int v), .val (.int sc), .val (.int ca), .val (.int cc), .val (.int qa), .val (.int qc), .val (.ref b110), .unset, .unset, .unset] [(.int cc), (.int ca), (.ref b110)])) rfl (by rw [hml]; rfl) (Steps.refl _) (argsL := [(.int ca), (.int cc)]) (rest := []) (lenOf pd__28II_29V rfl) rfl (by show 2 * 0 + _ ≤ _; exact Nat.le_of_eq rfl) (hb hby at_111) (fun _ _ => ⟨rfl, e145, (by decide : 14 + 0 ≤ _), (by decide : 65 + 0 ≤ _)⟩)
      dsimp only [Pt.U, Pt.locs, Pt.cells, Pt.slots] at X173 l173 y173 z173 st173 hQ173
      subst l173 y173 z173
      obtain ⟨h173, e173⟩ : ∃ h', T173.heap = h' := ⟨_, rfl⟩
      rw [e173] at hQ173
      obtain ⟨rfl, N173q, K173, G173e, G173_0, G173_1, G173_2, G173_3, G173s, G173c, G173V, G173W⟩ := hQ173
      have N174 := Fr.app N145 N173q
      have k175 : ∀ t, Steps p.tables e below (T173.setTop (mkF m 114 #[.val (.int p0), .val (.int p1), .val (.int p2), .val (.int p3), .val (.int p4), .val (.int p5), .val (.int i103), .val (.int i107), .val (.int v), .val (.int sc), .val (.int ca), .val (.int cc), .val (.int qa), .val (.int qc), .val (.ref b110), .unset, .unset, .unset] [])) t → Steps p.tables e below (s₁.setTop (entryFrame m #[(.int p0), (.int p1), (.int p2), (.int p3), (.int p4), (.int p5)] maxLocals)) t := fun t k => k172 t (st173.trans k)
      have F176 := F160.keep K173
      have F177 := F167.keep K173 (ninS (Ne.symm ns) (ninS nsc nin0))
      have Z178 : n0 ≤ h173.size := Nat.le_trans Zq145 K173.1
      exact ⟨T173, h173, _, (1 : Int32), (if ca = (0 : Int32) ∧ cc = (0 : Int32) then (1 : Int32) else (0 : Int32)), (if ca = (0 : Int32) ∧ cc = (1 : Int32) then (1 : Int32) else (0 : Int32)), (if ca = (0 : Int32) ∧ cc = (2 : Int32) then (1 : Int32) else (0 : Int32)), (if ca = (1 : Int32) ∧ cc = (0 : Int32) then (1 : Int32) else (0 : Int32)), (if ca = (1 : Int32) ∧ cc = (1 : Int32) then (1 : Int32) else (0 : Int32)), (if ca = (1 : Int32) ∧ cc = (2 : Int32) then (1 : Int32) else (0 : Int32)), X173, e173, N174, Z178, G173e, G173s, G173c, G173_0, G173_1, G173_2, G173_3, G173V, G173W, (by rw [if_neg f2]), (by rw [if_neg f2]), (by rw [if_neg f2]), (by rw [if_neg f2]), (by rw [if_neg f2]), (by rw [if_neg f2]), k175⟩
  have k188 : ∀ t, Steps p.tables e below (T170.setTop (mkF m 116 #[.val (.int p0), .val (.int p1), .val (.int p2), .val (.int p3), .val (.int p4), .val (.int p5), .val (.int i103), .val (.int i107), .val (.int v), .val (.int sc), .val (.int ca), .val (.int cc), .val (.int qa), .val (.int qc), .val (.ref b110), .unset, .unset, .unset] [(.int i103)])) t → Steps p.tables e below (s₁.setTop (entryFrame m #[(.int p0), (.int p1), (.int p2), (.int p3), (.int p4), (.int p5)] maxLocals)) t := fun t k => kq170 t (by
    show Steps p.tables e below (T170.setTop (mkF m 114 #[.val (.int p0), .val (.int p1), .val (.int p2), .val (.int p3), .val (.int p4), .val (.int p5), .val (.int i103), .val (.int i107), .val (.int v), .val (.int sc), .val (.int ca), .val (.int cc), .val (.int qa), .val (.int qc), .val (.ref b110), .unset, .unset, .unset] [])) _
    refine XS.iload X170.here hx rfl (hb hby at_114) rfl ?_
    exact k)
  obtain ⟨i192, hi192⟩ : ∃ z : Int32, z = (if i103 = (0 : Int32) then (0 : Int32) else (if sc = qc then (if v = (0 : Int32) then (1 : Int32) else (0 : Int32)) else (0 : Int32))) := ⟨_, rfl⟩
  have k193 : ∀ t, Steps p.tables e below (T170.setTop (mkF m 136 #[.val (.int p0), .val (.int p1), .val (.int p2), .val (.int p3), .val (.int p4), .val (.int p5), .val (.int i103), .val (.int i107), .val (.int v), .val (.int sc), .val (.int ca), .val (.int cc), .val (.int qa), .val (.int qc), .val (.ref b110), .unset, .unset, .unset] [(.int i192)])) t → Steps p.tables e below (s₁.setTop (entryFrame m #[(.int p0), (.int p1), (.int p2), (.int p3), (.int p4), (.int p5)] maxLocals)) t := fun t k => k188 t (by
    by_cases c189 : i103 = (0 : Int32)
    · rw [if_pos c189] at hi192
      show Steps p.tables e below (T170.setTop (mkF m 116 #[.val (.int p0), .val (.int p1), .val (.int p2), .val (.int p3), .val (.int p4), .val (.int p5), .val (.int i103), .val (.int i107), .val (.int v), .val (.int sc), .val (.int ca), .val (.int cc), .val (.int qa), .val (.int qc), .val (.ref b110), .unset, .unset, .unset] [(.int i103)])) _
      refine XS.ifYes X170.here hx rfl (pc0 := 116) (pc' := 135) rfl (hb hby at_116) rfl ((if0 _ _).trans (teq c189).1) (by decide) (by decide) ?_
      show Steps p.tables e below (T170.setTop (mkF m 135 #[.val (.int p0), .val (.int p1), .val (.int p2), .val (.int p3), .val (.int p4), .val (.int p5), .val (.int i103), .val (.int i107), .val (.int v), .val (.int sc), .val (.int ca), .val (.int cc), .val (.int qa), .val (.int qc), .val (.ref b110), .unset, .unset, .unset] [])) _
      refine XS.iconst X170.here hx rfl (hb hby at_135) ?_
      show Steps p.tables e below (T170.setTop (mkF m 136 #[.val (.int p0), .val (.int p1), .val (.int p2), .val (.int p3), .val (.int p4), .val (.int p5), .val (.int i103), .val (.int i107), .val (.int v), .val (.int sc), .val (.int ca), .val (.int cc), .val (.int qa), .val (.int qc), .val (.ref b110), .unset, .unset, .unset] [(.int (0 : Int32))])) _
      exact castTop (by rw [hi192]) k
    · rw [if_neg c189] at hi192
      show Steps p.tables e below (T170.setTop (mkF m 116 #[.val (.int p0), .val (.int p1), .val (.int p2), .val (.int p3), .val (.int p4), .val (.int p5), .val (.int i103), .val (.int i107), .val (.int v), .val (.int sc), .val (.int ca), .val (.int cc), .val (.int qa), .val (.int qc), .val (.ref b110), .unset, .unset, .unset] [(.int i103)])) _
      refine XS.ifNo X170.here hx rfl (hb hby at_116) rfl ((if0 _ _).trans (feq c189).1) ?_
      show Steps p.tables e below (T170.setTop (mkF m 119 #[.val (.int p0), .val (.int p1), .val (.int p2), .val (.int p3), .val (.int p4), .val (.int p5), .val (.int i103), .val (.int i107), .val (.int v), .val (.int sc), .val (.int ca), .val (.int cc), .val (.int qa), .val (.int qc), .val (.ref b110), .unset, .unset, .unset] [])) _
      refine XS.iload X170.here hx rfl (hb hby at_119) rfl ?_
      show Steps p.tables e below (T170.setTop (mkF m 121 #[.val (.int p0), .val (.int p1), .val (.int p2), .val (.int p3), .val (.int p4), .val (.int p5), .val (.int i103), .val (.int i107), .val (.int v), .val (.int sc), .val (.int ca), .val (.int cc), .val (.int qa), .val (.int qc), .val (.ref b110), .unset, .unset, .unset] [(.int sc)])) _
      refine XS.iload X170.here hx rfl (hb hby at_121) rfl ?_
      by_cases c190 : sc = qc
      · rw [if_pos c190] at hi192
        show Steps p.tables e below (T170.setTop (mkF m 123 #[.val (.int p0), .val (.int p1), .val (.int p2), .val (.int p3), .val (.int p4), .val (.int p5), .val (.int i103), .val (.int i107), .val (.int v), .val (.int sc), .val (.int ca), .val (.int cc), .val (.int qa), .val (.int qc), .val (.ref b110), .unset, .unset, .unset] [(.int qc), (.int sc)])) _
        refine XS.icmpNo X170.here hx rfl (hb hby at_123) rfl (teq c190).2 ?_
        show Steps p.tables e below (T170.setTop (mkF m 126 #[.val (.int p0), .val (.int p1), .val (.int p2), .val (.int p3), .val (.int p4), .val (.int p5), .val (.int i103), .val (.int i107), .val (.int v), .val (.int sc), .val (.int ca), .val (.int cc), .val (.int qa), .val (.int qc), .val (.ref b110), .unset, .unset, .unset] [])) _
        refine XS.iload X170.here hx rfl (hb hby at_126) rfl ?_
        by_cases c191 : v = (0 : Int32)
        · rw [if_pos c191] at hi192
          show Steps p.tables e below (T170.setTop (mkF m 128 #[.val (.int p0), .val (.int p1), .val (.int p2), .val (.int p3), .val (.int p4), .val (.int p5), .val (.int i103), .val (.int i107), .val (.int v), .val (.int sc), .val (.int ca), .val (.int cc), .val (.int qa), .val (.int qc), .val (.ref b110), .unset, .unset, .unset] [(.int v)])) _
          refine XS.ifNo X170.here hx rfl (hb hby at_128) rfl ((if0 _ _).trans (teq c191).2) ?_
          show Steps p.tables e below (T170.setTop (mkF m 131 #[.val (.int p0), .val (.int p1), .val (.int p2), .val (.int p3), .val (.int p4), .val (.int p5), .val (.int i103), .val (.int i107), .val (.int v), .val (.int sc), .val (.int ca), .val (.int cc), .val (.int qa), .val (.int qc), .val (.ref b110), .unset, .unset, .unset] [])) _
          refine XS.iconst X170.here hx rfl (hb hby at_131) ?_
          show Steps p.tables e below (T170.setTop (mkF m 132 #[.val (.int p0), .val (.int p1), .val (.int p2), .val (.int p3), .val (.int p4), .val (.int p5), .val (.int i103), .val (.int i107), .val (.int v), .val (.int sc), .val (.int ca), .val (.int cc), .val (.int qa), .val (.int qc), .val (.ref b110), .unset, .unset, .unset] [(.int (1 : Int32))])) _
          refine XS.goto X170.here hx rfl (pc0 := 132) (pc' := 136) rfl (hb hby at_132) (by decide) (by decide) ?_
          show Steps p.tables e below (T170.setTop (mkF m 136 #[.val (.int p0), .val (.int p1), .val (.int p2), .val (.int p3), .val (.int p4), .val (.int p5), .val (.int i103), .val (.int i107), .val (.int v), .val (.int sc), .val (.int ca), .val (.int cc), .val (.int qa), .val (.int qc), .val (.ref b110), .unset, .unset, .unset] [(.int (1 : Int32))])) _
          exact castTop (by rw [hi192]) k
        · rw [if_neg c191] at hi192
          show Steps p.tables e below (T170.setTop (mkF m 128 #[.val (.int p0), .val (.int p1), .val (.int p2), .val (.int p3), .val (.int p4), .val (.int p5), .val (.int i103), .val (.int i107), .val (.int v), .val (.int sc), .val (.int ca), .val (.int cc), .val (.int qa), .val (.int qc), .val (.ref b110), .unset, .unset, .unset] [(.int v)])) _
          refine XS.ifYes X170.here hx rfl (pc0 := 128) (pc' := 135) rfl (hb hby at_128) rfl ((if0 _ _).trans (feq c191).2) (by decide) (by decide) ?_
          show Steps p.tables e below (T170.setTop (mkF m 135 #[.val (.int p0), .val (.int p1), .val (.int p2), .val (.int p3), .val (.int p4), .val (.int p5), .val (.int i103), .val (.int i107), .val (.int v), .val (.int sc), .val (.int ca), .val (.int cc), .val (.int qa), .val (.int qc), .val (.ref b110), .unset, .unset, .unset] [])) _
          refine XS.iconst X170.here hx rfl (hb hby at_135) ?_
          show Steps p.tables e below (T170.setTop (mkF m 136 #[.val (.int p0), .val (.int p1), .val (.int p2), .val (.int p3), .val (.int p4), .val (.int p5), .val (.int i103), .val (.int i107), .val (.int v), .val (.int sc), .val (.int ca), .val (.int cc), .val (.int qa), .val (.int qc), .val (.ref b110), .unset, .unset, .unset] [(.int (0 : Int32))])) _
          exact castTop (by rw [hi192]) k
      · rw [if_neg c190] at hi192
        show Steps p.tables e below (T170.setTop (mkF m 123 #[.val (.int p0), .val (.int p1), .val (.int p2), .val (.int p3), .val (.int p4), .val (.int p5), .val (.int i103), .val (.int i107), .val (.int v), .val (.int sc), .val (.int ca), .val (.int cc), .val (.int qa), .val (.int qc), .val (.ref b110), .unset, .unset, .unset] [(.int qc), (.int sc)])) _
        refine XS.icmpYes X170.here hx rfl (pc0 := 123) (pc' := 135) rfl (hb hby at_123) rfl (feq c190).2 (by decide) (by decide) ?_
        show Steps p.tables e below (T170.setTop (mkF m 135 #[.val (.int p0), .val (.int p1), .val (.int p2), .val (.int p3), .val (.int p4), .val (.int p5), .val (.int i103), .val (.int i107), .val (.int v), .val (.int sc), .val (.int ca), .val (.int cc), .val (.int qa), .val (.int qc), .val (.ref b110), .unset, .unset, .unset] [])) _
        refine XS.iconst X170.here hx rfl (hb hby at_135) ?_
        show Steps p.tables e below (T170.setTop (mkF m 136 #[.val (.int p0), .val (.int p1), .val (.int p2), .val (.int p3), .val (.int p4), .val (.int p5), .val (.int i103), .val (.int i107), .val (.int v), .val (.int sc), .val (.int ca), .val (.int cc), .val (.int qa), .val (.int qc), .val (.ref b110), .unset, .unset, .unset] [(.int (0 : Int32))])) _
        exact castTop (by rw [hi192]) k)
  have k194 : ∀ t, Steps p.tables e below (T170.setTop (mkF m 140 #[.val (.int p0), .val (.int p1), .val (.int p2), .val (.int p3), .val (.int p4), .val (.int p5), .val (.int i103), .val (.int i107), .val (.int v), .val (.int sc), .val (.int ca), .val (.int cc), .val (.int qa), .val (.int qc), .val (.ref b110), .val (.int i192), .unset, .unset] [(.int i107)])) t → Steps p.tables e below (s₁.setTop (entryFrame m #[(.int p0), (.int p1), (.int p2), (.int p3), (.int p4), (.int p5)] maxLocals)) t := fun t k => k193 t (by
    show Steps p.tables e below (T170.setTop (mkF m 136 #[.val (.int p0), .val (.int p1), .val (.int p2), .val (.int p3), .val (.int p4), .val (.int p5), .val (.int i103), .val (.int i107), .val (.int v), .val (.int sc), .val (.int ca), .val (.int cc), .val (.int qa), .val (.int qc), .val (.ref b110), .unset, .unset, .unset] [(.int i192)])) _
    refine XS.istore X170.here hx rfl (hb hby at_136) rfl (l' := #[.val (.int p0), .val (.int p1), .val (.int p2), .val (.int p3), .val (.int p4), .val (.int p5), .val (.int i103), .val (.int i107), .val (.int v), .val (.int sc), .val (.int ca), .val (.int cc), .val (.int qa), .val (.int qc), .val (.ref b110), .val (.int i192), .unset, .unset]) rfl ?_
    show Steps p.tables e below (T170.setTop (mkF m 138 #[.val (.int p0), .val (.int p1), .val (.int p2), .val (.int p3), .val (.int p4), .val (.int p5), .val (.int i103), .val (.int i107), .val (.int v), .val (.int sc), .val (.int ca), .val (.int cc), .val (.int qa), .val (.int qc), .val (.ref b110), .val (.int i192), .unset, .unset] [])) _
    refine XS.iload X170.here hx rfl (hb hby at_138) rfl ?_
    exact k)
  obtain ⟨i198, hi198⟩ : ∃ z : Int32, z = (if i107 = (0 : Int32) then (0 : Int32) else (if ca = qa then (if cc = qc then (1 : Int32) else (0 : Int32)) else (0 : Int32))) := ⟨_, rfl⟩
  have k199 : ∀ t, Steps p.tables e below (T170.setTop (mkF m 162 #[.val (.int p0), .val (.int p1), .val (.int p2), .val (.int p3), .val (.int p4), .val (.int p5), .val (.int i103), .val (.int i107), .val (.int v), .val (.int sc), .val (.int ca), .val (.int cc), .val (.int qa), .val (.int qc), .val (.ref b110), .val (.int i192), .unset, .unset] [(.int i198)])) t → Steps p.tables e below (s₁.setTop (entryFrame m #[(.int p0), (.int p1), (.int p2), (.int p3), (.int p4), (.int p5)] maxLocals)) t := fun t k => k194 t (by
    by_cases c195 : i107 = (0 : Int32)
    · rw [if_pos c195] at hi198
      show Steps p.tables e below (T170.setTop (mkF m 140 #[.val (.int p0), .val (.int p1), .val (.int p2), .val (.int p3), .val (.int p4), .val (.int p5), .val (.int i103), .val (.int i107), .val (.int v), .val (.int sc), .val (.int ca), .val (.int cc), .val (.int qa), .val (.int qc), .val (.ref b110), .val (.int i192), .unset, .unset] [(.int i107)])) _
      refine XS.ifYes X170.here hx rfl (pc0 := 140) (pc' := 161) rfl (hb hby at_140) rfl ((if0 _ _).trans (teq c195).1) (by decide) (by decide) ?_
      show Steps p.tables e below (T170.setTop (mkF m 161 #[.val (.int p0), .val (.int p1), .val (.int p2), .val (.int p3), .val (.int p4), .val (.int p5), .val (.int i103), .val (.int i107), .val (.int v), .val (.int sc), .val (.int ca), .val (.int cc), .val (.int qa), .val (.int qc), .val (.ref b110), .val (.int i192), .unset, .unset] [])) _
      refine XS.iconst X170.here hx rfl (hb hby at_161) ?_
      show Steps p.tables e below (T170.setTop (mkF m 162 #[.val (.int p0), .val (.int p1), .val (.int p2), .val (.int p3), .val (.int p4), .val (.int p5), .val (.int i103), .val (.int i107), .val (.int v), .val (.int sc), .val (.int ca), .val (.int cc), .val (.int qa), .val (.int qc), .val (.ref b110), .val (.int i192), .unset, .unset] [(.int (0 : Int32))])) _
      exact castTop (by rw [hi198]) k
    · rw [if_neg c195] at hi198
      show Steps p.tables e below (T170.setTop (mkF m 140 #[.val (.int p0), .val (.int p1), .val (.int p2), .val (.int p3), .val (.int p4), .val (.int p5), .val (.int i103), .val (.int i107), .val (.int v), .val (.int sc), .val (.int ca), .val (.int cc), .val (.int qa), .val (.int qc), .val (.ref b110), .val (.int i192), .unset, .unset] [(.int i107)])) _
      refine XS.ifNo X170.here hx rfl (hb hby at_140) rfl ((if0 _ _).trans (feq c195).1) ?_
      show Steps p.tables e below (T170.setTop (mkF m 143 #[.val (.int p0), .val (.int p1), .val (.int p2), .val (.int p3), .val (.int p4), .val (.int p5), .val (.int i103), .val (.int i107), .val (.int v), .val (.int sc), .val (.int ca), .val (.int cc), .val (.int qa), .val (.int qc), .val (.ref b110), .val (.int i192), .unset, .unset] [])) _
      refine XS.iload X170.here hx rfl (hb hby at_143) rfl ?_
      show Steps p.tables e below (T170.setTop (mkF m 145 #[.val (.int p0), .val (.int p1), .val (.int p2), .val (.int p3), .val (.int p4), .val (.int p5), .val (.int i103), .val (.int i107), .val (.int v), .val (.int sc), .val (.int ca), .val (.int cc), .val (.int qa), .val (.int qc), .val (.ref b110), .val (.int i192), .unset, .unset] [(.int ca)])) _
      refine XS.iload X170.here hx rfl (hb hby at_145) rfl ?_
      by_cases c196 : ca = qa
      · rw [if_pos c196] at hi198
        show Steps p.tables e below (T170.setTop (mkF m 147 #[.val (.int p0), .val (.int p1), .val (.int p2), .val (.int p3), .val (.int p4), .val (.int p5), .val (.int i103), .val (.int i107), .val (.int v), .val (.int sc), .val (.int ca), .val (.int cc), .val (.int qa), .val (.int qc), .val (.ref b110), .val (.int i192), .unset, .unset] [(.int qa), (.int ca)])) _
        refine XS.icmpNo X170.here hx rfl (hb hby at_147) rfl (teq c196).2 ?_
        show Steps p.tables e below (T170.setTop (mkF m 150 #[.val (.int p0), .val (.int p1), .val (.int p2), .val (.int p3), .val (.int p4), .val (.int p5), .val (.int i103), .val (.int i107), .val (.int v), .val (.int sc), .val (.int ca), .val (.int cc), .val (.int qa), .val (.int qc), .val (.ref b110), .val (.int i192), .unset, .unset] [])) _
        refine XS.iload X170.here hx rfl (hb hby at_150) rfl ?_
        show Steps p.tables e below (T170.setTop (mkF m 152 #[.val (.int p0), .val (.int p1), .val (.int p2), .val (.int p3), .val (.int p4), .val (.int p5), .val (.int i103), .val (.int i107), .val (.int v), .val (.int sc), .val (.int ca), .val (.int cc), .val (.int qa), .val (.int qc), .val (.ref b110), .val (.int i192), .unset, .unset] [(.int cc)])) _
        refine XS.iload X170.here hx rfl (hb hby at_152) rfl ?_
        by_cases c197 : cc = qc
        · rw [if_pos c197] at hi198
          show Steps p.tables e below (T170.setTop (mkF m 154 #[.val (.int p0), .val (.int p1), .val (.int p2), .val (.int p3), .val (.int p4), .val (.int p5), .val (.int i103), .val (.int i107), .val (.int v), .val (.int sc), .val (.int ca), .val (.int cc), .val (.int qa), .val (.int qc), .val (.ref b110), .val (.int i192), .unset, .unset] [(.int qc), (.int cc)])) _
          refine XS.icmpNo X170.here hx rfl (hb hby at_154) rfl (teq c197).2 ?_
          show Steps p.tables e below (T170.setTop (mkF m 157 #[.val (.int p0), .val (.int p1), .val (.int p2), .val (.int p3), .val (.int p4), .val (.int p5), .val (.int i103), .val (.int i107), .val (.int v), .val (.int sc), .val (.int ca), .val (.int cc), .val (.int qa), .val (.int qc), .val (.ref b110), .val (.int i192), .unset, .unset] [])) _
          refine XS.iconst X170.here hx rfl (hb hby at_157) ?_
          show Steps p.tables e below (T170.setTop (mkF m 158 #[.val (.int p0), .val (.int p1), .val (.int p2), .val (.int p3), .val (.int p4), .val (.int p5), .val (.int i103), .val (.int i107), .val (.int v), .val (.int sc), .val (.int ca), .val (.int cc), .val (.int qa), .val (.int qc), .val (.ref b110), .val (.int i192), .unset, .unset] [(.int (1 : Int32))])) _
          refine XS.goto X170.here hx rfl (pc0 := 158) (pc' := 162) rfl (hb hby at_158) (by decide) (by decide) ?_
          show Steps p.tables e below (T170.setTop (mkF m 162 #[.val (.int p0), .val (.int p1), .val (.int p2), .val (.int p3), .val (.int p4), .val (.int p5), .val (.int i103), .val (.int i107), .val (.int v), .val (.int sc), .val (.int ca), .val (.int cc), .val (.int qa), .val (.int qc), .val (.ref b110), .val (.int i192), .unset, .unset] [(.int (1 : Int32))])) _
          exact castTop (by rw [hi198]) k
        · rw [if_neg c197] at hi198
          show Steps p.tables e below (T170.setTop (mkF m 154 #[.val (.int p0), .val (.int p1), .val (.int p2), .val (.int p3), .val (.int p4), .val (.int p5), .val (.int i103), .val (.int i107), .val (.int v), .val (.int sc), .val (.int ca), .val (.int cc), .val (.int qa), .val (.int qc), .val (.ref b110), .val (.int i192), .unset, .unset] [(.int qc), (.int cc)])) _
          refine XS.icmpYes X170.here hx rfl (pc0 := 154) (pc' := 161) rfl (hb hby at_154) rfl (feq c197).2 (by decide) (by decide) ?_
          show Steps p.tables e below (T170.setTop (mkF m 161 #[.val (.int p0), .val (.int p1), .val (.int p2), .val (.int p3), .val (.int p4), .val (.int p5), .val (.int i103), .val (.int i107), .val (.int v), .val (.int sc), .val (.int ca), .val (.int cc), .val (.int qa), .val (.int qc), .val (.ref b110), .val (.int i192), .unset, .unset] [])) _
          refine XS.iconst X170.here hx rfl (hb hby at_161) ?_
          show Steps p.tables e below (T170.setTop (mkF m 162 #[.val (.int p0), .val (.int p1), .val (.int p2), .val (.int p3), .val (.int p4), .val (.int p5), .val (.int i103), .val (.int i107), .val (.int v), .val (.int sc), .val (.int ca), .val (.int cc), .val (.int qa), .val (.int qc), .val (.ref b110), .val (.int i192), .unset, .unset] [(.int (0 : Int32))])) _
          exact castTop (by rw [hi198]) k
      · rw [if_neg c196] at hi198
        show Steps p.tables e below (T170.setTop (mkF m 147 #[.val (.int p0), .val (.int p1), .val (.int p2), .val (.int p3), .val (.int p4), .val (.int p5), .val (.int i103), .val (.int i107), .val (.int v), .val (.int sc), .val (.int ca), .val (.int cc), .val (.int qa), .val (.int qc), .val (.ref b110), .val (.int i192), .unset, .unset] [(.int qa), (.int ca)])) _
        refine XS.icmpYes X170.here hx rfl (pc0 := 147) (pc' := 161) rfl (hb hby at_147) rfl (feq c196).2 (by decide) (by decide) ?_
        show Steps p.tables e below (T170.setTop (mkF m 161 #[.val (.int p0), .val (.int p1), .val (.int p2), .val (.int p3), .val (.int p4), .val (.int p5), .val (.int i103), .val (.int i107), .val (.int v), .val (.int sc), .val (.int ca), .val (.int cc), .val (.int qa), .val (.int qc), .val (.ref b110), .val (.int i192), .unset, .unset] [])) _
        refine XS.iconst X170.here hx rfl (hb hby at_161) ?_
        show Steps p.tables e below (T170.setTop (mkF m 162 #[.val (.int p0), .val (.int p1), .val (.int p2), .val (.int p3), .val (.int p4), .val (.int p5), .val (.int i103), .val (.int i107), .val (.int v), .val (.int sc), .val (.int ca), .val (.int cc), .val (.int qa), .val (.int qc), .val (.ref b110), .val (.int i192), .unset, .unset] [(.int (0 : Int32))])) _
        exact castTop (by rw [hi198]) k)
  have k200 : ∀ t, Steps p.tables e below (T170.setTop (mkF m 166 #[.val (.int p0), .val (.int p1), .val (.int p2), .val (.int p3), .val (.int p4), .val (.int p5), .val (.int i103), .val (.int i107), .val (.int v), .val (.int sc), .val (.int ca), .val (.int cc), .val (.int qa), .val (.int qc), .val (.ref b110), .val (.int i192), .val (.int i198), .unset] [(.int i192)])) t → Steps p.tables e below (s₁.setTop (entryFrame m #[(.int p0), (.int p1), (.int p2), (.int p3), (.int p4), (.int p5)] maxLocals)) t := fun t k => k199 t (by
    show Steps p.tables e below (T170.setTop (mkF m 162 #[.val (.int p0), .val (.int p1), .val (.int p2), .val (.int p3), .val (.int p4), .val (.int p5), .val (.int i103), .val (.int i107), .val (.int v), .val (.int sc), .val (.int ca), .val (.int cc), .val (.int qa), .val (.int qc), .val (.ref b110), .val (.int i192), .unset, .unset] [(.int i198)])) _
    refine XS.istore X170.here hx rfl (hb hby at_162) rfl (l' := #[.val (.int p0), .val (.int p1), .val (.int p2), .val (.int p3), .val (.int p4), .val (.int p5), .val (.int i103), .val (.int i107), .val (.int v), .val (.int sc), .val (.int ca), .val (.int cc), .val (.int qa), .val (.int qc), .val (.ref b110), .val (.int i192), .val (.int i198), .unset]) rfl ?_
    show Steps p.tables e below (T170.setTop (mkF m 164 #[.val (.int p0), .val (.int p1), .val (.int p2), .val (.int p3), .val (.int p4), .val (.int p5), .val (.int i103), .val (.int i107), .val (.int v), .val (.int sc), .val (.int ca), .val (.int cc), .val (.int qa), .val (.int qc), .val (.ref b110), .val (.int i192), .val (.int i198), .unset] [])) _
    refine XS.iload X170.here hx rfl (hb hby at_164) rfl ?_
    exact k)
  obtain ⟨i203, hi203⟩ : ∃ z : Int32, z = (if i192 = (0 : Int32) then (if i198 = (0 : Int32) then (0 : Int32) else (1 : Int32)) else (1 : Int32)) := ⟨_, rfl⟩
  have k204 : ∀ t, Steps p.tables e below (T170.setTop (mkF m 179 #[.val (.int p0), .val (.int p1), .val (.int p2), .val (.int p3), .val (.int p4), .val (.int p5), .val (.int i103), .val (.int i107), .val (.int v), .val (.int sc), .val (.int ca), .val (.int cc), .val (.int qa), .val (.int qc), .val (.ref b110), .val (.int i192), .val (.int i198), .unset] [(.int i203)])) t → Steps p.tables e below (s₁.setTop (entryFrame m #[(.int p0), (.int p1), (.int p2), (.int p3), (.int p4), (.int p5)] maxLocals)) t := fun t k => k200 t (by
    by_cases c201 : i192 = (0 : Int32)
    · rw [if_pos c201] at hi203
      show Steps p.tables e below (T170.setTop (mkF m 166 #[.val (.int p0), .val (.int p1), .val (.int p2), .val (.int p3), .val (.int p4), .val (.int p5), .val (.int i103), .val (.int i107), .val (.int v), .val (.int sc), .val (.int ca), .val (.int cc), .val (.int qa), .val (.int qc), .val (.ref b110), .val (.int i192), .val (.int i198), .unset] [(.int i192)])) _
      refine XS.ifNo X170.here hx rfl (hb hby at_166) rfl ((if0 _ _).trans (teq c201).2) ?_
      show Steps p.tables e below (T170.setTop (mkF m 169 #[.val (.int p0), .val (.int p1), .val (.int p2), .val (.int p3), .val (.int p4), .val (.int p5), .val (.int i103), .val (.int i107), .val (.int v), .val (.int sc), .val (.int ca), .val (.int cc), .val (.int qa), .val (.int qc), .val (.ref b110), .val (.int i192), .val (.int i198), .unset] [])) _
      refine XS.iload X170.here hx rfl (hb hby at_169) rfl ?_
      by_cases c202 : i198 = (0 : Int32)
      · rw [if_pos c202] at hi203
        show Steps p.tables e below (T170.setTop (mkF m 171 #[.val (.int p0), .val (.int p1), .val (.int p2), .val (.int p3), .val (.int p4), .val (.int p5), .val (.int i103), .val (.int i107), .val (.int v), .val (.int sc), .val (.int ca), .val (.int cc), .val (.int qa), .val (.int qc), .val (.ref b110), .val (.int i192), .val (.int i198), .unset] [(.int i198)])) _
        refine XS.ifYes X170.here hx rfl (pc0 := 171) (pc' := 178) rfl (hb hby at_171) rfl ((if0 _ _).trans (teq c202).1) (by decide) (by decide) ?_
        show Steps p.tables e below (T170.setTop (mkF m 178 #[.val (.int p0), .val (.int p1), .val (.int p2), .val (.int p3), .val (.int p4), .val (.int p5), .val (.int i103), .val (.int i107), .val (.int v), .val (.int sc), .val (.int ca), .val (.int cc), .val (.int qa), .val (.int qc), .val (.ref b110), .val (.int i192), .val (.int i198), .unset] [])) _
        refine XS.iconst X170.here hx rfl (hb hby at_178) ?_
        show Steps p.tables e below (T170.setTop (mkF m 179 #[.val (.int p0), .val (.int p1), .val (.int p2), .val (.int p3), .val (.int p4), .val (.int p5), .val (.int i103), .val (.int i107), .val (.int v), .val (.int sc), .val (.int ca), .val (.int cc), .val (.int qa), .val (.int qc), .val (.ref b110), .val (.int i192), .val (.int i198), .unset] [(.int (0 : Int32))])) _
        exact castTop (by rw [hi203]) k
      · rw [if_neg c202] at hi203
        show Steps p.tables e below (T170.setTop (mkF m 171 #[.val (.int p0), .val (.int p1), .val (.int p2), .val (.int p3), .val (.int p4), .val (.int p5), .val (.int i103), .val (.int i107), .val (.int v), .val (.int sc), .val (.int ca), .val (.int cc), .val (.int qa), .val (.int qc), .val (.ref b110), .val (.int i192), .val (.int i198), .unset] [(.int i198)])) _
        refine XS.ifNo X170.here hx rfl (hb hby at_171) rfl ((if0 _ _).trans (feq c202).1) ?_
        show Steps p.tables e below (T170.setTop (mkF m 174 #[.val (.int p0), .val (.int p1), .val (.int p2), .val (.int p3), .val (.int p4), .val (.int p5), .val (.int i103), .val (.int i107), .val (.int v), .val (.int sc), .val (.int ca), .val (.int cc), .val (.int qa), .val (.int qc), .val (.ref b110), .val (.int i192), .val (.int i198), .unset] [])) _
        refine XS.iconst X170.here hx rfl (hb hby at_174) ?_
        show Steps p.tables e below (T170.setTop (mkF m 175 #[.val (.int p0), .val (.int p1), .val (.int p2), .val (.int p3), .val (.int p4), .val (.int p5), .val (.int i103), .val (.int i107), .val (.int v), .val (.int sc), .val (.int ca), .val (.int cc), .val (.int qa), .val (.int qc), .val (.ref b110), .val (.int i192), .val (.int i198), .unset] [(.int (1 : Int32))])) _
        refine XS.goto X170.here hx rfl (pc0 := 175) (pc' := 179) rfl (hb hby at_175) (by decide) (by decide) ?_
        show Steps p.tables e below (T170.setTop (mkF m 179 #[.val (.int p0), .val (.int p1), .val (.int p2), .val (.int p3), .val (.int p4), .val (.int p5), .val (.int i103), .val (.int i107), .val (.int v), .val (.int sc), .val (.int ca), .val (.int cc), .val (.int qa), .val (.int qc), .val (.ref b110), .val (.int i192), .val (.int i198), .unset] [(.int (1 : Int32))])) _
        exact castTop (by rw [hi203]) k
    · rw [if_neg c201] at hi203
      show Steps p.tables e below (T170.setTop (mkF m 166 #[.val (.int p0), .val (.int p1), .val (.int p2), .val (.int p3), .val (.int p4), .val (.int p5), .val (.int i103), .val (.int i107), .val (.int v), .val (.int sc), .val (.int ca), .val (.int cc), .val (.int qa), .val (.int qc), .val (.ref b110), .val (.int i192), .val (.int i198), .unset] [(.int i192)])) _
      refine XS.ifYes X170.here hx rfl (pc0 := 166) (pc' := 174) rfl (hb hby at_166) rfl ((if0 _ _).trans (feq c201).2) (by decide) (by decide) ?_
      show Steps p.tables e below (T170.setTop (mkF m 174 #[.val (.int p0), .val (.int p1), .val (.int p2), .val (.int p3), .val (.int p4), .val (.int p5), .val (.int i103), .val (.int i107), .val (.int v), .val (.int sc), .val (.int ca), .val (.int cc), .val (.int qa), .val (.int qc), .val (.ref b110), .val (.int i192), .val (.int i198), .unset] [])) _
      refine XS.iconst X170.here hx rfl (hb hby at_174) ?_
      show Steps p.tables e below (T170.setTop (mkF m 175 #[.val (.int p0), .val (.int p1), .val (.int p2), .val (.int p3), .val (.int p4), .val (.int p5), .val (.int i103), .val (.int i107), .val (.int v), .val (.int sc), .val (.int ca), .val (.int cc), .val (.int qa), .val (.int qc), .val (.ref b110), .val (.int i192), .val (.int i198), .unset] [(.int (1 : Int32))])) _
      refine XS.goto X170.here hx rfl (pc0 := 175) (pc' := 179) rfl (hb hby at_175) (by decide) (by decide) ?_
      show Steps p.tables e below (T170.setTop (mkF m 179 #[.val (.int p0), .val (.int p1), .val (.int p2), .val (.int p3), .val (.int p4), .val (.int p5), .val (.int i103), .val (.int i107), .val (.int v), .val (.int sc), .val (.int ca), .val (.int cc), .val (.int qa), .val (.int qc), .val (.ref b110), .val (.int i192), .val (.int i198), .unset] [(.int (1 : Int32))])) _
      exact castTop (by rw [hi203]) k)
  have k205 : ∀ t, Steps p.tables e below (T170.setTop (mkF m 187 #[.val (.int p0), .val (.int p1), .val (.int p2), .val (.int p3), .val (.int p4), .val (.int p5), .val (.int i103), .val (.int i107), .val (.int v), .val (.int sc), .val (.int ca), .val (.int cc), .val (.int qa), .val (.int qc), .val (.ref b110), .val (.int i192), .val (.int i198), .val (.int i203)] [(.int qc), (.int qa), (.ref b110)])) t → Steps p.tables e below (s₁.setTop (entryFrame m #[(.int p0), (.int p1), (.int p2), (.int p3), (.int p4), (.int p5)] maxLocals)) t := fun t k => k204 t (by
    show Steps p.tables e below (T170.setTop (mkF m 179 #[.val (.int p0), .val (.int p1), .val (.int p2), .val (.int p3), .val (.int p4), .val (.int p5), .val (.int i103), .val (.int i107), .val (.int v), .val (.int sc), .val (.int ca), .val (.int cc), .val (.int qa), .val (.int qc), .val (.ref b110), .val (.int i192), .val (.int i198), .unset] [(.int i203)])) _
    refine XS.istore X170.here hx rfl (hb hby at_179) rfl (l' := #[.val (.int p0), .val (.int p1), .val (.int p2), .val (.int p3), .val (.int p4), .val (.int p5), .val (.int i103), .val (.int i107), .val (.int v), .val (.int sc), .val (.int ca), .val (.int cc), .val (.int qa), .val (.int qc), .val (.ref b110), .val (.int i192), .val (.int i198), .val (.int i203)]) rfl ?_
    show Steps p.tables e below (T170.setTop (mkF m 181 #[.val (.int p0), .val (.int p1), .val (.int p2), .val (.int p3), .val (.int p4), .val (.int p5), .val (.int i103), .val (.int i107), .val (.int v), .val (.int sc), .val (.int ca), .val (.int cc), .val (.int qa), .val (.int qc), .val (.ref b110), .val (.int i192), .val (.int i198), .val (.int i203)] [])) _
    refine XS.aload X170.here hx rfl (hb hby at_181) rfl rfl ?_
    show Steps p.tables e below (T170.setTop (mkF m 183 #[.val (.int p0), .val (.int p1), .val (.int p2), .val (.int p3), .val (.int p4), .val (.int p5), .val (.int i103), .val (.int i107), .val (.int v), .val (.int sc), .val (.int ca), .val (.int cc), .val (.int qa), .val (.int qc), .val (.ref b110), .val (.int i192), .val (.int i198), .val (.int i203)] [(.ref b110)])) _
    refine XS.iload X170.here hx rfl (hb hby at_183) rfl ?_
    show Steps p.tables e below (T170.setTop (mkF m 185 #[.val (.int p0), .val (.int p1), .val (.int p2), .val (.int p3), .val (.int p4), .val (.int p5), .val (.int i103), .val (.int i107), .val (.int v), .val (.int sc), .val (.int ca), .val (.int cc), .val (.int qa), .val (.int qc), .val (.ref b110), .val (.int i192), .val (.int i198), .val (.int i203)] [(.int qa), (.ref b110)])) _
    refine XS.iload X170.here hx rfl (hb hby at_185) rfl ?_
    exact k)
  obtain ⟨cq206, kq206, q206a, q206b, q206c⟩ := isOf hZ e170 F179
  obtain ⟨_, _, ⟨T206, L206, k206, n206⟩, -, X206, ⟨Lc206, hQ206, l206, y206, z206⟩, st206⟩ := X170.virtualBack hx (y := (⟨"com/example/istra/istra/engine/NodeModel", "blocked", "(II)Z"⟩ : MethodName)) (z := (⟨"com/example/istra/istra/engine/NodeModel", "blocked", "(II)Z"⟩ : MethodName)) hown (mvT hZ (hw _ (List.mem_of_getElem? (i := 53) rfl))) (mvT hZ (hw _ (List.mem_of_getElem? (i := 54) rfl))) (notFace_of_selects (args := #[]) (mvT hZ (hw _ (List.mem_of_getElem? (i := 56) rfl)))) (mvT hZ (hw _ (List.mem_of_getElem? (i := 56) rfl))) (mvT hZ (hw _ (List.mem_of_getElem? (i := 55) rfl))) (by decide) (backOf (W := 0) (rm4 l Z a0 hw [] b110 bs bc ks kc qa qc y s0 s1 s2 x0 x1 x2 x3 x4 x5 h170 n0 Zq170 F182 F183 F184 F185 F180 F181 F179 F186 F187 g111 gs gc ns nc nsc Bqa Bqc) hZ (hw _ (List.mem_of_getElem? (i := 57) rfl)) (hw _ (List.mem_of_getElem? (i := 3) rfl)) (by decide) (by decide)) q206a q206c (g := (mkF m 187 #[.val (.int p0), .val (.int p1), .val (.int p2), .val (.int p3), .val (.int p4), .val (.int p5), .val (.int i103), .val (.int i107), .val (.int v), .val (.int sc), .val (.int ca), .val (.int cc), .val (.int qa), .val (.int qc), .val (.ref b110), .val (.int i192), .val (.int i198), .val (.int i203)] [(.int qc), (.int qa), (.ref b110)])) rfl (by rw [hml]; rfl) (Steps.refl _) (argsL := [(.int qa), (.int qc)]) (rest := []) (lenOf pd__28II_29Z rfl) rfl (by show 2 * 0 + _ ≤ _; exact Nat.le_of_eq rfl) (hb hby at_187) (fun _ _ => ⟨rfl, e170, (by decide : 14 + 0 ≤ _), (by decide : 65 + 0 ≤ _)⟩)
  dsimp only [Pt.U, Pt.locs, Pt.cells, Pt.slots] at X206 l206 y206 z206 st206 hQ206
  subst l206 y206 z206
  obtain ⟨rfl, N206q, e206⟩ := hQ206
  have N207 := Fr.app N170 N206q
  have k208 : ∀ t, Steps p.tables e below (T206.setTop (mkF m 190 #[.val (.int p0), .val (.int p1), .val (.int p2), .val (.int p3), .val (.int p4), .val (.int p5), .val (.int i103), .val (.int i107), .val (.int v), .val (.int sc), .val (.int ca), .val (.int cc), .val (.int qa), .val (.int qc), .val (.ref b110), .val (.int i192), .val (.int i198), .val (.int i203)] [(.int (own_bl qa qc s0 s1 s2 x0 x1 x2 x3 x4 x5))])) t → Steps p.tables e below (s₁.setTop (entryFrame m #[(.int p0), (.int p1), (.int p2), (.int p3), (.int p4), (.int p5)] maxLocals)) t := fun t k => k205 t (st206.trans k)
  have hfin : (own_bl qa qc s0 s1 s2 x0 x1 x2 x3 x4 x5) = i203 := by rw [hi203, hi192, hi198]; exact own_fin Bv Bsc Bca Bcc Bqa Bqc hvv hs0 hs1 hs2 hx0 hx1 hx2 hx3 hx4 hx5
  have k209 : ∀ t, Steps p.tables e below (T206.setTop (mkF m 200 #[.val (.int p0), .val (.int p1), .val (.int p2), .val (.int p3), .val (.int p4), .val (.int p5), .val (.int i103), .val (.int i107), .val (.int v), .val (.int sc), .val (.int ca), .val (.int cc), .val (.int qa), .val (.int qc), .val (.ref b110), .val (.int i192), .val (.int i198), .val (.int i203)] [(.int (1 : Int32))])) t → Steps p.tables e below (s₁.setTop (entryFrame m #[(.int p0), (.int p1), (.int p2), (.int p3), (.int p4), (.int p5)] maxLocals)) t := fun t k => k208 t (by
    show Steps p.tables e below (T206.setTop (mkF m 190 #[.val (.int p0), .val (.int p1), .val (.int p2), .val (.int p3), .val (.int p4), .val (.int p5), .val (.int i103), .val (.int i107), .val (.int v), .val (.int sc), .val (.int ca), .val (.int cc), .val (.int qa), .val (.int qc), .val (.ref b110), .val (.int i192), .val (.int i198), .val (.int i203)] [(.int (own_bl qa qc s0 s1 s2 x0 x1 x2 x3 x4 x5))])) _
    refine XS.iload X206.here hx rfl (hb hby at_190) rfl ?_
    show Steps p.tables e below (T206.setTop (mkF m 192 #[.val (.int p0), .val (.int p1), .val (.int p2), .val (.int p3), .val (.int p4), .val (.int p5), .val (.int i103), .val (.int i107), .val (.int v), .val (.int sc), .val (.int ca), .val (.int cc), .val (.int qa), .val (.int qc), .val (.ref b110), .val (.int i192), .val (.int i198), .val (.int i203)] [(.int i203), (.int (own_bl qa qc s0 s1 s2 x0 x1 x2 x3 x4 x5))])) _
    refine XS.icmpNo X206.here hx rfl (hb hby at_192) rfl (teq hfin).2 ?_
    show Steps p.tables e below (T206.setTop (mkF m 195 #[.val (.int p0), .val (.int p1), .val (.int p2), .val (.int p3), .val (.int p4), .val (.int p5), .val (.int i103), .val (.int i107), .val (.int v), .val (.int sc), .val (.int ca), .val (.int cc), .val (.int qa), .val (.int qc), .val (.ref b110), .val (.int i192), .val (.int i198), .val (.int i203)] [])) _
    refine XS.iconst X206.here hx rfl (hb hby at_195) ?_
    show Steps p.tables e below (T206.setTop (mkF m 196 #[.val (.int p0), .val (.int p1), .val (.int p2), .val (.int p3), .val (.int p4), .val (.int p5), .val (.int i103), .val (.int i107), .val (.int v), .val (.int sc), .val (.int ca), .val (.int cc), .val (.int qa), .val (.int qc), .val (.ref b110), .val (.int i192), .val (.int i198), .val (.int i203)] [(.int (1 : Int32))])) _
    refine XS.goto X206.here hx rfl (pc0 := 196) (pc' := 200) rfl (hb hby at_196) (by decide) (by decide) ?_
    exact k)
  obtain ⟨fs, hr, hrun, hended, hW, hsame⟩ := X206.leave (v := some (.int (1 : Int32))) (fun h => by rw [Bd.returns] at h; cases h)
  refine ⟨_, _, k209 _ (retOut X206 hx (t := .boolean) Bd.returns rfl (Or.inl ⟨rfl, Or.inr (Or.inl rfl), _, rfl⟩) (hb hby at_200) hr), hrun, hended, _, _, rfl, ?_, ⟨_, rfl⟩, hW, hsame.mono (by decide) (by decide)⟩
  show Q_rm0 Z p0 p1 p2 p3 p4 p5 h0 n0 _ T206.heap _
  rw [e206]
  exact ⟨rfl, N207⟩
set_option maxRecDepth 65536 in
set_option maxHeartbeats 40000000 in
theorem comes_1 {Post : Tables → Env → Array Value → State → Outcome → State → Prop} (hpost : ∀ tb e args s v u, (limb_1_1.after args s (.returned v) u = true ∧ limb_1_2.after args s (.returned v) u = true ∧ True) → FrameEnd s (.returned v) u (Jvm.fieldLocs frame_1_writes args s ++ Jvm.arrayLocs frame_1_arrays args s ++ Jvm.staticLocs frame_1_statics s) 40 256 → Post tb e args s (.returned v) u) :
    ArmFor flags0 classFile x code maxLocals ret World_1 tables_1 room_1 Calls_1 rest_1 Pre_1 Post := by
  intro l hfl _ _ p e ha hc hk s m args below hf hA hF happ hP
  obtain ⟨hcalls, hrest, hpre⟩ := hP
  obtain ⟨-, -, -, hnamed, -, -, -, hat⟩ := (Spec.applies_iff hf).mp happ
  obtain ⟨hg, hn⟩ := and_e (Cond.before_iff.mp (show (Jvm.Cond.and given_1 narrow_1).before args s = true from hpre))
  obtain ⟨g1, g2⟩ := and_e hg
  obtain ⟨g3, g4⟩ := and_e g2
  obtain ⟨g5, g6⟩ := and_e g4
  obtain ⟨g7, g8⟩ := and_e g6
  obtain ⟨g9, g10⟩ := and_e g8
  obtain ⟨g11, g12⟩ := and_e g10
  obtain ⟨w0, w1, w2, w3, w4, w5, rfl⟩ : ∃ w0 w1 w2 w3 w4 w5 : Value, args = #[w0, w1, w2, w3, w4, w5] := by
    have hs : args.size = 6 := by simpa [Cond.value, given_1] using g1
    obtain ⟨L⟩ := args
    match L, hs with
    | [w0, w1, w2, w3, w4, w5], _ => exact ⟨w0, w1, w2, w3, w4, w5, rfl⟩
  have hw := fun d (hd : d ∈ tables_1) => atoms_spec (ws := Jvm.Cond.code x code maxLocals ret :: tables_1) hat d (List.mem_cons_of_mem _ hd)
  obtain ⟨i0, ei0⟩ := is_v g3
  obtain rfl : w0 = (.int i0) := Option.some.inj ei0
  obtain ⟨i1, ei1⟩ := is_v g5
  obtain rfl : w1 = (.int i1) := Option.some.inj ei1
  obtain ⟨i2, ei2⟩ := is_v g7
  obtain rfl : w2 = (.int i2) := Option.some.inj ei2
  obtain ⟨i3, ei3⟩ := is_v g9
  obtain rfl : w3 = (.int i3) := Option.some.inj ei3
  obtain ⟨i4, ei4⟩ := is_v g11
  obtain rfl : w4 = (.int i4) := Option.some.inj ei4
  obtain ⟨i5, ei5⟩ := is_v g12
  obtain rfl : w5 = (.int i5) := Option.some.inj ei5
  obtain ⟨n, o, h1, h2, h3, _, L, rfl, ⟨rfl, N⟩, hq⟩ := rm0 l s _ hw tables_1 i0 i1 i2 i3 i4 i5 s.heap s.heap.size (Nat.le_refl _) p e ha hc hk s m _ below hf ((Spec.applies_iff_loose hf).mp happ).1 ⟨rfl, State.Warmed39.refl s, rfl⟩ trivial
  refine ⟨n, _, h1, h2, h3, hpost _ _ _ _ _ _ ⟨Cond.after_iff.mpr rfl, Cond.after_iff.mpr (eq_i res_at (Term.int_eval (1)) rfl), trivial⟩ ⟨hq.1, hq.2.1, (hq.2.2.sift fun y hy => Or.inr (N y hy)).mono (by decide) (by decide)⟩⟩
theorem main_1_1 : Claimed_1_1 := comes_1 fun _ _ _ _ _ _ h hF => ⟨h.1, hF⟩
theorem main_1_2 : Claimed_1_2 := comes_1 fun _ _ _ _ _ _ h hF => ⟨h.2.1, hF⟩
end Jvm.Pilot.@@N@@
namespace Jvm.Pilot.@@N@@
open Jvm Jvm.ClassFile Sem Op Lib Jvm.Free Jvm.Stand Jvm.Pilot.@@N@@.Jvm.D
/-! MADE BY PROGRAM (witnessworld.py) out of the Statement's table words and the real class files: 13 classes; the members and pool entries that the words name. The judged class is class 1, her method 1. -/
namespace start1
open Jvm.ClassFile
def u (s : String) : CpInfo := .utf8 (stringToUtf16 s)
/-- a pool by its gaps: so many unusable entries, then the entry; so many at the end -/
def gap : Nat → List CpInfo → List CpInfo
  | 0, r => r
  | n + 1, r => .unusable :: gap n r
def poolList (es : List (Nat × CpInfo)) (last : Nat) : List CpInfo := es.foldr (fun e r => gap e.1 (e.2 :: r)) (gap last [])
def pool (es : List (Nat × CpInfo)) (last : Nat) : Array CpInfo := ⟨poolList es last⟩
def fileOf (pool : Array CpInfo) (this : Nat) (attrs : Array Attribute := #[]) (ms : Array MethodInfo := #[]) (fl : Nat := 33) (sup : Nat := 0) (ifs : Array Nat := #[]) (fds : Array FieldInfo := #[]) : ClassFile where
  minorVersion := 0
  majorVersion := 65
  constantPool := pool
  accessFlags := fl
  thisClass := this
  superClass := sup
  interfaces := ifs
  fields := fds
  methods := ms
  attributes := attrs
def plain (name : String) (sup : Option ClassId) : Class where
  name := name
  kind := .ordinary
  loader := none
  accessFlags := 33
  super := sup
  interfaces := #[]
  cf := none
  fields := #[]
  methods := #[]
  instanceTypes := #[]
  staticTypes := #[]
  resolved := #[]
  callSites := []
  init := .initialized
  statics := none
  mirror := none

def pool0 : Array CpInfo := pool [(5, u "<init>"), (0, u "()V"), (1, .class_ 10), (1, u "java/lang/Object")] 113

def k0c0 : Code := { maxStack := 0, maxLocals := 1, code := object_method_1_code, exceptionTable := #[], attributes := #[] }
def k0m0 : Method := { name := "<init>", desc := "()V", sig := { parameters := [], returnType := none }, accessFlags := 1, code := some k0c0 }
/-- java/lang/Object -/
def k0 : Class := { plain "java/lang/Object" none with
  accessFlags := 33
  interfaces := #[]
  cf := some (fileOf pool0 8 #[] #[{ accessFlags := 1, nameIndex := 5, descriptorIndex := 6, attributes := #[] }] 33 0 #[] #[])
  fields := #[]
  methods := #[k0m0]
  instanceTypes := #[]
  staticTypes := #[]
  resolved := Array.replicate 124 none
  statics := none }

def pool1 : Array CpInfo := pool [(2, .class_ 4), (1, u "java/lang/Object"), (0, u "<init>"), (0, u "()V"), (0, .integer 2147483647), (0, .class_ 9), (0, u "com/example/istra/istra/engine/NodeModel"), (0, .methodref 8 11), (0, .nameAndType 5 12), (0, u "(II)V"), (0, .methodref 8 14), (0, .nameAndType 15 12), (0, u "open"), (0, .methodref 8 17), (0, .nameAndType 18 19), (0, u "supply"), (0, u "(ID)V"), (0, .methodref 8 21), (0, .nameAndType 22 12), (0, u "close"), (0, .methodref 8 24), (0, .nameAndType 25 26), (0, u "blocked"), (0, u "(II)Z"), (0, .class_ 28), (0, u "com/example/istra/istra/engine/NodeModelBlockedPinLaw"), (2, u "law"), (0, u "(IIIIII)Z")] 3

def k1m0 : Method := { name := "<init>", desc := "()V", sig := { parameters := [], returnType := none }, accessFlags := 1, code := none }
def k1c1 : Code := { maxStack := 4, maxLocals := 18, code := code, exceptionTable := #[], attributes := #[] }
def k1m1 : Method := { name := "law", desc := "(IIIIII)Z", sig := { parameters := [.int, .int, .int, .int, .int, .int], returnType := some .boolean }, accessFlags := 9, code := some k1c1 }
/-- com/example/istra/istra/engine/NodeModelBlockedPinLaw -/
def k1 : Class := { plain "com/example/istra/istra/engine/NodeModelBlockedPinLaw" (some 0) with
  accessFlags := 49
  interfaces := #[]
  cf := some (fileOf pool1 27 #[] #[{ accessFlags := 1, nameIndex := 5, descriptorIndex := 6, attributes := #[] }, { accessFlags := 9, nameIndex := 31, descriptorIndex := 32, attributes := #[] }] 49 2 #[] #[])
  fields := #[]
  methods := #[k1m0, k1m1]
  instanceTypes := #[]
  staticTypes := #[]
  resolved := Array.replicate 36 none
  statics := none }

def pool2 : Array CpInfo := pool [(1, .methodref 2 3), (0, .class_ 4), (0, .nameAndType 5 6), (0, u "java/lang/Object"), (0, u "<init>"), (0, u "()V"), (0, .fieldref 8 9), (0, .class_ 10), (0, .nameAndType 11 12), (0, u "com/example/istra/istra/engine/NodeModel"), (0, u "demand"), (0, u "[D"), (0, .fieldref 8 14), (0, .nameAndType 15 12), (0, u "moved"), (0, .fieldref 8 17), (0, .nameAndType 18 12), (0, u "left"), (0, .fieldref 8 20), (0, .nameAndType 21 12), (0, u "supply"), (0, .fieldref 8 23), (0, .nameAndType 24 12), (0, u "room"), (0, .fieldref 8 26), (0, .nameAndType 27 12), (0, u "wanted"), (0, .fieldref 8 29), (0, .nameAndType 30 12), (0, u "fraction"), (0, .fieldref 8 32), (0, .nameAndType 33 12), (0, u "given"), (0, .fieldref 8 35), (0, .nameAndType 36 37), (0, u "spare"), (0, u "[Z"), (0, .fieldref 8 39), (0, .nameAndType 40 37), (0, u "finished"), (0, .fieldref 8 42), (0, .nameAndType 43 37), (0, u "closed"), (0, .fieldref 8 45), (0, .nameAndType 46 47), (0, u "wanting"), (0, u "[I"), (0, .fieldref 8 49), (0, .nameAndType 50 37), (0, u "listed"), (0, .fieldref 8 52), (0, .nameAndType 53 54), (0, u "wantingCount"), (0, u "I"), (0, .fieldref 8 56), (0, .nameAndType 57 54), (0, u "columns"), (6, .fieldref 8 65), (0, .nameAndType 66 54), (0, u "approaches"), (2, .double 9218868437227405312), (1, .fieldref 8 72), (0, .nameAndType 73 74), (0, u "anyClosed"), (0, u "Z"), (32, u "(II)V"), (2, u "open"), (3, u "close"), (0, u "blocked"), (0, u "(II)Z"), (0, u "(ID)V")] 8

def k2c0 : Code := { maxStack := 3, maxLocals := 3, code := prog_40_method_1_code, exceptionTable := #[], attributes := #[] }
def k2m0 : Method := { name := "<init>", desc := "(II)V", sig := { parameters := [.int, .int], returnType := none }, accessFlags := 0, code := some k2c0 }
def k2c1 : Code := { maxStack := 5, maxLocals := 5, code := prog_40_method_2_code, exceptionTable := #[], attributes := #[] }
def k2m1 : Method := { name := "open", desc := "(II)V", sig := { parameters := [.int, .int], returnType := none }, accessFlags := 0, code := some k2c1 }
def k2c2 : Code := { maxStack := 3, maxLocals := 3, code := prog_40_method_5_code, exceptionTable := #[], attributes := #[] }
def k2m2 : Method := { name := "close", desc := "(II)V", sig := { parameters := [.int, .int], returnType := none }, accessFlags := 0, code := some k2c2 }
def k2c3 : Code := { maxStack := 4, maxLocals := 3, code := prog_40_method_6_code, exceptionTable := #[], attributes := #[] }
def k2m3 : Method := { name := "blocked", desc := "(II)Z", sig := { parameters := [.int, .int], returnType := some .boolean }, accessFlags := 0, code := some k2c3 }
def k2c4 : Code := { maxStack := 4, maxLocals := 4, code := prog_40_method_7_code, exceptionTable := #[], attributes := #[] }
def k2m4 : Method := { name := "supply", desc := "(ID)V", sig := { parameters := [.int, .double], returnType := none }, accessFlags := 0, code := some k2c4 }
/-- com/example/istra/istra/engine/NodeModel -/
def k2 : Class := { plain "com/example/istra/istra/engine/NodeModel" (some 0) with
  accessFlags := 32
  interfaces := #[]
  cf := some (fileOf pool2 8 #[] #[{ accessFlags := 0, nameIndex := 5, descriptorIndex := 107, attributes := #[] }, { accessFlags := 0, nameIndex := 110, descriptorIndex := 107, attributes := #[] }, { accessFlags := 0, nameIndex := 114, descriptorIndex := 107, attributes := #[] }, { accessFlags := 0, nameIndex := 115, descriptorIndex := 116, attributes := #[] }, { accessFlags := 0, nameIndex := 21, descriptorIndex := 117, attributes := #[] }] 32 2 #[] #[{ accessFlags := 18, nameIndex := 11, descriptorIndex := 12, attributes := #[] }, { accessFlags := 18, nameIndex := 15, descriptorIndex := 12, attributes := #[] }, { accessFlags := 18, nameIndex := 18, descriptorIndex := 12, attributes := #[] }, { accessFlags := 18, nameIndex := 21, descriptorIndex := 12, attributes := #[] }, { accessFlags := 18, nameIndex := 24, descriptorIndex := 12, attributes := #[] }, { accessFlags := 18, nameIndex := 27, descriptorIndex := 12, attributes := #[] }, { accessFlags := 18, nameIndex := 30, descriptorIndex := 12, attributes := #[] }, { accessFlags := 18, nameIndex := 33, descriptorIndex := 12, attributes := #[] }, { accessFlags := 18, nameIndex := 36, descriptorIndex := 37, attributes := #[] }, { accessFlags := 18, nameIndex := 40, descriptorIndex := 37, attributes := #[] }, { accessFlags := 18, nameIndex := 43, descriptorIndex := 37, attributes := #[] }, { accessFlags := 18, nameIndex := 46, descriptorIndex := 47, attributes := #[] }, { accessFlags := 18, nameIndex := 50, descriptorIndex := 37, attributes := #[] }, { accessFlags := 2, nameIndex := 53, descriptorIndex := 54, attributes := #[] }, { accessFlags := 2, nameIndex := 66, descriptorIndex := 54, attributes := #[] }, { accessFlags := 2, nameIndex := 57, descriptorIndex := 54, attributes := #[] }, { accessFlags := 2, nameIndex := 73, descriptorIndex := 74, attributes := #[] }])
  fields := #[{ name := "demand", type := (.array .double), accessFlags := 18, slot := 0, constantValue := 0 }, { name := "moved", type := (.array .double), accessFlags := 18, slot := 1, constantValue := 0 }, { name := "left", type := (.array .double), accessFlags := 18, slot := 2, constantValue := 0 }, { name := "supply", type := (.array .double), accessFlags := 18, slot := 3, constantValue := 0 }, { name := "room", type := (.array .double), accessFlags := 18, slot := 4, constantValue := 0 }, { name := "wanted", type := (.array .double), accessFlags := 18, slot := 5, constantValue := 0 }, { name := "fraction", type := (.array .double), accessFlags := 18, slot := 6, constantValue := 0 }, { name := "given", type := (.array .double), accessFlags := 18, slot := 7, constantValue := 0 }, { name := "spare", type := (.array .boolean), accessFlags := 18, slot := 8, constantValue := 0 }, { name := "finished", type := (.array .boolean), accessFlags := 18, slot := 9, constantValue := 0 }, { name := "closed", type := (.array .boolean), accessFlags := 18, slot := 10, constantValue := 0 }, { name := "wanting", type := (.array .int), accessFlags := 18, slot := 11, constantValue := 0 }, { name := "listed", type := (.array .boolean), accessFlags := 18, slot := 12, constantValue := 0 }, { name := "wantingCount", type := .int, accessFlags := 2, slot := 13, constantValue := 0 }, { name := "approaches", type := .int, accessFlags := 2, slot := 14, constantValue := 0 }, { name := "columns", type := .int, accessFlags := 2, slot := 15, constantValue := 0 }, { name := "anyClosed", type := .boolean, accessFlags := 2, slot := 16, constantValue := 0 }]
  methods := #[k2m0, k2m1, k2m2, k2m3, k2m4]
  instanceTypes := #[(.array .double), (.array .double), (.array .double), (.array .double), (.array .double), (.array .double), (.array .double), (.array .double), (.array .boolean), (.array .boolean), (.array .boolean), (.array .int), (.array .boolean), .int, .int, .int, .boolean]
  staticTypes := #[]
  resolved := Array.replicate 126 none
  statics := none }

def pool3 : Array CpInfo := pool [(1, u "java/lang/Cloneable"), (0, .class_ 1), (0, u "java/lang/Object"), (0, .class_ 3)] 3

/-- java/lang/Cloneable -/
def k3 : Class := { plain "java/lang/Cloneable" (some 0) with
  accessFlags := 1537
  interfaces := #[]
  cf := some (fileOf pool3 2 #[] #[] 1537 4 #[] #[])
  fields := #[]
  methods := #[]
  instanceTypes := #[]
  staticTypes := #[]
  resolved := Array.replicate 8 none
  statics := none }

def pool4 : Array CpInfo := pool [(1, u "java/io/Serializable"), (0, .class_ 1), (0, u "java/lang/Object"), (0, .class_ 3)] 3

/-- java/io/Serializable -/
def k4 : Class := { plain "java/io/Serializable" (some 0) with
  accessFlags := 1537
  interfaces := #[]
  cf := some (fileOf pool4 2 #[] #[] 1537 4 #[] #[])
  fields := #[]
  methods := #[]
  instanceTypes := #[]
  staticTypes := #[]
  resolved := Array.replicate 8 none
  statics := none }

/-- the primitive boolean -/
def k5 : Class := { plain "boolean" none with kind := .primitive 'Z', accessFlags := 0x411 }
/-- [Z -/
def k6 : Class := { plain "[Z" (some 0) with kind := .array 5 .boolean, interfaces := #[3, 4], accessFlags := 1041 }

/-- the primitive byte -/
def k7 : Class := { plain "byte" none with kind := .primitive 'B', accessFlags := 0x411 }
/-- [B -/
def k8 : Class := { plain "[B" (some 0) with kind := .array 7 .byte, interfaces := #[3, 4], accessFlags := 1041 }

/-- the primitive double -/
def k9 : Class := { plain "double" none with kind := .primitive 'D', accessFlags := 0x411 }
/-- [D -/
def k10 : Class := { plain "[D" (some 0) with kind := .array 9 .double, interfaces := #[3, 4], accessFlags := 1041 }

/-- the primitive int -/
def k11 : Class := { plain "int" none with kind := .primitive 'I', accessFlags := 0x411 }
/-- [I -/
def k12 : Class := { plain "[I" (some 0) with kind := .array 11 .int, interfaces := #[3, 4], accessFlags := 1041 }

def heap : Heap := #[]
def classes : Array Class := #[k0, k1, k2, k3, k4, k5, k6, k7, k8, k9, k10, k11, k12]
def interned : List (Array UInt16 × Addr) := []
def slotsUsed : Nat := 0
def theMethod : MethodId := ⟨1, 1⟩
def args0 : Array Value := #[.int 3, .int 2, .int 1, .int 1, .int 2, .int 5]
def aboutOver (below : List Frame) : State where
  vm := { classes := classes, interned := interned.toArray }
  heap := heap
  slotsUsed := slotsUsed
  threads := #[{ frames := .invoking theMethod args0 :: below }]
def below0 : List Frame := [.native { method := ⟨0, 0⟩, args := #[] }]
def about1 : State := aboutOver below0
def p0 : Program := .bare "" "" ""
def e0 : Env := launch0.env 0 0 0
theorem w_frames : about1.frames = Frame.invoking theMethod args0 :: below0 := rfl
set_option maxRecDepth 65536 in
theorem w_args : argsFit about1.vm theMethod args0 = true := by decide +kernel
set_option maxRecDepth 65536 in
theorem w_heap : heapFits about1 = true := by decide +kernel
set_option maxRecDepth 65536 in
theorem w_runnable : about1.curStatus? = some .runnable := by decide +kernel
set_option maxRecDepth 65536 in
theorem w_alone : about1.alone = true := by decide +kernel
set_option maxRecDepth 65536 in
theorem w_named : about1.methodNamed? x = some theMethod := by decide +kernel
set_option maxRecDepth 65536 in
theorem w_hears : about1.hears theMethod below0 = true := by decide +kernel
set_option maxRecDepth 65536 in
theorem w_ripe : about1.ripe theMethod args0 below0 = true := by decide +kernel
theorem w_running : about1.status = .running := rfl
set_option maxRecDepth 65536 in
theorem w_room : about1.hasRoom e0.platform room_1 = true :=
  launch0.hasRoom_least _ room_1 (by decide +kernel) (by decide +kernel) (by decide +kernel) (by decide +kernel) (by decide +kernel) (by decide +kernel)
theorem allAtoms_all (ts : List Jvm.Cond) (a : Array Jvm.Value) (st : Jvm.State) : (allAtoms ts).before a st = ts.all (fun c => c.before a st) := by
  induction ts with
  | nil => rfl
  | cons c t ih =>
    show (Jvm.Cond.and c (allAtoms t)).before a st = _
    rw [Jvm.Cond.before_and, ih, List.all_cons]
def words1 : List Jvm.Cond := Jvm.Cond.code x code maxLocals ret :: tables_1
/-- a 'code' word, met by the world's own term for the bytes: nothing is compared byte by byte -/
theorem code_word {y : MethodName} {bytes : ByteArray} {mx : Nat} {rt : Option FieldType} {a : Array Value} {s : State} {m : MethodId} {meth : Method} {c : Code} (h1 : s.methodNamed? y = some m) (h2 : s.vm.method? m = some meth) (h3 : meth.code = some c) (h4 : c.code = bytes)
    (h5 : (c.maxLocals == mx && c.exceptionTable.isEmpty && decide (c.maxStack ≤ mostOperands) && decide (meth.sig.returnType = rt) && !meth.locks && decide (parseMethodDescriptor y.desc = some meth.sig)) = true) : (Jvm.Cond.code y bytes mx rt).before a s = true := by
  simp only [Bool.and_eq_true, beq_iff_eq, Bool.not_eq_true', decide_eq_true_eq] at h5
  obtain ⟨⟨⟨⟨⟨g1, g2⟩, g3⟩, g4⟩, g5⟩, g6⟩ := h5
  simp [Cond.before, Cond.holds, Cond.value, h1, h2, h3, h4, g1, g2, g3, g4, g5, g6]
def isCode : Jvm.Cond → Bool
  | .code _ _ _ _ => true
  | _ => false
theorem all_split {L : List Jvm.Cond} {P : Jvm.Cond → Bool} (h1 : L.all (fun c => isCode c || P c) = true) (h2 : ∀ c ∈ L.filter isCode, P c = true) : L.all P = true := by
  refine List.all_eq_true.mpr fun c hc => ?_
  have h := List.all_eq_true.mp h1 c hc
  rcases Bool.eq_false_or_eq_true (isCode c) with hi | hi
  · exact h2 c (List.mem_filter.mpr ⟨hc, hi⟩)
  · simpa [hi] using h
set_option maxRecDepth 65536 in
theorem w_c0 : (Jvm.Cond.code x code maxLocals ret).before args0 about1 = true := code_word (m := ⟨1, 1⟩) (meth := k1m1) (c := k1c1) (by decide +kernel) rfl rfl rfl (by decide +kernel)
set_option maxRecDepth 65536 in
theorem w_c1 : (Jvm.Cond.code ({ cls := "com/example/istra/istra/engine/NodeModel", name := "<init>", desc := "(II)V" } : Jvm.MethodName) prog_40_method_1_code (3 : Nat) (Option.none : Option Jvm.ClassFile.FieldType)).before args0 about1 = true := code_word (m := ⟨2, 0⟩) (meth := k2m0) (c := k2c0) (by decide +kernel) rfl rfl rfl (by decide +kernel)
set_option maxRecDepth 65536 in
theorem w_c2 : (Jvm.Cond.code ({ cls := "java/lang/Object", name := "<init>", desc := "()V" } : Jvm.MethodName) object_method_1_code (1 : Nat) (Option.none : Option Jvm.ClassFile.FieldType)).before args0 about1 = true := code_word (m := ⟨0, 0⟩) (meth := k0m0) (c := k0c0) (by decide +kernel) rfl rfl rfl (by decide +kernel)
set_option maxRecDepth 65536 in
theorem w_c3 : (Jvm.Cond.code ({ cls := "com/example/istra/istra/engine/NodeModel", name := "open", desc := "(II)V" } : Jvm.MethodName) prog_40_method_2_code (5 : Nat) (Option.none : Option Jvm.ClassFile.FieldType)).before args0 about1 = true := code_word (m := ⟨2, 1⟩) (meth := k2m1) (c := k2c1) (by decide +kernel) rfl rfl rfl (by decide +kernel)
set_option maxRecDepth 65536 in
theorem w_c4 : (Jvm.Cond.code ({ cls := "com/example/istra/istra/engine/NodeModel", name := "blocked", desc := "(II)Z" } : Jvm.MethodName) prog_40_method_6_code (3 : Nat) (Option.some Jvm.ClassFile.FieldType.boolean)).before args0 about1 = true := code_word (m := ⟨2, 3⟩) (meth := k2m3) (c := k2c3) (by decide +kernel) rfl rfl rfl (by decide +kernel)
set_option maxRecDepth 65536 in
theorem w_c5 : (Jvm.Cond.code ({ cls := "com/example/istra/istra/engine/NodeModel", name := "supply", desc := "(ID)V" } : Jvm.MethodName) prog_40_method_7_code (4 : Nat) (Option.none : Option Jvm.ClassFile.FieldType)).before args0 about1 = true := code_word (m := ⟨2, 4⟩) (meth := k2m4) (c := k2c4) (by decide +kernel) rfl rfl rfl (by decide +kernel)
set_option maxRecDepth 65536 in
theorem w_c6 : (Jvm.Cond.code ({ cls := "com/example/istra/istra/engine/NodeModel", name := "close", desc := "(II)V" } : Jvm.MethodName) prog_40_method_5_code (3 : Nat) (Option.none : Option Jvm.ClassFile.FieldType)).before args0 about1 = true := code_word (m := ⟨2, 2⟩) (meth := k2m2) (c := k2c2) (by decide +kernel) rfl rfl rfl (by decide +kernel)
def codes1 : List Jvm.Cond := [Jvm.Cond.code x code maxLocals ret, Jvm.Cond.code ({ cls := "com/example/istra/istra/engine/NodeModel", name := "<init>", desc := "(II)V" } : Jvm.MethodName) prog_40_method_1_code (3 : Nat) (Option.none : Option Jvm.ClassFile.FieldType), Jvm.Cond.code ({ cls := "java/lang/Object", name := "<init>", desc := "()V" } : Jvm.MethodName) object_method_1_code (1 : Nat) (Option.none : Option Jvm.ClassFile.FieldType), Jvm.Cond.code ({ cls := "com/example/istra/istra/engine/NodeModel", name := "open", desc := "(II)V" } : Jvm.MethodName) prog_40_method_2_code (5 : Nat) (Option.none : Option Jvm.ClassFile.FieldType), Jvm.Cond.code ({ cls := "com/example/istra/istra/engine/NodeModel", name := "blocked", desc := "(II)Z" } : Jvm.MethodName) prog_40_method_6_code (3 : Nat) (Option.some Jvm.ClassFile.FieldType.boolean), Jvm.Cond.code ({ cls := "com/example/istra/istra/engine/NodeModel", name := "supply", desc := "(ID)V" } : Jvm.MethodName) prog_40_method_7_code (4 : Nat) (Option.none : Option Jvm.ClassFile.FieldType), Jvm.Cond.code ({ cls := "com/example/istra/istra/engine/NodeModel", name := "close", desc := "(II)V" } : Jvm.MethodName) prog_40_method_5_code (3 : Nat) (Option.none : Option Jvm.ClassFile.FieldType)]
set_option maxRecDepth 65536 in
theorem codes_eq : words1.filter isCode = codes1 := rfl
theorem w_codes : ∀ c ∈ words1.filter isCode, c.before args0 about1 = true := by
  rw [codes_eq]
  intro c hc
  simp only [codes1, List.mem_cons, List.not_mem_nil, or_false] at hc
  rcases hc with rfl | rfl | rfl | rfl | rfl | rfl | rfl
  · exact w_c0
  · exact w_c1
  · exact w_c2
  · exact w_c3
  · exact w_c4
  · exact w_c5
  · exact w_c6
set_option maxRecDepth 65536 in
theorem w_t1 : (words1.take 24).all (fun c => isCode c || c.before args0 about1) = true := by decide +kernel
set_option maxRecDepth 65536 in
theorem w_t2 : ((words1.drop 24).take 24).all (fun c => isCode c || c.before args0 about1) = true := by decide +kernel
set_option maxRecDepth 65536 in
theorem w_t3 : ((words1.drop 24).drop 24).all (fun c => isCode c || c.before args0 about1) = true := by decide +kernel
theorem w_tables : (allAtoms (Jvm.Cond.code x code maxLocals ret :: tables_1)).before args0 about1 = true := by
  rw [allAtoms_all]
  show words1.all (fun c => c.before args0 about1) = true
  refine all_split ?_ w_codes
  rw [← List.take_append_drop 24 words1, List.all_append, w_t1, ← List.take_append_drop 24 (words1.drop 24), List.all_append, w_t2, w_t3]
  rfl
set_option maxRecDepth 65536 in
theorem w_case : (Jvm.Cond.and given_1 narrow_1).before args0 about1 = true := by decide +kernel
theorem w_applies : (headSpec (Jvm.Cond.code x code maxLocals ret :: tables_1) room_1).applies x e0.platform about1 = true :=
  (Spec.applies_iff w_frames).mpr ⟨w_running, w_runnable, w_alone, w_named, w_hears, w_ripe, w_room, w_tables⟩
theorem atStart : AtStart classFile x code maxLocals ret World_1 tables_1 room_1 Calls_1 rest_1 Pre_1 launch0 p0 e0 about1 theMethod args0 below0 :=
  ⟨lists_1, trivial, launch0.admits_env _ _ _, launch0.least_env, fairChoices_fair.cas, fairChoices_fair.clock, w_frames, w_args, w_heap, w_applies, trivial, trivial, w_case⟩
end start1
theorem witness_1 : WitnessClaimed_1 := ⟨start1.p0, start1.e0, start1.about1, start1.theMethod, start1.args0, start1.below0, start1.atStart⟩
end Jvm.Pilot.@@N@@
