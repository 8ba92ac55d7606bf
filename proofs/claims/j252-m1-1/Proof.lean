import JvmDerived
import JvmDerived.Pilot.@@N@@Statement
import JvmDerived.Pilot.@@N@@Code
set_option linter.unusedVariables false
set_option linter.unusedSimpArgs false
namespace Jvm.OwnFp
open Jvm.FP.Core Op
/-! own: exact values. `Dyf f i k d`: the datum d is finite and worth i / 2^k. -/
def Dyf (f : Fmt) (i : Int) (k : Nat) (d : Datum) : Prop := (∃ s c q, d = .fin s c q) ∧ zval f d * 2 ^ k = i * 2 ^ (-f.qmin).toNat
theorem pw_pos (n : Nat) : (0 : Int) < 2 ^ n := Int.pow_pos (by decide)
theorem pw_cast (n : Nat) : ((2 ^ n : Nat) : Int) = 2 ^ n := by simp
theorem signed_abs (i : Int) : signed (decide (i < 0)) i.natAbs = i := by
  unfold signed
  by_cases h : i < 0 <;> simp [h] <;> omega
theorem signed_mulI (s : Bool) (c k : Nat) : signed s (c * 2 ^ k) = signed s c * 2 ^ k := by
  rw [signed_mul, pw_cast]
theorem vex {f : Fmt} (hf : Good f) {i : Int} {k : Nat} (hi : i.natAbs < 2 ^ f.p) (hk : (k : Int) ≤ -f.qmin) (hq : 0 ≤ f.qmax) :
    ∃ s c q, FP.Core.fits f (.fin s c q) ∧ zval f (.fin s c q) * 2 ^ k = i * 2 ^ (-f.qmin).toNat := by
  obtain ⟨c', q', h, hu⟩ := round_exact hf (decide (i < 0)) (c := i.natAbs) (q := -(k : Int)) hi (by omega) (by omega)
  refine ⟨_, c', q', h ▸ round_fits hf _, ?_⟩
  show signed (decide (i < 0)) (inUnits c' q' f.qmin) * 2 ^ k = _
  rw [hu]
  unfold inUnits
  rw [signed_mulI, signed_abs, Int.mul_assoc, ← Int.pow_add, show (-(k : Int) - f.qmin).toNat + k = (-f.qmin).toNat by omega]
theorem dyf_of_zval {f : Fmt} (hf : Good f) {s : Bool} {A B : Nat} {e : Int} {s' : Bool} {c' : Nat} {q' : Int} (hV : FP.Core.fits f (.fin s' c' q'))
    (hz : zval f (roundRatio f s A B e) = zval f (.fin s' c' q')) : ∃ s₀ c₀ q₀, roundRatio f s A B e = .fin s₀ c₀ q₀ := by
  rcases roundRatio_cases f s A B e with ⟨c, q, h⟩ | h
  · exact ⟨s, c, q, h⟩
  · exfalso
    rw [h] at hz
    have h1 := zmag_lt_top hf hV
    have h2 := congrArg Int.natAbs hz
    unfold zval at h2
    rw [natAbs_signed, natAbs_signed] at h2
    have h3 : zmag f (.inf s) = f.tails * 2 ^ (f.exps - 2) := rfl
    have h4 : zmag f (.fin s' c' q') = inUnits c' q' f.qmin := rfl
    omega
/-- an exact result that the format holds is not rounded -/
theorem rnd {f : Fmt} (hf : Good f) (hq : 0 ≤ f.qmax) {s : Bool} {c : Nat} {q e0 : Int} (h0 : e0 ≤ f.qmin) (h0e : e0 ≤ q) {i : Int} {k : Nat} (hi : i.natAbs < 2 ^ f.p) (hk : (k : Int) ≤ -f.qmin)
    (h : signed s (inUnits c q e0) * 2 ^ k = i * 2 ^ (-f.qmin).toNat * 2 ^ (f.qmin - e0).toNat) : Dyf f i k (round f (.fin s c q)) := by
  obtain ⟨s', c', q', hV, hv⟩ := vex hf hi hk hq
  have hn : Datum.fin s' c' q' ≠ .nan := nofun
  have he : zval f (.fin s' c' q') * ((2 ^ (f.qmin - e0).toNat : Nat) : Int) = signed s (inUnits c q e0) := by
    refine Int.eq_of_mul_eq_mul_right (Int.ne_of_gt (pw_pos k)) ?_
    rw [h, ← hv, pw_cast]; ac_rfl
  have hz : zval f (round f (.fin s c q)) = zval f (.fin s' c' q') :=
    Int.le_antisymm (zval_round_le hf hV hn h0 h0e (Int.le_of_eq he.symm)) (zval_round_ge hf hV hn h0 h0e (Int.le_of_eq he))
  exact ⟨dyf_of_zval hf hV hz, by rw [hz]; exact hv⟩
theorem Dyf.fit {f : Fmt} {i : Int} {k : Nat} {d : Datum} (h : Dyf f i k d) : ∃ s c q, d = .fin s c q := h.1
theorem Dyf.up {f : Fmt} {i : Int} {k : Nat} {d : Datum} (h : Dyf f i k d) (l : Nat) : Dyf f (i * 2 ^ l) (k + l) d :=
  ⟨h.1, by rw [Int.pow_add, ← Int.mul_assoc, h.2]; ac_rfl⟩
theorem Dyf.to {f : Fmt} {i j : Int} {k l : Nat} {d : Datum} (h : Dyf f i k d) (e : i * 2 ^ l = j * 2 ^ k) : Dyf f j l d := by
  refine ⟨h.1, Int.eq_of_mul_eq_mul_right (Int.ne_of_gt (pw_pos k)) ?_⟩
  calc zval f d * 2 ^ l * 2 ^ k = (zval f d * 2 ^ k) * 2 ^ l := by ac_rfl
    _ = (i * 2 ^ l) * 2 ^ (-f.qmin).toNat := by rw [h.2]; ac_rfl
    _ = j * 2 ^ (-f.qmin).toNat * 2 ^ k := by rw [e]; ac_rfl
theorem Dyf.sum {f : Fmt} (hf : Good f) (hq : 0 ≤ f.qmax) {i j : Int} {k : Nat} {x y : Datum} (fx : FP.Core.fits f x) (fy : FP.Core.fits f y) (hx : Dyf f i k x) (hy : Dyf f j k y) (hi : (i + j).natAbs < 2 ^ f.p) (hk : (k : Int) ≤ -f.qmin) :
    Dyf f (i + j) k (round f (exactSum x y)) := by
  obtain ⟨⟨s, c, q, rfl⟩, hx⟩ := hx
  obtain ⟨⟨t, d, r, rfl⟩, hy⟩ := hy
  obtain ⟨sg, n, e, he, hle, hu⟩ := sum_units fx fy
  rw [he]
  refine rnd hf hq (Int.le_refl _) hle hi hk ?_
  rw [hu, Int.add_mul, hx, hy, Int.add_mul, Int.sub_self]
  simp
theorem Dyf.neg {f : Fmt} {i : Int} {k : Nat} {x : Datum} (hx : Dyf f i k x) : Dyf f (-i) k (negate x) := by
  obtain ⟨⟨s, c, q, rfl⟩, hx⟩ := hx
  refine ⟨⟨_, _, _, rfl⟩, ?_⟩
  rw [zval_negate, Int.neg_mul, hx, Int.neg_mul]
theorem Dyf.prod {f : Fmt} (hf : Good f) (hq : 0 ≤ f.qmax) {i j : Int} {k l : Nat} {x y : Datum} (fx : FP.Core.fits f x) (fy : FP.Core.fits f y) (hx : Dyf f i k x) (hy : Dyf f j l y) (hi : (i * j).natAbs < 2 ^ f.p) (hk : ((k + l : Nat) : Int) ≤ -f.qmin) :
    Dyf f (i * j) (k + l) (round f (exactProduct x y)) := by
  obtain ⟨⟨s, c, q, rfl⟩, hx⟩ := hx
  obtain ⟨⟨t, d, r, rfl⟩, hy⟩ := hy
  obtain ⟨he, hle, hu⟩ := product_units fx fy
  rw [he]
  have hn := qmin_neg hf
  refine rnd hf hq (e0 := 2 * f.qmin) (by omega) hle hi hk ?_
  rw [hu, signed_xor, show (f.qmin - 2 * f.qmin).toNat = (-f.qmin).toNat by omega, Int.pow_add]
  calc zval f (.fin s c q) * zval f (.fin t d r) * (2 ^ k * 2 ^ l) = (zval f (.fin s c q) * 2 ^ k) * (zval f (.fin t d r) * 2 ^ l) := by ac_rfl
    _ = _ := by rw [hx, hy]; ac_rfl
theorem natAbs_pow (n : Nat) : ((2 : Int) ^ n).natAbs = 2 ^ n := by rw [Int.natAbs_pow]; rfl
theorem natAbs_zval (f : Fmt) (d : Datum) : (zval f d).natAbs = zmag f d := natAbs_signed _ _
/-- an exact quotient that the format holds is not rounded -/
theorem Dyf.quot {f : Fmt} (hf : Good f) (hq : 0 ≤ f.qmax) {i j n : Int} {k l m : Nat} {x y : Datum} (fx : FP.Core.fits f x) (fy : FP.Core.fits f y) (hx : Dyf f i k x) (hy : Dyf f j l y) (hj : j ≠ 0) (hi : n.natAbs < 2 ^ f.p) (hm : (m : Int) ≤ -f.qmin)
    (e : i * 2 ^ l * 2 ^ m = n * j * 2 ^ k) : Dyf f n m (quotient f x y) := by
  obtain ⟨⟨s, c, q, rfl⟩, hx⟩ := hx
  obtain ⟨⟨t, d, r, rfl⟩, hy⟩ := hy
  obtain ⟨s', c', q', hV, hv⟩ := vex hf hi hm hq
  have hn : Datum.fin s' c' q' ≠ .nan := nofun
  have hqm := qmin_neg hf
  have fx1 := fx.2.1
  have fy1 := fy.2.1
  -- the signed equation
  have hz : zval f (.fin s c q) * 2 ^ (-f.qmin).toNat = zval f (.fin s' c' q') * zval f (.fin t d r) := by
    refine Int.eq_of_mul_eq_mul_right (Int.ne_of_gt (Int.mul_pos (Int.mul_pos (pw_pos k) (pw_pos l)) (pw_pos m))) ?_
    calc zval f (.fin s c q) * 2 ^ (-f.qmin).toNat * (2 ^ k * 2 ^ l * 2 ^ m) = (zval f (.fin s c q) * 2 ^ k) * (2 ^ l * 2 ^ m) * 2 ^ (-f.qmin).toNat := by ac_rfl
      _ = (i * 2 ^ l * 2 ^ m) * 2 ^ (-f.qmin).toNat * 2 ^ (-f.qmin).toNat := by rw [hx]; ac_rfl
      _ = (n * 2 ^ (-f.qmin).toNat) * (j * 2 ^ (-f.qmin).toNat) * 2 ^ k := by rw [e]; ac_rfl
      _ = (zval f (.fin s' c' q') * 2 ^ m) * (zval f (.fin t d r) * 2 ^ l) * 2 ^ k := by rw [hv, hy]
      _ = _ := by ac_rfl
  have hzb : zval f (.fin t d r) ≠ 0 := by
    intro h0
    rw [h0, Int.zero_mul] at hy
    rcases Int.mul_eq_zero.mp hy.symm with h | h
    · exact hj h
    · exact absurd h (Int.ne_of_gt (pw_pos _))
  have hd : d ≠ 0 := by
    rintro rfl
    apply hzb
    show signed t (inUnits 0 r f.qmin) = 0
    unfold inUnits; rw [Nat.zero_mul, signed_zero]
  have hmag : zmag f (.fin s c q) * 2 ^ (-f.qmin).toNat = zmag f (.fin s' c' q') * zmag f (.fin t d r) := by
    have h2 := congrArg Int.natAbs hz
    rw [Int.natAbs_mul, Int.natAbs_mul, natAbs_pow, natAbs_zval, natAbs_zval, natAbs_zval] at h2
    exact h2
  have hun : inUnits c (q - r) (2 * f.qmin - r) = zmag f (.fin s' c' q') * 2 ^ (f.qmin - (2 * f.qmin - r)).toNat * d := by
    have a1 : inUnits c (q - r) (2 * f.qmin - r) = zmag f (.fin s c q) * 2 ^ (-f.qmin).toNat := by
      show c * 2 ^ _ = c * 2 ^ _ * 2 ^ _
      rw [Nat.mul_assoc, ← Nat.pow_add, show (q - r - (2 * f.qmin - r)).toNat = (q - f.qmin).toNat + (-f.qmin).toNat by omega]
    rw [a1, hmag, show (f.qmin - (2 * f.qmin - r)).toNat = (r - f.qmin).toNat by omega]
    show _ * (d * 2 ^ _) = _
    ac_rfl
  have hqt : quotient f (.fin s c q) (.fin t d r) = roundRatio f (s != t) c d (q - r) := by
    show (if d = 0 then _ else _) = _
    rw [if_neg hd]
  have hm2 : zmag f (roundRatio f (s != t) c d (q - r)) = zmag f (.fin s' c' q') :=
    Nat.le_antisymm (zmag_roundRatio_le hf (e0 := 2 * f.qmin - r) (Nat.pos_of_ne_zero hd) hV hn (by omega) (by omega) (Nat.le_of_eq hun))
      (zmag_roundRatio_ge hf (e0 := 2 * f.qmin - r) (Nat.pos_of_ne_zero hd) hV (by omega) (by omega) (Nat.le_of_eq hun.symm))
  have hsg : signed (s != t) (zmag f (.fin s' c' q')) = zval f (.fin s' c' q') := by
    have p0 : zmag f (.fin s c q) = inUnits c q f.qmin := rfl
    have hS : zval f (.fin s c q) * 2 ^ (-f.qmin).toNat * zval f (.fin t d r) = zval f (.fin s' c' q') * (zval f (.fin t d r) * zval f (.fin t d r)) := by rw [hz]; ac_rfl
    by_cases h0 : zmag f (.fin s' c' q') = 0
    · unfold zval; rw [h0, signed_zero, signed_zero]
    · have hbb : 0 < zval f (.fin t d r) * zval f (.fin t d r) := by
        rcases Int.lt_or_gt_of_ne hzb with h | h
        · exact Int.mul_pos_of_neg_of_neg h h
        · exact Int.mul_pos h h
      have hst : zval f (.fin s c q) * zval f (.fin t d r) = signed (s != t) (zmag f (.fin s c q) * zmag f (.fin t d r)) := by
        rw [signed_xor]; rfl
      have e1 : zval f (.fin s' c' q') * (zval f (.fin t d r) * zval f (.fin t d r)) = signed (s != t) (zmag f (.fin s c q) * zmag f (.fin t d r)) * 2 ^ (-f.qmin).toNat := by
        rw [← hS, ← hst]; ac_rfl
      have e2 : signed (s != t) (zmag f (.fin s c q) * zmag f (.fin t d r)) * 2 ^ (-f.qmin).toNat = signed (s != t) (zmag f (.fin s' c' q')) * (zval f (.fin t d r) * zval f (.fin t d r)) := by
        rw [← signed_mulI, show zmag f (.fin s c q) * zmag f (.fin t d r) * 2 ^ (-f.qmin).toNat = zmag f (.fin s' c' q') * (zmag f (.fin t d r) * zmag f (.fin t d r)) by rw [Nat.mul_right_comm, hmag]; ac_rfl, signed_mul]
        congr 1
        unfold zval
        rw [Int.natCast_mul]
        cases (sgn (.fin t d r)) <;> simp [signed, Int.neg_mul_neg]
      exact Int.eq_of_mul_eq_mul_right (Int.ne_of_gt hbb) (e2.symm.trans e1.symm)
  have hzz : zval f (roundRatio f (s != t) c d (q - r)) = zval f (.fin s' c' q') := by
    rw [← hsg]
    show signed (sgn (roundRatio f (s != t) c d (q - r))) (zmag f (roundRatio f (s != t) c d (q - r))) = _
    rw [sgn_roundRatio, hm2]
  rw [hqt]
  exact ⟨dyf_of_zval hf hV hzz, by rw [hzz]; exact hv⟩
theorem Dyf.ofInt {f : Fmt} (hf : Good f) (hq : 0 ≤ f.qmax) {i : Int} (hi : i.natAbs < 2 ^ f.p) : Dyf f i 0 (round f (FP.Core.ofInt i)) := by
  have hn := qmin_neg hf
  refine rnd hf hq (Int.le_refl _) (by omega) hi (by omega) ?_
  unfold inUnits
  rw [signed_mulI, signed_abs, Int.sub_self]
  simp
theorem Dyf.order {f : Fmt} (hf : Good f) {i j : Int} {k : Nat} {x y : Datum} (fx : FP.Core.fits f x) (fy : FP.Core.fits f y) (hx : Dyf f i k x) (hy : Dyf f j k y) : order x y = some (compare i j) := by
  obtain ⟨⟨s, c, q, rfl⟩, hx⟩ := hx
  obtain ⟨⟨t, d, r, rfl⟩, hy⟩ := hy
  rw [order_zval hf fx fy nofun nofun, ← compare_mul_pos _ _ _ (pw_pos k), hx, hy, compare_mul_pos _ _ _ (pw_pos _)]
/-! doubles -/
def Dy (i : Int) (k : Nat) (a : UInt64) : Prop := Dyf b64 i k (val64 a)
theorem qm64 : (0 : Int) ≤ b64.qmax := by decide
theorem Dy.fin {i : Int} {k : Nat} {a : UInt64} (h : Dy i k a) : DFin a := h.1
theorem Dy.nn {i : Int} {k : Nat} {a : UInt64} (h : Dy i k a) : Jvm.Free.Fl.NoNaN64 a := (Jvm.Free.Fl.fin64_core.mpr h.1).noNaN
theorem Dy.to {i j : Int} {k l : Nat} {a : UInt64} (h : Dy i k a) (e : i * 2 ^ l = j * 2 ^ k) : Dy j l a := Dyf.to h e
theorem Dy.up {i : Int} {k : Nat} {a : UInt64} (h : Dy i k a) (l : Nat) : Dy (i * 2 ^ l) (k + l) a := Dyf.up h l
theorem Dy.add {i j : Int} {k : Nat} {a b : UInt64} (ha : Dy i k a) (hb : Dy j k b) (hi : (i + j).natAbs < 9007199254740992) (hk : k ≤ 1074) : Dy (i + j) k (FP.dadd a b) := by
  show Dyf b64 _ _ (val64 (dadd a b))
  rw [val64_dadd]
  exact Dyf.sum good_b64 qm64 (val64_fits a) (val64_fits b) ha hb hi (by rw [qmin_b64]; omega)
theorem Dy.sub {i j : Int} {k : Nat} {a b : UInt64} (ha : Dy i k a) (hb : Dy j k b) (hi : (i - j).natAbs < 9007199254740992) (hk : k ≤ 1074) : Dy (i - j) k (FP.dsub a b) := by
  show Dyf b64 _ _ (val64 (dsub a b))
  rw [val64_dsub]
  exact Dyf.sum good_b64 qm64 (val64_fits a) (negate_fits (val64_fits b)) ha hb.neg hi (by rw [qmin_b64]; omega)
theorem Dy.mul {i j : Int} {k l : Nat} {a b : UInt64} (ha : Dy i k a) (hb : Dy j l b) (hi : (i * j).natAbs < 9007199254740992) (hk : k + l ≤ 1074) : Dy (i * j) (k + l) (FP.dmul a b) := by
  show Dyf b64 _ _ (val64 (dmul a b))
  rw [val64_dmul]
  exact Dyf.prod good_b64 qm64 (val64_fits a) (val64_fits b) ha hb hi (by rw [qmin_b64]; omega)
theorem Dy.div {i j n : Int} {k l m : Nat} {a b : UInt64} (ha : Dy i k a) (hb : Dy j l b) (hj : j ≠ 0) (hi : n.natAbs < 9007199254740992) (hk : m ≤ 1074) (e : i * 2 ^ l * 2 ^ m = n * j * 2 ^ k) : Dy n m (FP.ddiv a b) := by
  show Dyf b64 _ _ (val64 (ddiv a b))
  rw [val64_ddiv]
  exact Dyf.quot good_b64 qm64 (val64_fits a) (val64_fits b) ha hb hj hi (by rw [qmin_b64]; omega) e
theorem Dy.neg {i : Int} {k : Nat} {a : UInt64} (ha : Dy i k a) : Dy (-i) k (FP.dneg a) := by
  show Dyf b64 _ _ (val64 (FP.dneg a))
  rw [Jvm.FP.val64_dneg]
  exact Dyf.neg ha
theorem Dy.i2d (x : Int32) : Dy x.toInt 0 (FP.i2d x) := by
  show Dyf b64 _ _ (val64 (FP.Core.i2d x))
  rw [val64_i2d]
  exact Dyf.ofInt good_b64 qm64 (by have := int32_abs x; show _ < 2 ^ 53; omega)
theorem Dy.l2d {x : Int64} (h : x.toInt.natAbs < 9007199254740992) : Dy x.toInt 0 (FP.l2d x) := by
  show Dyf b64 _ _ (val64 (FP.Core.l2d x))
  rw [val64_l2d]
  exact Dyf.ofInt good_b64 qm64 h
theorem Dy.cmp {i j : Int} {k : Nat} {a b : UInt64} (ha : Dy i k a) (hb : Dy j k b) : FP.dcmp a b = some (compare i j) :=
  Dyf.order good_b64 (val64_fits a) (val64_fits b) ha hb
theorem Dy.cmp_eq {i j : Int} {k : Nat} {a b : UInt64} (ha : Dy i k a) (hb : Dy j k b) (e : i = j) (o : ClassFile.CmpOp) : cmpValue (FP.dcmp a b) o = 0 := by
  rw [ha.cmp hb, e, compare_self_int]; rfl
theorem Dy.cmp_lt {i j : Int} {k : Nat} {a b : UInt64} (ha : Dy i k a) (hb : Dy j k b) (e : i < j) (o : ClassFile.CmpOp) : cmpValue (FP.dcmp a b) o = -1 := by
  rw [ha.cmp hb, show compare i j = .lt by rw [compare_ite, if_pos e]]; rfl
theorem Dy.cmp_gt {i j : Int} {k : Nat} {a b : UInt64} (ha : Dy i k a) (hb : Dy j k b) (e : j < i) (o : ClassFile.CmpOp) : cmpValue (FP.dcmp a b) o = 1 := by
  rw [ha.cmp hb, show compare i j = .gt by rw [compare_ite, if_neg (by omega), if_neg (by omega)]]; rfl
theorem dy_of {i : Int} {k : Nat} {a : UInt64} {s : Bool} {c : Nat} {q : Int} (h : val64 a = .fin s c q) (e : zval b64 (.fin s c q) * 2 ^ k = i * 2 ^ 1074) : Dy i k a :=
  ⟨⟨s, c, q, h⟩, by rw [h, e]; rfl⟩
theorem dy0 (k : Nat) : Dy 0 k (0 : UInt64) := dy_of (s := false) (c := 0) (q := -1074) (by decide +kernel) (by
  rw [show zval b64 (.fin false 0 (-1074)) = 0 from rfl, Int.zero_mul, Int.zero_mul])
theorem dy1 (k : Nat) : Dy (2 ^ k) k (4607182418800017408 : UInt64) := dy_of (s := false) (c := 2 ^ 52) (q := -52) (by decide +kernel) (by
  rw [show zval b64 (.fin false (2 ^ 52) (-52)) = 2 ^ 1074 by decide +kernel, Int.mul_comm])
theorem Dy.ge {i j : Int} {k : Nat} {a b : UInt64} (ha : Dy i k a) (hb : Dy j k b) (e : j ≤ i) (o : ClassFile.CmpOp) : ¬ (cmpValue (FP.dcmp a b) o < (0 : Int32)) := by
  rcases Int.lt_or_eq_of_le e with h | h
  · rw [ha.cmp_gt hb h]; decide
  · rw [ha.cmp_eq hb h.symm]; decide
theorem Dy.le {i j : Int} {k : Nat} {a b : UInt64} (ha : Dy i k a) (hb : Dy j k b) (e : i ≤ j) (o : ClassFile.CmpOp) : ¬ ((0 : Int32) < cmpValue (FP.dcmp a b) o) := by
  rcases Int.lt_or_eq_of_le e with h | h
  · rw [ha.cmp_lt hb h]; decide
  · rw [ha.cmp_eq hb h]; decide
theorem Dy.lt_inf {i : Int} {k : Nat} {a : UInt64} (ha : Dy i k a) (o : ClassFile.CmpOp) : cmpValue (FP.dcmp a (9218868437227405312 : UInt64)) o < (0 : Int32) := by
  rw [Jvm.RoadKit.dcmp_pinf (Jvm.Free.Fl.fin64_core.mpr ha.1)]; decide
theorem isfin {a : UInt64} (h : DFin a) : ¬ ((0 : Int32) < cmpValue (FP.dcmp (a &&& 0x7fffffffffffffff) (9218868437227405311 : UInt64)) .g) := by
  have hn : dIsNaN a = false := (notNaN_iff a).mpr (by obtain ⟨s, c, q, e⟩ := h; rw [e]; exact nofun)
  rcases (le_max hn).mpr h with e | e <;> rw [show FP.dcmp (a &&& 0x7fffffffffffffff) (9218868437227405311 : UInt64) = _ from e] <;> decide
theorem since0 (s : State) : s.Since s.vm 0 := ⟨State.Warmed39.refl s, fun j p h1 h2 => by
  rw [Array.getElem?_eq_none h1] at h2; cases h2⟩
theorem i2d_nz {v : Int32} (h : v ≠ 0) : ¬ DZero (FP.i2d v) := fun q => i2d_ne_zero h ((zero_bits2 _).mp q)
theorem nn_of {x : UInt64} (h : dIsNaN x = false) : Jvm.Free.Fl.NoNaN64 x := Jvm.Free.Fl.noNaN64_no.mpr h
theorem no_of {x : UInt64} (h : Jvm.Free.Fl.NoNaN64 x) : dIsNaN x = false := Jvm.Free.Fl.noNaN64_no.mp h
theorem no_fin {x : UInt64} (h : DFin x) : dIsNaN x = false := (notNaN_iff x).mpr (by obtain ⟨s, c, q, e⟩ := h; rw [e]; exact nofun)
theorem nn_div {a : UInt64} {v : Int32} (ha : dIsNaN a = false) (h : v ≠ 0) : Jvm.Free.Fl.NoNaN64 (FP.ddiv a (FP.i2d v)) := nn_of (ddiv_out ha (i2d_fin v) (i2d_nz h))
theorem fin_div (a : Int32) {v : Int32} (h : v ≠ 0) : DFin (FP.ddiv (FP.i2d a) (FP.i2d v)) := by
  have h1 := i2d_mag a
  have h2 := i2d_big (v := v) (fun q => h (Int32.toInt_inj.mp q))
  exact fin_of_lt (ddiv_mag h1 h2.1 h2.2 (by decide) (by decide)) (by decide)
end Jvm.OwnFp
namespace Jvm.Pilot.@@N@@
open Jvm Jvm.ClassFile Sem Op Lib Jvm.Free Jvm.Stand Jvm.LawKit Jvm.RoadKit Bundle Jvm.Pilot.@@N@@.Jvm.D
open Jvm.OwnFp
def own_eq (x0 x1 x2 x3 y0 y1 y2 y3 : UInt64) : Int32 := if (cmpValue (FP.dcmp x0 y0) .l) = (0 : Int32) then (if (cmpValue (FP.dcmp x1 y1) .l) = (0 : Int32) then (if (cmpValue (FP.dcmp x2 y2) .l) = (0 : Int32) then (if (cmpValue (FP.dcmp x3 y3) .l) = (0 : Int32) then 1 else 0) else 0) else 0) else 0
theorem own_cz {i j : Int} {k : Nat} {a b : UInt64} (ha : Dy i k a) (hb : Dy j k b) : (cmpValue (FP.dcmp a b) .l) = (0 : Int32) ↔ i = j := by
  constructor
  · intro h
    rcases Int.lt_trichotomy i j with g | g | g
    · rw [ha.cmp_lt hb g] at h; exact absurd h (by decide)
    · exact g
    · rw [ha.cmp_gt hb g] at h; exact absurd h (by decide)
  · intro h; exact ha.cmp_eq hb h .l
theorem own_ln (x : Int32) : Dy (-x.toInt) 0 (FP.l2d (-(x.toInt64))) := by
  have e : (-(x.toInt64)).toInt = -x.toInt := by have := c_lneg x.toInt64; have r := rng64 (-x.toInt64); have q := rng32 x; rw [c_i2l] at this; omega
  rw [← e]; exact Dy.l2d (by have q := rng32 x; rw [e]; omega)
theorem own_nn {i : Int} {a : UInt64} (h : Dy (-i) 0 a) : Dy i 0 (FP.dneg a) := by have := h.neg; rwa [Int.neg_neg] at this
theorem own_ushr (d : Int32) : 0 ≤ ((d.toUInt32 >>> ((1 : Int32) &&& 31).toUInt32).toInt32).toInt := by
  have u := c_iushr d 1 1 (by decide) (by decide); have r := rng32 d; rw [u]; omega
theorem own_ch (d : Int32) : ¬ ((255 : Int32) < ((d &&& (255 : Int32)).toUInt32.toUInt16.toUInt32.toInt32)) := by
  have a := c_and d 255 (by decide); have b := c_i2c (d &&& 255)
  rw [show (255 : Int32).toInt = 255 by decide] at a
  intro h; have h' := Int32.lt_iff_toInt_lt.mp h; rw [show (255 : Int32).toInt = 255 by decide] at h'; omega
theorem own_self {i0 i1 i2 i3 : Int} {x0 x1 x2 x3 : UInt64} (d0 : Dy i0 0 x0) (d1 : Dy i1 0 x1) (d2 : Dy i2 0 x2) (d3 : Dy i3 0 x3) : ¬ (own_eq x0 x1 x2 x3 x0 x1 x2 x3 = (0 : Int32)) := by
  unfold own_eq; rw [if_pos ((own_cz d0 d0).mpr rfl), if_pos ((own_cz d1 d1).mpr rfl), if_pos ((own_cz d2 d2).mpr rfl), if_pos ((own_cz d3 d3).mpr rfl)]; decide
theorem own_eqv {i0 i1 i2 i3 j0 j1 j2 j3 : Int} {x0 x1 x2 x3 y0 y1 y2 y3 : UInt64} (d0 : Dy i0 0 x0) (d1 : Dy i1 0 x1) (d2 : Dy i2 0 x2) (d3 : Dy i3 0 x3) (f0 : Dy j0 0 y0) (f1 : Dy j1 0 y1) (f2 : Dy j2 0 y2) (f3 : Dy j3 0 y3) :
    own_eq x0 x1 x2 x3 y0 y1 y2 y3 = if i0 = j0 then (if i1 = j1 then (if i2 = j2 then (if i3 = j3 then 1 else 0) else 0) else 0) else 0 := by
  unfold own_eq; simp only [own_cz d0 f0, own_cz d1 f1, own_cz d2 f2, own_cz d3 f3]
theorem own_sym {i0 i1 i2 i3 j0 j1 j2 j3 : Int} {x0 x1 x2 x3 y0 y1 y2 y3 : UInt64} (d0 : Dy i0 0 x0) (d1 : Dy i1 0 x1) (d2 : Dy i2 0 x2) (d3 : Dy i3 0 x3) (f0 : Dy j0 0 y0) (f1 : Dy j1 0 y1) (f2 : Dy j2 0 y2) (f3 : Dy j3 0 y3) :
    own_eq x0 x1 x2 x3 y0 y1 y2 y3 = own_eq y0 y1 y2 y3 x0 x1 x2 x3 := by
  rw [own_eqv d0 d1 d2 d3 f0 f1 f2 f3, own_eqv f0 f1 f2 f3 d0 d1 d2 d3]
  simp only [eq_comm]
theorem own_l2 (a b : Int32) : (a.toInt64 + b.toInt64).toInt = a.toInt + b.toInt := by
  have s := c_ladd a.toInt64 b.toInt64; have r := rng64 (a.toInt64 + b.toInt64); have := rng32 a; have := rng32 b; rw [c_i2l, c_i2l] at s; omega
theorem own_fin {xa ya wA hA xb yb wB hB : Int32} {x0 x1 x2 x3 y0 y1 y2 y3 : UInt64} (d0 : Dy xa.toInt 0 x0) (d1 : Dy ya.toInt 0 x1) (d2 : Dy (xa.toInt + wA.toInt) 0 x2) (d3 : Dy (ya.toInt + hA.toInt) 0 x3) (f0 : Dy xb.toInt 0 y0) (f1 : Dy yb.toInt 0 y1) (f2 : Dy (xb.toInt + wB.toInt) 0 y2) (f3 : Dy (yb.toInt + hB.toInt) 0 y3) :
    own_eq x0 x1 x2 x3 y0 y1 y2 y3 = (if xa = xb then (if ya = yb then (if (lcmpW ((xa.toInt64) + (wA.toInt64)) ((xb.toInt64) + (wB.toInt64))) = (0 : Int32) then (if (lcmpW ((ya.toInt64) + (hA.toInt64)) ((yb.toInt64) + (hB.toInt64))) = (0 : Int32) then (1 : Int32) else (0 : Int32)) else (0 : Int32)) else (0 : Int32)) else (0 : Int32)) := by
  rw [own_eqv d0 d1 d2 d3 f0 f1 f2 f3]
  have e1 : (xa.toInt = xb.toInt) = (xa = xb) := propext Int32.toInt_inj
  have e2 : (ya.toInt = yb.toInt) = (ya = yb) := propext Int32.toInt_inj
  have e3 : (lcmpW (xa.toInt64 + wA.toInt64) (xb.toInt64 + wB.toInt64) = 0) = (xa.toInt + wA.toInt = xb.toInt + wB.toInt) := propext (by rw [lw_eq, ← Int64.toInt_inj, own_l2, own_l2])
  have e4 : (lcmpW (ya.toInt64 + hA.toInt64) (yb.toInt64 + hB.toInt64) = 0) = (ya.toInt + hA.toInt = yb.toInt + hB.toInt) := propext (by rw [lw_eq, ← Int64.toInt_inj, own_l2, own_l2])
  simp only [e1, e2, e3, e4]
theorem own_nobox {Z : State} {a0 : Array Value} (hw : ∀ d ∈ tables_1, d.before a0 Z = true) : ∃ c t, Z.vm.findClass "java/lang/String" = some c ∧ Z.vm.findClass "com/example/hoja/hoja/model/Box" = some t ∧ Z.vm.assignable c t = false := by
  have w1 : (Jvm.Cond.superclass "java/lang/String" "java/lang/Object").before a0 Z = true := (hw _ (List.mem_of_getElem? (i := 61) rfl))
  obtain ⟨cO, kO, h1, h2, h3, -, -⟩ := Cond.noSuperclass_spec (hw _ (List.mem_of_getElem? (i := 62) rfl))
  obtain ⟨t, kt, g1, g2, g3, g4, -, -⟩ := Cond.instantiable_spec (hw _ (List.mem_of_getElem? (i := 2) rfl))
  obtain ⟨c, h0⟩ := found_sup w1
  obtain ⟨p, k, kp, q1, q2, q3, q4, q5, -⟩ := Cond.superclass_spec h0 w1
  cases h1.symm.trans q1
  have nO := ids_ne h1 g1 (by decide)
  have nS := ids_ne h0 g1 (by decide)
  have r1 : ∀ fuel, Z.vm.isSubclassAux fuel cO t = false := fun fuel => by
    cases fuel with
    | zero => rfl
    | succ f => simp [Vm.isSubclassAux, nO, h2, h3]
  have r2 : ∀ fuel, Z.vm.isSubclassAux fuel c t = false := fun fuel => by
    cases fuel with
    | zero => rfl
    | succ f => simp [Vm.isSubclassAux, nS, q2, q4, r1]
  refine ⟨c, t, h0, g1, ?_⟩
  show Z.vm.assignableAux (255 + 1) c t = false
  simp [Vm.assignableAux, nS, q2, g2, q5, g3, (Bool.or_eq_false_iff.mp g4).1, Vm.isSubclass, r2]
theorem ef_4_D (m : MethodId) (x0 : UInt64) : entryFrame m #[(.double x0)] 2 = mkF m 0 #[.val (.double x0), .second] [] := by first | (simp [entryFrame, mkF, argsToLocals, Value.category]; done) | rfl
theorem d4_0 : decode jdk_117_method_8_code 0 = .ok (.dload_n 0, 1) := by decide +kernel
theorem d4_1 : decode jdk_117_method_8_code 1 = .ok (.invokestatic 38, 3) := by decide +kernel
theorem pd__28D_29D : parseMethodDescriptor "(D)D" = some ⟨[.double], some .double⟩ := by decide +kernel
theorem d4_4 : decode jdk_117_method_8_code 4 = .ok (.ldc2_w 111, 3) := by decide +kernel
theorem d4_7 : decode jdk_117_method_8_code 7 = .ok (.dcmp .g, 1) := by decide +kernel
theorem d4_8 : decode jdk_117_method_8_code 8 = .ok (.ifCond .gt 7, 3) := by decide +kernel
theorem d4_11 : decode jdk_117_method_8_code 11 = .ok (.iconst 1, 1) := by decide +kernel
theorem d4_12 : decode jdk_117_method_8_code 12 = .ok (.goto 4, 3) := by decide +kernel
theorem d4_16 : decode jdk_117_method_8_code 16 = .ok (.ireturn, 1) := by decide +kernel
def Q_rm4 (Z : State) (u1 : UInt64) (h0 : Heap) (n0 : Nat) (v : Option Value) (h : Heap) (L : List Loc) : Prop := v = some (.int 1) ∧ Fr n0 L ∧ h = h0
theorem pn_java_2flang_2fDouble : plainName "java/lang/Double" = true := by first | (simp [plainName, overriddenIn]; done) | decide +kernel
set_option maxRecDepth 65536 in
set_option maxHeartbeats 40000000 in
theorem rm4 (l : Launch) (Z : State) (a0 : Array Value) (hw : ∀ d ∈ tables_1, d.before a0 Z = true) (ws : List Jvm.Cond) (u1 : UInt64) (h0 : Heap) (n0 : Nat) (Z0 : n0 ≤ h0.size) (hf : Jvm.FP.Core.DFin u1) :
    MetFree l (⟨"java/lang/Double", "isFinite", "(D)Z"⟩ : MethodName) (head1 (Jvm.Cond.code (⟨"java/lang/Double", "isFinite", "(D)Z"⟩ : MethodName) jdk_117_method_8_code 2 (some .boolean) :: ws) ({ frames := 1, cells := 0, slots := 0, locals := 13 } : Room)) (fun a U => a = #[(.double u1)] ∧ Z.Warmed39 U.vm ∧ U.heap = h0) (fun _ _ _ _ _ => True) (fun _ U o U' => ∃ v L, o = .returned v ∧ Q_rm4 Z u1 h0 n0 v U'.heap L ∧ FrameEnd U o U' L ({ frames := 1, cells := 0, slots := 0, locals := 13 } : Room).cells ({ frames := 1, cells := 0, slots := 0, locals := 13 } : Room).slots) := by
  refine MetFree.of_bodySF (plainFor_of_name pn_java_2flang_2fDouble) hisR ?_
  intro p e s m args below meth c s₁ Bd hml0 hP hK
  obtain ⟨rfl, hZ, hh⟩ := hP
  have hx := Bd.exec
  have hby := Bd.bytes
  have hml : c.maxLocals = 2 := hml0
  have hown : s.vm.findClass "java/lang/Double" = some m.cls := findClass_of_methodNamed Bd.named
  have hnm := (name_of_methodNamed Bd.named Bd.method).1
  have X0 : Stand p l e ({ frames := 1, cells := 0, slots := 0, locals := 13 } : Room) s m #[(.double u1)] below meth c s₁ [] 0 0 := Stand.of_body Bd
  have e0 : s₁.heap = h0 := by rw [← hh, Bd.state]; rfl
  have N0 := Fr.nil n0
  have k0 : ∀ t, Steps p.tables e below (s₁.setTop (mkF m 0 #[.val (.double u1), .second] [])) t → Steps p.tables e below (s₁.setTop (entryFrame m #[(.double u1)] 2)) t := fun t k => castTop (ef_4_D m u1) k
  have k101 : ∀ t, Steps p.tables e below (s₁.setTop (mkF m 1 #[.val (.double u1), .second] [(.double u1)])) t → Steps p.tables e below (s₁.setTop (entryFrame m #[(.double u1)] 2)) t := fun t k => k0 t (by
    show Steps p.tables e below (s₁.setTop (mkF m 0 #[.val (.double u1), .second] [])) _
    refine XS.dloadN X0.here hx rfl (hb hby d4_0) rfl ?_
    exact k)
  obtain ⟨T102, X102, e102, st102⟩ := natS X0 hx hZ (y := Jvm.Free.Fl.Abs.absDN) hown (hw _ (List.mem_of_getElem? (i := 17) rfl)) (hw _ (List.mem_of_getElem? (i := 18) rfl)) (hw _ (List.mem_of_getElem? (i := 19) rfl)) (hw _ (List.mem_of_getElem? (i := 20) rfl)) (by decide) e0 (W := 0) (F := fun a' => a' = #[(.double u1)] ∧ Jvm.Free.Fl.NoNaN64 u1) (fun hq => Jvm.Free.Fl.Abs.absD_pays u1 hq (by decide) (by decide)) (g := (mkF m 1 #[.val (.double u1), .second] [(.double u1)])) rfl (by rw [hml]; rfl) (argsL := [(.double u1)]) (rest := []) (lenOf pd__28D_29D rfl) rfl (by show 2 * 0 + _ ≤ _; exact Nat.le_of_eq rfl) (hb hby d4_1) (by decide) (by decide) ⟨rfl, (Jvm.Free.Fl.fin64_core.mpr hf).noNaN⟩ rfl
  have k103 : ∀ t, Steps p.tables e below (T102.setTop (mkF m 4 #[.val (.double u1), .second] [(.double (u1 &&& 0x7fffffffffffffff))])) t → Steps p.tables e below (s₁.setTop (entryFrame m #[(.double u1)] 2)) t := fun t k => k101 t (st102 t k)
  have k104 : ∀ t, Steps p.tables e below (T102.setTop (mkF m 16 #[.val (.double u1), .second] [(.int (1 : Int32))])) t → Steps p.tables e below (s₁.setTop (entryFrame m #[(.double u1)] 2)) t := fun t k => k103 t (by
    show Steps p.tables e below (T102.setTop (mkF m 4 #[.val (.double u1), .second] [(.double (u1 &&& 0x7fffffffffffffff))])) _
    refine X102.ldc2DoubleC hx hown (mvT hZ (hw _ (List.mem_of_getElem? (i := 21) rfl))) (g := (mkF m 4 #[.val (.double u1), .second] [(.double (u1 &&& 0x7fffffffffffffff))])) rfl (hb hby d4_4) _ ?_
    show Steps p.tables e below (T102.setTop (mkF m 7 #[.val (.double u1), .second] [(.double (9218868437227405311 : UInt64)), (.double (u1 &&& 0x7fffffffffffffff))])) _
    refine XS.dcmpS X102.here hx rfl (hb hby d4_7) rfl rfl ?_
    show Steps p.tables e below (T102.setTop (mkF m 8 #[.val (.double u1), .second] [(.int (cmpValue (FP.dcmp (u1 &&& 0x7fffffffffffffff) (9218868437227405311 : UInt64)) .g))])) _
    refine XS.ifNo X102.here hx rfl (hb hby d4_8) rfl ((if0 _ _).trans (flt (Jvm.OwnFp.isfin hf)).2.2.1) ?_
    show Steps p.tables e below (T102.setTop (mkF m 11 #[.val (.double u1), .second] [])) _
    refine XS.iconst X102.here hx rfl (hb hby d4_11) ?_
    show Steps p.tables e below (T102.setTop (mkF m 12 #[.val (.double u1), .second] [(.int (1 : Int32))])) _
    refine XS.goto X102.here hx rfl (pc0 := 12) (pc' := 16) rfl (hb hby d4_12) (by decide) (by decide) ?_
    exact k)
  obtain ⟨fs, hr, hrun, hended, hW, hsame⟩ := X102.leave (v := some (.int (1 : Int32))) (fun h => by rw [Bd.returns] at h; cases h)
  refine ⟨_, _, k104 _ (retOut X102 hx (t := .boolean) Bd.returns rfl (Or.inl ⟨rfl, Or.inr (Or.inl rfl), _, rfl⟩) (hb hby d4_16) hr), hrun, hended, _, _, rfl, ?_, ⟨_, rfl⟩, hW, hsame.mono (by decide) (by decide)⟩
  show Q_rm4 Z u1 h0 n0 _ T102.heap _
  rw [e102]
  exact ⟨rfl, N0, rfl⟩
theorem ef_2_RDDDDDD (m : MethodId) (x0 : Addr) (x1 : UInt64) (x2 : UInt64) (x3 : UInt64) (x4 : UInt64) (x5 : UInt64) (x6 : UInt64) : entryFrame m #[(.ref x0), (.double x1), (.double x2), (.double x3), (.double x4), (.double x5), (.double x6)] 13 = mkF m 0 #[.val (.ref x0), .val (.double x1), .second, .val (.double x2), .second, .val (.double x3), .second, .val (.double x4), .second, .val (.double x5), .second, .val (.double x6), .second] [] := by first | (simp [entryFrame, mkF, argsToLocals, Value.category]; done) | rfl
theorem d2_0 : decode prog_26_method_3_code 0 = .ok (.aload_n 0, 1) := by decide +kernel
theorem d2_1 : decode prog_26_method_3_code 1 = .ok (.invokespecial 7, 3) := by decide +kernel
theorem d2_4 : decode prog_26_method_3_code 4 = .ok (.dload 9, 2) := by decide +kernel
theorem d2_6 : decode prog_26_method_3_code 6 = .ok (.dconst 0, 1) := by decide +kernel
theorem d2_7 : decode prog_26_method_3_code 7 = .ok (.dcmp .l, 1) := by decide +kernel
theorem d2_8 : decode prog_26_method_3_code 8 = .ok (.ifCond .lt 10, 3) := by decide +kernel
theorem d2_11 : decode prog_26_method_3_code 11 = .ok (.dload 11, 2) := by decide +kernel
theorem d2_13 : decode prog_26_method_3_code 13 = .ok (.dconst 0, 1) := by decide +kernel
theorem d2_14 : decode prog_26_method_3_code 14 = .ok (.dcmp .l, 1) := by decide +kernel
theorem d2_15 : decode prog_26_method_3_code 15 = .ok (.ifCond .ge 20, 3) := by decide +kernel
theorem d2_35 : decode prog_26_method_3_code 35 = .ok (.dload 5, 2) := by decide +kernel
theorem d2_37 : decode prog_26_method_3_code 37 = .ok (.invokestatic 21, 3) := by decide +kernel
theorem pd__28D_29Z : parseMethodDescriptor "(D)Z" = some ⟨[.double], some .boolean⟩ := by decide +kernel
theorem d2_40 : decode prog_26_method_3_code 40 = .ok (.ifCond .eq 27, 3) := by decide +kernel
theorem d2_43 : decode prog_26_method_3_code 43 = .ok (.dload 7, 2) := by decide +kernel
theorem d2_45 : decode prog_26_method_3_code 45 = .ok (.invokestatic 21, 3) := by decide +kernel
theorem d2_48 : decode prog_26_method_3_code 48 = .ok (.ifCond .eq 19, 3) := by decide +kernel
theorem d2_51 : decode prog_26_method_3_code 51 = .ok (.dload 9, 2) := by decide +kernel
theorem d2_53 : decode prog_26_method_3_code 53 = .ok (.invokestatic 21, 3) := by decide +kernel
theorem d2_56 : decode prog_26_method_3_code 56 = .ok (.ifCond .eq 11, 3) := by decide +kernel
theorem d2_59 : decode prog_26_method_3_code 59 = .ok (.dload 11, 2) := by decide +kernel
theorem d2_61 : decode prog_26_method_3_code 61 = .ok (.invokestatic 21, 3) := by decide +kernel
theorem d2_64 : decode prog_26_method_3_code 64 = .ok (.ifCond .ne 22, 3) := by decide +kernel
theorem d2_86 : decode prog_26_method_3_code 86 = .ok (.aload_n 0, 1) := by decide +kernel
theorem d2_87 : decode prog_26_method_3_code 87 = .ok (.dload_n 1, 1) := by decide +kernel
theorem d2_88 : decode prog_26_method_3_code 88 = .ok (.putfield 30, 3) := by decide +kernel
theorem d2_91 : decode prog_26_method_3_code 91 = .ok (.aload_n 0, 1) := by decide +kernel
theorem d2_92 : decode prog_26_method_3_code 92 = .ok (.dload_n 3, 1) := by decide +kernel
theorem d2_93 : decode prog_26_method_3_code 93 = .ok (.putfield 34, 3) := by decide +kernel
theorem d2_96 : decode prog_26_method_3_code 96 = .ok (.aload_n 0, 1) := by decide +kernel
theorem d2_97 : decode prog_26_method_3_code 97 = .ok (.dload 5, 2) := by decide +kernel
theorem d2_99 : decode prog_26_method_3_code 99 = .ok (.putfield 37, 3) := by decide +kernel
theorem d2_102 : decode prog_26_method_3_code 102 = .ok (.aload_n 0, 1) := by decide +kernel
theorem d2_103 : decode prog_26_method_3_code 103 = .ok (.dload 7, 2) := by decide +kernel
theorem d2_105 : decode prog_26_method_3_code 105 = .ok (.putfield 40, 3) := by decide +kernel
theorem d2_108 : decode prog_26_method_3_code 108 = .ok (.return_, 1) := by decide +kernel
def Q_rm2 (Z : State) (a1 : Addr) (u1 : UInt64) (u2 : UInt64) (u3 : UInt64) (u4 : UInt64) (u5 : UInt64) (u6 : UInt64) (h0 : Heap) (n0 : Nat) (v : Option Value) (h : Heap) (L : List Loc) : Prop := v = none ∧ Fr n0 L ∧ Keep h0 h [a1] ∧ Exa Z h a1 "com/example/hoja/hoja/model/Box" ∧ Fld Z h a1 "com/example/hoja/hoja/model/Box" "x" "D" (.double u1) ∧ Fld Z h a1 "com/example/hoja/hoja/model/Box" "y" "D" (.double u2) ∧ Fld Z h a1 "com/example/hoja/hoja/model/Box" "right" "D" (.double u3) ∧ Fld Z h a1 "com/example/hoja/hoja/model/Box" "bottom" "D" (.double u4)
theorem pn_com_2fexample_2fhoja_2fhoja_2fmodel_2fBox : plainName "com/example/hoja/hoja/model/Box" = true := by first | (simp [plainName, overriddenIn]; done) | decide +kernel
set_option maxRecDepth 65536 in
set_option maxHeartbeats 40000000 in
theorem rm2 (l : Launch) (Z : State) (a0 : Array Value) (hw : ∀ d ∈ tables_1, d.before a0 Z = true) (ws : List Jvm.Cond) (a1 : Addr) (u1 : UInt64) (u2 : UInt64) (u3 : UInt64) (u4 : UInt64) (u5 : UInt64) (u6 : UInt64) (h0 : Heap) (n0 : Nat) (Z0 : n0 ≤ h0.size) (F0 : Fld Z h0 a1 "com/example/hoja/hoja/model/Box" "x" "D" (.double (0 : UInt64))) (F1 : Fld Z h0 a1 "com/example/hoja/hoja/model/Box" "y" "D" (.double (0 : UInt64))) (F2 : Fld Z h0 a1 "com/example/hoja/hoja/model/Box" "right" "D" (.double (0 : UInt64))) (F3 : Fld Z h0 a1 "com/example/hoja/hoja/model/Box" "bottom" "D" (.double (0 : UInt64))) (E1 : Exa Z h0 a1 "com/example/hoja/hoja/model/Box") (ga : n0 ≤ a1) (c8 : ¬ (cmpValue (FP.dcmp u5 (0 : UInt64)) .l < (0 : Int32))) (c15 : ¬ (cmpValue (FP.dcmp u6 (0 : UInt64)) .l < (0 : Int32))) (f_u3 : Jvm.FP.Core.DFin u3) (f_u4 : Jvm.FP.Core.DFin u4) (f_u5 : Jvm.FP.Core.DFin u5) (f_u6 : Jvm.FP.Core.DFin u6) :
    MetFree l (⟨"com/example/hoja/hoja/model/Box", "<init>", "(DDDDDD)V"⟩ : MethodName) (head1 (Jvm.Cond.code (⟨"com/example/hoja/hoja/model/Box", "<init>", "(DDDDDD)V"⟩ : MethodName) prog_26_method_3_code 13 none :: ws) ({ frames := 2, cells := 0, slots := 0, locals := 26 } : Room)) (fun a U => a = #[(.ref a1), (.double u1), (.double u2), (.double u3), (.double u4), (.double u5), (.double u6)] ∧ Z.Warmed39 U.vm ∧ U.heap = h0) (fun _ _ _ _ _ => True) (fun _ U o U' => ∃ v L, o = .returned v ∧ Q_rm2 Z a1 u1 u2 u3 u4 u5 u6 h0 n0 v U'.heap L ∧ FrameEnd U o U' L ({ frames := 2, cells := 0, slots := 0, locals := 26 } : Room).cells ({ frames := 2, cells := 0, slots := 0, locals := 26 } : Room).slots) := by
  refine MetFree.of_bodySF (plainFor_of_name pn_com_2fexample_2fhoja_2fhoja_2fmodel_2fBox) hisR ?_
  intro p e s m args below meth c s₁ Bd hml0 hP hK
  obtain ⟨rfl, hZ, hh⟩ := hP
  have hx := Bd.exec
  have hby := Bd.bytes
  have hml : c.maxLocals = 13 := hml0
  have hown : s.vm.findClass "com/example/hoja/hoja/model/Box" = some m.cls := findClass_of_methodNamed Bd.named
  have hnm := (name_of_methodNamed Bd.named Bd.method).1
  have X0 : Stand p l e ({ frames := 2, cells := 0, slots := 0, locals := 26 } : Room) s m #[(.ref a1), (.double u1), (.double u2), (.double u3), (.double u4), (.double u5), (.double u6)] below meth c s₁ [] 0 0 := Stand.of_body Bd
  have e0 : s₁.heap = h0 := by rw [← hh, Bd.state]; rfl
  have N0 := Fr.nil n0
  have k0 : ∀ t, Steps p.tables e below (s₁.setTop (mkF m 0 #[.val (.ref a1), .val (.double u1), .second, .val (.double u2), .second, .val (.double u3), .second, .val (.double u4), .second, .val (.double u5), .second, .val (.double u6), .second] [])) t → Steps p.tables e below (s₁.setTop (entryFrame m #[(.ref a1), (.double u1), (.double u2), (.double u3), (.double u4), (.double u5), (.double u6)] 13)) t := fun t k => castTop (ef_2_RDDDDDD m a1 u1 u2 u3 u4 u5 u6) k
  have K0 := Keep.refl h0 [a1]
  have k101 : ∀ t, Steps p.tables e below (s₁.setTop (mkF m 1 #[.val (.ref a1), .val (.double u1), .second, .val (.double u2), .second, .val (.double u3), .second, .val (.double u4), .second, .val (.double u5), .second, .val (.double u6), .second] [(.ref a1)])) t → Steps p.tables e below (s₁.setTop (entryFrame m #[(.ref a1), (.double u1), (.double u2), (.double u3), (.double u4), (.double u5), (.double u6)] 13)) t := fun t k => k0 t (by
    show Steps p.tables e below (s₁.setTop (mkF m 0 #[.val (.ref a1), .val (.double u1), .second, .val (.double u2), .second, .val (.double u3), .second, .val (.double u4), .second, .val (.double u5), .second, .val (.double u6), .second] [])) _
    refine XS.aloadN X0.here hx rfl (hb hby d2_0) rfl rfl ?_
    exact k)
  obtain ⟨T102, X102, e102, st102⟩ := initO X0 hx hZ hown (hw _ (List.mem_of_getElem? (i := 10) rfl)) (hw _ (List.mem_of_getElem? (i := 11) rfl)) (hw _ (List.mem_of_getElem? (i := 12) rfl)) e0 (g := (mkF m 1 #[.val (.ref a1), .val (.double u1), .second, .val (.double u2), .second, .val (.double u3), .second, .val (.double u4), .second, .val (.double u5), .second, .val (.double u6), .second] [(.ref a1)])) rfl (by rw [hml]; rfl) rfl (hb hby d2_1) (by decide) (W := 0) (by show 2 * 0 + _ ≤ _; exact Nat.le_of_eq rfl) (by decide)
  have k103 : ∀ t, Steps p.tables e below (T102.setTop (mkF m 4 #[.val (.ref a1), .val (.double u1), .second, .val (.double u2), .second, .val (.double u3), .second, .val (.double u4), .second, .val (.double u5), .second, .val (.double u6), .second] [])) t → Steps p.tables e below (s₁.setTop (entryFrame m #[(.ref a1), (.double u1), (.double u2), (.double u3), (.double u4), (.double u5), (.double u6)] 13)) t := fun t k => k101 t (st102 t k)
  have k104 : ∀ t, Steps p.tables e below (T102.setTop (mkF m 37 #[.val (.ref a1), .val (.double u1), .second, .val (.double u2), .second, .val (.double u3), .second, .val (.double u4), .second, .val (.double u5), .second, .val (.double u6), .second] [(.double u3)])) t → Steps p.tables e below (s₁.setTop (entryFrame m #[(.ref a1), (.double u1), (.double u2), (.double u3), (.double u4), (.double u5), (.double u6)] 13)) t := fun t k => k103 t (by
    show Steps p.tables e below (T102.setTop (mkF m 4 #[.val (.ref a1), .val (.double u1), .second, .val (.double u2), .second, .val (.double u3), .second, .val (.double u4), .second, .val (.double u5), .second, .val (.double u6), .second] [])) _
    refine XS.dload X102.here hx rfl (hb hby d2_4) rfl ?_
    show Steps p.tables e below (T102.setTop (mkF m 6 #[.val (.ref a1), .val (.double u1), .second, .val (.double u2), .second, .val (.double u3), .second, .val (.double u4), .second, .val (.double u5), .second, .val (.double u6), .second] [(.double u5)])) _
    refine XS.dconst0 X102.here hx rfl (hb hby d2_6) (v := (0 : UInt64)) rfl ?_
    show Steps p.tables e below (T102.setTop (mkF m 7 #[.val (.ref a1), .val (.double u1), .second, .val (.double u2), .second, .val (.double u3), .second, .val (.double u4), .second, .val (.double u5), .second, .val (.double u6), .second] [(.double (0 : UInt64)), (.double u5)])) _
    refine XS.dcmpS X102.here hx rfl (hb hby d2_7) rfl rfl ?_
    show Steps p.tables e below (T102.setTop (mkF m 8 #[.val (.ref a1), .val (.double u1), .second, .val (.double u2), .second, .val (.double u3), .second, .val (.double u4), .second, .val (.double u5), .second, .val (.double u6), .second] [(.int (cmpValue (FP.dcmp u5 (0 : UInt64)) .l))])) _
    refine XS.ifNo X102.here hx rfl (hb hby d2_8) rfl ((if0 _ _).trans (flt c8).1) ?_
    show Steps p.tables e below (T102.setTop (mkF m 11 #[.val (.ref a1), .val (.double u1), .second, .val (.double u2), .second, .val (.double u3), .second, .val (.double u4), .second, .val (.double u5), .second, .val (.double u6), .second] [])) _
    refine XS.dload X102.here hx rfl (hb hby d2_11) rfl ?_
    show Steps p.tables e below (T102.setTop (mkF m 13 #[.val (.ref a1), .val (.double u1), .second, .val (.double u2), .second, .val (.double u3), .second, .val (.double u4), .second, .val (.double u5), .second, .val (.double u6), .second] [(.double u6)])) _
    refine XS.dconst0 X102.here hx rfl (hb hby d2_13) (v := (0 : UInt64)) rfl ?_
    show Steps p.tables e below (T102.setTop (mkF m 14 #[.val (.ref a1), .val (.double u1), .second, .val (.double u2), .second, .val (.double u3), .second, .val (.double u4), .second, .val (.double u5), .second, .val (.double u6), .second] [(.double (0 : UInt64)), (.double u6)])) _
    refine XS.dcmpS X102.here hx rfl (hb hby d2_14) rfl rfl ?_
    show Steps p.tables e below (T102.setTop (mkF m 15 #[.val (.ref a1), .val (.double u1), .second, .val (.double u2), .second, .val (.double u3), .second, .val (.double u4), .second, .val (.double u5), .second, .val (.double u6), .second] [(.int (cmpValue (FP.dcmp u6 (0 : UInt64)) .l))])) _
    refine XS.ifYes X102.here hx rfl (pc0 := 15) (pc' := 35) rfl (hb hby d2_15) rfl ((if0 _ _).trans (flt c15).2.1) (by decide) (by decide) ?_
    show Steps p.tables e below (T102.setTop (mkF m 35 #[.val (.ref a1), .val (.double u1), .second, .val (.double u2), .second, .val (.double u3), .second, .val (.double u4), .second, .val (.double u5), .second, .val (.double u6), .second] [])) _
    refine XS.dload X102.here hx rfl (hb hby d2_35) rfl ?_
    exact k)
  obtain ⟨_, _, ⟨T105, L105, k105, n105⟩, -, X105, ⟨Lc105, hQ105, l105, y105, z105⟩, st105⟩ := Jvm.LawKit.callS X102 hx (y := (⟨"java/lang/Double", "isFinite", "(D)Z"⟩ : MethodName)) hown (mvT hZ (hw _ (List.mem_of_getElem? (i := 13) rfl))) (mvT hZ (hw _ (List.mem_of_getElem? (i := 14) rfl))) (mvT hZ (hw _ (List.mem_of_getElem? (i := 15) rfl))) (mvT hZ (hw _ (List.mem_of_getElem? (i := 16) rfl))) (by decide) (backOf (W := 0) (rm4 l Z a0 hw [] u3 h0 n0 Z0 f_u3) hZ (hw _ (List.mem_of_getElem? (i := 16) rfl)) (hw _ (List.mem_of_getElem? (i := 15) rfl)) (by decide) (by decide)) (g := (mkF m 37 #[.val (.ref a1), .val (.double u1), .second, .val (.double u2), .second, .val (.double u3), .second, .val (.double u4), .second, .val (.double u5), .second, .val (.double u6), .second] [(.double u3)])) rfl (by rw [hml]; rfl) (argsL := [(.double u3)]) (rest := []) (lenOf pd__28D_29Z rfl) rfl (by show 2 * 0 + _ ≤ _; exact Nat.le_of_eq rfl) (hb hby d2_37) (fun _ _ => ⟨rfl, e102, (by decide : 0 + 0 ≤ _), (by decide : 0 + 0 ≤ _)⟩)
  dsimp only [Pt.U, Pt.locs, Pt.cells, Pt.slots] at X105 l105 y105 z105 st105 hQ105
  subst l105 y105 z105
  obtain ⟨rfl, N105q, e105⟩ := hQ105
  have N106 := Fr.app N0 N105q
  have k107 : ∀ t, Steps p.tables e below (T105.setTop (mkF m 40 #[.val (.ref a1), .val (.double u1), .second, .val (.double u2), .second, .val (.double u3), .second, .val (.double u4), .second, .val (.double u5), .second, .val (.double u6), .second] [(.int (1 : Int32))])) t → Steps p.tables e below (s₁.setTop (entryFrame m #[(.ref a1), (.double u1), (.double u2), (.double u3), (.double u4), (.double u5), (.double u6)] 13)) t := fun t k => k104 t (st105 t k)
  have k108 : ∀ t, Steps p.tables e below (T105.setTop (mkF m 45 #[.val (.ref a1), .val (.double u1), .second, .val (.double u2), .second, .val (.double u3), .second, .val (.double u4), .second, .val (.double u5), .second, .val (.double u6), .second] [(.double u4)])) t → Steps p.tables e below (s₁.setTop (entryFrame m #[(.ref a1), (.double u1), (.double u2), (.double u3), (.double u4), (.double u5), (.double u6)] 13)) t := fun t k => k107 t (by
    show Steps p.tables e below (T105.setTop (mkF m 40 #[.val (.ref a1), .val (.double u1), .second, .val (.double u2), .second, .val (.double u3), .second, .val (.double u4), .second, .val (.double u5), .second, .val (.double u6), .second] [(.int (1 : Int32))])) _
    refine XS.ifNo X105.here hx rfl (hb hby d2_40) rfl ((if0 _ _).trans (feq (by decide)).1) ?_
    show Steps p.tables e below (T105.setTop (mkF m 43 #[.val (.ref a1), .val (.double u1), .second, .val (.double u2), .second, .val (.double u3), .second, .val (.double u4), .second, .val (.double u5), .second, .val (.double u6), .second] [])) _
    refine XS.dload X105.here hx rfl (hb hby d2_43) rfl ?_
    exact k)
  obtain ⟨_, _, ⟨T109, L109, k109, n109⟩, -, X109, ⟨Lc109, hQ109, l109, y109, z109⟩, st109⟩ := Jvm.LawKit.callS X105 hx (y := (⟨"java/lang/Double", "isFinite", "(D)Z"⟩ : MethodName)) hown (mvT hZ (hw _ (List.mem_of_getElem? (i := 13) rfl))) (mvT hZ (hw _ (List.mem_of_getElem? (i := 14) rfl))) (mvT hZ (hw _ (List.mem_of_getElem? (i := 15) rfl))) (mvT hZ (hw _ (List.mem_of_getElem? (i := 16) rfl))) (by decide) (backOf (W := 0) (rm4 l Z a0 hw [] u4 h0 n0 Z0 f_u4) hZ (hw _ (List.mem_of_getElem? (i := 16) rfl)) (hw _ (List.mem_of_getElem? (i := 15) rfl)) (by decide) (by decide)) (g := (mkF m 45 #[.val (.ref a1), .val (.double u1), .second, .val (.double u2), .second, .val (.double u3), .second, .val (.double u4), .second, .val (.double u5), .second, .val (.double u6), .second] [(.double u4)])) rfl (by rw [hml]; rfl) (argsL := [(.double u4)]) (rest := []) (lenOf pd__28D_29Z rfl) rfl (by show 2 * 0 + _ ≤ _; exact Nat.le_of_eq rfl) (hb hby d2_45) (fun _ _ => ⟨rfl, e105, (by decide : 0 + 0 ≤ _), (by decide : 0 + 0 ≤ _)⟩)
  dsimp only [Pt.U, Pt.locs, Pt.cells, Pt.slots] at X109 l109 y109 z109 st109 hQ109
  subst l109 y109 z109
  obtain ⟨rfl, N109q, e109⟩ := hQ109
  have N110 := Fr.app N106 N109q
  have k111 : ∀ t, Steps p.tables e below (T109.setTop (mkF m 48 #[.val (.ref a1), .val (.double u1), .second, .val (.double u2), .second, .val (.double u3), .second, .val (.double u4), .second, .val (.double u5), .second, .val (.double u6), .second] [(.int (1 : Int32))])) t → Steps p.tables e below (s₁.setTop (entryFrame m #[(.ref a1), (.double u1), (.double u2), (.double u3), (.double u4), (.double u5), (.double u6)] 13)) t := fun t k => k108 t (st109 t k)
  have k112 : ∀ t, Steps p.tables e below (T109.setTop (mkF m 53 #[.val (.ref a1), .val (.double u1), .second, .val (.double u2), .second, .val (.double u3), .second, .val (.double u4), .second, .val (.double u5), .second, .val (.double u6), .second] [(.double u5)])) t → Steps p.tables e below (s₁.setTop (entryFrame m #[(.ref a1), (.double u1), (.double u2), (.double u3), (.double u4), (.double u5), (.double u6)] 13)) t := fun t k => k111 t (by
    show Steps p.tables e below (T109.setTop (mkF m 48 #[.val (.ref a1), .val (.double u1), .second, .val (.double u2), .second, .val (.double u3), .second, .val (.double u4), .second, .val (.double u5), .second, .val (.double u6), .second] [(.int (1 : Int32))])) _
    refine XS.ifNo X109.here hx rfl (hb hby d2_48) rfl ((if0 _ _).trans (feq (by decide)).1) ?_
    show Steps p.tables e below (T109.setTop (mkF m 51 #[.val (.ref a1), .val (.double u1), .second, .val (.double u2), .second, .val (.double u3), .second, .val (.double u4), .second, .val (.double u5), .second, .val (.double u6), .second] [])) _
    refine XS.dload X109.here hx rfl (hb hby d2_51) rfl ?_
    exact k)
  obtain ⟨_, _, ⟨T113, L113, k113, n113⟩, -, X113, ⟨Lc113, hQ113, l113, y113, z113⟩, st113⟩ := Jvm.LawKit.callS X109 hx (y := (⟨"java/lang/Double", "isFinite", "(D)Z"⟩ : MethodName)) hown (mvT hZ (hw _ (List.mem_of_getElem? (i := 13) rfl))) (mvT hZ (hw _ (List.mem_of_getElem? (i := 14) rfl))) (mvT hZ (hw _ (List.mem_of_getElem? (i := 15) rfl))) (mvT hZ (hw _ (List.mem_of_getElem? (i := 16) rfl))) (by decide) (backOf (W := 0) (rm4 l Z a0 hw [] u5 h0 n0 Z0 f_u5) hZ (hw _ (List.mem_of_getElem? (i := 16) rfl)) (hw _ (List.mem_of_getElem? (i := 15) rfl)) (by decide) (by decide)) (g := (mkF m 53 #[.val (.ref a1), .val (.double u1), .second, .val (.double u2), .second, .val (.double u3), .second, .val (.double u4), .second, .val (.double u5), .second, .val (.double u6), .second] [(.double u5)])) rfl (by rw [hml]; rfl) (argsL := [(.double u5)]) (rest := []) (lenOf pd__28D_29Z rfl) rfl (by show 2 * 0 + _ ≤ _; exact Nat.le_of_eq rfl) (hb hby d2_53) (fun _ _ => ⟨rfl, e109, (by decide : 0 + 0 ≤ _), (by decide : 0 + 0 ≤ _)⟩)
  dsimp only [Pt.U, Pt.locs, Pt.cells, Pt.slots] at X113 l113 y113 z113 st113 hQ113
  subst l113 y113 z113
  obtain ⟨rfl, N113q, e113⟩ := hQ113
  have N114 := Fr.app N110 N113q
  have k115 : ∀ t, Steps p.tables e below (T113.setTop (mkF m 56 #[.val (.ref a1), .val (.double u1), .second, .val (.double u2), .second, .val (.double u3), .second, .val (.double u4), .second, .val (.double u5), .second, .val (.double u6), .second] [(.int (1 : Int32))])) t → Steps p.tables e below (s₁.setTop (entryFrame m #[(.ref a1), (.double u1), (.double u2), (.double u3), (.double u4), (.double u5), (.double u6)] 13)) t := fun t k => k112 t (st113 t k)
  have k116 : ∀ t, Steps p.tables e below (T113.setTop (mkF m 61 #[.val (.ref a1), .val (.double u1), .second, .val (.double u2), .second, .val (.double u3), .second, .val (.double u4), .second, .val (.double u5), .second, .val (.double u6), .second] [(.double u6)])) t → Steps p.tables e below (s₁.setTop (entryFrame m #[(.ref a1), (.double u1), (.double u2), (.double u3), (.double u4), (.double u5), (.double u6)] 13)) t := fun t k => k115 t (by
    show Steps p.tables e below (T113.setTop (mkF m 56 #[.val (.ref a1), .val (.double u1), .second, .val (.double u2), .second, .val (.double u3), .second, .val (.double u4), .second, .val (.double u5), .second, .val (.double u6), .second] [(.int (1 : Int32))])) _
    refine XS.ifNo X113.here hx rfl (hb hby d2_56) rfl ((if0 _ _).trans (feq (by decide)).1) ?_
    show Steps p.tables e below (T113.setTop (mkF m 59 #[.val (.ref a1), .val (.double u1), .second, .val (.double u2), .second, .val (.double u3), .second, .val (.double u4), .second, .val (.double u5), .second, .val (.double u6), .second] [])) _
    refine XS.dload X113.here hx rfl (hb hby d2_59) rfl ?_
    exact k)
  obtain ⟨_, _, ⟨T117, L117, k117, n117⟩, -, X117, ⟨Lc117, hQ117, l117, y117, z117⟩, st117⟩ := Jvm.LawKit.callS X113 hx (y := (⟨"java/lang/Double", "isFinite", "(D)Z"⟩ : MethodName)) hown (mvT hZ (hw _ (List.mem_of_getElem? (i := 13) rfl))) (mvT hZ (hw _ (List.mem_of_getElem? (i := 14) rfl))) (mvT hZ (hw _ (List.mem_of_getElem? (i := 15) rfl))) (mvT hZ (hw _ (List.mem_of_getElem? (i := 16) rfl))) (by decide) (backOf (W := 0) (rm4 l Z a0 hw [] u6 h0 n0 Z0 f_u6) hZ (hw _ (List.mem_of_getElem? (i := 16) rfl)) (hw _ (List.mem_of_getElem? (i := 15) rfl)) (by decide) (by decide)) (g := (mkF m 61 #[.val (.ref a1), .val (.double u1), .second, .val (.double u2), .second, .val (.double u3), .second, .val (.double u4), .second, .val (.double u5), .second, .val (.double u6), .second] [(.double u6)])) rfl (by rw [hml]; rfl) (argsL := [(.double u6)]) (rest := []) (lenOf pd__28D_29Z rfl) rfl (by show 2 * 0 + _ ≤ _; exact Nat.le_of_eq rfl) (hb hby d2_61) (fun _ _ => ⟨rfl, e113, (by decide : 0 + 0 ≤ _), (by decide : 0 + 0 ≤ _)⟩)
  dsimp only [Pt.U, Pt.locs, Pt.cells, Pt.slots] at X117 l117 y117 z117 st117 hQ117
  subst l117 y117 z117
  obtain ⟨rfl, N117q, e117⟩ := hQ117
  have N118 := Fr.app N114 N117q
  have k119 : ∀ t, Steps p.tables e below (T117.setTop (mkF m 64 #[.val (.ref a1), .val (.double u1), .second, .val (.double u2), .second, .val (.double u3), .second, .val (.double u4), .second, .val (.double u5), .second, .val (.double u6), .second] [(.int (1 : Int32))])) t → Steps p.tables e below (s₁.setTop (entryFrame m #[(.ref a1), (.double u1), (.double u2), (.double u3), (.double u4), (.double u5), (.double u6)] 13)) t := fun t k => k116 t (st117 t k)
  have k120 : ∀ t, Steps p.tables e below (T117.setTop (mkF m 88 #[.val (.ref a1), .val (.double u1), .second, .val (.double u2), .second, .val (.double u3), .second, .val (.double u4), .second, .val (.double u5), .second, .val (.double u6), .second] [(.double u1), (.ref a1)])) t → Steps p.tables e below (s₁.setTop (entryFrame m #[(.ref a1), (.double u1), (.double u2), (.double u3), (.double u4), (.double u5), (.double u6)] 13)) t := fun t k => k119 t (by
    show Steps p.tables e below (T117.setTop (mkF m 64 #[.val (.ref a1), .val (.double u1), .second, .val (.double u2), .second, .val (.double u3), .second, .val (.double u4), .second, .val (.double u5), .second, .val (.double u6), .second] [(.int (1 : Int32))])) _
    refine XS.ifYes X117.here hx rfl (pc0 := 64) (pc' := 86) rfl (hb hby d2_64) rfl ((if0 _ _).trans (feq (by decide)).2) (by decide) (by decide) ?_
    show Steps p.tables e below (T117.setTop (mkF m 86 #[.val (.ref a1), .val (.double u1), .second, .val (.double u2), .second, .val (.double u3), .second, .val (.double u4), .second, .val (.double u5), .second, .val (.double u6), .second] [])) _
    refine XS.aloadN X117.here hx rfl (hb hby d2_86) rfl rfl ?_
    show Steps p.tables e below (T117.setTop (mkF m 87 #[.val (.ref a1), .val (.double u1), .second, .val (.double u2), .second, .val (.double u3), .second, .val (.double u4), .second, .val (.double u5), .second, .val (.double u6), .second] [(.ref a1)])) _
    refine XS.dloadN X117.here hx rfl (hb hby d2_87) rfl ?_
    exact k)
  obtain ⟨T121, h121, X121, e121, W121, st121⟩ := putF X117 hx hZ hown (host := "") (Or.inl (hw _ (List.mem_of_getElem? (i := 22) rfl))) Via.refl e117 F0 E1 (Or.inr ⟨(hw _ (List.mem_of_getElem? (i := 23) rfl)), rfl, hnm⟩) (hw _ (List.mem_of_getElem? (i := 2) rfl)) (ty := .double) (by decide) rfl rfl (g := (mkF m 88 #[.val (.ref a1), .val (.double u1), .second, .val (.double u2), .second, .val (.double u3), .second, .val (.double u4), .second, .val (.double u5), .second, .val (.double u6), .second] [(.double u1), (.ref a1)])) rfl rfl (hb hby d2_88)
  have F122 := F0.same W121
  have F123 := F1.other W121 (Or.inr (slot_ne (Or.inr (hw _ (List.mem_of_getElem? (i := 25) rfl))) (Or.inr (hw _ (List.mem_of_getElem? (i := 23) rfl))) (by decide) (t := .double) (t' := .double) (by decide) (by decide)))
  have F124 := F2.other W121 (Or.inr (slot_ne (Or.inr (hw _ (List.mem_of_getElem? (i := 27) rfl))) (Or.inr (hw _ (List.mem_of_getElem? (i := 23) rfl))) (by decide) (t := .double) (t' := .double) (by decide) (by decide)))
  have F125 := F3.other W121 (Or.inr (slot_ne (Or.inr (hw _ (List.mem_of_getElem? (i := 29) rfl))) (Or.inr (hw _ (List.mem_of_getElem? (i := 23) rfl))) (by decide) (t := .double) (t' := .double) (by decide) (by decide)))
  have F126 := E1.wr W121
  have Z127 : n0 ≤ h121.size := Nat.le_trans Z0 (Nat.le_of_eq W121.size.symm)
  have N128 := Fr.snoc X121 N118 ga
  have K129 := K0.wr W121 (Or.inl (List.mem_of_getElem? (i := 0) rfl))
  have k130 : ∀ t, Steps p.tables e below (T121.setTop (mkF m 91 #[.val (.ref a1), .val (.double u1), .second, .val (.double u2), .second, .val (.double u3), .second, .val (.double u4), .second, .val (.double u5), .second, .val (.double u6), .second] [])) t → Steps p.tables e below (s₁.setTop (entryFrame m #[(.ref a1), (.double u1), (.double u2), (.double u3), (.double u4), (.double u5), (.double u6)] 13)) t := fun t k => k120 t (st121 t k)
  have k131 : ∀ t, Steps p.tables e below (T121.setTop (mkF m 93 #[.val (.ref a1), .val (.double u1), .second, .val (.double u2), .second, .val (.double u3), .second, .val (.double u4), .second, .val (.double u5), .second, .val (.double u6), .second] [(.double u2), (.ref a1)])) t → Steps p.tables e below (s₁.setTop (entryFrame m #[(.ref a1), (.double u1), (.double u2), (.double u3), (.double u4), (.double u5), (.double u6)] 13)) t := fun t k => k130 t (by
    show Steps p.tables e below (T121.setTop (mkF m 91 #[.val (.ref a1), .val (.double u1), .second, .val (.double u2), .second, .val (.double u3), .second, .val (.double u4), .second, .val (.double u5), .second, .val (.double u6), .second] [])) _
    refine XS.aloadN X121.here hx rfl (hb hby d2_91) rfl rfl ?_
    show Steps p.tables e below (T121.setTop (mkF m 92 #[.val (.ref a1), .val (.double u1), .second, .val (.double u2), .second, .val (.double u3), .second, .val (.double u4), .second, .val (.double u5), .second, .val (.double u6), .second] [(.ref a1)])) _
    refine XS.dloadN X121.here hx rfl (hb hby d2_92) rfl ?_
    exact k)
  obtain ⟨T132, h132, X132, e132, W132, st132⟩ := putF X121 hx hZ hown (host := "") (Or.inl (hw _ (List.mem_of_getElem? (i := 24) rfl))) Via.refl e121 F123 F126 (Or.inr ⟨(hw _ (List.mem_of_getElem? (i := 25) rfl)), rfl, hnm⟩) (hw _ (List.mem_of_getElem? (i := 2) rfl)) (ty := .double) (by decide) rfl rfl (g := (mkF m 93 #[.val (.ref a1), .val (.double u1), .second, .val (.double u2), .second, .val (.double u3), .second, .val (.double u4), .second, .val (.double u5), .second, .val (.double u6), .second] [(.double u2), (.ref a1)])) rfl rfl (hb hby d2_93)
  have F133 := F123.same W132
  have F134 := F124.other W132 (Or.inr (slot_ne (Or.inr (hw _ (List.mem_of_getElem? (i := 27) rfl))) (Or.inr (hw _ (List.mem_of_getElem? (i := 25) rfl))) (by decide) (t := .double) (t' := .double) (by decide) (by decide)))
  have F135 := F125.other W132 (Or.inr (slot_ne (Or.inr (hw _ (List.mem_of_getElem? (i := 29) rfl))) (Or.inr (hw _ (List.mem_of_getElem? (i := 25) rfl))) (by decide) (t := .double) (t' := .double) (by decide) (by decide)))
  have F136 := F126.wr W132
  have F137 := F122.other W132 (Or.inr (slot_ne (Or.inr (hw _ (List.mem_of_getElem? (i := 23) rfl))) (Or.inr (hw _ (List.mem_of_getElem? (i := 25) rfl))) (by decide) (t := .double) (t' := .double) (by decide) (by decide)))
  have Z138 : n0 ≤ h132.size := Nat.le_trans Z127 (Nat.le_of_eq W132.size.symm)
  have N139 := Fr.snoc X132 N128 ga
  have K140 := K129.wr W132 (Or.inl (List.mem_of_getElem? (i := 0) rfl))
  have k141 : ∀ t, Steps p.tables e below (T132.setTop (mkF m 96 #[.val (.ref a1), .val (.double u1), .second, .val (.double u2), .second, .val (.double u3), .second, .val (.double u4), .second, .val (.double u5), .second, .val (.double u6), .second] [])) t → Steps p.tables e below (s₁.setTop (entryFrame m #[(.ref a1), (.double u1), (.double u2), (.double u3), (.double u4), (.double u5), (.double u6)] 13)) t := fun t k => k131 t (st132 t k)
  have k142 : ∀ t, Steps p.tables e below (T132.setTop (mkF m 99 #[.val (.ref a1), .val (.double u1), .second, .val (.double u2), .second, .val (.double u3), .second, .val (.double u4), .second, .val (.double u5), .second, .val (.double u6), .second] [(.double u3), (.ref a1)])) t → Steps p.tables e below (s₁.setTop (entryFrame m #[(.ref a1), (.double u1), (.double u2), (.double u3), (.double u4), (.double u5), (.double u6)] 13)) t := fun t k => k141 t (by
    show Steps p.tables e below (T132.setTop (mkF m 96 #[.val (.ref a1), .val (.double u1), .second, .val (.double u2), .second, .val (.double u3), .second, .val (.double u4), .second, .val (.double u5), .second, .val (.double u6), .second] [])) _
    refine XS.aloadN X132.here hx rfl (hb hby d2_96) rfl rfl ?_
    show Steps p.tables e below (T132.setTop (mkF m 97 #[.val (.ref a1), .val (.double u1), .second, .val (.double u2), .second, .val (.double u3), .second, .val (.double u4), .second, .val (.double u5), .second, .val (.double u6), .second] [(.ref a1)])) _
    refine XS.dload X132.here hx rfl (hb hby d2_97) rfl ?_
    exact k)
  obtain ⟨T143, h143, X143, e143, W143, st143⟩ := putF X132 hx hZ hown (host := "") (Or.inl (hw _ (List.mem_of_getElem? (i := 26) rfl))) Via.refl e132 F134 F136 (Or.inr ⟨(hw _ (List.mem_of_getElem? (i := 27) rfl)), rfl, hnm⟩) (hw _ (List.mem_of_getElem? (i := 2) rfl)) (ty := .double) (by decide) rfl rfl (g := (mkF m 99 #[.val (.ref a1), .val (.double u1), .second, .val (.double u2), .second, .val (.double u3), .second, .val (.double u4), .second, .val (.double u5), .second, .val (.double u6), .second] [(.double u3), (.ref a1)])) rfl rfl (hb hby d2_99)
  have F144 := F134.same W143
  have F145 := F135.other W143 (Or.inr (slot_ne (Or.inr (hw _ (List.mem_of_getElem? (i := 29) rfl))) (Or.inr (hw _ (List.mem_of_getElem? (i := 27) rfl))) (by decide) (t := .double) (t' := .double) (by decide) (by decide)))
  have F146 := F136.wr W143
  have F147 := F137.other W143 (Or.inr (slot_ne (Or.inr (hw _ (List.mem_of_getElem? (i := 23) rfl))) (Or.inr (hw _ (List.mem_of_getElem? (i := 27) rfl))) (by decide) (t := .double) (t' := .double) (by decide) (by decide)))
  have F148 := F133.other W143 (Or.inr (slot_ne (Or.inr (hw _ (List.mem_of_getElem? (i := 25) rfl))) (Or.inr (hw _ (List.mem_of_getElem? (i := 27) rfl))) (by decide) (t := .double) (t' := .double) (by decide) (by decide)))
  have Z149 : n0 ≤ h143.size := Nat.le_trans Z138 (Nat.le_of_eq W143.size.symm)
  have N150 := Fr.snoc X143 N139 ga
  have K151 := K140.wr W143 (Or.inl (List.mem_of_getElem? (i := 0) rfl))
  have k152 : ∀ t, Steps p.tables e below (T143.setTop (mkF m 102 #[.val (.ref a1), .val (.double u1), .second, .val (.double u2), .second, .val (.double u3), .second, .val (.double u4), .second, .val (.double u5), .second, .val (.double u6), .second] [])) t → Steps p.tables e below (s₁.setTop (entryFrame m #[(.ref a1), (.double u1), (.double u2), (.double u3), (.double u4), (.double u5), (.double u6)] 13)) t := fun t k => k142 t (st143 t k)
  have k153 : ∀ t, Steps p.tables e below (T143.setTop (mkF m 105 #[.val (.ref a1), .val (.double u1), .second, .val (.double u2), .second, .val (.double u3), .second, .val (.double u4), .second, .val (.double u5), .second, .val (.double u6), .second] [(.double u4), (.ref a1)])) t → Steps p.tables e below (s₁.setTop (entryFrame m #[(.ref a1), (.double u1), (.double u2), (.double u3), (.double u4), (.double u5), (.double u6)] 13)) t := fun t k => k152 t (by
    show Steps p.tables e below (T143.setTop (mkF m 102 #[.val (.ref a1), .val (.double u1), .second, .val (.double u2), .second, .val (.double u3), .second, .val (.double u4), .second, .val (.double u5), .second, .val (.double u6), .second] [])) _
    refine XS.aloadN X143.here hx rfl (hb hby d2_102) rfl rfl ?_
    show Steps p.tables e below (T143.setTop (mkF m 103 #[.val (.ref a1), .val (.double u1), .second, .val (.double u2), .second, .val (.double u3), .second, .val (.double u4), .second, .val (.double u5), .second, .val (.double u6), .second] [(.ref a1)])) _
    refine XS.dload X143.here hx rfl (hb hby d2_103) rfl ?_
    exact k)
  obtain ⟨T154, h154, X154, e154, W154, st154⟩ := putF X143 hx hZ hown (host := "") (Or.inl (hw _ (List.mem_of_getElem? (i := 28) rfl))) Via.refl e143 F145 F146 (Or.inr ⟨(hw _ (List.mem_of_getElem? (i := 29) rfl)), rfl, hnm⟩) (hw _ (List.mem_of_getElem? (i := 2) rfl)) (ty := .double) (by decide) rfl rfl (g := (mkF m 105 #[.val (.ref a1), .val (.double u1), .second, .val (.double u2), .second, .val (.double u3), .second, .val (.double u4), .second, .val (.double u5), .second, .val (.double u6), .second] [(.double u4), (.ref a1)])) rfl rfl (hb hby d2_105)
  have F155 := F145.same W154
  have F156 := F146.wr W154
  have F157 := F147.other W154 (Or.inr (slot_ne (Or.inr (hw _ (List.mem_of_getElem? (i := 23) rfl))) (Or.inr (hw _ (List.mem_of_getElem? (i := 29) rfl))) (by decide) (t := .double) (t' := .double) (by decide) (by decide)))
  have F158 := F148.other W154 (Or.inr (slot_ne (Or.inr (hw _ (List.mem_of_getElem? (i := 25) rfl))) (Or.inr (hw _ (List.mem_of_getElem? (i := 29) rfl))) (by decide) (t := .double) (t' := .double) (by decide) (by decide)))
  have F159 := F144.other W154 (Or.inr (slot_ne (Or.inr (hw _ (List.mem_of_getElem? (i := 27) rfl))) (Or.inr (hw _ (List.mem_of_getElem? (i := 29) rfl))) (by decide) (t := .double) (t' := .double) (by decide) (by decide)))
  have Z160 : n0 ≤ h154.size := Nat.le_trans Z149 (Nat.le_of_eq W154.size.symm)
  have N161 := Fr.snoc X154 N150 ga
  have K162 := K151.wr W154 (Or.inl (List.mem_of_getElem? (i := 0) rfl))
  have k163 : ∀ t, Steps p.tables e below (T154.setTop (mkF m 108 #[.val (.ref a1), .val (.double u1), .second, .val (.double u2), .second, .val (.double u3), .second, .val (.double u4), .second, .val (.double u5), .second, .val (.double u6), .second] [])) t → Steps p.tables e below (s₁.setTop (entryFrame m #[(.ref a1), (.double u1), (.double u2), (.double u3), (.double u4), (.double u5), (.double u6)] 13)) t := fun t k => k153 t (st154 t k)
  obtain ⟨fs, hr, hrun, hended, hW, hsame⟩ := X154.leave (v := none) (fun _ => rfl)
  refine ⟨_, _, k163 _ (X154.returnOut hx Bd.returns (hb hby d2_108) hr), hrun, hended, _, _, rfl, ?_, ⟨_, rfl⟩, hW, hsame.mono (by decide) (by decide)⟩
  show Q_rm2 Z a1 u1 u2 u3 u4 u5 u6 h0 n0 _ T154.heap _
  rw [e154]
  exact ⟨rfl, N161, K162, F156, F157, F158, F159, F155⟩
theorem ef_1_RDDDD (m : MethodId) (x0 : Addr) (x1 : UInt64) (x2 : UInt64) (x3 : UInt64) (x4 : UInt64) : entryFrame m #[(.ref x0), (.double x1), (.double x2), (.double x3), (.double x4)] 9 = mkF m 0 #[.val (.ref x0), .val (.double x1), .second, .val (.double x2), .second, .val (.double x3), .second, .val (.double x4), .second] [] := by first | (simp [entryFrame, mkF, argsToLocals, Value.category]; done) | rfl
theorem d1_0 : decode prog_26_method_1_code 0 = .ok (.aload_n 0, 1) := by decide +kernel
theorem d1_1 : decode prog_26_method_1_code 1 = .ok (.dload_n 1, 1) := by decide +kernel
theorem d1_2 : decode prog_26_method_1_code 2 = .ok (.dload_n 3, 1) := by decide +kernel
theorem d1_3 : decode prog_26_method_1_code 3 = .ok (.dload_n 1, 1) := by decide +kernel
theorem d1_4 : decode prog_26_method_1_code 4 = .ok (.dload 5, 2) := by decide +kernel
theorem d1_6 : decode prog_26_method_1_code 6 = .ok (.dadd, 1) := by decide +kernel
theorem d1_7 : decode prog_26_method_1_code 7 = .ok (.dload_n 3, 1) := by decide +kernel
theorem d1_8 : decode prog_26_method_1_code 8 = .ok (.dload 7, 2) := by decide +kernel
theorem d1_10 : decode prog_26_method_1_code 10 = .ok (.dadd, 1) := by decide +kernel
theorem d1_11 : decode prog_26_method_1_code 11 = .ok (.dload 5, 2) := by decide +kernel
theorem d1_13 : decode prog_26_method_1_code 13 = .ok (.dload 7, 2) := by decide +kernel
theorem d1_15 : decode prog_26_method_1_code 15 = .ok (.invokespecial 1, 3) := by decide +kernel
theorem pd__28DDDDDD_29V : parseMethodDescriptor "(DDDDDD)V" = some ⟨[.double, .double, .double, .double, .double, .double], none⟩ := by decide +kernel
theorem d1_18 : decode prog_26_method_1_code 18 = .ok (.return_, 1) := by decide +kernel
def Q_rm1 (Z : State) (a1 : Addr) (v1 : UInt64) (v2 : UInt64) (v3 : UInt64) (v4 : UInt64) (h0 : Heap) (n0 : Nat) (v : Option Value) (h : Heap) (L : List Loc) : Prop := v = none ∧ Fr n0 L ∧ Keep h0 h [a1] ∧ Exa Z h a1 "com/example/hoja/hoja/model/Box" ∧ Fld Z h a1 "com/example/hoja/hoja/model/Box" "x" "D" (.double v1) ∧ Fld Z h a1 "com/example/hoja/hoja/model/Box" "y" "D" (.double v2) ∧ Fld Z h a1 "com/example/hoja/hoja/model/Box" "right" "D" (.double (FP.dadd v1 v3)) ∧ Fld Z h a1 "com/example/hoja/hoja/model/Box" "bottom" "D" (.double (FP.dadd v2 v4))
set_option maxRecDepth 65536 in
set_option maxHeartbeats 40000000 in
theorem rm1 (l : Launch) (Z : State) (a0 : Array Value) (hw : ∀ d ∈ tables_1, d.before a0 Z = true) (ws : List Jvm.Cond) (a1 : Addr) (v1 : UInt64) (v2 : UInt64) (v3 : UInt64) (v4 : UInt64) (h0 : Heap) (n0 : Nat) (Z0 : n0 ≤ h0.size) (F0 : Fld Z h0 a1 "com/example/hoja/hoja/model/Box" "x" "D" (.double (0 : UInt64))) (F1 : Fld Z h0 a1 "com/example/hoja/hoja/model/Box" "y" "D" (.double (0 : UInt64))) (F2 : Fld Z h0 a1 "com/example/hoja/hoja/model/Box" "right" "D" (.double (0 : UInt64))) (F3 : Fld Z h0 a1 "com/example/hoja/hoja/model/Box" "bottom" "D" (.double (0 : UInt64))) (E1 : Exa Z h0 a1 "com/example/hoja/hoja/model/Box") (ga : n0 ≤ a1) (c8 : ¬ (cmpValue (FP.dcmp v3 (0 : UInt64)) .l < (0 : Int32))) (c15 : ¬ (cmpValue (FP.dcmp v4 (0 : UInt64)) .l < (0 : Int32))) (fr : Jvm.FP.Core.DFin (FP.dadd v1 v3)) (fb : Jvm.FP.Core.DFin (FP.dadd v2 v4)) (f3 : Jvm.FP.Core.DFin v3) (f4 : Jvm.FP.Core.DFin v4) :
    MetFree l (⟨"com/example/hoja/hoja/model/Box", "<init>", "(DDDD)V"⟩ : MethodName) (head1 (Jvm.Cond.code (⟨"com/example/hoja/hoja/model/Box", "<init>", "(DDDD)V"⟩ : MethodName) prog_26_method_1_code 9 none :: ws) ({ frames := 3, cells := 0, slots := 0, locals := 50 } : Room)) (fun a U => a = #[(.ref a1), (.double v1), (.double v2), (.double v3), (.double v4)] ∧ Z.Warmed39 U.vm ∧ U.heap = h0) (fun _ _ _ _ _ => True) (fun _ U o U' => ∃ v L, o = .returned v ∧ Q_rm1 Z a1 v1 v2 v3 v4 h0 n0 v U'.heap L ∧ FrameEnd U o U' L ({ frames := 3, cells := 0, slots := 0, locals := 50 } : Room).cells ({ frames := 3, cells := 0, slots := 0, locals := 50 } : Room).slots) := by
  refine MetFree.of_bodySF (plainFor_of_name pn_com_2fexample_2fhoja_2fhoja_2fmodel_2fBox) hisR ?_
  intro p e s m args below meth c s₁ Bd hml0 hP hK
  obtain ⟨rfl, hZ, hh⟩ := hP
  have hx := Bd.exec
  have hby := Bd.bytes
  have hml : c.maxLocals = 9 := hml0
  have hown : s.vm.findClass "com/example/hoja/hoja/model/Box" = some m.cls := findClass_of_methodNamed Bd.named
  have hnm := (name_of_methodNamed Bd.named Bd.method).1
  have X0 : Stand p l e ({ frames := 3, cells := 0, slots := 0, locals := 50 } : Room) s m #[(.ref a1), (.double v1), (.double v2), (.double v3), (.double v4)] below meth c s₁ [] 0 0 := Stand.of_body Bd
  have e0 : s₁.heap = h0 := by rw [← hh, Bd.state]; rfl
  have N0 := Fr.nil n0
  have k0 : ∀ t, Steps p.tables e below (s₁.setTop (mkF m 0 #[.val (.ref a1), .val (.double v1), .second, .val (.double v2), .second, .val (.double v3), .second, .val (.double v4), .second] [])) t → Steps p.tables e below (s₁.setTop (entryFrame m #[(.ref a1), (.double v1), (.double v2), (.double v3), (.double v4)] 9)) t := fun t k => castTop (ef_1_RDDDD m a1 v1 v2 v3 v4) k
  have K0 := Keep.refl h0 [a1]
  have k101 : ∀ t, Steps p.tables e below (s₁.setTop (mkF m 15 #[.val (.ref a1), .val (.double v1), .second, .val (.double v2), .second, .val (.double v3), .second, .val (.double v4), .second] [(.double v4), (.double v3), (.double (FP.dadd v2 v4)), (.double (FP.dadd v1 v3)), (.double v2), (.double v1), (.ref a1)])) t → Steps p.tables e below (s₁.setTop (entryFrame m #[(.ref a1), (.double v1), (.double v2), (.double v3), (.double v4)] 9)) t := fun t k => k0 t (by
    show Steps p.tables e below (s₁.setTop (mkF m 0 #[.val (.ref a1), .val (.double v1), .second, .val (.double v2), .second, .val (.double v3), .second, .val (.double v4), .second] [])) _
    refine XS.aloadN X0.here hx rfl (hb hby d1_0) rfl rfl ?_
    show Steps p.tables e below (s₁.setTop (mkF m 1 #[.val (.ref a1), .val (.double v1), .second, .val (.double v2), .second, .val (.double v3), .second, .val (.double v4), .second] [(.ref a1)])) _
    refine XS.dloadN X0.here hx rfl (hb hby d1_1) rfl ?_
    show Steps p.tables e below (s₁.setTop (mkF m 2 #[.val (.ref a1), .val (.double v1), .second, .val (.double v2), .second, .val (.double v3), .second, .val (.double v4), .second] [(.double v1), (.ref a1)])) _
    refine XS.dloadN X0.here hx rfl (hb hby d1_2) rfl ?_
    show Steps p.tables e below (s₁.setTop (mkF m 3 #[.val (.ref a1), .val (.double v1), .second, .val (.double v2), .second, .val (.double v3), .second, .val (.double v4), .second] [(.double v2), (.double v1), (.ref a1)])) _
    refine XS.dloadN X0.here hx rfl (hb hby d1_3) rfl ?_
    show Steps p.tables e below (s₁.setTop (mkF m 4 #[.val (.ref a1), .val (.double v1), .second, .val (.double v2), .second, .val (.double v3), .second, .val (.double v4), .second] [(.double v1), (.double v2), (.double v1), (.ref a1)])) _
    refine XS.dload X0.here hx rfl (hb hby d1_4) rfl ?_
    show Steps p.tables e below (s₁.setTop (mkF m 6 #[.val (.ref a1), .val (.double v1), .second, .val (.double v2), .second, .val (.double v3), .second, .val (.double v4), .second] [(.double v3), (.double v1), (.double v2), (.double v1), (.ref a1)])) _
    refine XS.daddS X0.here hx rfl (hb hby d1_6) rfl ((Jvm.Free.Fl.fin64_core.mpr fr).noNaN) rfl ?_
    show Steps p.tables e below (s₁.setTop (mkF m 7 #[.val (.ref a1), .val (.double v1), .second, .val (.double v2), .second, .val (.double v3), .second, .val (.double v4), .second] [(.double (FP.dadd v1 v3)), (.double v2), (.double v1), (.ref a1)])) _
    refine XS.dloadN X0.here hx rfl (hb hby d1_7) rfl ?_
    show Steps p.tables e below (s₁.setTop (mkF m 8 #[.val (.ref a1), .val (.double v1), .second, .val (.double v2), .second, .val (.double v3), .second, .val (.double v4), .second] [(.double v2), (.double (FP.dadd v1 v3)), (.double v2), (.double v1), (.ref a1)])) _
    refine XS.dload X0.here hx rfl (hb hby d1_8) rfl ?_
    show Steps p.tables e below (s₁.setTop (mkF m 10 #[.val (.ref a1), .val (.double v1), .second, .val (.double v2), .second, .val (.double v3), .second, .val (.double v4), .second] [(.double v4), (.double v2), (.double (FP.dadd v1 v3)), (.double v2), (.double v1), (.ref a1)])) _
    refine XS.daddS X0.here hx rfl (hb hby d1_10) rfl ((Jvm.Free.Fl.fin64_core.mpr fb).noNaN) rfl ?_
    show Steps p.tables e below (s₁.setTop (mkF m 11 #[.val (.ref a1), .val (.double v1), .second, .val (.double v2), .second, .val (.double v3), .second, .val (.double v4), .second] [(.double (FP.dadd v2 v4)), (.double (FP.dadd v1 v3)), (.double v2), (.double v1), (.ref a1)])) _
    refine XS.dload X0.here hx rfl (hb hby d1_11) rfl ?_
    show Steps p.tables e below (s₁.setTop (mkF m 13 #[.val (.ref a1), .val (.double v1), .second, .val (.double v2), .second, .val (.double v3), .second, .val (.double v4), .second] [(.double v3), (.double (FP.dadd v2 v4)), (.double (FP.dadd v1 v3)), (.double v2), (.double v1), (.ref a1)])) _
    refine XS.dload X0.here hx rfl (hb hby d1_13) rfl ?_
    exact k)
  obtain ⟨_, _, ⟨T102, L102, k102, n102⟩, -, X102, ⟨Lc102, hQ102, l102, y102, z102⟩, st102⟩ := X0.specialBack hx (y := (⟨"com/example/hoja/hoja/model/Box", "<init>", "(DDDDDD)V"⟩ : MethodName)) rfl hown (mvT hZ (hw _ (List.mem_of_getElem? (i := 7) rfl))) (mvT hZ (hw _ (List.mem_of_getElem? (i := 8) rfl))) (mvT hZ (hw _ (List.mem_of_getElem? (i := 9) rfl))) (by decide) (backOf (W := 0) (rm2 l Z a0 hw [] a1 v1 v2 (FP.dadd v1 v3) (FP.dadd v2 v4) v3 v4 h0 n0 Z0 F0 F1 F2 F3 E1 ga c8 c15 fr fb f3 f4) hZ (hw _ (List.mem_of_getElem? (i := 9) rfl)) (hw _ (List.mem_of_getElem? (i := 3) rfl)) (by decide) (by decide)) (g := (mkF m 15 #[.val (.ref a1), .val (.double v1), .second, .val (.double v2), .second, .val (.double v3), .second, .val (.double v4), .second] [(.double v4), (.double v3), (.double (FP.dadd v2 v4)), (.double (FP.dadd v1 v3)), (.double v2), (.double v1), (.ref a1)])) rfl (by rw [hml]; rfl) (Steps.refl _) (a := a1) (argsL := [(.double v1), (.double v2), (.double (FP.dadd v1 v3)), (.double (FP.dadd v2 v4)), (.double v3), (.double v4)]) (rest := []) (lenOf pd__28DDDDDD_29V rfl) rfl (by show 2 * 0 + _ ≤ _; exact Nat.le_of_eq rfl) (hb hby d1_15) (fun _ _ => ⟨rfl, e0, (by decide : 0 + 0 ≤ _), (by decide : 0 + 0 ≤ _)⟩)
  dsimp only [Pt.U, Pt.locs, Pt.cells, Pt.slots] at X102 l102 y102 z102 st102 hQ102
  subst l102 y102 z102
  obtain ⟨h102, e102⟩ : ∃ h', T102.heap = h' := ⟨_, rfl⟩
  rw [e102] at hQ102
  obtain ⟨rfl, N102q, K102, G102e, G1020, G1021, G1022, G1023⟩ := hQ102
  have N103 := Fr.app N0 N102q
  have k104 : ∀ t, Steps p.tables e below (T102.setTop (mkF m 18 #[.val (.ref a1), .val (.double v1), .second, .val (.double v2), .second, .val (.double v3), .second, .val (.double v4), .second] [])) t → Steps p.tables e below (s₁.setTop (entryFrame m #[(.ref a1), (.double v1), (.double v2), (.double v3), (.double v4)] 9)) t := fun t k => k101 t (st102.trans k)
  have F105 := E1.keep K102
  have Z106 : n0 ≤ h102.size := Nat.le_trans Z0 K102.1
  have K107 := Keep.trans K0 K102 (allS (Or.inl (List.mem_of_getElem? (i := 0) rfl)) all0)
  obtain ⟨fs, hr, hrun, hended, hW, hsame⟩ := X102.leave (v := none) (fun _ => rfl)
  refine ⟨_, _, k104 _ (X102.returnOut hx Bd.returns (hb hby d1_18) hr), hrun, hended, _, _, rfl, ?_, ⟨_, rfl⟩, hW, hsame.mono (by decide) (by decide)⟩
  show Q_rm1 Z a1 v1 v2 v3 v4 h0 n0 _ T102.heap _
  rw [e102]
  exact ⟨rfl, N103, K107, G102e, G1020, G1021, G1022, G1023⟩
theorem ef_8_I (m : MethodId) (x0 : Int32) : entryFrame m #[(.int x0)] 1 = mkF m 0 #[.val (.int x0)] [] := by first | (simp [entryFrame, mkF, argsToLocals, Value.category]; done) | rfl
theorem d8_0 : decode jdk_43_method_3_code 0 = .ok (.iload_n 0, 1) := by decide +kernel
theorem d8_1 : decode jdk_43_method_3_code 1 = .ok (.sipush 255, 3) := by decide +kernel
theorem d8_4 : decode jdk_43_method_3_code 4 = .ok (.if_icmp .gt 7, 3) := by decide +kernel
theorem d8_7 : decode jdk_43_method_3_code 7 = .ok (.iconst 1, 1) := by decide +kernel
theorem d8_8 : decode jdk_43_method_3_code 8 = .ok (.goto 4, 3) := by decide +kernel
theorem d8_12 : decode jdk_43_method_3_code 12 = .ok (.ireturn, 1) := by decide +kernel
def Q_rm8 (Z : State) (p1 : Int32) (h0 : Heap) (n0 : Nat) (v : Option Value) (h : Heap) (L : List Loc) : Prop := v = some (.int 1) ∧ Fr n0 L ∧ h = h0
theorem pn_java_2flang_2fStringLatin1 : plainName "java/lang/StringLatin1" = true := by first | (simp [plainName, overriddenIn]; done) | decide +kernel
set_option maxRecDepth 65536 in
set_option maxHeartbeats 40000000 in
theorem rm8 (l : Launch) (Z : State) (a0 : Array Value) (hw : ∀ d ∈ tables_1, d.before a0 Z = true) (ws : List Jvm.Cond) (p1 : Int32) (h0 : Heap) (n0 : Nat) (Z0 : n0 ≤ h0.size) (hbb : ¬ ((255 : Int32) < p1)) :
    MetFree l (⟨"java/lang/StringLatin1", "canEncode", "(C)Z"⟩ : MethodName) (head1 (Jvm.Cond.code (⟨"java/lang/StringLatin1", "canEncode", "(C)Z"⟩ : MethodName) jdk_43_method_3_code 1 (some .boolean) :: ws) ({ frames := 0, cells := 0, slots := 0, locals := 0 } : Room)) (fun a U => a = #[(.int p1)] ∧ Z.Warmed39 U.vm ∧ U.heap = h0) (fun _ _ _ _ _ => True) (fun _ U o U' => ∃ v L, o = .returned v ∧ Q_rm8 Z p1 h0 n0 v U'.heap L ∧ FrameEnd U o U' L ({ frames := 0, cells := 0, slots := 0, locals := 0 } : Room).cells ({ frames := 0, cells := 0, slots := 0, locals := 0 } : Room).slots) := by
  refine MetFree.of_bodySF (plainFor_of_name pn_java_2flang_2fStringLatin1) hisR ?_
  intro p e s m args below meth c s₁ Bd hml0 hP hK
  obtain ⟨rfl, hZ, hh⟩ := hP
  have hx := Bd.exec
  have hby := Bd.bytes
  have hml : c.maxLocals = 1 := hml0
  have hown : s.vm.findClass "java/lang/StringLatin1" = some m.cls := findClass_of_methodNamed Bd.named
  have hnm := (name_of_methodNamed Bd.named Bd.method).1
  have X0 : Stand p l e ({ frames := 0, cells := 0, slots := 0, locals := 0 } : Room) s m #[(.int p1)] below meth c s₁ [] 0 0 := Stand.of_body Bd
  have e0 : s₁.heap = h0 := by rw [← hh, Bd.state]; rfl
  have N0 := Fr.nil n0
  have k0 : ∀ t, Steps p.tables e below (s₁.setTop (mkF m 0 #[.val (.int p1)] [])) t → Steps p.tables e below (s₁.setTop (entryFrame m #[(.int p1)] 1)) t := fun t k => castTop (ef_8_I m p1) k
  have k101 : ∀ t, Steps p.tables e below (s₁.setTop (mkF m 12 #[.val (.int p1)] [(.int (1 : Int32))])) t → Steps p.tables e below (s₁.setTop (entryFrame m #[(.int p1)] 1)) t := fun t k => k0 t (by
    show Steps p.tables e below (s₁.setTop (mkF m 0 #[.val (.int p1)] [])) _
    refine XS.iloadN X0.here hx rfl (hb hby d8_0) rfl ?_
    show Steps p.tables e below (s₁.setTop (mkF m 1 #[.val (.int p1)] [(.int p1)])) _
    refine XS.sipush X0.here hx rfl (hb hby d8_1) ?_
    show Steps p.tables e below (s₁.setTop (mkF m 4 #[.val (.int p1)] [(.int (255 : Int32)), (.int p1)])) _
    refine XS.icmpNo X0.here hx rfl (hb hby d8_4) rfl (flt hbb).2.2.1 ?_
    show Steps p.tables e below (s₁.setTop (mkF m 7 #[.val (.int p1)] [])) _
    refine XS.iconst X0.here hx rfl (hb hby d8_7) ?_
    show Steps p.tables e below (s₁.setTop (mkF m 8 #[.val (.int p1)] [(.int (1 : Int32))])) _
    refine XS.goto X0.here hx rfl (pc0 := 8) (pc' := 12) rfl (hb hby d8_8) (by decide) (by decide) ?_
    exact k)
  obtain ⟨fs, hr, hrun, hended, hW, hsame⟩ := X0.leave (v := some (.int (1 : Int32))) (fun h => by rw [Bd.returns] at h; cases h)
  refine ⟨_, _, k101 _ (retOut X0 hx (t := .boolean) Bd.returns rfl (Or.inl ⟨rfl, Or.inr (Or.inl rfl), _, rfl⟩) (hb hby d8_12) hr), hrun, hended, _, _, rfl, ?_, ⟨_, rfl⟩, hW, hsame.mono (by decide) (by decide)⟩
  show Q_rm8 Z p1 h0 n0 _ s₁.heap _
  rw [e0]
  exact ⟨rfl, N0, rfl⟩
theorem ef_9_I (m : MethodId) (x0 : Int32) : entryFrame m #[(.int x0)] 1 = mkF m 0 #[.val (.int x0)] [] := by first | (simp [entryFrame, mkF, argsToLocals, Value.category]; done) | rfl
theorem d9_0 : decode jdk_43_method_46_code 0 = .ok (.iconst 1, 1) := by decide +kernel
theorem d9_1 : decode jdk_43_method_46_code 1 = .ok (.newarray .byte, 2) := by decide +kernel
theorem d9_3 : decode jdk_43_method_46_code 3 = .ok (.dup, 1) := by decide +kernel
theorem d9_4 : decode jdk_43_method_46_code 4 = .ok (.iconst 0, 1) := by decide +kernel
theorem d9_5 : decode jdk_43_method_46_code 5 = .ok (.iload_n 0, 1) := by decide +kernel
theorem d9_6 : decode jdk_43_method_46_code 6 = .ok (.i2b, 1) := by decide +kernel
theorem d9_7 : decode jdk_43_method_46_code 7 = .ok (.bastore, 1) := by decide +kernel
theorem d9_8 : decode jdk_43_method_46_code 8 = .ok (.areturn, 1) := by decide +kernel
def Q_rm9 (Z : State) (p1 : Int32) (h0 : Heap) (n0 : Nat) (v : Option Value) (h : Heap) (L : List Loc) : Prop := ∃ (b : Addr) (k : ClassId), v = some (.ref b) ∧ Fr n0 L ∧ b = h0.size ∧ Keep h0 h [] ∧ Arv Z h b k .byte (1 : Int32) [(.int (nar .byte (p1.toInt8.toInt32)))] (.int (0 : Int32))
set_option maxRecDepth 65536 in
set_option maxHeartbeats 40000000 in
theorem rm9 (l : Launch) (Z : State) (a0 : Array Value) (hw : ∀ d ∈ tables_1, d.before a0 Z = true) (ws : List Jvm.Cond) (p1 : Int32) (h0 : Heap) (n0 : Nat) (Z0 : n0 ≤ h0.size) :
    MetFree l (⟨"java/lang/StringLatin1", "toBytes", "(C)[B"⟩ : MethodName) (head1 (Jvm.Cond.code (⟨"java/lang/StringLatin1", "toBytes", "(C)[B"⟩ : MethodName) jdk_43_method_46_code 1 (some (.array .byte)) :: ws) ({ frames := 0, cells := 1, slots := 1, locals := 0 } : Room)) (fun a U => a = #[(.int p1)] ∧ Z.Warmed39 U.vm ∧ U.heap = h0) (fun _ _ _ _ _ => True) (fun _ U o U' => ∃ v L, o = .returned v ∧ Q_rm9 Z p1 h0 n0 v U'.heap L ∧ FrameEnd U o U' L ({ frames := 0, cells := 1, slots := 1, locals := 0 } : Room).cells ({ frames := 0, cells := 1, slots := 1, locals := 0 } : Room).slots) := by
  refine MetFree.of_bodySF (plainFor_of_name pn_java_2flang_2fStringLatin1) hisR ?_
  intro p e s m args below meth c s₁ Bd hml0 hP hK
  obtain ⟨rfl, hZ, hh⟩ := hP
  have hx := Bd.exec
  have hby := Bd.bytes
  have hml : c.maxLocals = 1 := hml0
  have hown : s.vm.findClass "java/lang/StringLatin1" = some m.cls := findClass_of_methodNamed Bd.named
  have hnm := (name_of_methodNamed Bd.named Bd.method).1
  have X0 : Stand p l e ({ frames := 0, cells := 1, slots := 1, locals := 0 } : Room) s m #[(.int p1)] below meth c s₁ [] 0 0 := Stand.of_body Bd
  have e0 : s₁.heap = h0 := by rw [← hh, Bd.state]; rfl
  have N0 := Fr.nil n0
  have k0 : ∀ t, Steps p.tables e below (s₁.setTop (mkF m 0 #[.val (.int p1)] [])) t → Steps p.tables e below (s₁.setTop (entryFrame m #[(.int p1)] 1)) t := fun t k => castTop (ef_9_I m p1) k
  have K0 : Keep h0 h0 [] := Keep.refl h0 []
  have k101 : ∀ t, Steps p.tables e below (s₁.setTop (mkF m 1 #[.val (.int p1)] [(.int (1 : Int32))])) t → Steps p.tables e below (s₁.setTop (entryFrame m #[(.int p1)] 1)) t := fun t k => k0 t (by
    show Steps p.tables e below (s₁.setTop (mkF m 0 #[.val (.int p1)] [])) _
    refine XS.iconst X0.here hx rfl (hb hby d9_0) ?_
    exact k)
  obtain ⟨T102, h102, k102, X102, e102, E102, A102, st102⟩ := newP X0 hx hZ (hw _ (List.mem_of_getElem? (i := 51) rfl)) e0 (g := (mkF m 1 #[.val (.int p1)] [(.int (1 : Int32))])) rfl (hb hby d9_1) rfl (by decide) (cap := 1) (by decide) (by decide) (by decide) (by decide)
  obtain ⟨b102, g102⟩ : ∃ z, z = h0.size := ⟨_, rfl⟩
  rw [← g102] at A102 st102
  have g103 : n0 ≤ b102 := Nat.le_trans Z0 (Nat.le_of_eq g102.symm)
  have z104 : h0.size ≤ b102 := Nat.le_trans K0.1 (Nat.le_of_eq g102.symm)
  have Z105 : n0 ≤ h102.size := Nat.le_trans Z0 E102.1
  have K106 := K0.ext E102
  have V107 : Arv Z h102 b102 k102 .byte (1 : Int32) [(.int (0 : Int32))] (.int (0 : Int32)) := (Arv.new A102 (by decide)).pad (pad_rep [] (.int (0 : Int32)) 1)
  have k108 : ∀ t, Steps p.tables e below (T102.setTop (mkF m 3 #[.val (.int p1)] [(.ref b102)])) t → Steps p.tables e below (s₁.setTop (entryFrame m #[(.int p1)] 1)) t := fun t k => k101 t (st102 t k)
  have k109 : ∀ t, Steps p.tables e below (T102.setTop (mkF m 7 #[.val (.int p1)] [(.int (p1.toInt8.toInt32)), (.int (0 : Int32)), (.ref b102), (.ref b102)])) t → Steps p.tables e below (s₁.setTop (entryFrame m #[(.int p1)] 1)) t := fun t k => k108 t (by
    show Steps p.tables e below (T102.setTop (mkF m 3 #[.val (.int p1)] [(.ref b102)])) _
    refine XS.dup X102.here hx rfl (hb hby d9_3) rfl rfl ?_
    show Steps p.tables e below (T102.setTop (mkF m 4 #[.val (.int p1)] [(.ref b102), (.ref b102)])) _
    refine XS.iconst X102.here hx rfl (hb hby d9_4) ?_
    show Steps p.tables e below (T102.setTop (mkF m 5 #[.val (.int p1)] [(.int (0 : Int32)), (.ref b102), (.ref b102)])) _
    refine XS.iloadN X102.here hx rfl (hb hby d9_5) rfl ?_
    show Steps p.tables e below (T102.setTop (mkF m 6 #[.val (.int p1)] [(.int p1), (.int (0 : Int32)), (.ref b102), (.ref b102)])) _
    refine XS.i2b X102.here hx rfl (hb hby d9_6) rfl ?_
    exact k)
  obtain ⟨c110, Ar110, Aq110, As110, An110, Ah110, Ag110⟩ := id V107
  have hin110 : ¬ ((0 : Int32) < 0 ∨ c110.slots.size ≤ ((0 : Int32)).toNatClampNeg) := inb_of As110 ⟨by decide, by decide⟩
  obtain ⟨T110, h110, X110, e110, W110, st110⟩ := stB X102 hx hZ e102 Ar110 (j := (0 : Int32)) hin110 (g := (mkF m 7 #[.val (.int p1)] [(.int (p1.toInt8.toInt32)), (.int (0 : Int32)), (.ref b102), (.ref b102)])) rfl rfl (hb hby d9_7)
  have V111 : Arv Z h110 b102 k102 .byte (1 : Int32) [(.int (nar .byte (p1.toInt8.toInt32)))] (.int (0 : Int32)) := Arv.set Ar110 Aq110 As110 An110 Ah110 Ag110 (fits_nar_byte _) W110 0 rfl (Nat.le_of_ble_eq_true rfl)
  have Z112 : n0 ≤ h110.size := Nat.le_trans Z105 (Nat.le_of_eq W110.size.symm)
  have N113 := Fr.snoc X110 N0 g103
  have K114 := K106.wr W110 (Or.inr z104)
  have k115 : ∀ t, Steps p.tables e below (T110.setTop (mkF m 8 #[.val (.int p1)] [(.ref b102)])) t → Steps p.tables e below (s₁.setTop (entryFrame m #[(.int p1)] 1)) t := fun t k => k109 t (st110 t k)
  obtain ⟨fs, hr, hrun, hended, hW, hsame⟩ := X110.leave (v := some (.ref b102)) (fun h => by rw [Bd.returns] at h; cases h)
  refine ⟨_, _, k115 _ (retOut X110 hx (t := (.array .byte)) Bd.returns rfl (Or.inr (Or.inr (Or.inr (Or.inr ⟨rfl, rfl, rfl⟩)))) (hb hby d9_8) hr), hrun, hended, _, _, rfl, ?_, ⟨_, rfl⟩, hW, hsame.mono (by decide) (by decide)⟩
  show Q_rm9 Z p1 h0 n0 _ T110.heap _
  rw [e110]
  exact ⟨b102, k102, rfl, N113, g102, K114, V111⟩
theorem ef_10_RRI (m : MethodId) (x0 : Addr) (x1 : Addr) (x2 : Int32) : entryFrame m #[(.ref x0), (.ref x1), (.int x2)] 3 = mkF m 0 #[.val (.ref x0), .val (.ref x1), .val (.int x2)] [] := by first | (simp [entryFrame, mkF, argsToLocals, Value.category]; done) | rfl
theorem d10_0 : decode jdk_42_method_151_code 0 = .ok (.aload_n 0, 1) := by decide +kernel
theorem d10_1 : decode jdk_42_method_151_code 1 = .ok (.invokespecial 1, 3) := by decide +kernel
theorem d10_4 : decode jdk_42_method_151_code 4 = .ok (.aload_n 0, 1) := by decide +kernel
theorem d10_5 : decode jdk_42_method_151_code 5 = .ok (.aload_n 1, 1) := by decide +kernel
theorem d10_6 : decode jdk_42_method_151_code 6 = .ok (.putfield 9, 3) := by decide +kernel
theorem d10_9 : decode jdk_42_method_151_code 9 = .ok (.aload_n 0, 1) := by decide +kernel
theorem d10_10 : decode jdk_42_method_151_code 10 = .ok (.iload_n 2, 1) := by decide +kernel
theorem d10_11 : decode jdk_42_method_151_code 11 = .ok (.putfield 15, 3) := by decide +kernel
theorem d10_14 : decode jdk_42_method_151_code 14 = .ok (.return_, 1) := by decide +kernel
def Q_rm10 (Z : State) (a1 : Addr) (a2 : Addr) (h0 : Heap) (n0 : Nat) (v : Option Value) (h : Heap) (L : List Loc) : Prop := v = none ∧ Fr n0 L ∧ Keep h0 h [a1] ∧ Exa Z h a1 "java/lang/String" ∧ Fld Z h a1 "java/lang/String" "value" "[B" (.ref a2) ∧ Fld Z h a1 "java/lang/String" "coder" "B" (.int (0 : Int32))
theorem pn_java_2flang_2fString : plainName "java/lang/String" = true := by first | (simp [plainName, overriddenIn]; done) | decide +kernel
set_option maxRecDepth 65536 in
set_option maxHeartbeats 40000000 in
theorem rm10 (l : Launch) (Z : State) (a0 : Array Value) (hw : ∀ d ∈ tables_1, d.before a0 Z = true) (ws : List Jvm.Cond) (a1 : Addr) (a2 : Addr) (h0 : Heap) (n0 : Nat) (Z0 : n0 ≤ h0.size) (F1 : Fld Z h0 a1 "java/lang/String" "value" "[B" .null) (F2 : Fld Z h0 a1 "java/lang/String" "coder" "B" (.int (0 : Int32))) (E1 : Exa Z h0 a1 "java/lang/String") (ga : n0 ≤ a1) :
    MetFree l (⟨"java/lang/String", "<init>", "([BB)V"⟩ : MethodName) (head1 (Jvm.Cond.code (⟨"java/lang/String", "<init>", "([BB)V"⟩ : MethodName) jdk_42_method_151_code 3 none :: ws) ({ frames := 1, cells := 0, slots := 0, locals := 12 } : Room)) (fun a U => a = #[(.ref a1), (.ref a2), (.int (0 : Int32))] ∧ Z.Warmed39 U.vm ∧ U.heap = h0) (fun _ _ _ _ _ => True) (fun _ U o U' => ∃ v L, o = .returned v ∧ Q_rm10 Z a1 a2 h0 n0 v U'.heap L ∧ FrameEnd U o U' L ({ frames := 1, cells := 0, slots := 0, locals := 12 } : Room).cells ({ frames := 1, cells := 0, slots := 0, locals := 12 } : Room).slots) := by
  refine MetFree.of_bodySF (plainFor_of_name pn_java_2flang_2fString) hisR ?_
  intro p e s m args below meth c s₁ Bd hml0 hP hK
  obtain ⟨rfl, hZ, hh⟩ := hP
  have hx := Bd.exec
  have hby := Bd.bytes
  have hml : c.maxLocals = 3 := hml0
  have hown : s.vm.findClass "java/lang/String" = some m.cls := findClass_of_methodNamed Bd.named
  have hnm := (name_of_methodNamed Bd.named Bd.method).1
  have X0 : Stand p l e ({ frames := 1, cells := 0, slots := 0, locals := 12 } : Room) s m #[(.ref a1), (.ref a2), (.int (0 : Int32))] below meth c s₁ [] 0 0 := Stand.of_body Bd
  have e0 : s₁.heap = h0 := by rw [← hh, Bd.state]; rfl
  have N0 := Fr.nil n0
  have k0 : ∀ t, Steps p.tables e below (s₁.setTop (mkF m 0 #[.val (.ref a1), .val (.ref a2), .val (.int (0 : Int32))] [])) t → Steps p.tables e below (s₁.setTop (entryFrame m #[(.ref a1), (.ref a2), (.int (0 : Int32))] 3)) t := fun t k => castTop (ef_10_RRI m a1 a2 (0 : Int32)) k
  have K0 := Keep.refl h0 [a1]
  have k101 : ∀ t, Steps p.tables e below (s₁.setTop (mkF m 1 #[.val (.ref a1), .val (.ref a2), .val (.int (0 : Int32))] [(.ref a1)])) t → Steps p.tables e below (s₁.setTop (entryFrame m #[(.ref a1), (.ref a2), (.int (0 : Int32))] 3)) t := fun t k => k0 t (by
    show Steps p.tables e below (s₁.setTop (mkF m 0 #[.val (.ref a1), .val (.ref a2), .val (.int (0 : Int32))] [])) _
    refine XS.aloadN X0.here hx rfl (hb hby d10_0) rfl rfl ?_
    exact k)
  obtain ⟨T102, X102, e102, st102⟩ := initO X0 hx hZ hown (hw _ (List.mem_of_getElem? (i := 56) rfl)) (hw _ (List.mem_of_getElem? (i := 11) rfl)) (hw _ (List.mem_of_getElem? (i := 12) rfl)) e0 (g := (mkF m 1 #[.val (.ref a1), .val (.ref a2), .val (.int (0 : Int32))] [(.ref a1)])) rfl (by rw [hml]; rfl) rfl (hb hby d10_1) (by decide) (W := 0) (by show 2 * 0 + _ ≤ _; exact Nat.le_of_eq rfl) (by decide)
  have k103 : ∀ t, Steps p.tables e below (T102.setTop (mkF m 4 #[.val (.ref a1), .val (.ref a2), .val (.int (0 : Int32))] [])) t → Steps p.tables e below (s₁.setTop (entryFrame m #[(.ref a1), (.ref a2), (.int (0 : Int32))] 3)) t := fun t k => k101 t (st102 t k)
  have k104 : ∀ t, Steps p.tables e below (T102.setTop (mkF m 6 #[.val (.ref a1), .val (.ref a2), .val (.int (0 : Int32))] [(.ref a2), (.ref a1)])) t → Steps p.tables e below (s₁.setTop (entryFrame m #[(.ref a1), (.ref a2), (.int (0 : Int32))] 3)) t := fun t k => k103 t (by
    show Steps p.tables e below (T102.setTop (mkF m 4 #[.val (.ref a1), .val (.ref a2), .val (.int (0 : Int32))] [])) _
    refine XS.aloadN X102.here hx rfl (hb hby d10_4) rfl rfl ?_
    show Steps p.tables e below (T102.setTop (mkF m 5 #[.val (.ref a1), .val (.ref a2), .val (.int (0 : Int32))] [(.ref a1)])) _
    refine XS.aloadN X102.here hx rfl (hb hby d10_5) rfl rfl ?_
    exact k)
  obtain ⟨T105, h105, X105, e105, W105, st105⟩ := putF X102 hx hZ hown (host := "") (Or.inl (hw _ (List.mem_of_getElem? (i := 57) rfl))) Via.refl e102 F1 E1 (Or.inr ⟨(hw _ (List.mem_of_getElem? (i := 58) rfl)), rfl, hnm⟩) (hw _ (List.mem_of_getElem? (i := 47) rfl)) (ty := (.array .byte)) (by decide) rfl rfl (g := (mkF m 6 #[.val (.ref a1), .val (.ref a2), .val (.int (0 : Int32))] [(.ref a2), (.ref a1)])) rfl rfl (hb hby d10_6)
  have F106 := F1.same W105
  have F107 := F2.other W105 (Or.inr (slot_ne (Or.inr (hw _ (List.mem_of_getElem? (i := 60) rfl))) (Or.inr (hw _ (List.mem_of_getElem? (i := 58) rfl))) (by decide) (t := .byte) (t' := (.array .byte)) (by decide) (by decide)))
  have F108 := E1.wr W105
  have Z109 : n0 ≤ h105.size := Nat.le_trans Z0 (Nat.le_of_eq W105.size.symm)
  have N110 := Fr.snoc X105 N0 ga
  have K111 := K0.wr W105 (Or.inl (List.mem_of_getElem? (i := 0) rfl))
  have k112 : ∀ t, Steps p.tables e below (T105.setTop (mkF m 9 #[.val (.ref a1), .val (.ref a2), .val (.int (0 : Int32))] [])) t → Steps p.tables e below (s₁.setTop (entryFrame m #[(.ref a1), (.ref a2), (.int (0 : Int32))] 3)) t := fun t k => k104 t (st105 t k)
  have k113 : ∀ t, Steps p.tables e below (T105.setTop (mkF m 11 #[.val (.ref a1), .val (.ref a2), .val (.int (0 : Int32))] [(.int (0 : Int32)), (.ref a1)])) t → Steps p.tables e below (s₁.setTop (entryFrame m #[(.ref a1), (.ref a2), (.int (0 : Int32))] 3)) t := fun t k => k112 t (by
    show Steps p.tables e below (T105.setTop (mkF m 9 #[.val (.ref a1), .val (.ref a2), .val (.int (0 : Int32))] [])) _
    refine XS.aloadN X105.here hx rfl (hb hby d10_9) rfl rfl ?_
    show Steps p.tables e below (T105.setTop (mkF m 10 #[.val (.ref a1), .val (.ref a2), .val (.int (0 : Int32))] [(.ref a1)])) _
    refine XS.iloadN X105.here hx rfl (hb hby d10_10) rfl ?_
    exact k)
  obtain ⟨T114, h114, X114, e114, W114, st114⟩ := putF X105 hx hZ hown (host := "") (Or.inl (hw _ (List.mem_of_getElem? (i := 59) rfl))) Via.refl e105 F107 F108 (Or.inr ⟨(hw _ (List.mem_of_getElem? (i := 60) rfl)), rfl, hnm⟩) (hw _ (List.mem_of_getElem? (i := 47) rfl)) (ty := .byte) (by decide) rfl rfl (g := (mkF m 11 #[.val (.ref a1), .val (.ref a2), .val (.int (0 : Int32))] [(.int (0 : Int32)), (.ref a1)])) rfl rfl (hb hby d10_11)
  have F115 := F107.same W114
  have F116 := F108.wr W114
  have F117 := F106.other W114 (Or.inr (slot_ne (Or.inr (hw _ (List.mem_of_getElem? (i := 58) rfl))) (Or.inr (hw _ (List.mem_of_getElem? (i := 60) rfl))) (by decide) (t := (.array .byte)) (t' := .byte) (by decide) (by decide)))
  have Z118 : n0 ≤ h114.size := Nat.le_trans Z109 (Nat.le_of_eq W114.size.symm)
  have N119 := Fr.snoc X114 N110 ga
  have K120 := K111.wr W114 (Or.inl (List.mem_of_getElem? (i := 0) rfl))
  have k121 : ∀ t, Steps p.tables e below (T114.setTop (mkF m 14 #[.val (.ref a1), .val (.ref a2), .val (.int (0 : Int32))] [])) t → Steps p.tables e below (s₁.setTop (entryFrame m #[(.ref a1), (.ref a2), (.int (0 : Int32))] 3)) t := fun t k => k113 t (st114 t k)
  obtain ⟨fs, hr, hrun, hended, hW, hsame⟩ := X114.leave (v := none) (fun _ => rfl)
  refine ⟨_, _, k121 _ (X114.returnOut hx Bd.returns (hb hby d10_14) hr), hrun, hended, _, _, rfl, ?_, ⟨_, rfl⟩, hW, hsame.mono (by decide) (by decide)⟩
  show Q_rm10 Z a1 a2 h0 n0 _ T114.heap _
  rw [e114]
  exact ⟨rfl, N119, K120, F116, F117, F115⟩
theorem ef_7_I (m : MethodId) (x0 : Int32) : entryFrame m #[(.int x0)] 1 = mkF m 0 #[.val (.int x0)] [] := by first | (simp [entryFrame, mkF, argsToLocals, Value.category]; done) | rfl
theorem d7_0 : decode jdk_42_method_139_code 0 = .ok (.getstatic 38, 3) := by decide +kernel
theorem d7_3 : decode jdk_42_method_139_code 3 = .ok (.ifCond .eq 23, 3) := by decide +kernel
theorem d7_6 : decode jdk_42_method_139_code 6 = .ok (.iload_n 0, 1) := by decide +kernel
theorem d7_7 : decode jdk_42_method_139_code 7 = .ok (.invokestatic 1015, 3) := by decide +kernel
theorem pd__28C_29Z : parseMethodDescriptor "(C)Z" = some ⟨[.char], some .boolean⟩ := by decide +kernel
theorem d7_10 : decode jdk_42_method_139_code 10 = .ok (.ifCond .eq 16, 3) := by decide +kernel
theorem d7_13 : decode jdk_42_method_139_code 13 = .ok (.new 10, 3) := by decide +kernel
theorem d7_16 : decode jdk_42_method_139_code 16 = .ok (.dup, 1) := by decide +kernel
theorem d7_17 : decode jdk_42_method_139_code 17 = .ok (.iload_n 0, 1) := by decide +kernel
theorem d7_18 : decode jdk_42_method_139_code 18 = .ok (.invokestatic 1018, 3) := by decide +kernel
theorem pd__28C_29_5bB : parseMethodDescriptor "(C)[B" = some ⟨[.char], some (.array .byte)⟩ := by decide +kernel
theorem d7_21 : decode jdk_42_method_139_code 21 = .ok (.iconst 0, 1) := by decide +kernel
theorem d7_22 : decode jdk_42_method_139_code 22 = .ok (.invokespecial 209, 3) := by decide +kernel
theorem pd__28_5bBB_29V : parseMethodDescriptor "([BB)V" = some ⟨[(.array .byte), .byte], none⟩ := by decide +kernel
theorem d7_25 : decode jdk_42_method_139_code 25 = .ok (.areturn, 1) := by decide +kernel
def Q_rm7 (Z : State) (p1 : Int32) (cs : Int32) (h0 : Heap) (n0 : Nat) (v : Option Value) (h : Heap) (L : List Loc) : Prop := ∃ (b t : Addr) (k : ClassId), v = some (.ref b) ∧ Fr n0 L ∧ h0.size ≤ b ∧ h0.size ≤ t ∧ b ≠ t ∧ Keep h0 h [] ∧ Exa Z h b "java/lang/String" ∧ Fld Z h b "java/lang/String" "value" "[B" (.ref t) ∧ Fld Z h b "java/lang/String" "coder" "B" (.int (0 : Int32)) ∧ Arv Z h t k .byte (1 : Int32) [(.int (nar .byte (p1.toInt8.toInt32)))] (.int (0 : Int32))
set_option maxRecDepth 65536 in
set_option maxHeartbeats 40000000 in
theorem rm7 (l : Launch) (Z : State) (a0 : Array Value) (hw : ∀ d ∈ tables_1, d.before a0 Z = true) (ws : List Jvm.Cond) (p1 : Int32) (cs : Int32) (h0 : Heap) (n0 : Nat) (Z0 : n0 ≤ h0.size) (hbb : ¬ ((255 : Int32) < p1)) (Scs : Sta Z h0 "java/lang/String" "COMPACT_STRINGS" "Z" (.int cs)) (hcs : ¬ (cs = (0 : Int32))) :
    MetFree l (⟨"java/lang/String", "valueOf", "(C)Ljava/lang/String;"⟩ : MethodName) (head1 (Jvm.Cond.code (⟨"java/lang/String", "valueOf", "(C)Ljava/lang/String;"⟩ : MethodName) jdk_42_method_139_code 1 (some (.object "java/lang/String")) :: ws) ({ frames := 2, cells := 2, slots := 5, locals := 27 } : Room)) (fun a U => a = #[(.int p1)] ∧ Z.Warmed39 U.vm ∧ U.heap = h0) (fun _ _ _ _ _ => True) (fun _ U o U' => ∃ v L, o = .returned v ∧ Q_rm7 Z p1 cs h0 n0 v U'.heap L ∧ FrameEnd U o U' L ({ frames := 2, cells := 2, slots := 5, locals := 27 } : Room).cells ({ frames := 2, cells := 2, slots := 5, locals := 27 } : Room).slots) := by
  refine MetFree.of_bodySF (plainFor_of_name pn_java_2flang_2fString) hisR ?_
  intro p e s m args below meth c s₁ Bd hml0 hP hK
  obtain ⟨rfl, hZ, hh⟩ := hP
  have hx := Bd.exec
  have hby := Bd.bytes
  have hml : c.maxLocals = 1 := hml0
  have hown : s.vm.findClass "java/lang/String" = some m.cls := findClass_of_methodNamed Bd.named
  have hnm := (name_of_methodNamed Bd.named Bd.method).1
  have X0 : Stand p l e ({ frames := 2, cells := 2, slots := 5, locals := 27 } : Room) s m #[(.int p1)] below meth c s₁ [] 0 0 := Stand.of_body Bd
  have e0 : s₁.heap = h0 := by rw [← hh, Bd.state]; rfl
  have N0 := Fr.nil n0
  have k0 : ∀ t, Steps p.tables e below (s₁.setTop (mkF m 0 #[.val (.int p1)] [])) t → Steps p.tables e below (s₁.setTop (entryFrame m #[(.int p1)] 1)) t := fun t k => castTop (ef_7_I m p1) k
  have K0 : Keep h0 h0 [] := Keep.refl h0 []
  obtain ⟨T101, X101, e101, st101⟩ := getS2 X0 hx hZ hown (host := "") (Or.inl (hw _ (List.mem_of_getElem? (i := 41) rfl))) Via.refl e0 Scs (g := (mkF m 0 #[.val (.int p1)] [])) rfl (hb hby d7_0)
  have k102 : ∀ t, Steps p.tables e below (T101.setTop (mkF m 3 #[.val (.int p1)] [(.int cs)])) t → Steps p.tables e below (s₁.setTop (entryFrame m #[(.int p1)] 1)) t := fun t k => k0 t (st101 t k)
  have k103 : ∀ t, Steps p.tables e below (T101.setTop (mkF m 7 #[.val (.int p1)] [(.int p1)])) t → Steps p.tables e below (s₁.setTop (entryFrame m #[(.int p1)] 1)) t := fun t k => k102 t (by
    show Steps p.tables e below (T101.setTop (mkF m 3 #[.val (.int p1)] [(.int cs)])) _
    refine XS.ifNo X101.here hx rfl (hb hby d7_3) rfl ((if0 _ _).trans (feq hcs).1) ?_
    show Steps p.tables e below (T101.setTop (mkF m 6 #[.val (.int p1)] [])) _
    refine XS.iloadN X101.here hx rfl (hb hby d7_6) rfl ?_
    exact k)
  obtain ⟨_, _, ⟨T104, L104, k104, n104⟩, -, X104, ⟨Lc104, hQ104, l104, y104, z104⟩, st104⟩ := Jvm.LawKit.callS X101 hx (y := (⟨"java/lang/StringLatin1", "canEncode", "(C)Z"⟩ : MethodName)) hown (mvT hZ (hw _ (List.mem_of_getElem? (i := 42) rfl))) (mvT hZ (hw _ (List.mem_of_getElem? (i := 43) rfl))) (mvT hZ (hw _ (List.mem_of_getElem? (i := 44) rfl))) (mvT hZ (hw _ (List.mem_of_getElem? (i := 45) rfl))) (by decide) (backOf (W := 0) (rm8 l Z a0 hw [] p1 h0 n0 Z0 hbb) hZ (hw _ (List.mem_of_getElem? (i := 45) rfl)) (hw _ (List.mem_of_getElem? (i := 44) rfl)) (by decide) (by decide)) (g := (mkF m 7 #[.val (.int p1)] [(.int p1)])) rfl (by rw [hml]; rfl) (argsL := [(.int p1)]) (rest := []) (lenOf pd__28C_29Z rfl) rfl (by show 2 * 0 + _ ≤ _; exact Nat.le_of_eq rfl) (hb hby d7_7) (fun _ _ => ⟨rfl, e101, (by decide : 0 + 0 ≤ _), (by decide : 0 + 0 ≤ _)⟩)
  dsimp only [Pt.U, Pt.locs, Pt.cells, Pt.slots] at X104 l104 y104 z104 st104 hQ104
  subst l104 y104 z104
  obtain ⟨rfl, N104q, e104⟩ := hQ104
  have N105 := Fr.app N0 N104q
  have k106 : ∀ t, Steps p.tables e below (T104.setTop (mkF m 10 #[.val (.int p1)] [(.int (1 : Int32))])) t → Steps p.tables e below (s₁.setTop (entryFrame m #[(.int p1)] 1)) t := fun t k => k103 t (st104 t k)
  have k107 : ∀ t, Steps p.tables e below (T104.setTop (mkF m 13 #[.val (.int p1)] [])) t → Steps p.tables e below (s₁.setTop (entryFrame m #[(.int p1)] 1)) t := fun t k => k106 t (by
    show Steps p.tables e below (T104.setTop (mkF m 10 #[.val (.int p1)] [(.int (1 : Int32))])) _
    refine XS.ifNo X104.here hx rfl (hb hby d7_10) rfl ((if0 _ _).trans (feq (by decide)).1) ?_
    exact k)
  obtain ⟨T108, h108, X108, e108, E108, A108, D108, -, st108⟩ := newO X104 hx hZ hown (hw _ (List.mem_of_getElem? (i := 46) rfl)) (hw _ (List.mem_of_getElem? (i := 47) rfl)) (hw _ (List.mem_of_getElem? (i := 39) rfl)) e104 (g := (mkF m 13 #[.val (.int p1)] [])) rfl (hb hby d7_13) (by decide) (by decide)
  obtain ⟨b108, g108⟩ : ∃ z, z = h0.size := ⟨_, rfl⟩
  rw [← g108] at A108 D108 st108
  have g109 : n0 ≤ b108 := Nat.le_trans Z0 (Nat.le_of_eq g108.symm)
  have z110 : h0.size ≤ b108 := Nat.le_trans K0.1 (Nat.le_of_eq g108.symm)
  have Z111 : n0 ≤ h108.size := Nat.le_trans Z0 E108.1
  have K112 := K0.ext E108
  have F113 : Fld Z h108 b108 "java/lang/String" "value" "[B" .null := D108 (Or.inr (hw _ (List.mem_of_getElem? (i := 58) rfl))) (ty := (.array .byte)) (by decide)
  have F114 : Fld Z h108 b108 "java/lang/String" "coder" "B" (.int (0 : Int32)) := D108 (Or.inr (hw _ (List.mem_of_getElem? (i := 60) rfl))) (ty := .byte) (by decide)
  have k115 : ∀ t, Steps p.tables e below (T108.setTop (mkF m 16 #[.val (.int p1)] [(.ref b108)])) t → Steps p.tables e below (s₁.setTop (entryFrame m #[(.int p1)] 1)) t := fun t k => k107 t (st108 t k)
  have k116 : ∀ t, Steps p.tables e below (T108.setTop (mkF m 18 #[.val (.int p1)] [(.int p1), (.ref b108), (.ref b108)])) t → Steps p.tables e below (s₁.setTop (entryFrame m #[(.int p1)] 1)) t := fun t k => k115 t (by
    show Steps p.tables e below (T108.setTop (mkF m 16 #[.val (.int p1)] [(.ref b108)])) _
    refine XS.dup X108.here hx rfl (hb hby d7_16) rfl rfl ?_
    show Steps p.tables e below (T108.setTop (mkF m 17 #[.val (.int p1)] [(.ref b108), (.ref b108)])) _
    refine XS.iloadN X108.here hx rfl (hb hby d7_17) rfl ?_
    exact k)
  obtain ⟨_, _, ⟨T117, L117, k117, n117⟩, -, X117, ⟨Lc117, hQ117, l117, y117, z117⟩, st117⟩ := Jvm.LawKit.callS X108 hx (y := (⟨"java/lang/StringLatin1", "toBytes", "(C)[B"⟩ : MethodName)) hown (mvT hZ (hw _ (List.mem_of_getElem? (i := 48) rfl))) (mvT hZ (hw _ (List.mem_of_getElem? (i := 49) rfl))) (mvT hZ (hw _ (List.mem_of_getElem? (i := 44) rfl))) (mvT hZ (hw _ (List.mem_of_getElem? (i := 50) rfl))) (by decide) (backOf (W := 2) (rm9 l Z a0 hw [] p1 h108 n0 Z111 ) hZ (hw _ (List.mem_of_getElem? (i := 50) rfl)) (hw _ (List.mem_of_getElem? (i := 44) rfl)) (by decide) (by decide)) (g := (mkF m 18 #[.val (.int p1)] [(.int p1), (.ref b108), (.ref b108)])) rfl (by rw [hml]; rfl) (argsL := [(.int p1)]) (rest := [(.ref b108), (.ref b108)]) (lenOf pd__28C_29_5bB rfl) rfl (by show 2 * 0 + _ ≤ _; exact Nat.le_of_eq rfl) (hb hby d7_18) (fun _ _ => ⟨rfl, e108, (by decide : 1 + 1 ≤ _), (by decide : 4 + 1 ≤ _)⟩)
  dsimp only [Pt.U, Pt.locs, Pt.cells, Pt.slots] at X117 l117 y117 z117 st117 hQ117
  subst l117 y117 z117
  obtain ⟨h117, e117⟩ : ∃ h', T117.heap = h' := ⟨_, rfl⟩
  rw [e117] at hQ117
  obtain ⟨b117, kk117, rfl, N117q, gb117, K117, V117⟩ := hQ117
  have N118 := Fr.app N105 N117q
  have k119 : ∀ t, Steps p.tables e below (T117.setTop (mkF m 21 #[.val (.int p1)] [(.ref b117), (.ref b108), (.ref b108)])) t → Steps p.tables e below (s₁.setTop (entryFrame m #[(.int p1)] 1)) t := fun t k => k116 t (st117 t k)
  have n120 : b108 ≠ b117 := Nat.ne_of_lt (Nat.lt_of_lt_of_le A108.lt (Nat.le_of_eq gb117.symm))
  have g121 : n0 ≤ b117 := Nat.le_trans Z111 (Nat.le_of_eq gb117.symm)
  have z122 : h0.size ≤ b117 := Nat.le_trans K112.1 (Nat.le_of_eq gb117.symm)
  have F123 := A108.keep K117
  have F124 := F113.keep K117 nin0
  have F125 := F114.keep K117 nin0
  have Z126 : n0 ≤ h117.size := Nat.le_trans Z111 K117.1
  have K127 := Keep.trans K112 K117 all0
  have k128 : ∀ t, Steps p.tables e below (T117.setTop (mkF m 22 #[.val (.int p1)] [(.int (0 : Int32)), (.ref b117), (.ref b108), (.ref b108)])) t → Steps p.tables e below (s₁.setTop (entryFrame m #[(.int p1)] 1)) t := fun t k => k119 t (by
    show Steps p.tables e below (T117.setTop (mkF m 21 #[.val (.int p1)] [(.ref b117), (.ref b108), (.ref b108)])) _
    refine XS.iconst X117.here hx rfl (hb hby d7_21) ?_
    exact k)
  obtain ⟨_, _, ⟨T129, L129, k129, n129⟩, -, X129, ⟨Lc129, hQ129, l129, y129, z129⟩, st129⟩ := X117.specialBack hx (y := (⟨"java/lang/String", "<init>", "([BB)V"⟩ : MethodName)) rfl hown (mvT hZ (hw _ (List.mem_of_getElem? (i := 52) rfl))) (mvT hZ (hw _ (List.mem_of_getElem? (i := 53) rfl))) (mvT hZ (hw _ (List.mem_of_getElem? (i := 55) rfl))) (by decide) (backOf (W := 1) (rm10 l Z a0 hw [] b108 b117 h117 n0 Z126 F124 F125 F123 g109) hZ (hw _ (List.mem_of_getElem? (i := 55) rfl)) (hw _ (List.mem_of_getElem? (i := 39) rfl)) (by decide) (by decide)) (g := (mkF m 22 #[.val (.int p1)] [(.int (0 : Int32)), (.ref b117), (.ref b108), (.ref b108)])) rfl (by rw [hml]; rfl) (Steps.refl _) (a := b108) (argsL := [(.ref b117), (.int (0 : Int32))]) (rest := [(.ref b108)]) (lenOf pd__28_5bBB_29V rfl) rfl (by show 2 * 0 + _ ≤ _; exact Nat.le_of_eq rfl) (hb hby d7_22) (fun _ _ => ⟨rfl, e117, (by decide : 2 + 0 ≤ _), (by decide : 5 + 0 ≤ _)⟩)
  dsimp only [Pt.U, Pt.locs, Pt.cells, Pt.slots] at X129 l129 y129 z129 st129 hQ129
  subst l129 y129 z129
  obtain ⟨h129, e129⟩ : ∃ h', T129.heap = h' := ⟨_, rfl⟩
  rw [e129] at hQ129
  obtain ⟨rfl, N129q, K129, G129e, G129v, G129c⟩ := hQ129
  have N130 := Fr.app N118 N129q
  have k131 : ∀ t, Steps p.tables e below (T129.setTop (mkF m 25 #[.val (.int p1)] [(.ref b108)])) t → Steps p.tables e below (s₁.setTop (entryFrame m #[(.int p1)] 1)) t := fun t k => k128 t (st129.trans k)
  have F132 := F123.keep K129
  have F133 := V117.keep K129 (ninS (Ne.symm n120) nin0)
  have Z134 : n0 ≤ h129.size := Nat.le_trans Z126 K129.1
  have K135 := Keep.trans K127 K129 (allS (Or.inr z110) all0)
  obtain ⟨fs, hr, hrun, hended, hW, hsame⟩ := X129.leave (v := some (.ref b108)) (fun h => by rw [Bd.returns] at h; cases h)
  refine ⟨_, _, k131 _ (retOut X129 hx (t := (.object "java/lang/String")) Bd.returns rfl (Or.inr (Or.inr (Or.inr (Or.inr ⟨rfl, rfl, rfl⟩)))) (hb hby d7_25) hr), hrun, hended, _, _, rfl, ?_, ⟨_, rfl⟩, hW, hsame.mono (by decide) (by decide)⟩
  show Q_rm7 Z p1 cs h0 n0 _ T129.heap _
  rw [e129]
  exact ⟨b108, b117, kk117, rfl, N130, z110, z122, n120, K135, G129e, G129v, G129c, F133⟩
theorem ef_6_RR (m : MethodId) (x0 : Addr) (x1 : Addr) : entryFrame m #[(.ref x0), (.ref x1)] 3 = mkF m 0 #[.val (.ref x0), .val (.ref x1), .unset] [] := by first | (simp [entryFrame, mkF, argsToLocals, Value.category]; done) | rfl
theorem d6_0 : decode prog_26_method_16_code 0 = .ok (.aload_n 1, 1) := by decide +kernel
theorem d6_1 : decode prog_26_method_16_code 1 = .ok (.instanceof 2, 3) := by decide +kernel
theorem d6_4 : decode prog_26_method_16_code 4 = .ok (.ifCond .ne 5, 3) := by decide +kernel
theorem d6_9 : decode prog_26_method_16_code 9 = .ok (.aload_n 1, 1) := by decide +kernel
theorem d6_10 : decode prog_26_method_16_code 10 = .ok (.checkcast 2, 3) := by decide +kernel
theorem d6_13 : decode prog_26_method_16_code 13 = .ok (.astore_n 2, 1) := by decide +kernel
theorem d6_14 : decode prog_26_method_16_code 14 = .ok (.aload_n 0, 1) := by decide +kernel
theorem d6_15 : decode prog_26_method_16_code 15 = .ok (.getfield 30, 3) := by decide +kernel
theorem d6_18 : decode prog_26_method_16_code 18 = .ok (.aload_n 2, 1) := by decide +kernel
theorem d6_19 : decode prog_26_method_16_code 19 = .ok (.getfield 30, 3) := by decide +kernel
theorem d6_22 : decode prog_26_method_16_code 22 = .ok (.dcmp .l, 1) := by decide +kernel
theorem d6_23 : decode prog_26_method_16_code 23 = .ok (.ifCond .ne 43, 3) := by decide +kernel
theorem d6_26 : decode prog_26_method_16_code 26 = .ok (.aload_n 0, 1) := by decide +kernel
theorem d6_27 : decode prog_26_method_16_code 27 = .ok (.getfield 34, 3) := by decide +kernel
theorem d6_30 : decode prog_26_method_16_code 30 = .ok (.aload_n 2, 1) := by decide +kernel
theorem d6_31 : decode prog_26_method_16_code 31 = .ok (.getfield 34, 3) := by decide +kernel
theorem d6_34 : decode prog_26_method_16_code 34 = .ok (.dcmp .l, 1) := by decide +kernel
theorem d6_35 : decode prog_26_method_16_code 35 = .ok (.ifCond .ne 31, 3) := by decide +kernel
theorem d6_38 : decode prog_26_method_16_code 38 = .ok (.aload_n 0, 1) := by decide +kernel
theorem d6_39 : decode prog_26_method_16_code 39 = .ok (.getfield 37, 3) := by decide +kernel
theorem d6_42 : decode prog_26_method_16_code 42 = .ok (.aload_n 2, 1) := by decide +kernel
theorem d6_43 : decode prog_26_method_16_code 43 = .ok (.getfield 37, 3) := by decide +kernel
theorem d6_46 : decode prog_26_method_16_code 46 = .ok (.dcmp .l, 1) := by decide +kernel
theorem d6_47 : decode prog_26_method_16_code 47 = .ok (.ifCond .ne 19, 3) := by decide +kernel
theorem d6_50 : decode prog_26_method_16_code 50 = .ok (.aload_n 0, 1) := by decide +kernel
theorem d6_51 : decode prog_26_method_16_code 51 = .ok (.getfield 40, 3) := by decide +kernel
theorem d6_54 : decode prog_26_method_16_code 54 = .ok (.aload_n 2, 1) := by decide +kernel
theorem d6_55 : decode prog_26_method_16_code 55 = .ok (.getfield 40, 3) := by decide +kernel
theorem d6_58 : decode prog_26_method_16_code 58 = .ok (.dcmp .l, 1) := by decide +kernel
theorem d6_59 : decode prog_26_method_16_code 59 = .ok (.ifCond .ne 7, 3) := by decide +kernel
theorem d6_62 : decode prog_26_method_16_code 62 = .ok (.iconst 1, 1) := by decide +kernel
theorem d6_63 : decode prog_26_method_16_code 63 = .ok (.goto 4, 3) := by decide +kernel
theorem d6_67 : decode prog_26_method_16_code 67 = .ok (.ireturn, 1) := by decide +kernel
theorem d6_66 : decode prog_26_method_16_code 66 = .ok (.iconst 0, 1) := by decide +kernel
def Q_eqb (Z : State) (a1 : Addr) (a2 : Addr) (x0 : UInt64) (x1 : UInt64) (x2 : UInt64) (x3 : UInt64) (y0 : UInt64) (y1 : UInt64) (y2 : UInt64) (y3 : UInt64) (h0 : Heap) (n0 : Nat) (v : Option Value) (h : Heap) (L : List Loc) : Prop := v = some (.int (own_eq x0 x1 x2 x3 y0 y1 y2 y3)) ∧ Fr n0 L ∧ h = h0
set_option maxRecDepth 65536 in
set_option maxHeartbeats 40000000 in
theorem eqb (l : Launch) (Z : State) (a0 : Array Value) (hw : ∀ d ∈ tables_1, d.before a0 Z = true) (ws : List Jvm.Cond) (a1 : Addr) (a2 : Addr) (x0 : UInt64) (x1 : UInt64) (x2 : UInt64) (x3 : UInt64) (y0 : UInt64) (y1 : UInt64) (y2 : UInt64) (y3 : UInt64) (h0 : Heap) (n0 : Nat) (Z0 : n0 ≤ h0.size) (F0 : Fld Z h0 a1 "com/example/hoja/hoja/model/Box" "x" "D" (.double x0)) (F1 : Fld Z h0 a1 "com/example/hoja/hoja/model/Box" "y" "D" (.double x1)) (F2 : Fld Z h0 a1 "com/example/hoja/hoja/model/Box" "right" "D" (.double x2)) (F3 : Fld Z h0 a1 "com/example/hoja/hoja/model/Box" "bottom" "D" (.double x3)) (H0 : Fld Z h0 a2 "com/example/hoja/hoja/model/Box" "x" "D" (.double y0)) (H1 : Fld Z h0 a2 "com/example/hoja/hoja/model/Box" "y" "D" (.double y1)) (H2 : Fld Z h0 a2 "com/example/hoja/hoja/model/Box" "right" "D" (.double y2)) (H3 : Fld Z h0 a2 "com/example/hoja/hoja/model/Box" "bottom" "D" (.double y3)) (E2 : Exa Z h0 a2 "com/example/hoja/hoja/model/Box") :
    MetFree l (⟨"com/example/hoja/hoja/model/Box", "equals", "(Ljava/lang/Object;)Z"⟩ : MethodName) (head1 (Jvm.Cond.code (⟨"com/example/hoja/hoja/model/Box", "equals", "(Ljava/lang/Object;)Z"⟩ : MethodName) prog_26_method_16_code 3 (some .boolean) :: ws) ({ frames := 0, cells := 0, slots := 0, locals := 0 } : Room)) (fun a U => a = #[(.ref a1), (.ref a2)] ∧ Z.Warmed39 U.vm ∧ U.heap = h0) (fun _ _ _ _ _ => True) (fun _ U o U' => ∃ v L, o = .returned v ∧ Q_eqb Z a1 a2 x0 x1 x2 x3 y0 y1 y2 y3 h0 n0 v U'.heap L ∧ FrameEnd U o U' L ({ frames := 0, cells := 0, slots := 0, locals := 0 } : Room).cells ({ frames := 0, cells := 0, slots := 0, locals := 0 } : Room).slots) := by
  refine MetFree.of_bodySF (plainFor_of_name pn_com_2fexample_2fhoja_2fhoja_2fmodel_2fBox) hisR ?_
  intro p e s m args below meth c s₁ Bd hml0 hP hK
  obtain ⟨rfl, hZ, hh⟩ := hP
  have hx := Bd.exec
  have hby := Bd.bytes
  have hml : c.maxLocals = 3 := hml0
  have hown : s.vm.findClass "com/example/hoja/hoja/model/Box" = some m.cls := findClass_of_methodNamed Bd.named
  have hnm := (name_of_methodNamed Bd.named Bd.method).1
  have X0 : Stand p l e ({ frames := 0, cells := 0, slots := 0, locals := 0 } : Room) s m #[(.ref a1), (.ref a2)] below meth c s₁ [] 0 0 := Stand.of_body Bd
  have e0 : s₁.heap = h0 := by rw [← hh, Bd.state]; rfl
  have N0 := Fr.nil n0
  have k0 : ∀ t, Steps p.tables e below (s₁.setTop (mkF m 0 #[.val (.ref a1), .val (.ref a2), .unset] [])) t → Steps p.tables e below (s₁.setTop (entryFrame m #[(.ref a1), (.ref a2)] 3)) t := fun t k => castTop (ef_6_RR m a1 a2) k
  have k101 : ∀ t, Steps p.tables e below (s₁.setTop (mkF m 1 #[.val (.ref a1), .val (.ref a2), .unset] [(.ref a2)])) t → Steps p.tables e below (s₁.setTop (entryFrame m #[(.ref a1), (.ref a2)] 3)) t := fun t k => k0 t (by
    show Steps p.tables e below (s₁.setTop (mkF m 0 #[.val (.ref a1), .val (.ref a2), .unset] [])) _
    refine XS.aloadN X0.here hx rfl (hb hby d6_0) rfl rfl ?_
    exact k)
  obtain ⟨T102, X102, e102, st102⟩ := instY X0 hx hZ hown (hw _ (List.mem_of_getElem? (i := 35) rfl)) e0 (Ins.self E2) (g := (mkF m 1 #[.val (.ref a1), .val (.ref a2), .unset] [(.ref a2)])) rfl rfl (hb hby d6_1)
  have k103 : ∀ t, Steps p.tables e below (T102.setTop (mkF m 4 #[.val (.ref a1), .val (.ref a2), .unset] [(.int (1 : Int32))])) t → Steps p.tables e below (s₁.setTop (entryFrame m #[(.ref a1), (.ref a2)] 3)) t := fun t k => k101 t (st102 t k)
  have k104 : ∀ t, Steps p.tables e below (T102.setTop (mkF m 10 #[.val (.ref a1), .val (.ref a2), .unset] [(.ref a2)])) t → Steps p.tables e below (s₁.setTop (entryFrame m #[(.ref a1), (.ref a2)] 3)) t := fun t k => k103 t (by
    show Steps p.tables e below (T102.setTop (mkF m 4 #[.val (.ref a1), .val (.ref a2), .unset] [(.int (1 : Int32))])) _
    refine XS.ifYes X102.here hx rfl (pc0 := 4) (pc' := 9) rfl (hb hby d6_4) rfl ((if0 _ _).trans (feq (by decide)).2) (by decide) (by decide) ?_
    show Steps p.tables e below (T102.setTop (mkF m 9 #[.val (.ref a1), .val (.ref a2), .unset] [])) _
    refine XS.aloadN X102.here hx rfl (hb hby d6_9) rfl rfl ?_
    exact k)
  obtain ⟨T105, X105, e105, st105⟩ := castY X102 hx hZ hown (hw _ (List.mem_of_getElem? (i := 35) rfl)) e102 (Ins.self E2) (g := (mkF m 10 #[.val (.ref a1), .val (.ref a2), .unset] [(.ref a2)])) rfl rfl (hb hby d6_10)
  have k106 : ∀ t, Steps p.tables e below (T105.setTop (mkF m 13 #[.val (.ref a1), .val (.ref a2), .unset] [(.ref a2)])) t → Steps p.tables e below (s₁.setTop (entryFrame m #[(.ref a1), (.ref a2)] 3)) t := fun t k => k104 t (st105 t k)
  have k107 : ∀ t, Steps p.tables e below (T105.setTop (mkF m 15 #[.val (.ref a1), .val (.ref a2), .val (.ref a2)] [(.ref a1)])) t → Steps p.tables e below (s₁.setTop (entryFrame m #[(.ref a1), (.ref a2)] 3)) t := fun t k => k106 t (by
    show Steps p.tables e below (T105.setTop (mkF m 13 #[.val (.ref a1), .val (.ref a2), .unset] [(.ref a2)])) _
    refine XS.astoreN X105.here hx rfl (hb hby d6_13) rfl rfl (l' := #[.val (.ref a1), .val (.ref a2), .val (.ref a2)]) rfl ?_
    show Steps p.tables e below (T105.setTop (mkF m 14 #[.val (.ref a1), .val (.ref a2), .val (.ref a2)] [])) _
    refine XS.aloadN X105.here hx rfl (hb hby d6_14) rfl rfl ?_
    exact k)
  obtain ⟨T108, X108, e108, st108⟩ := getF X105 hx hZ hown (host := "") (Or.inl (hw _ (List.mem_of_getElem? (i := 22) rfl))) Via.refl e105 F0 (g := (mkF m 15 #[.val (.ref a1), .val (.ref a2), .val (.ref a2)] [(.ref a1)])) rfl rfl (hb hby d6_15)
  have k109 : ∀ t, Steps p.tables e below (T108.setTop (mkF m 18 #[.val (.ref a1), .val (.ref a2), .val (.ref a2)] [(.double x0)])) t → Steps p.tables e below (s₁.setTop (entryFrame m #[(.ref a1), (.ref a2)] 3)) t := fun t k => k107 t (st108 t k)
  have k110 : ∀ t, Steps p.tables e below (T108.setTop (mkF m 19 #[.val (.ref a1), .val (.ref a2), .val (.ref a2)] [(.ref a2), (.double x0)])) t → Steps p.tables e below (s₁.setTop (entryFrame m #[(.ref a1), (.ref a2)] 3)) t := fun t k => k109 t (by
    show Steps p.tables e below (T108.setTop (mkF m 18 #[.val (.ref a1), .val (.ref a2), .val (.ref a2)] [(.double x0)])) _
    refine XS.aloadN X108.here hx rfl (hb hby d6_18) rfl rfl ?_
    exact k)
  obtain ⟨T111, X111, e111, st111⟩ := getF X108 hx hZ hown (host := "") (Or.inl (hw _ (List.mem_of_getElem? (i := 22) rfl))) Via.refl e108 H0 (g := (mkF m 19 #[.val (.ref a1), .val (.ref a2), .val (.ref a2)] [(.ref a2), (.double x0)])) rfl rfl (hb hby d6_19)
  have k112 : ∀ t, Steps p.tables e below (T111.setTop (mkF m 22 #[.val (.ref a1), .val (.ref a2), .val (.ref a2)] [(.double y0), (.double x0)])) t → Steps p.tables e below (s₁.setTop (entryFrame m #[(.ref a1), (.ref a2)] 3)) t := fun t k => k110 t (st111 t k)
  have k113 : ∀ t, Steps p.tables e below (T111.setTop (mkF m 23 #[.val (.ref a1), .val (.ref a2), .val (.ref a2)] [(.int (cmpValue (FP.dcmp x0 y0) .l))])) t → Steps p.tables e below (s₁.setTop (entryFrame m #[(.ref a1), (.ref a2)] 3)) t := fun t k => k112 t (by
    show Steps p.tables e below (T111.setTop (mkF m 22 #[.val (.ref a1), .val (.ref a2), .val (.ref a2)] [(.double y0), (.double x0)])) _
    refine XS.dcmpS X111.here hx rfl (hb hby d6_22) rfl rfl ?_
    exact k)
  by_cases c0 : (cmpValue (FP.dcmp x0 y0) .l) = (0 : Int32)
  · have k114 : ∀ t, Steps p.tables e below (T111.setTop (mkF m 27 #[.val (.ref a1), .val (.ref a2), .val (.ref a2)] [(.ref a1)])) t → Steps p.tables e below (s₁.setTop (entryFrame m #[(.ref a1), (.ref a2)] 3)) t := fun t k => k113 t (by
      show Steps p.tables e below (T111.setTop (mkF m 23 #[.val (.ref a1), .val (.ref a2), .val (.ref a2)] [(.int (cmpValue (FP.dcmp x0 y0) .l))])) _
      refine XS.ifNo X111.here hx rfl (hb hby d6_23) rfl ((if0 _ _).trans (teq c0).2) ?_
      show Steps p.tables e below (T111.setTop (mkF m 26 #[.val (.ref a1), .val (.ref a2), .val (.ref a2)] [])) _
      refine XS.aloadN X111.here hx rfl (hb hby d6_26) rfl rfl ?_
      exact k)
    obtain ⟨T115, X115, e115, st115⟩ := getF X111 hx hZ hown (host := "") (Or.inl (hw _ (List.mem_of_getElem? (i := 24) rfl))) Via.refl e111 F1 (g := (mkF m 27 #[.val (.ref a1), .val (.ref a2), .val (.ref a2)] [(.ref a1)])) rfl rfl (hb hby d6_27)
    have k116 : ∀ t, Steps p.tables e below (T115.setTop (mkF m 30 #[.val (.ref a1), .val (.ref a2), .val (.ref a2)] [(.double x1)])) t → Steps p.tables e below (s₁.setTop (entryFrame m #[(.ref a1), (.ref a2)] 3)) t := fun t k => k114 t (st115 t k)
    have k117 : ∀ t, Steps p.tables e below (T115.setTop (mkF m 31 #[.val (.ref a1), .val (.ref a2), .val (.ref a2)] [(.ref a2), (.double x1)])) t → Steps p.tables e below (s₁.setTop (entryFrame m #[(.ref a1), (.ref a2)] 3)) t := fun t k => k116 t (by
      show Steps p.tables e below (T115.setTop (mkF m 30 #[.val (.ref a1), .val (.ref a2), .val (.ref a2)] [(.double x1)])) _
      refine XS.aloadN X115.here hx rfl (hb hby d6_30) rfl rfl ?_
      exact k)
    obtain ⟨T118, X118, e118, st118⟩ := getF X115 hx hZ hown (host := "") (Or.inl (hw _ (List.mem_of_getElem? (i := 24) rfl))) Via.refl e115 H1 (g := (mkF m 31 #[.val (.ref a1), .val (.ref a2), .val (.ref a2)] [(.ref a2), (.double x1)])) rfl rfl (hb hby d6_31)
    have k119 : ∀ t, Steps p.tables e below (T118.setTop (mkF m 34 #[.val (.ref a1), .val (.ref a2), .val (.ref a2)] [(.double y1), (.double x1)])) t → Steps p.tables e below (s₁.setTop (entryFrame m #[(.ref a1), (.ref a2)] 3)) t := fun t k => k117 t (st118 t k)
    have k120 : ∀ t, Steps p.tables e below (T118.setTop (mkF m 35 #[.val (.ref a1), .val (.ref a2), .val (.ref a2)] [(.int (cmpValue (FP.dcmp x1 y1) .l))])) t → Steps p.tables e below (s₁.setTop (entryFrame m #[(.ref a1), (.ref a2)] 3)) t := fun t k => k119 t (by
      show Steps p.tables e below (T118.setTop (mkF m 34 #[.val (.ref a1), .val (.ref a2), .val (.ref a2)] [(.double y1), (.double x1)])) _
      refine XS.dcmpS X118.here hx rfl (hb hby d6_34) rfl rfl ?_
      exact k)
    by_cases c1 : (cmpValue (FP.dcmp x1 y1) .l) = (0 : Int32)
    · have k121 : ∀ t, Steps p.tables e below (T118.setTop (mkF m 39 #[.val (.ref a1), .val (.ref a2), .val (.ref a2)] [(.ref a1)])) t → Steps p.tables e below (s₁.setTop (entryFrame m #[(.ref a1), (.ref a2)] 3)) t := fun t k => k120 t (by
        show Steps p.tables e below (T118.setTop (mkF m 35 #[.val (.ref a1), .val (.ref a2), .val (.ref a2)] [(.int (cmpValue (FP.dcmp x1 y1) .l))])) _
        refine XS.ifNo X118.here hx rfl (hb hby d6_35) rfl ((if0 _ _).trans (teq c1).2) ?_
        show Steps p.tables e below (T118.setTop (mkF m 38 #[.val (.ref a1), .val (.ref a2), .val (.ref a2)] [])) _
        refine XS.aloadN X118.here hx rfl (hb hby d6_38) rfl rfl ?_
        exact k)
      obtain ⟨T122, X122, e122, st122⟩ := getF X118 hx hZ hown (host := "") (Or.inl (hw _ (List.mem_of_getElem? (i := 26) rfl))) Via.refl e118 F2 (g := (mkF m 39 #[.val (.ref a1), .val (.ref a2), .val (.ref a2)] [(.ref a1)])) rfl rfl (hb hby d6_39)
      have k123 : ∀ t, Steps p.tables e below (T122.setTop (mkF m 42 #[.val (.ref a1), .val (.ref a2), .val (.ref a2)] [(.double x2)])) t → Steps p.tables e below (s₁.setTop (entryFrame m #[(.ref a1), (.ref a2)] 3)) t := fun t k => k121 t (st122 t k)
      have k124 : ∀ t, Steps p.tables e below (T122.setTop (mkF m 43 #[.val (.ref a1), .val (.ref a2), .val (.ref a2)] [(.ref a2), (.double x2)])) t → Steps p.tables e below (s₁.setTop (entryFrame m #[(.ref a1), (.ref a2)] 3)) t := fun t k => k123 t (by
        show Steps p.tables e below (T122.setTop (mkF m 42 #[.val (.ref a1), .val (.ref a2), .val (.ref a2)] [(.double x2)])) _
        refine XS.aloadN X122.here hx rfl (hb hby d6_42) rfl rfl ?_
        exact k)
      obtain ⟨T125, X125, e125, st125⟩ := getF X122 hx hZ hown (host := "") (Or.inl (hw _ (List.mem_of_getElem? (i := 26) rfl))) Via.refl e122 H2 (g := (mkF m 43 #[.val (.ref a1), .val (.ref a2), .val (.ref a2)] [(.ref a2), (.double x2)])) rfl rfl (hb hby d6_43)
      have k126 : ∀ t, Steps p.tables e below (T125.setTop (mkF m 46 #[.val (.ref a1), .val (.ref a2), .val (.ref a2)] [(.double y2), (.double x2)])) t → Steps p.tables e below (s₁.setTop (entryFrame m #[(.ref a1), (.ref a2)] 3)) t := fun t k => k124 t (st125 t k)
      have k127 : ∀ t, Steps p.tables e below (T125.setTop (mkF m 47 #[.val (.ref a1), .val (.ref a2), .val (.ref a2)] [(.int (cmpValue (FP.dcmp x2 y2) .l))])) t → Steps p.tables e below (s₁.setTop (entryFrame m #[(.ref a1), (.ref a2)] 3)) t := fun t k => k126 t (by
        show Steps p.tables e below (T125.setTop (mkF m 46 #[.val (.ref a1), .val (.ref a2), .val (.ref a2)] [(.double y2), (.double x2)])) _
        refine XS.dcmpS X125.here hx rfl (hb hby d6_46) rfl rfl ?_
        exact k)
      by_cases c2 : (cmpValue (FP.dcmp x2 y2) .l) = (0 : Int32)
      · have k128 : ∀ t, Steps p.tables e below (T125.setTop (mkF m 51 #[.val (.ref a1), .val (.ref a2), .val (.ref a2)] [(.ref a1)])) t → Steps p.tables e below (s₁.setTop (entryFrame m #[(.ref a1), (.ref a2)] 3)) t := fun t k => k127 t (by
          show Steps p.tables e below (T125.setTop (mkF m 47 #[.val (.ref a1), .val (.ref a2), .val (.ref a2)] [(.int (cmpValue (FP.dcmp x2 y2) .l))])) _
          refine XS.ifNo X125.here hx rfl (hb hby d6_47) rfl ((if0 _ _).trans (teq c2).2) ?_
          show Steps p.tables e below (T125.setTop (mkF m 50 #[.val (.ref a1), .val (.ref a2), .val (.ref a2)] [])) _
          refine XS.aloadN X125.here hx rfl (hb hby d6_50) rfl rfl ?_
          exact k)
        obtain ⟨T129, X129, e129, st129⟩ := getF X125 hx hZ hown (host := "") (Or.inl (hw _ (List.mem_of_getElem? (i := 28) rfl))) Via.refl e125 F3 (g := (mkF m 51 #[.val (.ref a1), .val (.ref a2), .val (.ref a2)] [(.ref a1)])) rfl rfl (hb hby d6_51)
        have k130 : ∀ t, Steps p.tables e below (T129.setTop (mkF m 54 #[.val (.ref a1), .val (.ref a2), .val (.ref a2)] [(.double x3)])) t → Steps p.tables e below (s₁.setTop (entryFrame m #[(.ref a1), (.ref a2)] 3)) t := fun t k => k128 t (st129 t k)
        have k131 : ∀ t, Steps p.tables e below (T129.setTop (mkF m 55 #[.val (.ref a1), .val (.ref a2), .val (.ref a2)] [(.ref a2), (.double x3)])) t → Steps p.tables e below (s₁.setTop (entryFrame m #[(.ref a1), (.ref a2)] 3)) t := fun t k => k130 t (by
          show Steps p.tables e below (T129.setTop (mkF m 54 #[.val (.ref a1), .val (.ref a2), .val (.ref a2)] [(.double x3)])) _
          refine XS.aloadN X129.here hx rfl (hb hby d6_54) rfl rfl ?_
          exact k)
        obtain ⟨T132, X132, e132, st132⟩ := getF X129 hx hZ hown (host := "") (Or.inl (hw _ (List.mem_of_getElem? (i := 28) rfl))) Via.refl e129 H3 (g := (mkF m 55 #[.val (.ref a1), .val (.ref a2), .val (.ref a2)] [(.ref a2), (.double x3)])) rfl rfl (hb hby d6_55)
        have k133 : ∀ t, Steps p.tables e below (T132.setTop (mkF m 58 #[.val (.ref a1), .val (.ref a2), .val (.ref a2)] [(.double y3), (.double x3)])) t → Steps p.tables e below (s₁.setTop (entryFrame m #[(.ref a1), (.ref a2)] 3)) t := fun t k => k131 t (st132 t k)
        have k134 : ∀ t, Steps p.tables e below (T132.setTop (mkF m 59 #[.val (.ref a1), .val (.ref a2), .val (.ref a2)] [(.int (cmpValue (FP.dcmp x3 y3) .l))])) t → Steps p.tables e below (s₁.setTop (entryFrame m #[(.ref a1), (.ref a2)] 3)) t := fun t k => k133 t (by
          show Steps p.tables e below (T132.setTop (mkF m 58 #[.val (.ref a1), .val (.ref a2), .val (.ref a2)] [(.double y3), (.double x3)])) _
          refine XS.dcmpS X132.here hx rfl (hb hby d6_58) rfl rfl ?_
          exact k)
        by_cases c3 : (cmpValue (FP.dcmp x3 y3) .l) = (0 : Int32)
        · have k135 : ∀ t, Steps p.tables e below (T132.setTop (mkF m 67 #[.val (.ref a1), .val (.ref a2), .val (.ref a2)] [(.int (1 : Int32))])) t → Steps p.tables e below (s₁.setTop (entryFrame m #[(.ref a1), (.ref a2)] 3)) t := fun t k => k134 t (by
            show Steps p.tables e below (T132.setTop (mkF m 59 #[.val (.ref a1), .val (.ref a2), .val (.ref a2)] [(.int (cmpValue (FP.dcmp x3 y3) .l))])) _
            refine XS.ifNo X132.here hx rfl (hb hby d6_59) rfl ((if0 _ _).trans (teq c3).2) ?_
            show Steps p.tables e below (T132.setTop (mkF m 62 #[.val (.ref a1), .val (.ref a2), .val (.ref a2)] [])) _
            refine XS.iconst X132.here hx rfl (hb hby d6_62) ?_
            show Steps p.tables e below (T132.setTop (mkF m 63 #[.val (.ref a1), .val (.ref a2), .val (.ref a2)] [(.int (1 : Int32))])) _
            refine XS.goto X132.here hx rfl (pc0 := 63) (pc' := 67) rfl (hb hby d6_63) (by decide) (by decide) ?_
            exact k)
          obtain ⟨fs, hr, hrun, hended, hW, hsame⟩ := X132.leave (v := some (.int (1 : Int32))) (fun h => by rw [Bd.returns] at h; cases h)
          refine ⟨_, _, k135 _ (retOut X132 hx (t := .boolean) Bd.returns rfl (Or.inl ⟨rfl, Or.inr (Or.inl rfl), _, rfl⟩) (hb hby d6_67) hr), hrun, hended, _, _, rfl, ?_, ⟨_, rfl⟩, hW, hsame.mono (by decide) (by decide)⟩
          show Q_eqb Z a1 a2 x0 x1 x2 x3 y0 y1 y2 y3 h0 n0 _ T132.heap _
          rw [e132]
          exact ⟨by rw [own_eq, if_pos c0, if_pos c1, if_pos c2, if_pos c3], N0, rfl⟩
        · have k136 : ∀ t, Steps p.tables e below (T132.setTop (mkF m 67 #[.val (.ref a1), .val (.ref a2), .val (.ref a2)] [(.int (0 : Int32))])) t → Steps p.tables e below (s₁.setTop (entryFrame m #[(.ref a1), (.ref a2)] 3)) t := fun t k => k134 t (by
            show Steps p.tables e below (T132.setTop (mkF m 59 #[.val (.ref a1), .val (.ref a2), .val (.ref a2)] [(.int (cmpValue (FP.dcmp x3 y3) .l))])) _
            refine XS.ifYes X132.here hx rfl (pc0 := 59) (pc' := 66) rfl (hb hby d6_59) rfl ((if0 _ _).trans (feq c3).2) (by decide) (by decide) ?_
            show Steps p.tables e below (T132.setTop (mkF m 66 #[.val (.ref a1), .val (.ref a2), .val (.ref a2)] [])) _
            refine XS.iconst X132.here hx rfl (hb hby d6_66) ?_
            exact k)
          obtain ⟨fs, hr, hrun, hended, hW, hsame⟩ := X132.leave (v := some (.int (0 : Int32))) (fun h => by rw [Bd.returns] at h; cases h)
          refine ⟨_, _, k136 _ (retOut X132 hx (t := .boolean) Bd.returns rfl (Or.inl ⟨rfl, Or.inr (Or.inl rfl), _, rfl⟩) (hb hby d6_67) hr), hrun, hended, _, _, rfl, ?_, ⟨_, rfl⟩, hW, hsame.mono (by decide) (by decide)⟩
          show Q_eqb Z a1 a2 x0 x1 x2 x3 y0 y1 y2 y3 h0 n0 _ T132.heap _
          rw [e132]
          exact ⟨by rw [own_eq, if_pos c0, if_pos c1, if_pos c2, if_neg c3], N0, rfl⟩
      · have k137 : ∀ t, Steps p.tables e below (T125.setTop (mkF m 67 #[.val (.ref a1), .val (.ref a2), .val (.ref a2)] [(.int (0 : Int32))])) t → Steps p.tables e below (s₁.setTop (entryFrame m #[(.ref a1), (.ref a2)] 3)) t := fun t k => k127 t (by
          show Steps p.tables e below (T125.setTop (mkF m 47 #[.val (.ref a1), .val (.ref a2), .val (.ref a2)] [(.int (cmpValue (FP.dcmp x2 y2) .l))])) _
          refine XS.ifYes X125.here hx rfl (pc0 := 47) (pc' := 66) rfl (hb hby d6_47) rfl ((if0 _ _).trans (feq c2).2) (by decide) (by decide) ?_
          show Steps p.tables e below (T125.setTop (mkF m 66 #[.val (.ref a1), .val (.ref a2), .val (.ref a2)] [])) _
          refine XS.iconst X125.here hx rfl (hb hby d6_66) ?_
          exact k)
        obtain ⟨fs, hr, hrun, hended, hW, hsame⟩ := X125.leave (v := some (.int (0 : Int32))) (fun h => by rw [Bd.returns] at h; cases h)
        refine ⟨_, _, k137 _ (retOut X125 hx (t := .boolean) Bd.returns rfl (Or.inl ⟨rfl, Or.inr (Or.inl rfl), _, rfl⟩) (hb hby d6_67) hr), hrun, hended, _, _, rfl, ?_, ⟨_, rfl⟩, hW, hsame.mono (by decide) (by decide)⟩
        show Q_eqb Z a1 a2 x0 x1 x2 x3 y0 y1 y2 y3 h0 n0 _ T125.heap _
        rw [e125]
        exact ⟨by rw [own_eq, if_pos c0, if_pos c1, if_neg c2], N0, rfl⟩
    · have k138 : ∀ t, Steps p.tables e below (T118.setTop (mkF m 67 #[.val (.ref a1), .val (.ref a2), .val (.ref a2)] [(.int (0 : Int32))])) t → Steps p.tables e below (s₁.setTop (entryFrame m #[(.ref a1), (.ref a2)] 3)) t := fun t k => k120 t (by
        show Steps p.tables e below (T118.setTop (mkF m 35 #[.val (.ref a1), .val (.ref a2), .val (.ref a2)] [(.int (cmpValue (FP.dcmp x1 y1) .l))])) _
        refine XS.ifYes X118.here hx rfl (pc0 := 35) (pc' := 66) rfl (hb hby d6_35) rfl ((if0 _ _).trans (feq c1).2) (by decide) (by decide) ?_
        show Steps p.tables e below (T118.setTop (mkF m 66 #[.val (.ref a1), .val (.ref a2), .val (.ref a2)] [])) _
        refine XS.iconst X118.here hx rfl (hb hby d6_66) ?_
        exact k)
      obtain ⟨fs, hr, hrun, hended, hW, hsame⟩ := X118.leave (v := some (.int (0 : Int32))) (fun h => by rw [Bd.returns] at h; cases h)
      refine ⟨_, _, k138 _ (retOut X118 hx (t := .boolean) Bd.returns rfl (Or.inl ⟨rfl, Or.inr (Or.inl rfl), _, rfl⟩) (hb hby d6_67) hr), hrun, hended, _, _, rfl, ?_, ⟨_, rfl⟩, hW, hsame.mono (by decide) (by decide)⟩
      show Q_eqb Z a1 a2 x0 x1 x2 x3 y0 y1 y2 y3 h0 n0 _ T118.heap _
      rw [e118]
      exact ⟨by rw [own_eq, if_pos c0, if_neg c1], N0, rfl⟩
  · have k139 : ∀ t, Steps p.tables e below (T111.setTop (mkF m 67 #[.val (.ref a1), .val (.ref a2), .val (.ref a2)] [(.int (0 : Int32))])) t → Steps p.tables e below (s₁.setTop (entryFrame m #[(.ref a1), (.ref a2)] 3)) t := fun t k => k113 t (by
      show Steps p.tables e below (T111.setTop (mkF m 23 #[.val (.ref a1), .val (.ref a2), .val (.ref a2)] [(.int (cmpValue (FP.dcmp x0 y0) .l))])) _
      refine XS.ifYes X111.here hx rfl (pc0 := 23) (pc' := 66) rfl (hb hby d6_23) rfl ((if0 _ _).trans (feq c0).2) (by decide) (by decide) ?_
      show Steps p.tables e below (T111.setTop (mkF m 66 #[.val (.ref a1), .val (.ref a2), .val (.ref a2)] [])) _
      refine XS.iconst X111.here hx rfl (hb hby d6_66) ?_
      exact k)
    obtain ⟨fs, hr, hrun, hended, hW, hsame⟩ := X111.leave (v := some (.int (0 : Int32))) (fun h => by rw [Bd.returns] at h; cases h)
    refine ⟨_, _, k139 _ (retOut X111 hx (t := .boolean) Bd.returns rfl (Or.inl ⟨rfl, Or.inr (Or.inl rfl), _, rfl⟩) (hb hby d6_67) hr), hrun, hended, _, _, rfl, ?_, ⟨_, rfl⟩, hW, hsame.mono (by decide) (by decide)⟩
    show Q_eqb Z a1 a2 x0 x1 x2 x3 y0 y1 y2 y3 h0 n0 _ T111.heap _
    rw [e111]
    exact ⟨by rw [own_eq, if_neg c0], N0, rfl⟩
theorem ef_6_Rn (m : MethodId) (x0 : Addr) : entryFrame m #[(.ref x0), .null] 3 = mkF m 0 #[.val (.ref x0), .val .null, .unset] [] := by first | (simp [entryFrame, mkF, argsToLocals, Value.category]; done) | rfl
theorem d6_7 : decode prog_26_method_16_code 7 = .ok (.iconst 0, 1) := by decide +kernel
theorem d6_8 : decode prog_26_method_16_code 8 = .ok (.ireturn, 1) := by decide +kernel
def Q_eqn (Z : State) (a1 : Addr) (h0 : Heap) (n0 : Nat) (v : Option Value) (h : Heap) (L : List Loc) : Prop := v = some (.int 0) ∧ Fr n0 L ∧ h = h0
set_option maxRecDepth 65536 in
set_option maxHeartbeats 40000000 in
theorem eqn (l : Launch) (Z : State) (a0 : Array Value) (hw : ∀ d ∈ tables_1, d.before a0 Z = true) (ws : List Jvm.Cond) (a1 : Addr) (h0 : Heap) (n0 : Nat) (Z0 : n0 ≤ h0.size) :
    MetFree l (⟨"com/example/hoja/hoja/model/Box", "equals", "(Ljava/lang/Object;)Z"⟩ : MethodName) (head1 (Jvm.Cond.code (⟨"com/example/hoja/hoja/model/Box", "equals", "(Ljava/lang/Object;)Z"⟩ : MethodName) prog_26_method_16_code 3 (some .boolean) :: ws) ({ frames := 0, cells := 0, slots := 0, locals := 0 } : Room)) (fun a U => a = #[(.ref a1), .null] ∧ Z.Warmed39 U.vm ∧ U.heap = h0) (fun _ _ _ _ _ => True) (fun _ U o U' => ∃ v L, o = .returned v ∧ Q_eqn Z a1 h0 n0 v U'.heap L ∧ FrameEnd U o U' L ({ frames := 0, cells := 0, slots := 0, locals := 0 } : Room).cells ({ frames := 0, cells := 0, slots := 0, locals := 0 } : Room).slots) := by
  refine MetFree.of_bodySF (plainFor_of_name pn_com_2fexample_2fhoja_2fhoja_2fmodel_2fBox) hisR ?_
  intro p e s m args below meth c s₁ Bd hml0 hP hK
  obtain ⟨rfl, hZ, hh⟩ := hP
  have hx := Bd.exec
  have hby := Bd.bytes
  have hml : c.maxLocals = 3 := hml0
  have hown : s.vm.findClass "com/example/hoja/hoja/model/Box" = some m.cls := findClass_of_methodNamed Bd.named
  have hnm := (name_of_methodNamed Bd.named Bd.method).1
  have X0 : Stand p l e ({ frames := 0, cells := 0, slots := 0, locals := 0 } : Room) s m #[(.ref a1), .null] below meth c s₁ [] 0 0 := Stand.of_body Bd
  have e0 : s₁.heap = h0 := by rw [← hh, Bd.state]; rfl
  have N0 := Fr.nil n0
  have k0 : ∀ t, Steps p.tables e below (s₁.setTop (mkF m 0 #[.val (.ref a1), .val .null, .unset] [])) t → Steps p.tables e below (s₁.setTop (entryFrame m #[(.ref a1), .null] 3)) t := fun t k => castTop (ef_6_Rn m a1) k
  have k101 : ∀ t, Steps p.tables e below (s₁.setTop (mkF m 1 #[.val (.ref a1), .val .null, .unset] [.null])) t → Steps p.tables e below (s₁.setTop (entryFrame m #[(.ref a1), .null] 3)) t := fun t k => k0 t (by
    show Steps p.tables e below (s₁.setTop (mkF m 0 #[.val (.ref a1), .val .null, .unset] [])) _
    refine XS.aloadN X0.here hx rfl (hb hby d6_0) rfl rfl ?_
    exact k)
  have k103 : ∀ t, Steps p.tables e below (s₁.setTop (mkF m 8 #[.val (.ref a1), .val .null, .unset] [(.int (0 : Int32))])) t → Steps p.tables e below (s₁.setTop (entryFrame m #[(.ref a1), .null] 3)) t := fun t k => k101 t (by
    show Steps p.tables e below (s₁.setTop (mkF m 1 #[.val (.ref a1), .val .null, .unset] [.null])) _
    refine X0.instanceofNull hx (g := (mkF m 1 #[.val (.ref a1), .val .null, .unset] [.null])) rfl rfl (hb hby d6_1) _ ?_
    show Steps p.tables e below (s₁.setTop (mkF m 4 #[.val (.ref a1), .val .null, .unset] [(.int (0 : Int32))])) _
    refine XS.ifNo X0.here hx rfl (hb hby d6_4) rfl ((if0 _ _).trans (teq (by decide)).2) ?_
    show Steps p.tables e below (s₁.setTop (mkF m 7 #[.val (.ref a1), .val .null, .unset] [])) _
    refine XS.iconst X0.here hx rfl (hb hby d6_7) ?_
    exact k)
  obtain ⟨fs, hr, hrun, hended, hW, hsame⟩ := X0.leave (v := some (.int (0 : Int32))) (fun h => by rw [Bd.returns] at h; cases h)
  refine ⟨_, _, k103 _ (retOut X0 hx (t := .boolean) Bd.returns rfl (Or.inl ⟨rfl, Or.inr (Or.inl rfl), _, rfl⟩) (hb hby d6_8) hr), hrun, hended, _, _, rfl, ?_, ⟨_, rfl⟩, hW, hsame.mono (by decide) (by decide)⟩
  show Q_eqn Z a1 h0 n0 _ s₁.heap _
  rw [e0]
  exact ⟨rfl, N0, rfl⟩
def Q_eqs (Z : State) (a1 : Addr) (a2 : Addr) (h0 : Heap) (n0 : Nat) (v : Option Value) (h : Heap) (L : List Loc) : Prop := v = some (.int 0) ∧ Fr n0 L ∧ h = h0
set_option maxRecDepth 65536 in
set_option maxHeartbeats 40000000 in
theorem eqs (l : Launch) (Z : State) (a0 : Array Value) (hw : ∀ d ∈ tables_1, d.before a0 Z = true) (ws : List Jvm.Cond) (a1 : Addr) (a2 : Addr) (h0 : Heap) (n0 : Nat) (Z0 : n0 ≤ h0.size) (E2 : Exa Z h0 a2 "java/lang/String") (NA : ∃ c t, Z.vm.findClass "java/lang/String" = some c ∧ Z.vm.findClass "com/example/hoja/hoja/model/Box" = some t ∧ Z.vm.assignable c t = false) :
    MetFree l (⟨"com/example/hoja/hoja/model/Box", "equals", "(Ljava/lang/Object;)Z"⟩ : MethodName) (head1 (Jvm.Cond.code (⟨"com/example/hoja/hoja/model/Box", "equals", "(Ljava/lang/Object;)Z"⟩ : MethodName) prog_26_method_16_code 3 (some .boolean) :: ws) ({ frames := 0, cells := 0, slots := 0, locals := 0 } : Room)) (fun a U => a = #[(.ref a1), (.ref a2)] ∧ Z.Warmed39 U.vm ∧ U.heap = h0) (fun _ _ _ _ _ => True) (fun _ U o U' => ∃ v L, o = .returned v ∧ Q_eqs Z a1 a2 h0 n0 v U'.heap L ∧ FrameEnd U o U' L ({ frames := 0, cells := 0, slots := 0, locals := 0 } : Room).cells ({ frames := 0, cells := 0, slots := 0, locals := 0 } : Room).slots) := by
  refine MetFree.of_bodySF (plainFor_of_name pn_com_2fexample_2fhoja_2fhoja_2fmodel_2fBox) hisR ?_
  intro p e s m args below meth c s₁ Bd hml0 hP hK
  obtain ⟨rfl, hZ, hh⟩ := hP
  have hx := Bd.exec
  have hby := Bd.bytes
  have hml : c.maxLocals = 3 := hml0
  have hown : s.vm.findClass "com/example/hoja/hoja/model/Box" = some m.cls := findClass_of_methodNamed Bd.named
  have hnm := (name_of_methodNamed Bd.named Bd.method).1
  have X0 : Stand p l e ({ frames := 0, cells := 0, slots := 0, locals := 0 } : Room) s m #[(.ref a1), (.ref a2)] below meth c s₁ [] 0 0 := Stand.of_body Bd
  have e0 : s₁.heap = h0 := by rw [← hh, Bd.state]; rfl
  have N0 := Fr.nil n0
  have k0 : ∀ t, Steps p.tables e below (s₁.setTop (mkF m 0 #[.val (.ref a1), .val (.ref a2), .unset] [])) t → Steps p.tables e below (s₁.setTop (entryFrame m #[(.ref a1), (.ref a2)] 3)) t := fun t k => castTop (ef_6_RR m a1 a2) k
  have k101 : ∀ t, Steps p.tables e below (s₁.setTop (mkF m 1 #[.val (.ref a1), .val (.ref a2), .unset] [(.ref a2)])) t → Steps p.tables e below (s₁.setTop (entryFrame m #[(.ref a1), (.ref a2)] 3)) t := fun t k => k0 t (by
    show Steps p.tables e below (s₁.setTop (mkF m 0 #[.val (.ref a1), .val (.ref a2), .unset] [])) _
    refine XS.aloadN X0.here hx rfl (hb hby d6_0) rfl rfl ?_
    exact k)
  obtain ⟨T102, X102, e102, st102⟩ := instNo X0 hx hZ hown (hw _ (List.mem_of_getElem? (i := 35) rfl)) e0 E2 NA (g := (mkF m 1 #[.val (.ref a1), .val (.ref a2), .unset] [(.ref a2)])) rfl rfl (hb hby d6_1)
  have k103 : ∀ t, Steps p.tables e below (T102.setTop (mkF m 4 #[.val (.ref a1), .val (.ref a2), .unset] [(.int (0 : Int32))])) t → Steps p.tables e below (s₁.setTop (entryFrame m #[(.ref a1), (.ref a2)] 3)) t := fun t k => k101 t (st102 t k)
  have k104 : ∀ t, Steps p.tables e below (T102.setTop (mkF m 8 #[.val (.ref a1), .val (.ref a2), .unset] [(.int (0 : Int32))])) t → Steps p.tables e below (s₁.setTop (entryFrame m #[(.ref a1), (.ref a2)] 3)) t := fun t k => k103 t (by
    show Steps p.tables e below (T102.setTop (mkF m 4 #[.val (.ref a1), .val (.ref a2), .unset] [(.int (0 : Int32))])) _
    refine XS.ifNo X102.here hx rfl (hb hby d6_4) rfl ((if0 _ _).trans (teq (by decide)).2) ?_
    show Steps p.tables e below (T102.setTop (mkF m 7 #[.val (.ref a1), .val (.ref a2), .unset] [])) _
    refine XS.iconst X102.here hx rfl (hb hby d6_7) ?_
    exact k)
  obtain ⟨fs, hr, hrun, hended, hW, hsame⟩ := X102.leave (v := some (.int (0 : Int32))) (fun h => by rw [Bd.returns] at h; cases h)
  refine ⟨_, _, k104 _ (retOut X102 hx (t := .boolean) Bd.returns rfl (Or.inl ⟨rfl, Or.inr (Or.inl rfl), _, rfl⟩) (hb hby d6_8) hr), hrun, hended, _, _, rfl, ?_, ⟨_, rfl⟩, hW, hsame.mono (by decide) (by decide)⟩
  show Q_eqs Z a1 a2 h0 n0 _ T102.heap _
  rw [e102]
  exact ⟨rfl, N0, rfl⟩
theorem ef_0_IIIIII (m : MethodId) (x0 : Int32) (x1 : Int32) (x2 : Int32) (x3 : Int32) (x4 : Int32) (x5 : Int32) : entryFrame m #[(.int x0), (.int x1), (.int x2), (.int x3), (.int x4), (.int x5)] maxLocals = mkF m 0 #[.val (.int x0), .val (.int x1), .val (.int x2), .val (.int x3), .val (.int x4), .val (.int x5), .unset, .unset, .unset, .unset, .unset, .unset, .unset, .unset, .unset, .unset, .unset, .unset, .unset, .unset] [] := by first | (simp [entryFrame, mkF, argsToLocals, Value.category, maxLocals]; done) | rfl
theorem pd__28DDDD_29V : parseMethodDescriptor "(DDDD)V" = some ⟨[.double, .double, .double, .double], none⟩ := by decide +kernel
theorem pd__28Ljava_2flang_2fObject_3b_29Z : parseMethodDescriptor "(Ljava/lang/Object;)Z" = some ⟨[(.object "java/lang/Object")], some .boolean⟩ := by decide +kernel
theorem pd__28C_29Ljava_2flang_2fString_3b : parseMethodDescriptor "(C)Ljava/lang/String;" = some ⟨[.char], some (.object "java/lang/String")⟩ := by decide +kernel
def Q_rm0 (Z : State) (xa : Int32) (ya : Int32) (wa : Int32) (ha : Int32) (d : Int32) (sel : Int32) (cs : Int32) (h0 : Heap) (n0 : Nat) (v : Option Value) (h : Heap) (L : List Loc) : Prop := v = some (.int 1) ∧ Fr n0 L
theorem pn_com_2fexample_2fhoja_2fhoja_2fmodel_2fBoxEqualsPinLaw : plainName "com/example/hoja/hoja/model/BoxEqualsPinLaw" = true := by first | (simp [plainName, overriddenIn]; done) | decide +kernel
set_option maxRecDepth 65536 in
set_option maxHeartbeats 40000000 in
theorem rm0 (l : Launch) (Z : State) (a0 : Array Value) (hw : ∀ d ∈ tables_1, d.before a0 Z = true) (ws : List Jvm.Cond) (xa : Int32) (ya : Int32) (wa : Int32) (ha : Int32) (d : Int32) (sel : Int32) (cs : Int32) (h0 : Heap) (n0 : Nat) (Z0 : n0 ≤ h0.size) (Scs : Sta Z Z.heap "java/lang/String" "COMPACT_STRINGS" "Z" (.int cs)) (hcs : ¬ (cs = (0 : Int32))) (O0 : Old Z n0 h0) :
    MetFree l x (head1 (Jvm.Cond.code x code maxLocals ret :: ws) room_1) (fun a U => a = #[(.int xa), (.int ya), (.int wa), (.int ha), (.int d), (.int sel)] ∧ Z.Warmed39 U.vm ∧ U.heap = h0) (fun _ _ _ _ _ => True) (fun _ U o U' => ∃ v L, o = .returned v ∧ Q_rm0 Z xa ya wa ha d sel cs h0 n0 v U'.heap L ∧ FrameEnd U o U' L room_1.cells room_1.slots) := by
  refine MetFree.of_bodySF (plainFor_of_name pn_com_2fexample_2fhoja_2fhoja_2fmodel_2fBoxEqualsPinLaw) hisR ?_
  intro p e s m args below meth c s₁ Bd hml0 hP hK
  obtain ⟨rfl, hZ, hh⟩ := hP
  have hx := Bd.exec
  have hby := Bd.bytes
  have hml : c.maxLocals = 20 := hml0
  have hown : s.vm.findClass "com/example/hoja/hoja/model/BoxEqualsPinLaw" = some m.cls := findClass_of_methodNamed Bd.named
  have hnm := (name_of_methodNamed Bd.named Bd.method).1
  have X0 : Stand p l e room_1 s m #[(.int xa), (.int ya), (.int wa), (.int ha), (.int d), (.int sel)] below meth c s₁ [] 0 0 := Stand.of_body Bd
  have e0 : s₁.heap = h0 := by rw [← hh, Bd.state]; rfl
  have N0 := Fr.nil n0
  have k0 : ∀ t, Steps p.tables e below (s₁.setTop (mkF m 0 #[.val (.int xa), .val (.int ya), .val (.int wa), .val (.int ha), .val (.int d), .val (.int sel), .unset, .unset, .unset, .unset, .unset, .unset, .unset, .unset, .unset, .unset, .unset, .unset, .unset, .unset] [])) t → Steps p.tables e below (s₁.setTop (entryFrame m #[(.int xa), (.int ya), (.int wa), (.int ha), (.int d), (.int sel)] maxLocals)) t := fun t k => castTop (ef_0_IIIIII m xa ya wa ha d sel) k
  obtain ⟨wA, hwA⟩ : ∃ z : Int32, z = (wa &&& (2147483647 : Int32)) := ⟨_, rfl⟩
  obtain ⟨hA, hhA⟩ : ∃ z : Int32, z = (ha &&& (2147483647 : Int32)) := ⟨_, rfl⟩
  have k101 : ∀ t, Steps p.tables e below (s₁.setTop (mkF m 16 #[.val (.int xa), .val (.int ya), .val (.int wa), .val (.int ha), .val (.int d), .val (.int sel), .val (.int wA), .val (.int hA), .unset, .unset, .unset, .unset, .unset, .unset, .unset, .unset, .unset, .unset, .unset, .unset] [(.int (sel &&& (1 : Int32)))])) t → Steps p.tables e below (s₁.setTop (entryFrame m #[(.int xa), (.int ya), (.int wa), (.int ha), (.int d), (.int sel)] maxLocals)) t := fun t k => k0 t (by
    show Steps p.tables e below (s₁.setTop (mkF m 0 #[.val (.int xa), .val (.int ya), .val (.int wa), .val (.int ha), .val (.int d), .val (.int sel), .unset, .unset, .unset, .unset, .unset, .unset, .unset, .unset, .unset, .unset, .unset, .unset, .unset, .unset] [])) _
    refine XS.iloadN X0.here hx rfl (hb hby at_0) rfl ?_
    show Steps p.tables e below (s₁.setTop (mkF m 1 #[.val (.int xa), .val (.int ya), .val (.int wa), .val (.int ha), .val (.int d), .val (.int sel), .unset, .unset, .unset, .unset, .unset, .unset, .unset, .unset, .unset, .unset, .unset, .unset, .unset, .unset] [(.int wa)])) _
    refine X0.ldcInt hx hown (mvT hZ (hw _ (List.mem_of_getElem? (i := 0) rfl))) (g := (mkF m 1 #[.val (.int xa), .val (.int ya), .val (.int wa), .val (.int ha), .val (.int d), .val (.int sel), .unset, .unset, .unset, .unset, .unset, .unset, .unset, .unset, .unset, .unset, .unset, .unset, .unset, .unset] [(.int wa)])) rfl (hb hby at_1) _ ?_
    show Steps p.tables e below (s₁.setTop (mkF m 3 #[.val (.int xa), .val (.int ya), .val (.int wa), .val (.int ha), .val (.int d), .val (.int sel), .unset, .unset, .unset, .unset, .unset, .unset, .unset, .unset, .unset, .unset, .unset, .unset, .unset, .unset] [(.int (2147483647 : Int32)), (.int wa)])) _
    refine XS.iand X0.here hx rfl (hb hby at_3) rfl ?_
    show Steps p.tables e below (s₁.setTop (mkF m 4 #[.val (.int xa), .val (.int ya), .val (.int wa), .val (.int ha), .val (.int d), .val (.int sel), .unset, .unset, .unset, .unset, .unset, .unset, .unset, .unset, .unset, .unset, .unset, .unset, .unset, .unset] [(.int (wa &&& (2147483647 : Int32)))])) _
    refine castTop (g' := (mkF m 4 #[.val (.int xa), .val (.int ya), .val (.int wa), .val (.int ha), .val (.int d), .val (.int sel), .unset, .unset, .unset, .unset, .unset, .unset, .unset, .unset, .unset, .unset, .unset, .unset, .unset, .unset] [(.int wA)])) (by rw [hwA]) ?_
    show Steps p.tables e below (s₁.setTop (mkF m 4 #[.val (.int xa), .val (.int ya), .val (.int wa), .val (.int ha), .val (.int d), .val (.int sel), .unset, .unset, .unset, .unset, .unset, .unset, .unset, .unset, .unset, .unset, .unset, .unset, .unset, .unset] [(.int wA)])) _
    refine XS.istore X0.here hx rfl (hb hby at_4) rfl (l' := #[.val (.int xa), .val (.int ya), .val (.int wa), .val (.int ha), .val (.int d), .val (.int sel), .val (.int wA), .unset, .unset, .unset, .unset, .unset, .unset, .unset, .unset, .unset, .unset, .unset, .unset, .unset]) rfl ?_
    show Steps p.tables e below (s₁.setTop (mkF m 6 #[.val (.int xa), .val (.int ya), .val (.int wa), .val (.int ha), .val (.int d), .val (.int sel), .val (.int wA), .unset, .unset, .unset, .unset, .unset, .unset, .unset, .unset, .unset, .unset, .unset, .unset, .unset] [])) _
    refine XS.iloadN X0.here hx rfl (hb hby at_6) rfl ?_
    show Steps p.tables e below (s₁.setTop (mkF m 7 #[.val (.int xa), .val (.int ya), .val (.int wa), .val (.int ha), .val (.int d), .val (.int sel), .val (.int wA), .unset, .unset, .unset, .unset, .unset, .unset, .unset, .unset, .unset, .unset, .unset, .unset, .unset] [(.int ha)])) _
    refine X0.ldcInt hx hown (mvT hZ (hw _ (List.mem_of_getElem? (i := 0) rfl))) (g := (mkF m 7 #[.val (.int xa), .val (.int ya), .val (.int wa), .val (.int ha), .val (.int d), .val (.int sel), .val (.int wA), .unset, .unset, .unset, .unset, .unset, .unset, .unset, .unset, .unset, .unset, .unset, .unset, .unset] [(.int ha)])) rfl (hb hby at_7) _ ?_
    show Steps p.tables e below (s₁.setTop (mkF m 9 #[.val (.int xa), .val (.int ya), .val (.int wa), .val (.int ha), .val (.int d), .val (.int sel), .val (.int wA), .unset, .unset, .unset, .unset, .unset, .unset, .unset, .unset, .unset, .unset, .unset, .unset, .unset] [(.int (2147483647 : Int32)), (.int ha)])) _
    refine XS.iand X0.here hx rfl (hb hby at_9) rfl ?_
    show Steps p.tables e below (s₁.setTop (mkF m 10 #[.val (.int xa), .val (.int ya), .val (.int wa), .val (.int ha), .val (.int d), .val (.int sel), .val (.int wA), .unset, .unset, .unset, .unset, .unset, .unset, .unset, .unset, .unset, .unset, .unset, .unset, .unset] [(.int (ha &&& (2147483647 : Int32)))])) _
    refine castTop (g' := (mkF m 10 #[.val (.int xa), .val (.int ya), .val (.int wa), .val (.int ha), .val (.int d), .val (.int sel), .val (.int wA), .unset, .unset, .unset, .unset, .unset, .unset, .unset, .unset, .unset, .unset, .unset, .unset, .unset] [(.int hA)])) (by rw [hhA]) ?_
    show Steps p.tables e below (s₁.setTop (mkF m 10 #[.val (.int xa), .val (.int ya), .val (.int wa), .val (.int ha), .val (.int d), .val (.int sel), .val (.int wA), .unset, .unset, .unset, .unset, .unset, .unset, .unset, .unset, .unset, .unset, .unset, .unset, .unset] [(.int hA)])) _
    refine XS.istore X0.here hx rfl (hb hby at_10) rfl (l' := #[.val (.int xa), .val (.int ya), .val (.int wa), .val (.int ha), .val (.int d), .val (.int sel), .val (.int wA), .val (.int hA), .unset, .unset, .unset, .unset, .unset, .unset, .unset, .unset, .unset, .unset, .unset, .unset]) rfl ?_
    show Steps p.tables e below (s₁.setTop (mkF m 12 #[.val (.int xa), .val (.int ya), .val (.int wa), .val (.int ha), .val (.int d), .val (.int sel), .val (.int wA), .val (.int hA), .unset, .unset, .unset, .unset, .unset, .unset, .unset, .unset, .unset, .unset, .unset, .unset] [])) _
    refine XS.iload X0.here hx rfl (hb hby at_12) rfl ?_
    show Steps p.tables e below (s₁.setTop (mkF m 14 #[.val (.int xa), .val (.int ya), .val (.int wa), .val (.int ha), .val (.int d), .val (.int sel), .val (.int wA), .val (.int hA), .unset, .unset, .unset, .unset, .unset, .unset, .unset, .unset, .unset, .unset, .unset, .unset] [(.int sel)])) _
    refine XS.iconst X0.here hx rfl (hb hby at_14) ?_
    show Steps p.tables e below (s₁.setTop (mkF m 15 #[.val (.int xa), .val (.int ya), .val (.int wa), .val (.int ha), .val (.int d), .val (.int sel), .val (.int wA), .val (.int hA), .unset, .unset, .unset, .unset, .unset, .unset, .unset, .unset, .unset, .unset, .unset, .unset] [(.int (1 : Int32)), (.int sel)])) _
    refine XS.iand X0.here hx rfl (hb hby at_15) rfl ?_
    exact k)
  obtain ⟨i103, hi103⟩ : ∃ z : Int32, z = (if (sel &&& (1 : Int32)) = (0 : Int32) then d else xa) := ⟨_, rfl⟩
  have k104 : ∀ t, Steps p.tables e below (s₁.setTop (mkF m 25 #[.val (.int xa), .val (.int ya), .val (.int wa), .val (.int ha), .val (.int d), .val (.int sel), .val (.int wA), .val (.int hA), .unset, .unset, .unset, .unset, .unset, .unset, .unset, .unset, .unset, .unset, .unset, .unset] [(.int i103)])) t → Steps p.tables e below (s₁.setTop (entryFrame m #[(.int xa), (.int ya), (.int wa), (.int ha), (.int d), (.int sel)] maxLocals)) t := fun t k => k101 t (by
    by_cases c102 : (sel &&& (1 : Int32)) = (0 : Int32)
    · rw [if_pos c102] at hi103
      show Steps p.tables e below (s₁.setTop (mkF m 16 #[.val (.int xa), .val (.int ya), .val (.int wa), .val (.int ha), .val (.int d), .val (.int sel), .val (.int wA), .val (.int hA), .unset, .unset, .unset, .unset, .unset, .unset, .unset, .unset, .unset, .unset, .unset, .unset] [(.int (sel &&& (1 : Int32)))])) _
      refine XS.ifYes X0.here hx rfl (pc0 := 16) (pc' := 23) rfl (hb hby at_16) rfl ((if0 _ _).trans (teq c102).1) (by decide) (by decide) ?_
      show Steps p.tables e below (s₁.setTop (mkF m 23 #[.val (.int xa), .val (.int ya), .val (.int wa), .val (.int ha), .val (.int d), .val (.int sel), .val (.int wA), .val (.int hA), .unset, .unset, .unset, .unset, .unset, .unset, .unset, .unset, .unset, .unset, .unset, .unset] [])) _
      refine XS.iload X0.here hx rfl (hb hby at_23) rfl ?_
      show Steps p.tables e below (s₁.setTop (mkF m 25 #[.val (.int xa), .val (.int ya), .val (.int wa), .val (.int ha), .val (.int d), .val (.int sel), .val (.int wA), .val (.int hA), .unset, .unset, .unset, .unset, .unset, .unset, .unset, .unset, .unset, .unset, .unset, .unset] [(.int d)])) _
      exact castTop (by rw [hi103]) k
    · rw [if_neg c102] at hi103
      show Steps p.tables e below (s₁.setTop (mkF m 16 #[.val (.int xa), .val (.int ya), .val (.int wa), .val (.int ha), .val (.int d), .val (.int sel), .val (.int wA), .val (.int hA), .unset, .unset, .unset, .unset, .unset, .unset, .unset, .unset, .unset, .unset, .unset, .unset] [(.int (sel &&& (1 : Int32)))])) _
      refine XS.ifNo X0.here hx rfl (hb hby at_16) rfl ((if0 _ _).trans (feq c102).1) ?_
      show Steps p.tables e below (s₁.setTop (mkF m 19 #[.val (.int xa), .val (.int ya), .val (.int wa), .val (.int ha), .val (.int d), .val (.int sel), .val (.int wA), .val (.int hA), .unset, .unset, .unset, .unset, .unset, .unset, .unset, .unset, .unset, .unset, .unset, .unset] [])) _
      refine XS.iloadN X0.here hx rfl (hb hby at_19) rfl ?_
      show Steps p.tables e below (s₁.setTop (mkF m 20 #[.val (.int xa), .val (.int ya), .val (.int wa), .val (.int ha), .val (.int d), .val (.int sel), .val (.int wA), .val (.int hA), .unset, .unset, .unset, .unset, .unset, .unset, .unset, .unset, .unset, .unset, .unset, .unset] [(.int xa)])) _
      refine XS.goto X0.here hx rfl (pc0 := 20) (pc' := 25) rfl (hb hby at_20) (by decide) (by decide) ?_
      show Steps p.tables e below (s₁.setTop (mkF m 25 #[.val (.int xa), .val (.int ya), .val (.int wa), .val (.int ha), .val (.int d), .val (.int sel), .val (.int wA), .val (.int hA), .unset, .unset, .unset, .unset, .unset, .unset, .unset, .unset, .unset, .unset, .unset, .unset] [(.int xa)])) _
      exact castTop (by rw [hi103]) k)
  have k105 : ∀ t, Steps p.tables e below (s₁.setTop (mkF m 31 #[.val (.int xa), .val (.int ya), .val (.int wa), .val (.int ha), .val (.int d), .val (.int sel), .val (.int wA), .val (.int hA), .val (.int i103), .unset, .unset, .unset, .unset, .unset, .unset, .unset, .unset, .unset, .unset, .unset] [(.int (sel &&& (2 : Int32)))])) t → Steps p.tables e below (s₁.setTop (entryFrame m #[(.int xa), (.int ya), (.int wa), (.int ha), (.int d), (.int sel)] maxLocals)) t := fun t k => k104 t (by
    show Steps p.tables e below (s₁.setTop (mkF m 25 #[.val (.int xa), .val (.int ya), .val (.int wa), .val (.int ha), .val (.int d), .val (.int sel), .val (.int wA), .val (.int hA), .unset, .unset, .unset, .unset, .unset, .unset, .unset, .unset, .unset, .unset, .unset, .unset] [(.int i103)])) _
    refine XS.istore X0.here hx rfl (hb hby at_25) rfl (l' := #[.val (.int xa), .val (.int ya), .val (.int wa), .val (.int ha), .val (.int d), .val (.int sel), .val (.int wA), .val (.int hA), .val (.int i103), .unset, .unset, .unset, .unset, .unset, .unset, .unset, .unset, .unset, .unset, .unset]) rfl ?_
    show Steps p.tables e below (s₁.setTop (mkF m 27 #[.val (.int xa), .val (.int ya), .val (.int wa), .val (.int ha), .val (.int d), .val (.int sel), .val (.int wA), .val (.int hA), .val (.int i103), .unset, .unset, .unset, .unset, .unset, .unset, .unset, .unset, .unset, .unset, .unset] [])) _
    refine XS.iload X0.here hx rfl (hb hby at_27) rfl ?_
    show Steps p.tables e below (s₁.setTop (mkF m 29 #[.val (.int xa), .val (.int ya), .val (.int wa), .val (.int ha), .val (.int d), .val (.int sel), .val (.int wA), .val (.int hA), .val (.int i103), .unset, .unset, .unset, .unset, .unset, .unset, .unset, .unset, .unset, .unset, .unset] [(.int sel)])) _
    refine XS.iconst X0.here hx rfl (hb hby at_29) ?_
    show Steps p.tables e below (s₁.setTop (mkF m 30 #[.val (.int xa), .val (.int ya), .val (.int wa), .val (.int ha), .val (.int d), .val (.int sel), .val (.int wA), .val (.int hA), .val (.int i103), .unset, .unset, .unset, .unset, .unset, .unset, .unset, .unset, .unset, .unset, .unset] [(.int (2 : Int32)), (.int sel)])) _
    refine XS.iand X0.here hx rfl (hb hby at_30) rfl ?_
    exact k)
  obtain ⟨i107, hi107⟩ : ∃ z : Int32, z = (if (sel &&& (2 : Int32)) = (0 : Int32) then (d ^^^ (-1 : Int32)) else ya) := ⟨_, rfl⟩
  have k108 : ∀ t, Steps p.tables e below (s₁.setTop (mkF m 42 #[.val (.int xa), .val (.int ya), .val (.int wa), .val (.int ha), .val (.int d), .val (.int sel), .val (.int wA), .val (.int hA), .val (.int i103), .unset, .unset, .unset, .unset, .unset, .unset, .unset, .unset, .unset, .unset, .unset] [(.int i107)])) t → Steps p.tables e below (s₁.setTop (entryFrame m #[(.int xa), (.int ya), (.int wa), (.int ha), (.int d), (.int sel)] maxLocals)) t := fun t k => k105 t (by
    by_cases c106 : (sel &&& (2 : Int32)) = (0 : Int32)
    · rw [if_pos c106] at hi107
      show Steps p.tables e below (s₁.setTop (mkF m 31 #[.val (.int xa), .val (.int ya), .val (.int wa), .val (.int ha), .val (.int d), .val (.int sel), .val (.int wA), .val (.int hA), .val (.int i103), .unset, .unset, .unset, .unset, .unset, .unset, .unset, .unset, .unset, .unset, .unset] [(.int (sel &&& (2 : Int32)))])) _
      refine XS.ifYes X0.here hx rfl (pc0 := 31) (pc' := 38) rfl (hb hby at_31) rfl ((if0 _ _).trans (teq c106).1) (by decide) (by decide) ?_
      show Steps p.tables e below (s₁.setTop (mkF m 38 #[.val (.int xa), .val (.int ya), .val (.int wa), .val (.int ha), .val (.int d), .val (.int sel), .val (.int wA), .val (.int hA), .val (.int i103), .unset, .unset, .unset, .unset, .unset, .unset, .unset, .unset, .unset, .unset, .unset] [])) _
      refine XS.iload X0.here hx rfl (hb hby at_38) rfl ?_
      show Steps p.tables e below (s₁.setTop (mkF m 40 #[.val (.int xa), .val (.int ya), .val (.int wa), .val (.int ha), .val (.int d), .val (.int sel), .val (.int wA), .val (.int hA), .val (.int i103), .unset, .unset, .unset, .unset, .unset, .unset, .unset, .unset, .unset, .unset, .unset] [(.int d)])) _
      refine XS.iconst X0.here hx rfl (hb hby at_40) ?_
      show Steps p.tables e below (s₁.setTop (mkF m 41 #[.val (.int xa), .val (.int ya), .val (.int wa), .val (.int ha), .val (.int d), .val (.int sel), .val (.int wA), .val (.int hA), .val (.int i103), .unset, .unset, .unset, .unset, .unset, .unset, .unset, .unset, .unset, .unset, .unset] [(.int (-1 : Int32)), (.int d)])) _
      refine XS.ixor X0.here hx rfl (hb hby at_41) rfl ?_
      show Steps p.tables e below (s₁.setTop (mkF m 42 #[.val (.int xa), .val (.int ya), .val (.int wa), .val (.int ha), .val (.int d), .val (.int sel), .val (.int wA), .val (.int hA), .val (.int i103), .unset, .unset, .unset, .unset, .unset, .unset, .unset, .unset, .unset, .unset, .unset] [(.int (d ^^^ (-1 : Int32)))])) _
      exact castTop (by rw [hi107]) k
    · rw [if_neg c106] at hi107
      show Steps p.tables e below (s₁.setTop (mkF m 31 #[.val (.int xa), .val (.int ya), .val (.int wa), .val (.int ha), .val (.int d), .val (.int sel), .val (.int wA), .val (.int hA), .val (.int i103), .unset, .unset, .unset, .unset, .unset, .unset, .unset, .unset, .unset, .unset, .unset] [(.int (sel &&& (2 : Int32)))])) _
      refine XS.ifNo X0.here hx rfl (hb hby at_31) rfl ((if0 _ _).trans (feq c106).1) ?_
      show Steps p.tables e below (s₁.setTop (mkF m 34 #[.val (.int xa), .val (.int ya), .val (.int wa), .val (.int ha), .val (.int d), .val (.int sel), .val (.int wA), .val (.int hA), .val (.int i103), .unset, .unset, .unset, .unset, .unset, .unset, .unset, .unset, .unset, .unset, .unset] [])) _
      refine XS.iloadN X0.here hx rfl (hb hby at_34) rfl ?_
      show Steps p.tables e below (s₁.setTop (mkF m 35 #[.val (.int xa), .val (.int ya), .val (.int wa), .val (.int ha), .val (.int d), .val (.int sel), .val (.int wA), .val (.int hA), .val (.int i103), .unset, .unset, .unset, .unset, .unset, .unset, .unset, .unset, .unset, .unset, .unset] [(.int ya)])) _
      refine XS.goto X0.here hx rfl (pc0 := 35) (pc' := 42) rfl (hb hby at_35) (by decide) (by decide) ?_
      show Steps p.tables e below (s₁.setTop (mkF m 42 #[.val (.int xa), .val (.int ya), .val (.int wa), .val (.int ha), .val (.int d), .val (.int sel), .val (.int wA), .val (.int hA), .val (.int i103), .unset, .unset, .unset, .unset, .unset, .unset, .unset, .unset, .unset, .unset, .unset] [(.int ya)])) _
      exact castTop (by rw [hi107]) k)
  have k109 : ∀ t, Steps p.tables e below (s₁.setTop (mkF m 48 #[.val (.int xa), .val (.int ya), .val (.int wa), .val (.int ha), .val (.int d), .val (.int sel), .val (.int wA), .val (.int hA), .val (.int i103), .val (.int i107), .unset, .unset, .unset, .unset, .unset, .unset, .unset, .unset, .unset, .unset] [(.int (sel &&& (4 : Int32)))])) t → Steps p.tables e below (s₁.setTop (entryFrame m #[(.int xa), (.int ya), (.int wa), (.int ha), (.int d), (.int sel)] maxLocals)) t := fun t k => k108 t (by
    show Steps p.tables e below (s₁.setTop (mkF m 42 #[.val (.int xa), .val (.int ya), .val (.int wa), .val (.int ha), .val (.int d), .val (.int sel), .val (.int wA), .val (.int hA), .val (.int i103), .unset, .unset, .unset, .unset, .unset, .unset, .unset, .unset, .unset, .unset, .unset] [(.int i107)])) _
    refine XS.istore X0.here hx rfl (hb hby at_42) rfl (l' := #[.val (.int xa), .val (.int ya), .val (.int wa), .val (.int ha), .val (.int d), .val (.int sel), .val (.int wA), .val (.int hA), .val (.int i103), .val (.int i107), .unset, .unset, .unset, .unset, .unset, .unset, .unset, .unset, .unset, .unset]) rfl ?_
    show Steps p.tables e below (s₁.setTop (mkF m 44 #[.val (.int xa), .val (.int ya), .val (.int wa), .val (.int ha), .val (.int d), .val (.int sel), .val (.int wA), .val (.int hA), .val (.int i103), .val (.int i107), .unset, .unset, .unset, .unset, .unset, .unset, .unset, .unset, .unset, .unset] [])) _
    refine XS.iload X0.here hx rfl (hb hby at_44) rfl ?_
    show Steps p.tables e below (s₁.setTop (mkF m 46 #[.val (.int xa), .val (.int ya), .val (.int wa), .val (.int ha), .val (.int d), .val (.int sel), .val (.int wA), .val (.int hA), .val (.int i103), .val (.int i107), .unset, .unset, .unset, .unset, .unset, .unset, .unset, .unset, .unset, .unset] [(.int sel)])) _
    refine XS.iconst X0.here hx rfl (hb hby at_46) ?_
    show Steps p.tables e below (s₁.setTop (mkF m 47 #[.val (.int xa), .val (.int ya), .val (.int wa), .val (.int ha), .val (.int d), .val (.int sel), .val (.int wA), .val (.int hA), .val (.int i103), .val (.int i107), .unset, .unset, .unset, .unset, .unset, .unset, .unset, .unset, .unset, .unset] [(.int (4 : Int32)), (.int sel)])) _
    refine XS.iand X0.here hx rfl (hb hby at_47) rfl ?_
    exact k)
  obtain ⟨i111, hi111⟩ : ∃ z : Int32, z = (if (sel &&& (4 : Int32)) = (0 : Int32) then ((d.toUInt32 >>> ((1 : Int32) &&& 31).toUInt32).toInt32) else wA) := ⟨_, rfl⟩
  have k112 : ∀ t, Steps p.tables e below (s₁.setTop (mkF m 60 #[.val (.int xa), .val (.int ya), .val (.int wa), .val (.int ha), .val (.int d), .val (.int sel), .val (.int wA), .val (.int hA), .val (.int i103), .val (.int i107), .unset, .unset, .unset, .unset, .unset, .unset, .unset, .unset, .unset, .unset] [(.int i111)])) t → Steps p.tables e below (s₁.setTop (entryFrame m #[(.int xa), (.int ya), (.int wa), (.int ha), (.int d), (.int sel)] maxLocals)) t := fun t k => k109 t (by
    by_cases c110 : (sel &&& (4 : Int32)) = (0 : Int32)
    · rw [if_pos c110] at hi111
      show Steps p.tables e below (s₁.setTop (mkF m 48 #[.val (.int xa), .val (.int ya), .val (.int wa), .val (.int ha), .val (.int d), .val (.int sel), .val (.int wA), .val (.int hA), .val (.int i103), .val (.int i107), .unset, .unset, .unset, .unset, .unset, .unset, .unset, .unset, .unset, .unset] [(.int (sel &&& (4 : Int32)))])) _
      refine XS.ifYes X0.here hx rfl (pc0 := 48) (pc' := 56) rfl (hb hby at_48) rfl ((if0 _ _).trans (teq c110).1) (by decide) (by decide) ?_
      show Steps p.tables e below (s₁.setTop (mkF m 56 #[.val (.int xa), .val (.int ya), .val (.int wa), .val (.int ha), .val (.int d), .val (.int sel), .val (.int wA), .val (.int hA), .val (.int i103), .val (.int i107), .unset, .unset, .unset, .unset, .unset, .unset, .unset, .unset, .unset, .unset] [])) _
      refine XS.iload X0.here hx rfl (hb hby at_56) rfl ?_
      show Steps p.tables e below (s₁.setTop (mkF m 58 #[.val (.int xa), .val (.int ya), .val (.int wa), .val (.int ha), .val (.int d), .val (.int sel), .val (.int wA), .val (.int hA), .val (.int i103), .val (.int i107), .unset, .unset, .unset, .unset, .unset, .unset, .unset, .unset, .unset, .unset] [(.int d)])) _
      refine XS.iconst X0.here hx rfl (hb hby at_58) ?_
      show Steps p.tables e below (s₁.setTop (mkF m 59 #[.val (.int xa), .val (.int ya), .val (.int wa), .val (.int ha), .val (.int d), .val (.int sel), .val (.int wA), .val (.int hA), .val (.int i103), .val (.int i107), .unset, .unset, .unset, .unset, .unset, .unset, .unset, .unset, .unset, .unset] [(.int (1 : Int32)), (.int d)])) _
      refine XS.iushr X0.here hx rfl (hb hby at_59) rfl ?_
      show Steps p.tables e below (s₁.setTop (mkF m 60 #[.val (.int xa), .val (.int ya), .val (.int wa), .val (.int ha), .val (.int d), .val (.int sel), .val (.int wA), .val (.int hA), .val (.int i103), .val (.int i107), .unset, .unset, .unset, .unset, .unset, .unset, .unset, .unset, .unset, .unset] [(.int ((d.toUInt32 >>> ((1 : Int32) &&& 31).toUInt32).toInt32))])) _
      exact castTop (by rw [hi111]) k
    · rw [if_neg c110] at hi111
      show Steps p.tables e below (s₁.setTop (mkF m 48 #[.val (.int xa), .val (.int ya), .val (.int wa), .val (.int ha), .val (.int d), .val (.int sel), .val (.int wA), .val (.int hA), .val (.int i103), .val (.int i107), .unset, .unset, .unset, .unset, .unset, .unset, .unset, .unset, .unset, .unset] [(.int (sel &&& (4 : Int32)))])) _
      refine XS.ifNo X0.here hx rfl (hb hby at_48) rfl ((if0 _ _).trans (feq c110).1) ?_
      show Steps p.tables e below (s₁.setTop (mkF m 51 #[.val (.int xa), .val (.int ya), .val (.int wa), .val (.int ha), .val (.int d), .val (.int sel), .val (.int wA), .val (.int hA), .val (.int i103), .val (.int i107), .unset, .unset, .unset, .unset, .unset, .unset, .unset, .unset, .unset, .unset] [])) _
      refine XS.iload X0.here hx rfl (hb hby at_51) rfl ?_
      show Steps p.tables e below (s₁.setTop (mkF m 53 #[.val (.int xa), .val (.int ya), .val (.int wa), .val (.int ha), .val (.int d), .val (.int sel), .val (.int wA), .val (.int hA), .val (.int i103), .val (.int i107), .unset, .unset, .unset, .unset, .unset, .unset, .unset, .unset, .unset, .unset] [(.int wA)])) _
      refine XS.goto X0.here hx rfl (pc0 := 53) (pc' := 60) rfl (hb hby at_53) (by decide) (by decide) ?_
      show Steps p.tables e below (s₁.setTop (mkF m 60 #[.val (.int xa), .val (.int ya), .val (.int wa), .val (.int ha), .val (.int d), .val (.int sel), .val (.int wA), .val (.int hA), .val (.int i103), .val (.int i107), .unset, .unset, .unset, .unset, .unset, .unset, .unset, .unset, .unset, .unset] [(.int wA)])) _
      exact castTop (by rw [hi111]) k)
  have k113 : ∀ t, Steps p.tables e below (s₁.setTop (mkF m 67 #[.val (.int xa), .val (.int ya), .val (.int wa), .val (.int ha), .val (.int d), .val (.int sel), .val (.int wA), .val (.int hA), .val (.int i103), .val (.int i107), .val (.int i111), .unset, .unset, .unset, .unset, .unset, .unset, .unset, .unset, .unset] [(.int (sel &&& (8 : Int32)))])) t → Steps p.tables e below (s₁.setTop (entryFrame m #[(.int xa), (.int ya), (.int wa), (.int ha), (.int d), (.int sel)] maxLocals)) t := fun t k => k112 t (by
    show Steps p.tables e below (s₁.setTop (mkF m 60 #[.val (.int xa), .val (.int ya), .val (.int wa), .val (.int ha), .val (.int d), .val (.int sel), .val (.int wA), .val (.int hA), .val (.int i103), .val (.int i107), .unset, .unset, .unset, .unset, .unset, .unset, .unset, .unset, .unset, .unset] [(.int i111)])) _
    refine XS.istore X0.here hx rfl (hb hby at_60) rfl (l' := #[.val (.int xa), .val (.int ya), .val (.int wa), .val (.int ha), .val (.int d), .val (.int sel), .val (.int wA), .val (.int hA), .val (.int i103), .val (.int i107), .val (.int i111), .unset, .unset, .unset, .unset, .unset, .unset, .unset, .unset, .unset]) rfl ?_
    show Steps p.tables e below (s₁.setTop (mkF m 62 #[.val (.int xa), .val (.int ya), .val (.int wa), .val (.int ha), .val (.int d), .val (.int sel), .val (.int wA), .val (.int hA), .val (.int i103), .val (.int i107), .val (.int i111), .unset, .unset, .unset, .unset, .unset, .unset, .unset, .unset, .unset] [])) _
    refine XS.iload X0.here hx rfl (hb hby at_62) rfl ?_
    show Steps p.tables e below (s₁.setTop (mkF m 64 #[.val (.int xa), .val (.int ya), .val (.int wa), .val (.int ha), .val (.int d), .val (.int sel), .val (.int wA), .val (.int hA), .val (.int i103), .val (.int i107), .val (.int i111), .unset, .unset, .unset, .unset, .unset, .unset, .unset, .unset, .unset] [(.int sel)])) _
    refine XS.bipush X0.here hx rfl (hb hby at_64) ?_
    show Steps p.tables e below (s₁.setTop (mkF m 66 #[.val (.int xa), .val (.int ya), .val (.int wa), .val (.int ha), .val (.int d), .val (.int sel), .val (.int wA), .val (.int hA), .val (.int i103), .val (.int i107), .val (.int i111), .unset, .unset, .unset, .unset, .unset, .unset, .unset, .unset, .unset] [(.int (8 : Int32)), (.int sel)])) _
    refine XS.iand X0.here hx rfl (hb hby at_66) rfl ?_
    exact k)
  obtain ⟨i115, hi115⟩ : ∃ z : Int32, z = (if (sel &&& (8 : Int32)) = (0 : Int32) then (d &&& (2147483647 : Int32)) else hA) := ⟨_, rfl⟩
  have k116 : ∀ t, Steps p.tables e below (s₁.setTop (mkF m 80 #[.val (.int xa), .val (.int ya), .val (.int wa), .val (.int ha), .val (.int d), .val (.int sel), .val (.int wA), .val (.int hA), .val (.int i103), .val (.int i107), .val (.int i111), .unset, .unset, .unset, .unset, .unset, .unset, .unset, .unset, .unset] [(.int i115)])) t → Steps p.tables e below (s₁.setTop (entryFrame m #[(.int xa), (.int ya), (.int wa), (.int ha), (.int d), (.int sel)] maxLocals)) t := fun t k => k113 t (by
    by_cases c114 : (sel &&& (8 : Int32)) = (0 : Int32)
    · rw [if_pos c114] at hi115
      show Steps p.tables e below (s₁.setTop (mkF m 67 #[.val (.int xa), .val (.int ya), .val (.int wa), .val (.int ha), .val (.int d), .val (.int sel), .val (.int wA), .val (.int hA), .val (.int i103), .val (.int i107), .val (.int i111), .unset, .unset, .unset, .unset, .unset, .unset, .unset, .unset, .unset] [(.int (sel &&& (8 : Int32)))])) _
      refine XS.ifYes X0.here hx rfl (pc0 := 67) (pc' := 75) rfl (hb hby at_67) rfl ((if0 _ _).trans (teq c114).1) (by decide) (by decide) ?_
      show Steps p.tables e below (s₁.setTop (mkF m 75 #[.val (.int xa), .val (.int ya), .val (.int wa), .val (.int ha), .val (.int d), .val (.int sel), .val (.int wA), .val (.int hA), .val (.int i103), .val (.int i107), .val (.int i111), .unset, .unset, .unset, .unset, .unset, .unset, .unset, .unset, .unset] [])) _
      refine XS.iload X0.here hx rfl (hb hby at_75) rfl ?_
      show Steps p.tables e below (s₁.setTop (mkF m 77 #[.val (.int xa), .val (.int ya), .val (.int wa), .val (.int ha), .val (.int d), .val (.int sel), .val (.int wA), .val (.int hA), .val (.int i103), .val (.int i107), .val (.int i111), .unset, .unset, .unset, .unset, .unset, .unset, .unset, .unset, .unset] [(.int d)])) _
      refine X0.ldcInt hx hown (mvT hZ (hw _ (List.mem_of_getElem? (i := 0) rfl))) (g := (mkF m 77 #[.val (.int xa), .val (.int ya), .val (.int wa), .val (.int ha), .val (.int d), .val (.int sel), .val (.int wA), .val (.int hA), .val (.int i103), .val (.int i107), .val (.int i111), .unset, .unset, .unset, .unset, .unset, .unset, .unset, .unset, .unset] [(.int d)])) rfl (hb hby at_77) _ ?_
      show Steps p.tables e below (s₁.setTop (mkF m 79 #[.val (.int xa), .val (.int ya), .val (.int wa), .val (.int ha), .val (.int d), .val (.int sel), .val (.int wA), .val (.int hA), .val (.int i103), .val (.int i107), .val (.int i111), .unset, .unset, .unset, .unset, .unset, .unset, .unset, .unset, .unset] [(.int (2147483647 : Int32)), (.int d)])) _
      refine XS.iand X0.here hx rfl (hb hby at_79) rfl ?_
      show Steps p.tables e below (s₁.setTop (mkF m 80 #[.val (.int xa), .val (.int ya), .val (.int wa), .val (.int ha), .val (.int d), .val (.int sel), .val (.int wA), .val (.int hA), .val (.int i103), .val (.int i107), .val (.int i111), .unset, .unset, .unset, .unset, .unset, .unset, .unset, .unset, .unset] [(.int (d &&& (2147483647 : Int32)))])) _
      exact castTop (by rw [hi115]) k
    · rw [if_neg c114] at hi115
      show Steps p.tables e below (s₁.setTop (mkF m 67 #[.val (.int xa), .val (.int ya), .val (.int wa), .val (.int ha), .val (.int d), .val (.int sel), .val (.int wA), .val (.int hA), .val (.int i103), .val (.int i107), .val (.int i111), .unset, .unset, .unset, .unset, .unset, .unset, .unset, .unset, .unset] [(.int (sel &&& (8 : Int32)))])) _
      refine XS.ifNo X0.here hx rfl (hb hby at_67) rfl ((if0 _ _).trans (feq c114).1) ?_
      show Steps p.tables e below (s₁.setTop (mkF m 70 #[.val (.int xa), .val (.int ya), .val (.int wa), .val (.int ha), .val (.int d), .val (.int sel), .val (.int wA), .val (.int hA), .val (.int i103), .val (.int i107), .val (.int i111), .unset, .unset, .unset, .unset, .unset, .unset, .unset, .unset, .unset] [])) _
      refine XS.iload X0.here hx rfl (hb hby at_70) rfl ?_
      show Steps p.tables e below (s₁.setTop (mkF m 72 #[.val (.int xa), .val (.int ya), .val (.int wa), .val (.int ha), .val (.int d), .val (.int sel), .val (.int wA), .val (.int hA), .val (.int i103), .val (.int i107), .val (.int i111), .unset, .unset, .unset, .unset, .unset, .unset, .unset, .unset, .unset] [(.int hA)])) _
      refine XS.goto X0.here hx rfl (pc0 := 72) (pc' := 80) rfl (hb hby at_72) (by decide) (by decide) ?_
      show Steps p.tables e below (s₁.setTop (mkF m 80 #[.val (.int xa), .val (.int ya), .val (.int wa), .val (.int ha), .val (.int d), .val (.int sel), .val (.int wA), .val (.int hA), .val (.int i103), .val (.int i107), .val (.int i111), .unset, .unset, .unset, .unset, .unset, .unset, .unset, .unset, .unset] [(.int hA)])) _
      exact castTop (by rw [hi115]) k)
  have k117 : ∀ t, Steps p.tables e below (s₁.setTop (mkF m 87 #[.val (.int xa), .val (.int ya), .val (.int wa), .val (.int ha), .val (.int d), .val (.int sel), .val (.int wA), .val (.int hA), .val (.int i103), .val (.int i107), .val (.int i111), .val (.int i115), .unset, .unset, .unset, .unset, .unset, .unset, .unset, .unset] [(.int (sel &&& (16 : Int32)))])) t → Steps p.tables e below (s₁.setTop (entryFrame m #[(.int xa), (.int ya), (.int wa), (.int ha), (.int d), (.int sel)] maxLocals)) t := fun t k => k116 t (by
    show Steps p.tables e below (s₁.setTop (mkF m 80 #[.val (.int xa), .val (.int ya), .val (.int wa), .val (.int ha), .val (.int d), .val (.int sel), .val (.int wA), .val (.int hA), .val (.int i103), .val (.int i107), .val (.int i111), .unset, .unset, .unset, .unset, .unset, .unset, .unset, .unset, .unset] [(.int i115)])) _
    refine XS.istore X0.here hx rfl (hb hby at_80) rfl (l' := #[.val (.int xa), .val (.int ya), .val (.int wa), .val (.int ha), .val (.int d), .val (.int sel), .val (.int wA), .val (.int hA), .val (.int i103), .val (.int i107), .val (.int i111), .val (.int i115), .unset, .unset, .unset, .unset, .unset, .unset, .unset, .unset]) rfl ?_
    show Steps p.tables e below (s₁.setTop (mkF m 82 #[.val (.int xa), .val (.int ya), .val (.int wa), .val (.int ha), .val (.int d), .val (.int sel), .val (.int wA), .val (.int hA), .val (.int i103), .val (.int i107), .val (.int i111), .val (.int i115), .unset, .unset, .unset, .unset, .unset, .unset, .unset, .unset] [])) _
    refine XS.iload X0.here hx rfl (hb hby at_82) rfl ?_
    show Steps p.tables e below (s₁.setTop (mkF m 84 #[.val (.int xa), .val (.int ya), .val (.int wa), .val (.int ha), .val (.int d), .val (.int sel), .val (.int wA), .val (.int hA), .val (.int i103), .val (.int i107), .val (.int i111), .val (.int i115), .unset, .unset, .unset, .unset, .unset, .unset, .unset, .unset] [(.int sel)])) _
    refine XS.bipush X0.here hx rfl (hb hby at_84) ?_
    show Steps p.tables e below (s₁.setTop (mkF m 86 #[.val (.int xa), .val (.int ya), .val (.int wa), .val (.int ha), .val (.int d), .val (.int sel), .val (.int wA), .val (.int hA), .val (.int i103), .val (.int i107), .val (.int i111), .val (.int i115), .unset, .unset, .unset, .unset, .unset, .unset, .unset, .unset] [(.int (16 : Int32)), (.int sel)])) _
    refine XS.iand X0.here hx rfl (hb hby at_86) rfl ?_
    exact k)
  obtain ⟨ix, hix⟩ : ∃ z : UInt64, FP.i2d i103 = z := ⟨_, rfl⟩
  have Dix : Dy (i103.toInt) (0) ix := by rw [← hix]; exact Dy.i2d _
  obtain ⟨lx, hlx⟩ : ∃ z : UInt64, FP.l2d (-(i103.toInt64)) = z := ⟨_, rfl⟩
  have Dlx : Dy (-i103.toInt) (0) lx := by rw [← hlx]; exact own_ln i103
  obtain ⟨nx, hnx⟩ : ∃ z : UInt64, FP.dneg lx = z := ⟨_, rfl⟩
  have Dnx : Dy (i103.toInt) (0) nx := by rw [← hnx]; exact own_nn Dlx
  obtain ⟨v119, hv119⟩ : ∃ z : UInt64, z = (if (sel &&& (16 : Int32)) = (0 : Int32) then ix else nx) := ⟨_, rfl⟩
  have k120 : ∀ t, Steps p.tables e below (s₁.setTop (mkF m 102 #[.val (.int xa), .val (.int ya), .val (.int wa), .val (.int ha), .val (.int d), .val (.int sel), .val (.int wA), .val (.int hA), .val (.int i103), .val (.int i107), .val (.int i111), .val (.int i115), .unset, .unset, .unset, .unset, .unset, .unset, .unset, .unset] [(.double v119)])) t → Steps p.tables e below (s₁.setTop (entryFrame m #[(.int xa), (.int ya), (.int wa), (.int ha), (.int d), (.int sel)] maxLocals)) t := fun t k => k117 t (by
    by_cases c118 : (sel &&& (16 : Int32)) = (0 : Int32)
    · rw [if_pos c118] at hv119
      show Steps p.tables e below (s₁.setTop (mkF m 87 #[.val (.int xa), .val (.int ya), .val (.int wa), .val (.int ha), .val (.int d), .val (.int sel), .val (.int wA), .val (.int hA), .val (.int i103), .val (.int i107), .val (.int i111), .val (.int i115), .unset, .unset, .unset, .unset, .unset, .unset, .unset, .unset] [(.int (sel &&& (16 : Int32)))])) _
      refine XS.ifYes X0.here hx rfl (pc0 := 87) (pc' := 99) rfl (hb hby at_87) rfl ((if0 _ _).trans (teq c118).1) (by decide) (by decide) ?_
      show Steps p.tables e below (s₁.setTop (mkF m 99 #[.val (.int xa), .val (.int ya), .val (.int wa), .val (.int ha), .val (.int d), .val (.int sel), .val (.int wA), .val (.int hA), .val (.int i103), .val (.int i107), .val (.int i111), .val (.int i115), .unset, .unset, .unset, .unset, .unset, .unset, .unset, .unset] [])) _
      refine XS.iload X0.here hx rfl (hb hby at_99) rfl ?_
      show Steps p.tables e below (s₁.setTop (mkF m 101 #[.val (.int xa), .val (.int ya), .val (.int wa), .val (.int ha), .val (.int d), .val (.int sel), .val (.int wA), .val (.int hA), .val (.int i103), .val (.int i107), .val (.int i111), .val (.int i115), .unset, .unset, .unset, .unset, .unset, .unset, .unset, .unset] [(.int i103)])) _
      refine XS.i2dS X0.here hx rfl (hb hby at_101) rfl hix ?_
      show Steps p.tables e below (s₁.setTop (mkF m 102 #[.val (.int xa), .val (.int ya), .val (.int wa), .val (.int ha), .val (.int d), .val (.int sel), .val (.int wA), .val (.int hA), .val (.int i103), .val (.int i107), .val (.int i111), .val (.int i115), .unset, .unset, .unset, .unset, .unset, .unset, .unset, .unset] [(.double ix)])) _
      exact castTop (by rw [hv119]) k
    · rw [if_neg c118] at hv119
      show Steps p.tables e below (s₁.setTop (mkF m 87 #[.val (.int xa), .val (.int ya), .val (.int wa), .val (.int ha), .val (.int d), .val (.int sel), .val (.int wA), .val (.int hA), .val (.int i103), .val (.int i107), .val (.int i111), .val (.int i115), .unset, .unset, .unset, .unset, .unset, .unset, .unset, .unset] [(.int (sel &&& (16 : Int32)))])) _
      refine XS.ifNo X0.here hx rfl (hb hby at_87) rfl ((if0 _ _).trans (feq c118).1) ?_
      show Steps p.tables e below (s₁.setTop (mkF m 90 #[.val (.int xa), .val (.int ya), .val (.int wa), .val (.int ha), .val (.int d), .val (.int sel), .val (.int wA), .val (.int hA), .val (.int i103), .val (.int i107), .val (.int i111), .val (.int i115), .unset, .unset, .unset, .unset, .unset, .unset, .unset, .unset] [])) _
      refine XS.iload X0.here hx rfl (hb hby at_90) rfl ?_
      show Steps p.tables e below (s₁.setTop (mkF m 92 #[.val (.int xa), .val (.int ya), .val (.int wa), .val (.int ha), .val (.int d), .val (.int sel), .val (.int wA), .val (.int hA), .val (.int i103), .val (.int i107), .val (.int i111), .val (.int i115), .unset, .unset, .unset, .unset, .unset, .unset, .unset, .unset] [(.int i103)])) _
      refine XS.i2l X0.here hx rfl (hb hby at_92) rfl ?_
      show Steps p.tables e below (s₁.setTop (mkF m 93 #[.val (.int xa), .val (.int ya), .val (.int wa), .val (.int ha), .val (.int d), .val (.int sel), .val (.int wA), .val (.int hA), .val (.int i103), .val (.int i107), .val (.int i111), .val (.int i115), .unset, .unset, .unset, .unset, .unset, .unset, .unset, .unset] [(.long (i103.toInt64))])) _
      refine XS.lneg X0.here hx rfl (hb hby at_93) rfl ?_
      show Steps p.tables e below (s₁.setTop (mkF m 94 #[.val (.int xa), .val (.int ya), .val (.int wa), .val (.int ha), .val (.int d), .val (.int sel), .val (.int wA), .val (.int hA), .val (.int i103), .val (.int i107), .val (.int i111), .val (.int i115), .unset, .unset, .unset, .unset, .unset, .unset, .unset, .unset] [(.long (-(i103.toInt64)))])) _
      refine XS.l2dS X0.here hx rfl (hb hby at_94) rfl hlx ?_
      show Steps p.tables e below (s₁.setTop (mkF m 95 #[.val (.int xa), .val (.int ya), .val (.int wa), .val (.int ha), .val (.int d), .val (.int sel), .val (.int wA), .val (.int hA), .val (.int i103), .val (.int i107), .val (.int i111), .val (.int i115), .unset, .unset, .unset, .unset, .unset, .unset, .unset, .unset] [(.double lx)])) _
      refine XS.dnegS X0.here hx rfl (hb hby at_95) rfl hnx ?_
      show Steps p.tables e below (s₁.setTop (mkF m 96 #[.val (.int xa), .val (.int ya), .val (.int wa), .val (.int ha), .val (.int d), .val (.int sel), .val (.int wA), .val (.int hA), .val (.int i103), .val (.int i107), .val (.int i111), .val (.int i115), .unset, .unset, .unset, .unset, .unset, .unset, .unset, .unset] [(.double nx)])) _
      refine XS.goto X0.here hx rfl (pc0 := 96) (pc' := 102) rfl (hb hby at_96) (by decide) (by decide) ?_
      show Steps p.tables e below (s₁.setTop (mkF m 102 #[.val (.int xa), .val (.int ya), .val (.int wa), .val (.int ha), .val (.int d), .val (.int sel), .val (.int wA), .val (.int hA), .val (.int i103), .val (.int i107), .val (.int i111), .val (.int i115), .unset, .unset, .unset, .unset, .unset, .unset, .unset, .unset] [(.double nx)])) _
      exact castTop (by rw [hv119]) k)
  have k121 : ∀ t, Steps p.tables e below (s₁.setTop (mkF m 109 #[.val (.int xa), .val (.int ya), .val (.int wa), .val (.int ha), .val (.int d), .val (.int sel), .val (.int wA), .val (.int hA), .val (.int i103), .val (.int i107), .val (.int i111), .val (.int i115), .val (.double v119), .second, .unset, .unset, .unset, .unset, .unset, .unset] [(.int (sel &&& (32 : Int32)))])) t → Steps p.tables e below (s₁.setTop (entryFrame m #[(.int xa), (.int ya), (.int wa), (.int ha), (.int d), (.int sel)] maxLocals)) t := fun t k => k120 t (by
    show Steps p.tables e below (s₁.setTop (mkF m 102 #[.val (.int xa), .val (.int ya), .val (.int wa), .val (.int ha), .val (.int d), .val (.int sel), .val (.int wA), .val (.int hA), .val (.int i103), .val (.int i107), .val (.int i111), .val (.int i115), .unset, .unset, .unset, .unset, .unset, .unset, .unset, .unset] [(.double v119)])) _
    refine XS.dstore X0.here hx rfl (hb hby at_102) rfl (l' := #[.val (.int xa), .val (.int ya), .val (.int wa), .val (.int ha), .val (.int d), .val (.int sel), .val (.int wA), .val (.int hA), .val (.int i103), .val (.int i107), .val (.int i111), .val (.int i115), .val (.double v119), .second, .unset, .unset, .unset, .unset, .unset, .unset]) rfl ?_
    show Steps p.tables e below (s₁.setTop (mkF m 104 #[.val (.int xa), .val (.int ya), .val (.int wa), .val (.int ha), .val (.int d), .val (.int sel), .val (.int wA), .val (.int hA), .val (.int i103), .val (.int i107), .val (.int i111), .val (.int i115), .val (.double v119), .second, .unset, .unset, .unset, .unset, .unset, .unset] [])) _
    refine XS.iload X0.here hx rfl (hb hby at_104) rfl ?_
    show Steps p.tables e below (s₁.setTop (mkF m 106 #[.val (.int xa), .val (.int ya), .val (.int wa), .val (.int ha), .val (.int d), .val (.int sel), .val (.int wA), .val (.int hA), .val (.int i103), .val (.int i107), .val (.int i111), .val (.int i115), .val (.double v119), .second, .unset, .unset, .unset, .unset, .unset, .unset] [(.int sel)])) _
    refine XS.bipush X0.here hx rfl (hb hby at_106) ?_
    show Steps p.tables e below (s₁.setTop (mkF m 108 #[.val (.int xa), .val (.int ya), .val (.int wa), .val (.int ha), .val (.int d), .val (.int sel), .val (.int wA), .val (.int hA), .val (.int i103), .val (.int i107), .val (.int i111), .val (.int i115), .val (.double v119), .second, .unset, .unset, .unset, .unset, .unset, .unset] [(.int (32 : Int32)), (.int sel)])) _
    refine XS.iand X0.here hx rfl (hb hby at_108) rfl ?_
    exact k)
  obtain ⟨iy, hiy⟩ : ∃ z : UInt64, FP.i2d i107 = z := ⟨_, rfl⟩
  have Diy : Dy (i107.toInt) (0) iy := by rw [← hiy]; exact Dy.i2d _
  obtain ⟨ly, hly⟩ : ∃ z : UInt64, FP.l2d (-(i107.toInt64)) = z := ⟨_, rfl⟩
  have Dly : Dy (-i107.toInt) (0) ly := by rw [← hly]; exact own_ln i107
  obtain ⟨ny, hny⟩ : ∃ z : UInt64, FP.dneg ly = z := ⟨_, rfl⟩
  have Dny : Dy (i107.toInt) (0) ny := by rw [← hny]; exact own_nn Dly
  obtain ⟨v123, hv123⟩ : ∃ z : UInt64, z = (if (sel &&& (32 : Int32)) = (0 : Int32) then iy else ny) := ⟨_, rfl⟩
  have k124 : ∀ t, Steps p.tables e below (s₁.setTop (mkF m 124 #[.val (.int xa), .val (.int ya), .val (.int wa), .val (.int ha), .val (.int d), .val (.int sel), .val (.int wA), .val (.int hA), .val (.int i103), .val (.int i107), .val (.int i111), .val (.int i115), .val (.double v119), .second, .unset, .unset, .unset, .unset, .unset, .unset] [(.double v123)])) t → Steps p.tables e below (s₁.setTop (entryFrame m #[(.int xa), (.int ya), (.int wa), (.int ha), (.int d), (.int sel)] maxLocals)) t := fun t k => k121 t (by
    by_cases c122 : (sel &&& (32 : Int32)) = (0 : Int32)
    · rw [if_pos c122] at hv123
      show Steps p.tables e below (s₁.setTop (mkF m 109 #[.val (.int xa), .val (.int ya), .val (.int wa), .val (.int ha), .val (.int d), .val (.int sel), .val (.int wA), .val (.int hA), .val (.int i103), .val (.int i107), .val (.int i111), .val (.int i115), .val (.double v119), .second, .unset, .unset, .unset, .unset, .unset, .unset] [(.int (sel &&& (32 : Int32)))])) _
      refine XS.ifYes X0.here hx rfl (pc0 := 109) (pc' := 121) rfl (hb hby at_109) rfl ((if0 _ _).trans (teq c122).1) (by decide) (by decide) ?_
      show Steps p.tables e below (s₁.setTop (mkF m 121 #[.val (.int xa), .val (.int ya), .val (.int wa), .val (.int ha), .val (.int d), .val (.int sel), .val (.int wA), .val (.int hA), .val (.int i103), .val (.int i107), .val (.int i111), .val (.int i115), .val (.double v119), .second, .unset, .unset, .unset, .unset, .unset, .unset] [])) _
      refine XS.iload X0.here hx rfl (hb hby at_121) rfl ?_
      show Steps p.tables e below (s₁.setTop (mkF m 123 #[.val (.int xa), .val (.int ya), .val (.int wa), .val (.int ha), .val (.int d), .val (.int sel), .val (.int wA), .val (.int hA), .val (.int i103), .val (.int i107), .val (.int i111), .val (.int i115), .val (.double v119), .second, .unset, .unset, .unset, .unset, .unset, .unset] [(.int i107)])) _
      refine XS.i2dS X0.here hx rfl (hb hby at_123) rfl hiy ?_
      show Steps p.tables e below (s₁.setTop (mkF m 124 #[.val (.int xa), .val (.int ya), .val (.int wa), .val (.int ha), .val (.int d), .val (.int sel), .val (.int wA), .val (.int hA), .val (.int i103), .val (.int i107), .val (.int i111), .val (.int i115), .val (.double v119), .second, .unset, .unset, .unset, .unset, .unset, .unset] [(.double iy)])) _
      exact castTop (by rw [hv123]) k
    · rw [if_neg c122] at hv123
      show Steps p.tables e below (s₁.setTop (mkF m 109 #[.val (.int xa), .val (.int ya), .val (.int wa), .val (.int ha), .val (.int d), .val (.int sel), .val (.int wA), .val (.int hA), .val (.int i103), .val (.int i107), .val (.int i111), .val (.int i115), .val (.double v119), .second, .unset, .unset, .unset, .unset, .unset, .unset] [(.int (sel &&& (32 : Int32)))])) _
      refine XS.ifNo X0.here hx rfl (hb hby at_109) rfl ((if0 _ _).trans (feq c122).1) ?_
      show Steps p.tables e below (s₁.setTop (mkF m 112 #[.val (.int xa), .val (.int ya), .val (.int wa), .val (.int ha), .val (.int d), .val (.int sel), .val (.int wA), .val (.int hA), .val (.int i103), .val (.int i107), .val (.int i111), .val (.int i115), .val (.double v119), .second, .unset, .unset, .unset, .unset, .unset, .unset] [])) _
      refine XS.iload X0.here hx rfl (hb hby at_112) rfl ?_
      show Steps p.tables e below (s₁.setTop (mkF m 114 #[.val (.int xa), .val (.int ya), .val (.int wa), .val (.int ha), .val (.int d), .val (.int sel), .val (.int wA), .val (.int hA), .val (.int i103), .val (.int i107), .val (.int i111), .val (.int i115), .val (.double v119), .second, .unset, .unset, .unset, .unset, .unset, .unset] [(.int i107)])) _
      refine XS.i2l X0.here hx rfl (hb hby at_114) rfl ?_
      show Steps p.tables e below (s₁.setTop (mkF m 115 #[.val (.int xa), .val (.int ya), .val (.int wa), .val (.int ha), .val (.int d), .val (.int sel), .val (.int wA), .val (.int hA), .val (.int i103), .val (.int i107), .val (.int i111), .val (.int i115), .val (.double v119), .second, .unset, .unset, .unset, .unset, .unset, .unset] [(.long (i107.toInt64))])) _
      refine XS.lneg X0.here hx rfl (hb hby at_115) rfl ?_
      show Steps p.tables e below (s₁.setTop (mkF m 116 #[.val (.int xa), .val (.int ya), .val (.int wa), .val (.int ha), .val (.int d), .val (.int sel), .val (.int wA), .val (.int hA), .val (.int i103), .val (.int i107), .val (.int i111), .val (.int i115), .val (.double v119), .second, .unset, .unset, .unset, .unset, .unset, .unset] [(.long (-(i107.toInt64)))])) _
      refine XS.l2dS X0.here hx rfl (hb hby at_116) rfl hly ?_
      show Steps p.tables e below (s₁.setTop (mkF m 117 #[.val (.int xa), .val (.int ya), .val (.int wa), .val (.int ha), .val (.int d), .val (.int sel), .val (.int wA), .val (.int hA), .val (.int i103), .val (.int i107), .val (.int i111), .val (.int i115), .val (.double v119), .second, .unset, .unset, .unset, .unset, .unset, .unset] [(.double ly)])) _
      refine XS.dnegS X0.here hx rfl (hb hby at_117) rfl hny ?_
      show Steps p.tables e below (s₁.setTop (mkF m 118 #[.val (.int xa), .val (.int ya), .val (.int wa), .val (.int ha), .val (.int d), .val (.int sel), .val (.int wA), .val (.int hA), .val (.int i103), .val (.int i107), .val (.int i111), .val (.int i115), .val (.double v119), .second, .unset, .unset, .unset, .unset, .unset, .unset] [(.double ny)])) _
      refine XS.goto X0.here hx rfl (pc0 := 118) (pc' := 124) rfl (hb hby at_118) (by decide) (by decide) ?_
      show Steps p.tables e below (s₁.setTop (mkF m 124 #[.val (.int xa), .val (.int ya), .val (.int wa), .val (.int ha), .val (.int d), .val (.int sel), .val (.int wA), .val (.int hA), .val (.int i103), .val (.int i107), .val (.int i111), .val (.int i115), .val (.double v119), .second, .unset, .unset, .unset, .unset, .unset, .unset] [(.double ny)])) _
      exact castTop (by rw [hv123]) k)
  have Dbx : Dy i103.toInt 0 v119 := by rw [hv119]; split <;> assumption
  have Dby : Dy i107.toInt 0 v123 := by rw [hv123]; split <;> assumption
  have BwA : 0 ≤ wA.toInt := by rw [hwA]; exact (c_and wa 2147483647 (by decide)).1
  have BhA : 0 ≤ hA.toInt := by rw [hhA]; exact (c_and ha 2147483647 (by decide)).1
  have BwB : 0 ≤ i111.toInt := by rw [hi111]; split <;> first | exact BwA | exact own_ushr d
  have BhB : 0 ≤ i115.toInt := by rw [hi115]; split <;> first | exact BhA | exact (c_and d 2147483647 (by decide)).1
  have k125 : ∀ t, Steps p.tables e below (s₁.setTop (mkF m 126 #[.val (.int xa), .val (.int ya), .val (.int wa), .val (.int ha), .val (.int d), .val (.int sel), .val (.int wA), .val (.int hA), .val (.int i103), .val (.int i107), .val (.int i111), .val (.int i115), .val (.double v119), .second, .val (.double v123), .second, .unset, .unset, .unset, .unset] [])) t → Steps p.tables e below (s₁.setTop (entryFrame m #[(.int xa), (.int ya), (.int wa), (.int ha), (.int d), (.int sel)] maxLocals)) t := fun t k => k124 t (by
    show Steps p.tables e below (s₁.setTop (mkF m 124 #[.val (.int xa), .val (.int ya), .val (.int wa), .val (.int ha), .val (.int d), .val (.int sel), .val (.int wA), .val (.int hA), .val (.int i103), .val (.int i107), .val (.int i111), .val (.int i115), .val (.double v119), .second, .unset, .unset, .unset, .unset, .unset, .unset] [(.double v123)])) _
    refine XS.dstore X0.here hx rfl (hb hby at_124) rfl (l' := #[.val (.int xa), .val (.int ya), .val (.int wa), .val (.int ha), .val (.int d), .val (.int sel), .val (.int wA), .val (.int hA), .val (.int i103), .val (.int i107), .val (.int i111), .val (.int i115), .val (.double v119), .second, .val (.double v123), .second, .unset, .unset, .unset, .unset]) rfl ?_
    exact k)
  obtain ⟨T126, h126, X126, e126, E126, A126, D126, -, st126⟩ := newO X0 hx hZ hown (hw _ (List.mem_of_getElem? (i := 1) rfl)) (hw _ (List.mem_of_getElem? (i := 2) rfl)) (hw _ (List.mem_of_getElem? (i := 3) rfl)) e0 (g := (mkF m 126 #[.val (.int xa), .val (.int ya), .val (.int wa), .val (.int ha), .val (.int d), .val (.int sel), .val (.int wA), .val (.int hA), .val (.int i103), .val (.int i107), .val (.int i111), .val (.int i115), .val (.double v119), .second, .val (.double v123), .second, .unset, .unset, .unset, .unset] [])) rfl (hb hby at_126) (by decide) (by decide)
  obtain ⟨b126, g126⟩ : ∃ z, z = h0.size := ⟨_, rfl⟩
  rw [← g126] at A126 D126 st126
  have g127 : n0 ≤ b126 := Nat.le_trans Z0 (Nat.le_of_eq g126.symm)
  have F128 := O0.ext E126
  have Z129 : n0 ≤ h126.size := Nat.le_trans Z0 E126.1
  have F130 : Fld Z h126 b126 "com/example/hoja/hoja/model/Box" "x" "D" (.double (0 : UInt64)) := D126 (Or.inr (hw _ (List.mem_of_getElem? (i := 23) rfl))) (ty := .double) (by decide)
  have F131 : Fld Z h126 b126 "com/example/hoja/hoja/model/Box" "y" "D" (.double (0 : UInt64)) := D126 (Or.inr (hw _ (List.mem_of_getElem? (i := 25) rfl))) (ty := .double) (by decide)
  have F132 : Fld Z h126 b126 "com/example/hoja/hoja/model/Box" "right" "D" (.double (0 : UInt64)) := D126 (Or.inr (hw _ (List.mem_of_getElem? (i := 27) rfl))) (ty := .double) (by decide)
  have F133 : Fld Z h126 b126 "com/example/hoja/hoja/model/Box" "bottom" "D" (.double (0 : UInt64)) := D126 (Or.inr (hw _ (List.mem_of_getElem? (i := 29) rfl))) (ty := .double) (by decide)
  have k134 : ∀ t, Steps p.tables e below (T126.setTop (mkF m 129 #[.val (.int xa), .val (.int ya), .val (.int wa), .val (.int ha), .val (.int d), .val (.int sel), .val (.int wA), .val (.int hA), .val (.int i103), .val (.int i107), .val (.int i111), .val (.int i115), .val (.double v119), .second, .val (.double v123), .second, .unset, .unset, .unset, .unset] [(.ref b126)])) t → Steps p.tables e below (s₁.setTop (entryFrame m #[(.int xa), (.int ya), (.int wa), (.int ha), (.int d), (.int sel)] maxLocals)) t := fun t k => k125 t (st126 t k)
  obtain ⟨v0, hv0⟩ : ∃ z : UInt64, FP.i2d xa = z := ⟨_, rfl⟩
  have Dv0 : Dy (xa.toInt) (0) v0 := by rw [← hv0]; exact Dy.i2d _
  obtain ⟨v1, hv1⟩ : ∃ z : UInt64, FP.i2d ya = z := ⟨_, rfl⟩
  have Dv1 : Dy (ya.toInt) (0) v1 := by rw [← hv1]; exact Dy.i2d _
  obtain ⟨v2, hv2⟩ : ∃ z : UInt64, FP.i2d wA = z := ⟨_, rfl⟩
  have Dv2 : Dy (wA.toInt) (0) v2 := by rw [← hv2]; exact Dy.i2d _
  obtain ⟨v3, hv3⟩ : ∃ z : UInt64, FP.i2d hA = z := ⟨_, rfl⟩
  have Dv3 : Dy (hA.toInt) (0) v3 := by rw [← hv3]; exact Dy.i2d _
  have Ds1q135 : Dy (xa.toInt + wA.toInt) 0 (FP.dadd v0 v2) := Dy.add Dv0 Dv2 (by have := rng32 xa; have := rng32 ya; have := rng32 wA; have := rng32 hA; have := rng32 i103; have := rng32 i107; have := rng32 i111; have := rng32 i115; omega) (by decide)
  have Ds2q135 : Dy (ya.toInt + hA.toInt) 0 (FP.dadd v1 v3) := Dy.add Dv1 Dv3 (by have := rng32 xa; have := rng32 ya; have := rng32 wA; have := rng32 hA; have := rng32 i103; have := rng32 i107; have := rng32 i111; have := rng32 i115; omega) (by decide)
  have k136 : ∀ t, Steps p.tables e below (T126.setTop (mkF m 140 #[.val (.int xa), .val (.int ya), .val (.int wa), .val (.int ha), .val (.int d), .val (.int sel), .val (.int wA), .val (.int hA), .val (.int i103), .val (.int i107), .val (.int i111), .val (.int i115), .val (.double v119), .second, .val (.double v123), .second, .unset, .unset, .unset, .unset] [(.double v3), (.double v2), (.double v1), (.double v0), (.ref b126), (.ref b126)])) t → Steps p.tables e below (s₁.setTop (entryFrame m #[(.int xa), (.int ya), (.int wa), (.int ha), (.int d), (.int sel)] maxLocals)) t := fun t k => k134 t (by
    show Steps p.tables e below (T126.setTop (mkF m 129 #[.val (.int xa), .val (.int ya), .val (.int wa), .val (.int ha), .val (.int d), .val (.int sel), .val (.int wA), .val (.int hA), .val (.int i103), .val (.int i107), .val (.int i111), .val (.int i115), .val (.double v119), .second, .val (.double v123), .second, .unset, .unset, .unset, .unset] [(.ref b126)])) _
    refine XS.dup X126.here hx rfl (hb hby at_129) rfl rfl ?_
    show Steps p.tables e below (T126.setTop (mkF m 130 #[.val (.int xa), .val (.int ya), .val (.int wa), .val (.int ha), .val (.int d), .val (.int sel), .val (.int wA), .val (.int hA), .val (.int i103), .val (.int i107), .val (.int i111), .val (.int i115), .val (.double v119), .second, .val (.double v123), .second, .unset, .unset, .unset, .unset] [(.ref b126), (.ref b126)])) _
    refine XS.iloadN X126.here hx rfl (hb hby at_130) rfl ?_
    show Steps p.tables e below (T126.setTop (mkF m 131 #[.val (.int xa), .val (.int ya), .val (.int wa), .val (.int ha), .val (.int d), .val (.int sel), .val (.int wA), .val (.int hA), .val (.int i103), .val (.int i107), .val (.int i111), .val (.int i115), .val (.double v119), .second, .val (.double v123), .second, .unset, .unset, .unset, .unset] [(.int xa), (.ref b126), (.ref b126)])) _
    refine XS.i2dS X126.here hx rfl (hb hby at_131) rfl hv0 ?_
    show Steps p.tables e below (T126.setTop (mkF m 132 #[.val (.int xa), .val (.int ya), .val (.int wa), .val (.int ha), .val (.int d), .val (.int sel), .val (.int wA), .val (.int hA), .val (.int i103), .val (.int i107), .val (.int i111), .val (.int i115), .val (.double v119), .second, .val (.double v123), .second, .unset, .unset, .unset, .unset] [(.double v0), (.ref b126), (.ref b126)])) _
    refine XS.iloadN X126.here hx rfl (hb hby at_132) rfl ?_
    show Steps p.tables e below (T126.setTop (mkF m 133 #[.val (.int xa), .val (.int ya), .val (.int wa), .val (.int ha), .val (.int d), .val (.int sel), .val (.int wA), .val (.int hA), .val (.int i103), .val (.int i107), .val (.int i111), .val (.int i115), .val (.double v119), .second, .val (.double v123), .second, .unset, .unset, .unset, .unset] [(.int ya), (.double v0), (.ref b126), (.ref b126)])) _
    refine XS.i2dS X126.here hx rfl (hb hby at_133) rfl hv1 ?_
    show Steps p.tables e below (T126.setTop (mkF m 134 #[.val (.int xa), .val (.int ya), .val (.int wa), .val (.int ha), .val (.int d), .val (.int sel), .val (.int wA), .val (.int hA), .val (.int i103), .val (.int i107), .val (.int i111), .val (.int i115), .val (.double v119), .second, .val (.double v123), .second, .unset, .unset, .unset, .unset] [(.double v1), (.double v0), (.ref b126), (.ref b126)])) _
    refine XS.iload X126.here hx rfl (hb hby at_134) rfl ?_
    show Steps p.tables e below (T126.setTop (mkF m 136 #[.val (.int xa), .val (.int ya), .val (.int wa), .val (.int ha), .val (.int d), .val (.int sel), .val (.int wA), .val (.int hA), .val (.int i103), .val (.int i107), .val (.int i111), .val (.int i115), .val (.double v119), .second, .val (.double v123), .second, .unset, .unset, .unset, .unset] [(.int wA), (.double v1), (.double v0), (.ref b126), (.ref b126)])) _
    refine XS.i2dS X126.here hx rfl (hb hby at_136) rfl hv2 ?_
    show Steps p.tables e below (T126.setTop (mkF m 137 #[.val (.int xa), .val (.int ya), .val (.int wa), .val (.int ha), .val (.int d), .val (.int sel), .val (.int wA), .val (.int hA), .val (.int i103), .val (.int i107), .val (.int i111), .val (.int i115), .val (.double v119), .second, .val (.double v123), .second, .unset, .unset, .unset, .unset] [(.double v2), (.double v1), (.double v0), (.ref b126), (.ref b126)])) _
    refine XS.iload X126.here hx rfl (hb hby at_137) rfl ?_
    show Steps p.tables e below (T126.setTop (mkF m 139 #[.val (.int xa), .val (.int ya), .val (.int wa), .val (.int ha), .val (.int d), .val (.int sel), .val (.int wA), .val (.int hA), .val (.int i103), .val (.int i107), .val (.int i111), .val (.int i115), .val (.double v119), .second, .val (.double v123), .second, .unset, .unset, .unset, .unset] [(.int hA), (.double v2), (.double v1), (.double v0), (.ref b126), (.ref b126)])) _
    refine XS.i2dS X126.here hx rfl (hb hby at_139) rfl hv3 ?_
    exact k)
  obtain ⟨_, _, ⟨T137, L137, k137, n137⟩, -, X137, ⟨Lc137, hQ137, l137, y137, z137⟩, st137⟩ := X126.specialBack hx (y := (⟨"com/example/hoja/hoja/model/Box", "<init>", "(DDDD)V"⟩ : MethodName)) rfl hown (mvT hZ (hw _ (List.mem_of_getElem? (i := 4) rfl))) (mvT hZ (hw _ (List.mem_of_getElem? (i := 5) rfl))) (mvT hZ (hw _ (List.mem_of_getElem? (i := 6) rfl))) (by decide) (backOf (W := 1) (rm1 l Z a0 hw [] b126 v0 v1 v2 v3 h126 n0 Z129 F130 F131 F132 F133 A126 g127 (Dv2.ge (dy0 0) BwA .l) (Dv3.ge (dy0 0) BhA .l) Ds1q135.fin Ds2q135.fin Dv2.fin Dv3.fin) hZ (hw _ (List.mem_of_getElem? (i := 6) rfl)) (hw _ (List.mem_of_getElem? (i := 3) rfl)) (by decide) (by decide)) (g := (mkF m 140 #[.val (.int xa), .val (.int ya), .val (.int wa), .val (.int ha), .val (.int d), .val (.int sel), .val (.int wA), .val (.int hA), .val (.int i103), .val (.int i107), .val (.int i111), .val (.int i115), .val (.double v119), .second, .val (.double v123), .second, .unset, .unset, .unset, .unset] [(.double v3), (.double v2), (.double v1), (.double v0), (.ref b126), (.ref b126)])) rfl (by rw [hml]; rfl) (Steps.refl _) (a := b126) (argsL := [(.double v0), (.double v1), (.double v2), (.double v3)]) (rest := [(.ref b126)]) (lenOf pd__28DDDD_29V rfl) rfl (by show 2 * 0 + _ ≤ _; exact Nat.le_of_eq rfl) (hb hby at_140) (fun _ _ => ⟨rfl, e126, (by decide : 1 + 0 ≤ _), (by decide : 4 + 0 ≤ _)⟩)
  dsimp only [Pt.U, Pt.locs, Pt.cells, Pt.slots] at X137 l137 y137 z137 st137 hQ137
  subst l137 y137 z137
  obtain ⟨h137, e137⟩ : ∃ h', T137.heap = h' := ⟨_, rfl⟩
  rw [e137] at hQ137
  obtain ⟨rfl, N137q, K137, G137e, G1370, G1371, G1372, G1373⟩ := hQ137
  have N138 := Fr.app N0 N137q
  have k139 : ∀ t, Steps p.tables e below (T137.setTop (mkF m 143 #[.val (.int xa), .val (.int ya), .val (.int wa), .val (.int ha), .val (.int d), .val (.int sel), .val (.int wA), .val (.int hA), .val (.int i103), .val (.int i107), .val (.int i111), .val (.int i115), .val (.double v119), .second, .val (.double v123), .second, .unset, .unset, .unset, .unset] [(.ref b126)])) t → Steps p.tables e below (s₁.setTop (entryFrame m #[(.int xa), (.int ya), (.int wa), (.int ha), (.int d), (.int sel)] maxLocals)) t := fun t k => k136 t (st137.trans k)
  have F140 := F128.keep K137 (allS g127 all0)
  have F141 := A126.keep K137
  have Z142 : n0 ≤ h137.size := Nat.le_trans Z129 K137.1
  have k143 : ∀ t, Steps p.tables e below (T137.setTop (mkF m 145 #[.val (.int xa), .val (.int ya), .val (.int wa), .val (.int ha), .val (.int d), .val (.int sel), .val (.int wA), .val (.int hA), .val (.int i103), .val (.int i107), .val (.int i111), .val (.int i115), .val (.double v119), .second, .val (.double v123), .second, .val (.ref b126), .unset, .unset, .unset] [])) t → Steps p.tables e below (s₁.setTop (entryFrame m #[(.int xa), (.int ya), (.int wa), (.int ha), (.int d), (.int sel)] maxLocals)) t := fun t k => k139 t (by
    show Steps p.tables e below (T137.setTop (mkF m 143 #[.val (.int xa), .val (.int ya), .val (.int wa), .val (.int ha), .val (.int d), .val (.int sel), .val (.int wA), .val (.int hA), .val (.int i103), .val (.int i107), .val (.int i111), .val (.int i115), .val (.double v119), .second, .val (.double v123), .second, .unset, .unset, .unset, .unset] [(.ref b126)])) _
    refine XS.astore X137.here hx rfl (hb hby at_143) rfl rfl (l' := #[.val (.int xa), .val (.int ya), .val (.int wa), .val (.int ha), .val (.int d), .val (.int sel), .val (.int wA), .val (.int hA), .val (.int i103), .val (.int i107), .val (.int i111), .val (.int i115), .val (.double v119), .second, .val (.double v123), .second, .val (.ref b126), .unset, .unset, .unset]) rfl ?_
    exact k)
  obtain ⟨T144, h144, X144, e144, E144, A144, D144, -, st144⟩ := newO X137 hx hZ hown (hw _ (List.mem_of_getElem? (i := 1) rfl)) (hw _ (List.mem_of_getElem? (i := 2) rfl)) (hw _ (List.mem_of_getElem? (i := 3) rfl)) e137 (g := (mkF m 145 #[.val (.int xa), .val (.int ya), .val (.int wa), .val (.int ha), .val (.int d), .val (.int sel), .val (.int wA), .val (.int hA), .val (.int i103), .val (.int i107), .val (.int i111), .val (.int i115), .val (.double v119), .second, .val (.double v123), .second, .val (.ref b126), .unset, .unset, .unset] [])) rfl (hb hby at_145) (by decide) (by decide)
  obtain ⟨b144, g144⟩ : ∃ z, z = h137.size := ⟨_, rfl⟩
  rw [← g144] at A144 D144 st144
  have n145 : b126 ≠ b144 := Nat.ne_of_lt (Nat.lt_of_lt_of_le G137e.lt (Nat.le_of_eq g144.symm))
  have g146 : n0 ≤ b144 := Nat.le_trans Z142 (Nat.le_of_eq g144.symm)
  have F147 := F140.ext E144
  have F148 := G137e.ext E144
  have F149 := G1370.ext E144
  have F150 := G1371.ext E144
  have F151 := G1372.ext E144
  have F152 := G1373.ext E144
  have Z153 : n0 ≤ h144.size := Nat.le_trans Z142 E144.1
  have F154 : Fld Z h144 b144 "com/example/hoja/hoja/model/Box" "x" "D" (.double (0 : UInt64)) := D144 (Or.inr (hw _ (List.mem_of_getElem? (i := 23) rfl))) (ty := .double) (by decide)
  have F155 : Fld Z h144 b144 "com/example/hoja/hoja/model/Box" "y" "D" (.double (0 : UInt64)) := D144 (Or.inr (hw _ (List.mem_of_getElem? (i := 25) rfl))) (ty := .double) (by decide)
  have F156 : Fld Z h144 b144 "com/example/hoja/hoja/model/Box" "right" "D" (.double (0 : UInt64)) := D144 (Or.inr (hw _ (List.mem_of_getElem? (i := 27) rfl))) (ty := .double) (by decide)
  have F157 : Fld Z h144 b144 "com/example/hoja/hoja/model/Box" "bottom" "D" (.double (0 : UInt64)) := D144 (Or.inr (hw _ (List.mem_of_getElem? (i := 29) rfl))) (ty := .double) (by decide)
  have k158 : ∀ t, Steps p.tables e below (T144.setTop (mkF m 148 #[.val (.int xa), .val (.int ya), .val (.int wa), .val (.int ha), .val (.int d), .val (.int sel), .val (.int wA), .val (.int hA), .val (.int i103), .val (.int i107), .val (.int i111), .val (.int i115), .val (.double v119), .second, .val (.double v123), .second, .val (.ref b126), .unset, .unset, .unset] [(.ref b144)])) t → Steps p.tables e below (s₁.setTop (entryFrame m #[(.int xa), (.int ya), (.int wa), (.int ha), (.int d), (.int sel)] maxLocals)) t := fun t k => k143 t (st144 t k)
  obtain ⟨b2, hb2⟩ : ∃ z : UInt64, FP.i2d i111 = z := ⟨_, rfl⟩
  have Db2 : Dy (i111.toInt) (0) b2 := by rw [← hb2]; exact Dy.i2d _
  obtain ⟨b3, hb3⟩ : ∃ z : UInt64, FP.i2d i115 = z := ⟨_, rfl⟩
  have Db3 : Dy (i115.toInt) (0) b3 := by rw [← hb3]; exact Dy.i2d _
  have Ds1q159 : Dy (i103.toInt + i111.toInt) 0 (FP.dadd v119 b2) := Dy.add Dbx Db2 (by have := rng32 xa; have := rng32 ya; have := rng32 wA; have := rng32 hA; have := rng32 i103; have := rng32 i107; have := rng32 i111; have := rng32 i115; omega) (by decide)
  have Ds2q159 : Dy (i107.toInt + i115.toInt) 0 (FP.dadd v123 b3) := Dy.add Dby Db3 (by have := rng32 xa; have := rng32 ya; have := rng32 wA; have := rng32 hA; have := rng32 i103; have := rng32 i107; have := rng32 i111; have := rng32 i115; omega) (by decide)
  have k160 : ∀ t, Steps p.tables e below (T144.setTop (mkF m 159 #[.val (.int xa), .val (.int ya), .val (.int wa), .val (.int ha), .val (.int d), .val (.int sel), .val (.int wA), .val (.int hA), .val (.int i103), .val (.int i107), .val (.int i111), .val (.int i115), .val (.double v119), .second, .val (.double v123), .second, .val (.ref b126), .unset, .unset, .unset] [(.double b3), (.double b2), (.double v123), (.double v119), (.ref b144), (.ref b144)])) t → Steps p.tables e below (s₁.setTop (entryFrame m #[(.int xa), (.int ya), (.int wa), (.int ha), (.int d), (.int sel)] maxLocals)) t := fun t k => k158 t (by
    show Steps p.tables e below (T144.setTop (mkF m 148 #[.val (.int xa), .val (.int ya), .val (.int wa), .val (.int ha), .val (.int d), .val (.int sel), .val (.int wA), .val (.int hA), .val (.int i103), .val (.int i107), .val (.int i111), .val (.int i115), .val (.double v119), .second, .val (.double v123), .second, .val (.ref b126), .unset, .unset, .unset] [(.ref b144)])) _
    refine XS.dup X144.here hx rfl (hb hby at_148) rfl rfl ?_
    show Steps p.tables e below (T144.setTop (mkF m 149 #[.val (.int xa), .val (.int ya), .val (.int wa), .val (.int ha), .val (.int d), .val (.int sel), .val (.int wA), .val (.int hA), .val (.int i103), .val (.int i107), .val (.int i111), .val (.int i115), .val (.double v119), .second, .val (.double v123), .second, .val (.ref b126), .unset, .unset, .unset] [(.ref b144), (.ref b144)])) _
    refine XS.dload X144.here hx rfl (hb hby at_149) rfl ?_
    show Steps p.tables e below (T144.setTop (mkF m 151 #[.val (.int xa), .val (.int ya), .val (.int wa), .val (.int ha), .val (.int d), .val (.int sel), .val (.int wA), .val (.int hA), .val (.int i103), .val (.int i107), .val (.int i111), .val (.int i115), .val (.double v119), .second, .val (.double v123), .second, .val (.ref b126), .unset, .unset, .unset] [(.double v119), (.ref b144), (.ref b144)])) _
    refine XS.dload X144.here hx rfl (hb hby at_151) rfl ?_
    show Steps p.tables e below (T144.setTop (mkF m 153 #[.val (.int xa), .val (.int ya), .val (.int wa), .val (.int ha), .val (.int d), .val (.int sel), .val (.int wA), .val (.int hA), .val (.int i103), .val (.int i107), .val (.int i111), .val (.int i115), .val (.double v119), .second, .val (.double v123), .second, .val (.ref b126), .unset, .unset, .unset] [(.double v123), (.double v119), (.ref b144), (.ref b144)])) _
    refine XS.iload X144.here hx rfl (hb hby at_153) rfl ?_
    show Steps p.tables e below (T144.setTop (mkF m 155 #[.val (.int xa), .val (.int ya), .val (.int wa), .val (.int ha), .val (.int d), .val (.int sel), .val (.int wA), .val (.int hA), .val (.int i103), .val (.int i107), .val (.int i111), .val (.int i115), .val (.double v119), .second, .val (.double v123), .second, .val (.ref b126), .unset, .unset, .unset] [(.int i111), (.double v123), (.double v119), (.ref b144), (.ref b144)])) _
    refine XS.i2dS X144.here hx rfl (hb hby at_155) rfl hb2 ?_
    show Steps p.tables e below (T144.setTop (mkF m 156 #[.val (.int xa), .val (.int ya), .val (.int wa), .val (.int ha), .val (.int d), .val (.int sel), .val (.int wA), .val (.int hA), .val (.int i103), .val (.int i107), .val (.int i111), .val (.int i115), .val (.double v119), .second, .val (.double v123), .second, .val (.ref b126), .unset, .unset, .unset] [(.double b2), (.double v123), (.double v119), (.ref b144), (.ref b144)])) _
    refine XS.iload X144.here hx rfl (hb hby at_156) rfl ?_
    show Steps p.tables e below (T144.setTop (mkF m 158 #[.val (.int xa), .val (.int ya), .val (.int wa), .val (.int ha), .val (.int d), .val (.int sel), .val (.int wA), .val (.int hA), .val (.int i103), .val (.int i107), .val (.int i111), .val (.int i115), .val (.double v119), .second, .val (.double v123), .second, .val (.ref b126), .unset, .unset, .unset] [(.int i115), (.double b2), (.double v123), (.double v119), (.ref b144), (.ref b144)])) _
    refine XS.i2dS X144.here hx rfl (hb hby at_158) rfl hb3 ?_
    exact k)
  obtain ⟨_, _, ⟨T161, L161, k161, n161⟩, -, X161, ⟨Lc161, hQ161, l161, y161, z161⟩, st161⟩ := X144.specialBack hx (y := (⟨"com/example/hoja/hoja/model/Box", "<init>", "(DDDD)V"⟩ : MethodName)) rfl hown (mvT hZ (hw _ (List.mem_of_getElem? (i := 4) rfl))) (mvT hZ (hw _ (List.mem_of_getElem? (i := 5) rfl))) (mvT hZ (hw _ (List.mem_of_getElem? (i := 6) rfl))) (by decide) (backOf (W := 1) (rm1 l Z a0 hw [] b144 v119 v123 b2 b3 h144 n0 Z153 F154 F155 F156 F157 A144 g146 (Db2.ge (dy0 0) BwB .l) (Db3.ge (dy0 0) BhB .l) Ds1q159.fin Ds2q159.fin Db2.fin Db3.fin) hZ (hw _ (List.mem_of_getElem? (i := 6) rfl)) (hw _ (List.mem_of_getElem? (i := 3) rfl)) (by decide) (by decide)) (g := (mkF m 159 #[.val (.int xa), .val (.int ya), .val (.int wa), .val (.int ha), .val (.int d), .val (.int sel), .val (.int wA), .val (.int hA), .val (.int i103), .val (.int i107), .val (.int i111), .val (.int i115), .val (.double v119), .second, .val (.double v123), .second, .val (.ref b126), .unset, .unset, .unset] [(.double b3), (.double b2), (.double v123), (.double v119), (.ref b144), (.ref b144)])) rfl (by rw [hml]; rfl) (Steps.refl _) (a := b144) (argsL := [(.double v119), (.double v123), (.double b2), (.double b3)]) (rest := [(.ref b144)]) (lenOf pd__28DDDD_29V rfl) rfl (by show 2 * 0 + _ ≤ _; exact Nat.le_of_eq rfl) (hb hby at_159) (fun _ _ => ⟨rfl, e144, (by decide : 2 + 0 ≤ _), (by decide : 8 + 0 ≤ _)⟩)
  dsimp only [Pt.U, Pt.locs, Pt.cells, Pt.slots] at X161 l161 y161 z161 st161 hQ161
  subst l161 y161 z161
  obtain ⟨h161, e161⟩ : ∃ h', T161.heap = h' := ⟨_, rfl⟩
  rw [e161] at hQ161
  obtain ⟨rfl, N161q, K161, G161e, G1610, G1611, G1612, G1613⟩ := hQ161
  have N162 := Fr.app N138 N161q
  have k163 : ∀ t, Steps p.tables e below (T161.setTop (mkF m 162 #[.val (.int xa), .val (.int ya), .val (.int wa), .val (.int ha), .val (.int d), .val (.int sel), .val (.int wA), .val (.int hA), .val (.int i103), .val (.int i107), .val (.int i111), .val (.int i115), .val (.double v119), .second, .val (.double v123), .second, .val (.ref b126), .unset, .unset, .unset] [(.ref b144)])) t → Steps p.tables e below (s₁.setTop (entryFrame m #[(.int xa), (.int ya), (.int wa), (.int ha), (.int d), (.int sel)] maxLocals)) t := fun t k => k160 t (st161.trans k)
  have F164 := F147.keep K161 (allS g146 all0)
  have F165 := F148.keep K161
  have F166 := F149.keep K161 (ninS n145 nin0)
  have F167 := F150.keep K161 (ninS n145 nin0)
  have F168 := F151.keep K161 (ninS n145 nin0)
  have F169 := F152.keep K161 (ninS n145 nin0)
  have F170 := A144.keep K161
  have Z171 : n0 ≤ h161.size := Nat.le_trans Z153 K161.1
  have k172 : ∀ t, Steps p.tables e below (T161.setTop (mkF m 167 #[.val (.int xa), .val (.int ya), .val (.int wa), .val (.int ha), .val (.int d), .val (.int sel), .val (.int wA), .val (.int hA), .val (.int i103), .val (.int i107), .val (.int i111), .val (.int i115), .val (.double v119), .second, .val (.double v123), .second, .val (.ref b126), .val (.ref b144), .unset, .unset] [(.int i103), (.int xa)])) t → Steps p.tables e below (s₁.setTop (entryFrame m #[(.int xa), (.int ya), (.int wa), (.int ha), (.int d), (.int sel)] maxLocals)) t := fun t k => k163 t (by
    show Steps p.tables e below (T161.setTop (mkF m 162 #[.val (.int xa), .val (.int ya), .val (.int wa), .val (.int ha), .val (.int d), .val (.int sel), .val (.int wA), .val (.int hA), .val (.int i103), .val (.int i107), .val (.int i111), .val (.int i115), .val (.double v119), .second, .val (.double v123), .second, .val (.ref b126), .unset, .unset, .unset] [(.ref b144)])) _
    refine XS.astore X161.here hx rfl (hb hby at_162) rfl rfl (l' := #[.val (.int xa), .val (.int ya), .val (.int wa), .val (.int ha), .val (.int d), .val (.int sel), .val (.int wA), .val (.int hA), .val (.int i103), .val (.int i107), .val (.int i111), .val (.int i115), .val (.double v119), .second, .val (.double v123), .second, .val (.ref b126), .val (.ref b144), .unset, .unset]) rfl ?_
    show Steps p.tables e below (T161.setTop (mkF m 164 #[.val (.int xa), .val (.int ya), .val (.int wa), .val (.int ha), .val (.int d), .val (.int sel), .val (.int wA), .val (.int hA), .val (.int i103), .val (.int i107), .val (.int i111), .val (.int i115), .val (.double v119), .second, .val (.double v123), .second, .val (.ref b126), .val (.ref b144), .unset, .unset] [])) _
    refine XS.iloadN X161.here hx rfl (hb hby at_164) rfl ?_
    show Steps p.tables e below (T161.setTop (mkF m 165 #[.val (.int xa), .val (.int ya), .val (.int wa), .val (.int ha), .val (.int d), .val (.int sel), .val (.int wA), .val (.int hA), .val (.int i103), .val (.int i107), .val (.int i111), .val (.int i115), .val (.double v119), .second, .val (.double v123), .second, .val (.ref b126), .val (.ref b144), .unset, .unset] [(.int xa)])) _
    refine XS.iload X161.here hx rfl (hb hby at_165) rfl ?_
    exact k)
  obtain ⟨i177, hi177⟩ : ∃ z : Int32, z = (if xa = i103 then (if ya = i107 then (if (lcmpW ((xa.toInt64) + (wA.toInt64)) ((i103.toInt64) + (i111.toInt64))) = (0 : Int32) then (if (lcmpW ((ya.toInt64) + (hA.toInt64)) ((i107.toInt64) + (i115.toInt64))) = (0 : Int32) then (1 : Int32) else (0 : Int32)) else (0 : Int32)) else (0 : Int32)) else (0 : Int32)) := ⟨_, rfl⟩
  have k178 : ∀ t, Steps p.tables e below (T161.setTop (mkF m 215 #[.val (.int xa), .val (.int ya), .val (.int wa), .val (.int ha), .val (.int d), .val (.int sel), .val (.int wA), .val (.int hA), .val (.int i103), .val (.int i107), .val (.int i111), .val (.int i115), .val (.double v119), .second, .val (.double v123), .second, .val (.ref b126), .val (.ref b144), .unset, .unset] [(.int i177)])) t → Steps p.tables e below (s₁.setTop (entryFrame m #[(.int xa), (.int ya), (.int wa), (.int ha), (.int d), (.int sel)] maxLocals)) t := fun t k => k172 t (by
    by_cases c173 : xa = i103
    · rw [if_pos c173] at hi177
      show Steps p.tables e below (T161.setTop (mkF m 167 #[.val (.int xa), .val (.int ya), .val (.int wa), .val (.int ha), .val (.int d), .val (.int sel), .val (.int wA), .val (.int hA), .val (.int i103), .val (.int i107), .val (.int i111), .val (.int i115), .val (.double v119), .second, .val (.double v123), .second, .val (.ref b126), .val (.ref b144), .unset, .unset] [(.int i103), (.int xa)])) _
      refine XS.icmpNo X161.here hx rfl (hb hby at_167) rfl (teq c173).2 ?_
      show Steps p.tables e below (T161.setTop (mkF m 170 #[.val (.int xa), .val (.int ya), .val (.int wa), .val (.int ha), .val (.int d), .val (.int sel), .val (.int wA), .val (.int hA), .val (.int i103), .val (.int i107), .val (.int i111), .val (.int i115), .val (.double v119), .second, .val (.double v123), .second, .val (.ref b126), .val (.ref b144), .unset, .unset] [])) _
      refine XS.iloadN X161.here hx rfl (hb hby at_170) rfl ?_
      show Steps p.tables e below (T161.setTop (mkF m 171 #[.val (.int xa), .val (.int ya), .val (.int wa), .val (.int ha), .val (.int d), .val (.int sel), .val (.int wA), .val (.int hA), .val (.int i103), .val (.int i107), .val (.int i111), .val (.int i115), .val (.double v119), .second, .val (.double v123), .second, .val (.ref b126), .val (.ref b144), .unset, .unset] [(.int ya)])) _
      refine XS.iload X161.here hx rfl (hb hby at_171) rfl ?_
      by_cases c174 : ya = i107
      · rw [if_pos c174] at hi177
        show Steps p.tables e below (T161.setTop (mkF m 173 #[.val (.int xa), .val (.int ya), .val (.int wa), .val (.int ha), .val (.int d), .val (.int sel), .val (.int wA), .val (.int hA), .val (.int i103), .val (.int i107), .val (.int i111), .val (.int i115), .val (.double v119), .second, .val (.double v123), .second, .val (.ref b126), .val (.ref b144), .unset, .unset] [(.int i107), (.int ya)])) _
        refine XS.icmpNo X161.here hx rfl (hb hby at_173) rfl (teq c174).2 ?_
        show Steps p.tables e below (T161.setTop (mkF m 176 #[.val (.int xa), .val (.int ya), .val (.int wa), .val (.int ha), .val (.int d), .val (.int sel), .val (.int wA), .val (.int hA), .val (.int i103), .val (.int i107), .val (.int i111), .val (.int i115), .val (.double v119), .second, .val (.double v123), .second, .val (.ref b126), .val (.ref b144), .unset, .unset] [])) _
        refine XS.iloadN X161.here hx rfl (hb hby at_176) rfl ?_
        show Steps p.tables e below (T161.setTop (mkF m 177 #[.val (.int xa), .val (.int ya), .val (.int wa), .val (.int ha), .val (.int d), .val (.int sel), .val (.int wA), .val (.int hA), .val (.int i103), .val (.int i107), .val (.int i111), .val (.int i115), .val (.double v119), .second, .val (.double v123), .second, .val (.ref b126), .val (.ref b144), .unset, .unset] [(.int xa)])) _
        refine XS.i2l X161.here hx rfl (hb hby at_177) rfl ?_
        show Steps p.tables e below (T161.setTop (mkF m 178 #[.val (.int xa), .val (.int ya), .val (.int wa), .val (.int ha), .val (.int d), .val (.int sel), .val (.int wA), .val (.int hA), .val (.int i103), .val (.int i107), .val (.int i111), .val (.int i115), .val (.double v119), .second, .val (.double v123), .second, .val (.ref b126), .val (.ref b144), .unset, .unset] [(.long (xa.toInt64))])) _
        refine XS.iload X161.here hx rfl (hb hby at_178) rfl ?_
        show Steps p.tables e below (T161.setTop (mkF m 180 #[.val (.int xa), .val (.int ya), .val (.int wa), .val (.int ha), .val (.int d), .val (.int sel), .val (.int wA), .val (.int hA), .val (.int i103), .val (.int i107), .val (.int i111), .val (.int i115), .val (.double v119), .second, .val (.double v123), .second, .val (.ref b126), .val (.ref b144), .unset, .unset] [(.int wA), (.long (xa.toInt64))])) _
        refine XS.i2l X161.here hx rfl (hb hby at_180) rfl ?_
        show Steps p.tables e below (T161.setTop (mkF m 181 #[.val (.int xa), .val (.int ya), .val (.int wa), .val (.int ha), .val (.int d), .val (.int sel), .val (.int wA), .val (.int hA), .val (.int i103), .val (.int i107), .val (.int i111), .val (.int i115), .val (.double v119), .second, .val (.double v123), .second, .val (.ref b126), .val (.ref b144), .unset, .unset] [(.long (wA.toInt64)), (.long (xa.toInt64))])) _
        refine XS.ladd X161.here hx rfl (hb hby at_181) rfl ?_
        show Steps p.tables e below (T161.setTop (mkF m 182 #[.val (.int xa), .val (.int ya), .val (.int wa), .val (.int ha), .val (.int d), .val (.int sel), .val (.int wA), .val (.int hA), .val (.int i103), .val (.int i107), .val (.int i111), .val (.int i115), .val (.double v119), .second, .val (.double v123), .second, .val (.ref b126), .val (.ref b144), .unset, .unset] [(.long ((xa.toInt64) + (wA.toInt64)))])) _
        refine XS.iload X161.here hx rfl (hb hby at_182) rfl ?_
        show Steps p.tables e below (T161.setTop (mkF m 184 #[.val (.int xa), .val (.int ya), .val (.int wa), .val (.int ha), .val (.int d), .val (.int sel), .val (.int wA), .val (.int hA), .val (.int i103), .val (.int i107), .val (.int i111), .val (.int i115), .val (.double v119), .second, .val (.double v123), .second, .val (.ref b126), .val (.ref b144), .unset, .unset] [(.int i103), (.long ((xa.toInt64) + (wA.toInt64)))])) _
        refine XS.i2l X161.here hx rfl (hb hby at_184) rfl ?_
        show Steps p.tables e below (T161.setTop (mkF m 185 #[.val (.int xa), .val (.int ya), .val (.int wa), .val (.int ha), .val (.int d), .val (.int sel), .val (.int wA), .val (.int hA), .val (.int i103), .val (.int i107), .val (.int i111), .val (.int i115), .val (.double v119), .second, .val (.double v123), .second, .val (.ref b126), .val (.ref b144), .unset, .unset] [(.long (i103.toInt64)), (.long ((xa.toInt64) + (wA.toInt64)))])) _
        refine XS.iload X161.here hx rfl (hb hby at_185) rfl ?_
        show Steps p.tables e below (T161.setTop (mkF m 187 #[.val (.int xa), .val (.int ya), .val (.int wa), .val (.int ha), .val (.int d), .val (.int sel), .val (.int wA), .val (.int hA), .val (.int i103), .val (.int i107), .val (.int i111), .val (.int i115), .val (.double v119), .second, .val (.double v123), .second, .val (.ref b126), .val (.ref b144), .unset, .unset] [(.int i111), (.long (i103.toInt64)), (.long ((xa.toInt64) + (wA.toInt64)))])) _
        refine XS.i2l X161.here hx rfl (hb hby at_187) rfl ?_
        show Steps p.tables e below (T161.setTop (mkF m 188 #[.val (.int xa), .val (.int ya), .val (.int wa), .val (.int ha), .val (.int d), .val (.int sel), .val (.int wA), .val (.int hA), .val (.int i103), .val (.int i107), .val (.int i111), .val (.int i115), .val (.double v119), .second, .val (.double v123), .second, .val (.ref b126), .val (.ref b144), .unset, .unset] [(.long (i111.toInt64)), (.long (i103.toInt64)), (.long ((xa.toInt64) + (wA.toInt64)))])) _
        refine XS.ladd X161.here hx rfl (hb hby at_188) rfl ?_
        show Steps p.tables e below (T161.setTop (mkF m 189 #[.val (.int xa), .val (.int ya), .val (.int wa), .val (.int ha), .val (.int d), .val (.int sel), .val (.int wA), .val (.int hA), .val (.int i103), .val (.int i107), .val (.int i111), .val (.int i115), .val (.double v119), .second, .val (.double v123), .second, .val (.ref b126), .val (.ref b144), .unset, .unset] [(.long ((i103.toInt64) + (i111.toInt64))), (.long ((xa.toInt64) + (wA.toInt64)))])) _
        refine XS.lcmp X161.here hx rfl (hb hby at_189) rfl ?_
        by_cases c175 : (lcmpW ((xa.toInt64) + (wA.toInt64)) ((i103.toInt64) + (i111.toInt64))) = (0 : Int32)
        · rw [if_pos c175] at hi177
          show Steps p.tables e below (T161.setTop (mkF m 190 #[.val (.int xa), .val (.int ya), .val (.int wa), .val (.int ha), .val (.int d), .val (.int sel), .val (.int wA), .val (.int hA), .val (.int i103), .val (.int i107), .val (.int i111), .val (.int i115), .val (.double v119), .second, .val (.double v123), .second, .val (.ref b126), .val (.ref b144), .unset, .unset] [(.int (lcmpW ((xa.toInt64) + (wA.toInt64)) ((i103.toInt64) + (i111.toInt64))))])) _
          refine XS.ifNo X161.here hx rfl (hb hby at_190) rfl ((if0 _ _).trans (teq c175).2) ?_
          show Steps p.tables e below (T161.setTop (mkF m 193 #[.val (.int xa), .val (.int ya), .val (.int wa), .val (.int ha), .val (.int d), .val (.int sel), .val (.int wA), .val (.int hA), .val (.int i103), .val (.int i107), .val (.int i111), .val (.int i115), .val (.double v119), .second, .val (.double v123), .second, .val (.ref b126), .val (.ref b144), .unset, .unset] [])) _
          refine XS.iloadN X161.here hx rfl (hb hby at_193) rfl ?_
          show Steps p.tables e below (T161.setTop (mkF m 194 #[.val (.int xa), .val (.int ya), .val (.int wa), .val (.int ha), .val (.int d), .val (.int sel), .val (.int wA), .val (.int hA), .val (.int i103), .val (.int i107), .val (.int i111), .val (.int i115), .val (.double v119), .second, .val (.double v123), .second, .val (.ref b126), .val (.ref b144), .unset, .unset] [(.int ya)])) _
          refine XS.i2l X161.here hx rfl (hb hby at_194) rfl ?_
          show Steps p.tables e below (T161.setTop (mkF m 195 #[.val (.int xa), .val (.int ya), .val (.int wa), .val (.int ha), .val (.int d), .val (.int sel), .val (.int wA), .val (.int hA), .val (.int i103), .val (.int i107), .val (.int i111), .val (.int i115), .val (.double v119), .second, .val (.double v123), .second, .val (.ref b126), .val (.ref b144), .unset, .unset] [(.long (ya.toInt64))])) _
          refine XS.iload X161.here hx rfl (hb hby at_195) rfl ?_
          show Steps p.tables e below (T161.setTop (mkF m 197 #[.val (.int xa), .val (.int ya), .val (.int wa), .val (.int ha), .val (.int d), .val (.int sel), .val (.int wA), .val (.int hA), .val (.int i103), .val (.int i107), .val (.int i111), .val (.int i115), .val (.double v119), .second, .val (.double v123), .second, .val (.ref b126), .val (.ref b144), .unset, .unset] [(.int hA), (.long (ya.toInt64))])) _
          refine XS.i2l X161.here hx rfl (hb hby at_197) rfl ?_
          show Steps p.tables e below (T161.setTop (mkF m 198 #[.val (.int xa), .val (.int ya), .val (.int wa), .val (.int ha), .val (.int d), .val (.int sel), .val (.int wA), .val (.int hA), .val (.int i103), .val (.int i107), .val (.int i111), .val (.int i115), .val (.double v119), .second, .val (.double v123), .second, .val (.ref b126), .val (.ref b144), .unset, .unset] [(.long (hA.toInt64)), (.long (ya.toInt64))])) _
          refine XS.ladd X161.here hx rfl (hb hby at_198) rfl ?_
          show Steps p.tables e below (T161.setTop (mkF m 199 #[.val (.int xa), .val (.int ya), .val (.int wa), .val (.int ha), .val (.int d), .val (.int sel), .val (.int wA), .val (.int hA), .val (.int i103), .val (.int i107), .val (.int i111), .val (.int i115), .val (.double v119), .second, .val (.double v123), .second, .val (.ref b126), .val (.ref b144), .unset, .unset] [(.long ((ya.toInt64) + (hA.toInt64)))])) _
          refine XS.iload X161.here hx rfl (hb hby at_199) rfl ?_
          show Steps p.tables e below (T161.setTop (mkF m 201 #[.val (.int xa), .val (.int ya), .val (.int wa), .val (.int ha), .val (.int d), .val (.int sel), .val (.int wA), .val (.int hA), .val (.int i103), .val (.int i107), .val (.int i111), .val (.int i115), .val (.double v119), .second, .val (.double v123), .second, .val (.ref b126), .val (.ref b144), .unset, .unset] [(.int i107), (.long ((ya.toInt64) + (hA.toInt64)))])) _
          refine XS.i2l X161.here hx rfl (hb hby at_201) rfl ?_
          show Steps p.tables e below (T161.setTop (mkF m 202 #[.val (.int xa), .val (.int ya), .val (.int wa), .val (.int ha), .val (.int d), .val (.int sel), .val (.int wA), .val (.int hA), .val (.int i103), .val (.int i107), .val (.int i111), .val (.int i115), .val (.double v119), .second, .val (.double v123), .second, .val (.ref b126), .val (.ref b144), .unset, .unset] [(.long (i107.toInt64)), (.long ((ya.toInt64) + (hA.toInt64)))])) _
          refine XS.iload X161.here hx rfl (hb hby at_202) rfl ?_
          show Steps p.tables e below (T161.setTop (mkF m 204 #[.val (.int xa), .val (.int ya), .val (.int wa), .val (.int ha), .val (.int d), .val (.int sel), .val (.int wA), .val (.int hA), .val (.int i103), .val (.int i107), .val (.int i111), .val (.int i115), .val (.double v119), .second, .val (.double v123), .second, .val (.ref b126), .val (.ref b144), .unset, .unset] [(.int i115), (.long (i107.toInt64)), (.long ((ya.toInt64) + (hA.toInt64)))])) _
          refine XS.i2l X161.here hx rfl (hb hby at_204) rfl ?_
          show Steps p.tables e below (T161.setTop (mkF m 205 #[.val (.int xa), .val (.int ya), .val (.int wa), .val (.int ha), .val (.int d), .val (.int sel), .val (.int wA), .val (.int hA), .val (.int i103), .val (.int i107), .val (.int i111), .val (.int i115), .val (.double v119), .second, .val (.double v123), .second, .val (.ref b126), .val (.ref b144), .unset, .unset] [(.long (i115.toInt64)), (.long (i107.toInt64)), (.long ((ya.toInt64) + (hA.toInt64)))])) _
          refine XS.ladd X161.here hx rfl (hb hby at_205) rfl ?_
          show Steps p.tables e below (T161.setTop (mkF m 206 #[.val (.int xa), .val (.int ya), .val (.int wa), .val (.int ha), .val (.int d), .val (.int sel), .val (.int wA), .val (.int hA), .val (.int i103), .val (.int i107), .val (.int i111), .val (.int i115), .val (.double v119), .second, .val (.double v123), .second, .val (.ref b126), .val (.ref b144), .unset, .unset] [(.long ((i107.toInt64) + (i115.toInt64))), (.long ((ya.toInt64) + (hA.toInt64)))])) _
          refine XS.lcmp X161.here hx rfl (hb hby at_206) rfl ?_
          by_cases c176 : (lcmpW ((ya.toInt64) + (hA.toInt64)) ((i107.toInt64) + (i115.toInt64))) = (0 : Int32)
          · rw [if_pos c176] at hi177
            show Steps p.tables e below (T161.setTop (mkF m 207 #[.val (.int xa), .val (.int ya), .val (.int wa), .val (.int ha), .val (.int d), .val (.int sel), .val (.int wA), .val (.int hA), .val (.int i103), .val (.int i107), .val (.int i111), .val (.int i115), .val (.double v119), .second, .val (.double v123), .second, .val (.ref b126), .val (.ref b144), .unset, .unset] [(.int (lcmpW ((ya.toInt64) + (hA.toInt64)) ((i107.toInt64) + (i115.toInt64))))])) _
            refine XS.ifNo X161.here hx rfl (hb hby at_207) rfl ((if0 _ _).trans (teq c176).2) ?_
            show Steps p.tables e below (T161.setTop (mkF m 210 #[.val (.int xa), .val (.int ya), .val (.int wa), .val (.int ha), .val (.int d), .val (.int sel), .val (.int wA), .val (.int hA), .val (.int i103), .val (.int i107), .val (.int i111), .val (.int i115), .val (.double v119), .second, .val (.double v123), .second, .val (.ref b126), .val (.ref b144), .unset, .unset] [])) _
            refine XS.iconst X161.here hx rfl (hb hby at_210) ?_
            show Steps p.tables e below (T161.setTop (mkF m 211 #[.val (.int xa), .val (.int ya), .val (.int wa), .val (.int ha), .val (.int d), .val (.int sel), .val (.int wA), .val (.int hA), .val (.int i103), .val (.int i107), .val (.int i111), .val (.int i115), .val (.double v119), .second, .val (.double v123), .second, .val (.ref b126), .val (.ref b144), .unset, .unset] [(.int (1 : Int32))])) _
            refine XS.goto X161.here hx rfl (pc0 := 211) (pc' := 215) rfl (hb hby at_211) (by decide) (by decide) ?_
            show Steps p.tables e below (T161.setTop (mkF m 215 #[.val (.int xa), .val (.int ya), .val (.int wa), .val (.int ha), .val (.int d), .val (.int sel), .val (.int wA), .val (.int hA), .val (.int i103), .val (.int i107), .val (.int i111), .val (.int i115), .val (.double v119), .second, .val (.double v123), .second, .val (.ref b126), .val (.ref b144), .unset, .unset] [(.int (1 : Int32))])) _
            exact castTop (by rw [hi177]) k
          · rw [if_neg c176] at hi177
            show Steps p.tables e below (T161.setTop (mkF m 207 #[.val (.int xa), .val (.int ya), .val (.int wa), .val (.int ha), .val (.int d), .val (.int sel), .val (.int wA), .val (.int hA), .val (.int i103), .val (.int i107), .val (.int i111), .val (.int i115), .val (.double v119), .second, .val (.double v123), .second, .val (.ref b126), .val (.ref b144), .unset, .unset] [(.int (lcmpW ((ya.toInt64) + (hA.toInt64)) ((i107.toInt64) + (i115.toInt64))))])) _
            refine XS.ifYes X161.here hx rfl (pc0 := 207) (pc' := 214) rfl (hb hby at_207) rfl ((if0 _ _).trans (feq c176).2) (by decide) (by decide) ?_
            show Steps p.tables e below (T161.setTop (mkF m 214 #[.val (.int xa), .val (.int ya), .val (.int wa), .val (.int ha), .val (.int d), .val (.int sel), .val (.int wA), .val (.int hA), .val (.int i103), .val (.int i107), .val (.int i111), .val (.int i115), .val (.double v119), .second, .val (.double v123), .second, .val (.ref b126), .val (.ref b144), .unset, .unset] [])) _
            refine XS.iconst X161.here hx rfl (hb hby at_214) ?_
            show Steps p.tables e below (T161.setTop (mkF m 215 #[.val (.int xa), .val (.int ya), .val (.int wa), .val (.int ha), .val (.int d), .val (.int sel), .val (.int wA), .val (.int hA), .val (.int i103), .val (.int i107), .val (.int i111), .val (.int i115), .val (.double v119), .second, .val (.double v123), .second, .val (.ref b126), .val (.ref b144), .unset, .unset] [(.int (0 : Int32))])) _
            exact castTop (by rw [hi177]) k
        · rw [if_neg c175] at hi177
          show Steps p.tables e below (T161.setTop (mkF m 190 #[.val (.int xa), .val (.int ya), .val (.int wa), .val (.int ha), .val (.int d), .val (.int sel), .val (.int wA), .val (.int hA), .val (.int i103), .val (.int i107), .val (.int i111), .val (.int i115), .val (.double v119), .second, .val (.double v123), .second, .val (.ref b126), .val (.ref b144), .unset, .unset] [(.int (lcmpW ((xa.toInt64) + (wA.toInt64)) ((i103.toInt64) + (i111.toInt64))))])) _
          refine XS.ifYes X161.here hx rfl (pc0 := 190) (pc' := 214) rfl (hb hby at_190) rfl ((if0 _ _).trans (feq c175).2) (by decide) (by decide) ?_
          show Steps p.tables e below (T161.setTop (mkF m 214 #[.val (.int xa), .val (.int ya), .val (.int wa), .val (.int ha), .val (.int d), .val (.int sel), .val (.int wA), .val (.int hA), .val (.int i103), .val (.int i107), .val (.int i111), .val (.int i115), .val (.double v119), .second, .val (.double v123), .second, .val (.ref b126), .val (.ref b144), .unset, .unset] [])) _
          refine XS.iconst X161.here hx rfl (hb hby at_214) ?_
          show Steps p.tables e below (T161.setTop (mkF m 215 #[.val (.int xa), .val (.int ya), .val (.int wa), .val (.int ha), .val (.int d), .val (.int sel), .val (.int wA), .val (.int hA), .val (.int i103), .val (.int i107), .val (.int i111), .val (.int i115), .val (.double v119), .second, .val (.double v123), .second, .val (.ref b126), .val (.ref b144), .unset, .unset] [(.int (0 : Int32))])) _
          exact castTop (by rw [hi177]) k
      · rw [if_neg c174] at hi177
        show Steps p.tables e below (T161.setTop (mkF m 173 #[.val (.int xa), .val (.int ya), .val (.int wa), .val (.int ha), .val (.int d), .val (.int sel), .val (.int wA), .val (.int hA), .val (.int i103), .val (.int i107), .val (.int i111), .val (.int i115), .val (.double v119), .second, .val (.double v123), .second, .val (.ref b126), .val (.ref b144), .unset, .unset] [(.int i107), (.int ya)])) _
        refine XS.icmpYes X161.here hx rfl (pc0 := 173) (pc' := 214) rfl (hb hby at_173) rfl (feq c174).2 (by decide) (by decide) ?_
        show Steps p.tables e below (T161.setTop (mkF m 214 #[.val (.int xa), .val (.int ya), .val (.int wa), .val (.int ha), .val (.int d), .val (.int sel), .val (.int wA), .val (.int hA), .val (.int i103), .val (.int i107), .val (.int i111), .val (.int i115), .val (.double v119), .second, .val (.double v123), .second, .val (.ref b126), .val (.ref b144), .unset, .unset] [])) _
        refine XS.iconst X161.here hx rfl (hb hby at_214) ?_
        show Steps p.tables e below (T161.setTop (mkF m 215 #[.val (.int xa), .val (.int ya), .val (.int wa), .val (.int ha), .val (.int d), .val (.int sel), .val (.int wA), .val (.int hA), .val (.int i103), .val (.int i107), .val (.int i111), .val (.int i115), .val (.double v119), .second, .val (.double v123), .second, .val (.ref b126), .val (.ref b144), .unset, .unset] [(.int (0 : Int32))])) _
        exact castTop (by rw [hi177]) k
    · rw [if_neg c173] at hi177
      show Steps p.tables e below (T161.setTop (mkF m 167 #[.val (.int xa), .val (.int ya), .val (.int wa), .val (.int ha), .val (.int d), .val (.int sel), .val (.int wA), .val (.int hA), .val (.int i103), .val (.int i107), .val (.int i111), .val (.int i115), .val (.double v119), .second, .val (.double v123), .second, .val (.ref b126), .val (.ref b144), .unset, .unset] [(.int i103), (.int xa)])) _
      refine XS.icmpYes X161.here hx rfl (pc0 := 167) (pc' := 214) rfl (hb hby at_167) rfl (feq c173).2 (by decide) (by decide) ?_
      show Steps p.tables e below (T161.setTop (mkF m 214 #[.val (.int xa), .val (.int ya), .val (.int wa), .val (.int ha), .val (.int d), .val (.int sel), .val (.int wA), .val (.int hA), .val (.int i103), .val (.int i107), .val (.int i111), .val (.int i115), .val (.double v119), .second, .val (.double v123), .second, .val (.ref b126), .val (.ref b144), .unset, .unset] [])) _
      refine XS.iconst X161.here hx rfl (hb hby at_214) ?_
      show Steps p.tables e below (T161.setTop (mkF m 215 #[.val (.int xa), .val (.int ya), .val (.int wa), .val (.int ha), .val (.int d), .val (.int sel), .val (.int wA), .val (.int hA), .val (.int i103), .val (.int i107), .val (.int i111), .val (.int i115), .val (.double v119), .second, .val (.double v123), .second, .val (.ref b126), .val (.ref b144), .unset, .unset] [(.int (0 : Int32))])) _
      exact castTop (by rw [hi177]) k)
  obtain ⟨kd, hkd⟩ : ∃ z : Int32, z = (((sel.toUInt32 >>> ((6 : Int32) &&& 31).toUInt32).toInt32) &&& (3 : Int32)) := ⟨_, rfl⟩
  have k179 : ∀ t, Steps p.tables e below (T161.setTop (mkF m 228 #[.val (.int xa), .val (.int ya), .val (.int wa), .val (.int ha), .val (.int d), .val (.int sel), .val (.int wA), .val (.int hA), .val (.int i103), .val (.int i107), .val (.int i111), .val (.int i115), .val (.double v119), .second, .val (.double v123), .second, .val (.ref b126), .val (.ref b144), .val (.int i177), .val (.int kd)] [(.int kd)])) t → Steps p.tables e below (s₁.setTop (entryFrame m #[(.int xa), (.int ya), (.int wa), (.int ha), (.int d), (.int sel)] maxLocals)) t := fun t k => k178 t (by
    show Steps p.tables e below (T161.setTop (mkF m 215 #[.val (.int xa), .val (.int ya), .val (.int wa), .val (.int ha), .val (.int d), .val (.int sel), .val (.int wA), .val (.int hA), .val (.int i103), .val (.int i107), .val (.int i111), .val (.int i115), .val (.double v119), .second, .val (.double v123), .second, .val (.ref b126), .val (.ref b144), .unset, .unset] [(.int i177)])) _
    refine XS.istore X161.here hx rfl (hb hby at_215) rfl (l' := #[.val (.int xa), .val (.int ya), .val (.int wa), .val (.int ha), .val (.int d), .val (.int sel), .val (.int wA), .val (.int hA), .val (.int i103), .val (.int i107), .val (.int i111), .val (.int i115), .val (.double v119), .second, .val (.double v123), .second, .val (.ref b126), .val (.ref b144), .val (.int i177), .unset]) rfl ?_
    show Steps p.tables e below (T161.setTop (mkF m 217 #[.val (.int xa), .val (.int ya), .val (.int wa), .val (.int ha), .val (.int d), .val (.int sel), .val (.int wA), .val (.int hA), .val (.int i103), .val (.int i107), .val (.int i111), .val (.int i115), .val (.double v119), .second, .val (.double v123), .second, .val (.ref b126), .val (.ref b144), .val (.int i177), .unset] [])) _
    refine XS.iload X161.here hx rfl (hb hby at_217) rfl ?_
    show Steps p.tables e below (T161.setTop (mkF m 219 #[.val (.int xa), .val (.int ya), .val (.int wa), .val (.int ha), .val (.int d), .val (.int sel), .val (.int wA), .val (.int hA), .val (.int i103), .val (.int i107), .val (.int i111), .val (.int i115), .val (.double v119), .second, .val (.double v123), .second, .val (.ref b126), .val (.ref b144), .val (.int i177), .unset] [(.int sel)])) _
    refine XS.bipush X161.here hx rfl (hb hby at_219) ?_
    show Steps p.tables e below (T161.setTop (mkF m 221 #[.val (.int xa), .val (.int ya), .val (.int wa), .val (.int ha), .val (.int d), .val (.int sel), .val (.int wA), .val (.int hA), .val (.int i103), .val (.int i107), .val (.int i111), .val (.int i115), .val (.double v119), .second, .val (.double v123), .second, .val (.ref b126), .val (.ref b144), .val (.int i177), .unset] [(.int (6 : Int32)), (.int sel)])) _
    refine XS.iushr X161.here hx rfl (hb hby at_221) rfl ?_
    show Steps p.tables e below (T161.setTop (mkF m 222 #[.val (.int xa), .val (.int ya), .val (.int wa), .val (.int ha), .val (.int d), .val (.int sel), .val (.int wA), .val (.int hA), .val (.int i103), .val (.int i107), .val (.int i111), .val (.int i115), .val (.double v119), .second, .val (.double v123), .second, .val (.ref b126), .val (.ref b144), .val (.int i177), .unset] [(.int ((sel.toUInt32 >>> ((6 : Int32) &&& 31).toUInt32).toInt32))])) _
    refine XS.iconst X161.here hx rfl (hb hby at_222) ?_
    show Steps p.tables e below (T161.setTop (mkF m 223 #[.val (.int xa), .val (.int ya), .val (.int wa), .val (.int ha), .val (.int d), .val (.int sel), .val (.int wA), .val (.int hA), .val (.int i103), .val (.int i107), .val (.int i111), .val (.int i115), .val (.double v119), .second, .val (.double v123), .second, .val (.ref b126), .val (.ref b144), .val (.int i177), .unset] [(.int (3 : Int32)), (.int ((sel.toUInt32 >>> ((6 : Int32) &&& 31).toUInt32).toInt32))])) _
    refine XS.iand X161.here hx rfl (hb hby at_223) rfl ?_
    show Steps p.tables e below (T161.setTop (mkF m 224 #[.val (.int xa), .val (.int ya), .val (.int wa), .val (.int ha), .val (.int d), .val (.int sel), .val (.int wA), .val (.int hA), .val (.int i103), .val (.int i107), .val (.int i111), .val (.int i115), .val (.double v119), .second, .val (.double v123), .second, .val (.ref b126), .val (.ref b144), .val (.int i177), .unset] [(.int (((sel.toUInt32 >>> ((6 : Int32) &&& 31).toUInt32).toInt32) &&& (3 : Int32)))])) _
    refine castTop (g' := (mkF m 224 #[.val (.int xa), .val (.int ya), .val (.int wa), .val (.int ha), .val (.int d), .val (.int sel), .val (.int wA), .val (.int hA), .val (.int i103), .val (.int i107), .val (.int i111), .val (.int i115), .val (.double v119), .second, .val (.double v123), .second, .val (.ref b126), .val (.ref b144), .val (.int i177), .unset] [(.int kd)])) (by rw [hkd]) ?_
    show Steps p.tables e below (T161.setTop (mkF m 224 #[.val (.int xa), .val (.int ya), .val (.int wa), .val (.int ha), .val (.int d), .val (.int sel), .val (.int wA), .val (.int hA), .val (.int i103), .val (.int i107), .val (.int i111), .val (.int i115), .val (.double v119), .second, .val (.double v123), .second, .val (.ref b126), .val (.ref b144), .val (.int i177), .unset] [(.int kd)])) _
    refine XS.istore X161.here hx rfl (hb hby at_224) rfl (l' := #[.val (.int xa), .val (.int ya), .val (.int wa), .val (.int ha), .val (.int d), .val (.int sel), .val (.int wA), .val (.int hA), .val (.int i103), .val (.int i107), .val (.int i111), .val (.int i115), .val (.double v119), .second, .val (.double v123), .second, .val (.ref b126), .val (.ref b144), .val (.int i177), .val (.int kd)]) rfl ?_
    show Steps p.tables e below (T161.setTop (mkF m 226 #[.val (.int xa), .val (.int ya), .val (.int wa), .val (.int ha), .val (.int d), .val (.int sel), .val (.int wA), .val (.int hA), .val (.int i103), .val (.int i107), .val (.int i111), .val (.int i115), .val (.double v119), .second, .val (.double v123), .second, .val (.ref b126), .val (.ref b144), .val (.int i177), .val (.int kd)] [])) _
    refine XS.iload X161.here hx rfl (hb hby at_226) rfl ?_
    exact k)
  by_cases ek0 : kd = (0 : Int32)
  · have k180 : ∀ t, Steps p.tables e below (T161.setTop (mkF m 235 #[.val (.int xa), .val (.int ya), .val (.int wa), .val (.int ha), .val (.int d), .val (.int sel), .val (.int wA), .val (.int hA), .val (.int i103), .val (.int i107), .val (.int i111), .val (.int i115), .val (.double v119), .second, .val (.double v123), .second, .val (.ref b126), .val (.ref b144), .val (.int i177), .val (.int kd)] [(.ref b144), (.ref b126)])) t → Steps p.tables e below (s₁.setTop (entryFrame m #[(.int xa), (.int ya), (.int wa), (.int ha), (.int d), (.int sel)] maxLocals)) t := fun t k => k179 t (by
      show Steps p.tables e below (T161.setTop (mkF m 228 #[.val (.int xa), .val (.int ya), .val (.int wa), .val (.int ha), .val (.int d), .val (.int sel), .val (.int wA), .val (.int hA), .val (.int i103), .val (.int i107), .val (.int i111), .val (.int i115), .val (.double v119), .second, .val (.double v123), .second, .val (.ref b126), .val (.ref b144), .val (.int i177), .val (.int kd)] [(.int kd)])) _
      refine XS.ifNo X161.here hx rfl (hb hby at_228) rfl ((if0 _ _).trans (teq ek0).2) ?_
      show Steps p.tables e below (T161.setTop (mkF m 231 #[.val (.int xa), .val (.int ya), .val (.int wa), .val (.int ha), .val (.int d), .val (.int sel), .val (.int wA), .val (.int hA), .val (.int i103), .val (.int i107), .val (.int i111), .val (.int i115), .val (.double v119), .second, .val (.double v123), .second, .val (.ref b126), .val (.ref b144), .val (.int i177), .val (.int kd)] [])) _
      refine XS.aload X161.here hx rfl (hb hby at_231) rfl rfl ?_
      show Steps p.tables e below (T161.setTop (mkF m 233 #[.val (.int xa), .val (.int ya), .val (.int wa), .val (.int ha), .val (.int d), .val (.int sel), .val (.int wA), .val (.int hA), .val (.int i103), .val (.int i107), .val (.int i111), .val (.int i115), .val (.double v119), .second, .val (.double v123), .second, .val (.ref b126), .val (.ref b144), .val (.int i177), .val (.int kd)] [(.ref b126)])) _
      refine XS.aload X161.here hx rfl (hb hby at_233) rfl rfl ?_
      exact k)
    obtain ⟨cq181, kq181, q181a, q181b, q181c⟩ := isOf hZ e161 F165
    obtain ⟨_, _, ⟨T181, L181, k181, n181⟩, -, X181, ⟨Lc181, hQ181, l181, y181, z181⟩, st181⟩ := X161.virtualBack hx (y := (⟨"com/example/hoja/hoja/model/Box", "equals", "(Ljava/lang/Object;)Z"⟩ : MethodName)) (z := (⟨"com/example/hoja/hoja/model/Box", "equals", "(Ljava/lang/Object;)Z"⟩ : MethodName)) hown (mvT hZ (hw _ (List.mem_of_getElem? (i := 30) rfl))) (mvT hZ (hw _ (List.mem_of_getElem? (i := 31) rfl))) (notFace_of_selects (args := #[]) (mvT hZ (hw _ (List.mem_of_getElem? (i := 33) rfl)))) (mvT hZ (hw _ (List.mem_of_getElem? (i := 33) rfl))) (mvT hZ (hw _ (List.mem_of_getElem? (i := 32) rfl))) (by decide) (backOf (W := 0) (eqb l Z a0 hw [] b126 b144 v0 v1 (FP.dadd v0 v2) (FP.dadd v1 v3) v119 v123 (FP.dadd v119 b2) (FP.dadd v123 b3) h161 n0 Z171 F166 F167 F168 F169 G1610 G1611 G1612 G1613 G161e) hZ (hw _ (List.mem_of_getElem? (i := 34) rfl)) (hw _ (List.mem_of_getElem? (i := 3) rfl)) (by decide) (by decide)) q181a q181c (g := (mkF m 235 #[.val (.int xa), .val (.int ya), .val (.int wa), .val (.int ha), .val (.int d), .val (.int sel), .val (.int wA), .val (.int hA), .val (.int i103), .val (.int i107), .val (.int i111), .val (.int i115), .val (.double v119), .second, .val (.double v123), .second, .val (.ref b126), .val (.ref b144), .val (.int i177), .val (.int kd)] [(.ref b144), (.ref b126)])) rfl (by rw [hml]; rfl) (Steps.refl _) (argsL := [(.ref b144)]) (rest := []) (lenOf pd__28Ljava_2flang_2fObject_3b_29Z rfl) rfl (by show 2 * 0 + _ ≤ _; exact Nat.le_of_eq rfl) (hb hby at_235) (fun _ _ => ⟨rfl, e161, (by decide : 2 + 0 ≤ _), (by decide : 8 + 0 ≤ _)⟩)
    dsimp only [Pt.U, Pt.locs, Pt.cells, Pt.slots] at X181 l181 y181 z181 st181 hQ181
    subst l181 y181 z181
    obtain ⟨rfl, N181q, e181⟩ := hQ181
    have N182 := Fr.app N162 N181q
    have k183 : ∀ t, Steps p.tables e below (T181.setTop (mkF m 238 #[.val (.int xa), .val (.int ya), .val (.int wa), .val (.int ha), .val (.int d), .val (.int sel), .val (.int wA), .val (.int hA), .val (.int i103), .val (.int i107), .val (.int i111), .val (.int i115), .val (.double v119), .second, .val (.double v123), .second, .val (.ref b126), .val (.ref b144), .val (.int i177), .val (.int kd)] [(.int (own_eq v0 v1 (FP.dadd v0 v2) (FP.dadd v1 v3) v119 v123 (FP.dadd v119 b2) (FP.dadd v123 b3)))])) t → Steps p.tables e below (s₁.setTop (entryFrame m #[(.int xa), (.int ya), (.int wa), (.int ha), (.int d), (.int sel)] maxLocals)) t := fun t k => k180 t (st181.trans k)
    have hfin : (own_eq v0 v1 (FP.dadd v0 v2) (FP.dadd v1 v3) v119 v123 (FP.dadd v119 b2) (FP.dadd v123 b3)) = i177 := by rw [hi177]; exact own_fin Dv0 Dv1 Ds1q135 Ds2q135 Dbx Dby Ds1q159 Ds2q159
    have k184 : ∀ t, Steps p.tables e below (T181.setTop (mkF m 248 #[.val (.int xa), .val (.int ya), .val (.int wa), .val (.int ha), .val (.int d), .val (.int sel), .val (.int wA), .val (.int hA), .val (.int i103), .val (.int i107), .val (.int i111), .val (.int i115), .val (.double v119), .second, .val (.double v123), .second, .val (.ref b126), .val (.ref b144), .val (.int i177), .val (.int kd)] [(.int (1 : Int32))])) t → Steps p.tables e below (s₁.setTop (entryFrame m #[(.int xa), (.int ya), (.int wa), (.int ha), (.int d), (.int sel)] maxLocals)) t := fun t k => k183 t (by
      show Steps p.tables e below (T181.setTop (mkF m 238 #[.val (.int xa), .val (.int ya), .val (.int wa), .val (.int ha), .val (.int d), .val (.int sel), .val (.int wA), .val (.int hA), .val (.int i103), .val (.int i107), .val (.int i111), .val (.int i115), .val (.double v119), .second, .val (.double v123), .second, .val (.ref b126), .val (.ref b144), .val (.int i177), .val (.int kd)] [(.int (own_eq v0 v1 (FP.dadd v0 v2) (FP.dadd v1 v3) v119 v123 (FP.dadd v119 b2) (FP.dadd v123 b3)))])) _
      refine XS.iload X181.here hx rfl (hb hby at_238) rfl ?_
      show Steps p.tables e below (T181.setTop (mkF m 240 #[.val (.int xa), .val (.int ya), .val (.int wa), .val (.int ha), .val (.int d), .val (.int sel), .val (.int wA), .val (.int hA), .val (.int i103), .val (.int i107), .val (.int i111), .val (.int i115), .val (.double v119), .second, .val (.double v123), .second, .val (.ref b126), .val (.ref b144), .val (.int i177), .val (.int kd)] [(.int i177), (.int (own_eq v0 v1 (FP.dadd v0 v2) (FP.dadd v1 v3) v119 v123 (FP.dadd v119 b2) (FP.dadd v123 b3)))])) _
      refine XS.icmpNo X181.here hx rfl (hb hby at_240) rfl (teq hfin).2 ?_
      show Steps p.tables e below (T181.setTop (mkF m 243 #[.val (.int xa), .val (.int ya), .val (.int wa), .val (.int ha), .val (.int d), .val (.int sel), .val (.int wA), .val (.int hA), .val (.int i103), .val (.int i107), .val (.int i111), .val (.int i115), .val (.double v119), .second, .val (.double v123), .second, .val (.ref b126), .val (.ref b144), .val (.int i177), .val (.int kd)] [])) _
      refine XS.iconst X181.here hx rfl (hb hby at_243) ?_
      show Steps p.tables e below (T181.setTop (mkF m 244 #[.val (.int xa), .val (.int ya), .val (.int wa), .val (.int ha), .val (.int d), .val (.int sel), .val (.int wA), .val (.int hA), .val (.int i103), .val (.int i107), .val (.int i111), .val (.int i115), .val (.double v119), .second, .val (.double v123), .second, .val (.ref b126), .val (.ref b144), .val (.int i177), .val (.int kd)] [(.int (1 : Int32))])) _
      refine XS.goto X181.here hx rfl (pc0 := 244) (pc' := 248) rfl (hb hby at_244) (by decide) (by decide) ?_
      exact k)
    obtain ⟨fs, hr, hrun, hended, hW, hsame⟩ := X181.leave (v := some (.int (1 : Int32))) (fun h => by rw [Bd.returns] at h; cases h)
    refine ⟨_, _, k184 _ (retOut X181 hx (t := .boolean) Bd.returns rfl (Or.inl ⟨rfl, Or.inr (Or.inl rfl), _, rfl⟩) (hb hby at_248) hr), hrun, hended, _, _, rfl, ?_, ⟨_, rfl⟩, hW, hsame.mono (by decide) (by decide)⟩
    show Q_rm0 Z xa ya wa ha d sel cs h0 n0 _ T181.heap _
    rw [e181]
    exact ⟨rfl, N182⟩
  · have k185 : ∀ t, Steps p.tables e below (T161.setTop (mkF m 252 #[.val (.int xa), .val (.int ya), .val (.int wa), .val (.int ha), .val (.int d), .val (.int sel), .val (.int wA), .val (.int hA), .val (.int i103), .val (.int i107), .val (.int i111), .val (.int i115), .val (.double v119), .second, .val (.double v123), .second, .val (.ref b126), .val (.ref b144), .val (.int i177), .val (.int kd)] [(.int (1 : Int32)), (.int kd)])) t → Steps p.tables e below (s₁.setTop (entryFrame m #[(.int xa), (.int ya), (.int wa), (.int ha), (.int d), (.int sel)] maxLocals)) t := fun t k => k179 t (by
      show Steps p.tables e below (T161.setTop (mkF m 228 #[.val (.int xa), .val (.int ya), .val (.int wa), .val (.int ha), .val (.int d), .val (.int sel), .val (.int wA), .val (.int hA), .val (.int i103), .val (.int i107), .val (.int i111), .val (.int i115), .val (.double v119), .second, .val (.double v123), .second, .val (.ref b126), .val (.ref b144), .val (.int i177), .val (.int kd)] [(.int kd)])) _
      refine XS.ifYes X161.here hx rfl (pc0 := 228) (pc' := 249) rfl (hb hby at_228) rfl ((if0 _ _).trans (feq ek0).2) (by decide) (by decide) ?_
      show Steps p.tables e below (T161.setTop (mkF m 249 #[.val (.int xa), .val (.int ya), .val (.int wa), .val (.int ha), .val (.int d), .val (.int sel), .val (.int wA), .val (.int hA), .val (.int i103), .val (.int i107), .val (.int i111), .val (.int i115), .val (.double v119), .second, .val (.double v123), .second, .val (.ref b126), .val (.ref b144), .val (.int i177), .val (.int kd)] [])) _
      refine XS.iload X161.here hx rfl (hb hby at_249) rfl ?_
      show Steps p.tables e below (T161.setTop (mkF m 251 #[.val (.int xa), .val (.int ya), .val (.int wa), .val (.int ha), .val (.int d), .val (.int sel), .val (.int wA), .val (.int hA), .val (.int i103), .val (.int i107), .val (.int i111), .val (.int i115), .val (.double v119), .second, .val (.double v123), .second, .val (.ref b126), .val (.ref b144), .val (.int i177), .val (.int kd)] [(.int kd)])) _
      refine XS.iconst X161.here hx rfl (hb hby at_251) ?_
      exact k)
    by_cases ek1 : kd = (1 : Int32)
    · have k186 : ∀ t, Steps p.tables e below (T161.setTop (mkF m 259 #[.val (.int xa), .val (.int ya), .val (.int wa), .val (.int ha), .val (.int d), .val (.int sel), .val (.int wA), .val (.int hA), .val (.int i103), .val (.int i107), .val (.int i111), .val (.int i115), .val (.double v119), .second, .val (.double v123), .second, .val (.ref b126), .val (.ref b144), .val (.int i177), .val (.int kd)] [(.ref b126), (.ref b144)])) t → Steps p.tables e below (s₁.setTop (entryFrame m #[(.int xa), (.int ya), (.int wa), (.int ha), (.int d), (.int sel)] maxLocals)) t := fun t k => k185 t (by
        show Steps p.tables e below (T161.setTop (mkF m 252 #[.val (.int xa), .val (.int ya), .val (.int wa), .val (.int ha), .val (.int d), .val (.int sel), .val (.int wA), .val (.int hA), .val (.int i103), .val (.int i107), .val (.int i111), .val (.int i115), .val (.double v119), .second, .val (.double v123), .second, .val (.ref b126), .val (.ref b144), .val (.int i177), .val (.int kd)] [(.int (1 : Int32)), (.int kd)])) _
        refine XS.icmpNo X161.here hx rfl (hb hby at_252) rfl (teq ek1).2 ?_
        show Steps p.tables e below (T161.setTop (mkF m 255 #[.val (.int xa), .val (.int ya), .val (.int wa), .val (.int ha), .val (.int d), .val (.int sel), .val (.int wA), .val (.int hA), .val (.int i103), .val (.int i107), .val (.int i111), .val (.int i115), .val (.double v119), .second, .val (.double v123), .second, .val (.ref b126), .val (.ref b144), .val (.int i177), .val (.int kd)] [])) _
        refine XS.aload X161.here hx rfl (hb hby at_255) rfl rfl ?_
        show Steps p.tables e below (T161.setTop (mkF m 257 #[.val (.int xa), .val (.int ya), .val (.int wa), .val (.int ha), .val (.int d), .val (.int sel), .val (.int wA), .val (.int hA), .val (.int i103), .val (.int i107), .val (.int i111), .val (.int i115), .val (.double v119), .second, .val (.double v123), .second, .val (.ref b126), .val (.ref b144), .val (.int i177), .val (.int kd)] [(.ref b144)])) _
        refine XS.aload X161.here hx rfl (hb hby at_257) rfl rfl ?_
        exact k)
      obtain ⟨cq187, kq187, q187a, q187b, q187c⟩ := isOf hZ e161 G161e
      obtain ⟨_, _, ⟨T187, L187, k187, n187⟩, -, X187, ⟨Lc187, hQ187, l187, y187, z187⟩, st187⟩ := X161.virtualBack hx (y := (⟨"com/example/hoja/hoja/model/Box", "equals", "(Ljava/lang/Object;)Z"⟩ : MethodName)) (z := (⟨"com/example/hoja/hoja/model/Box", "equals", "(Ljava/lang/Object;)Z"⟩ : MethodName)) hown (mvT hZ (hw _ (List.mem_of_getElem? (i := 30) rfl))) (mvT hZ (hw _ (List.mem_of_getElem? (i := 31) rfl))) (notFace_of_selects (args := #[]) (mvT hZ (hw _ (List.mem_of_getElem? (i := 33) rfl)))) (mvT hZ (hw _ (List.mem_of_getElem? (i := 33) rfl))) (mvT hZ (hw _ (List.mem_of_getElem? (i := 32) rfl))) (by decide) (backOf (W := 0) (eqb l Z a0 hw [] b144 b126 v119 v123 (FP.dadd v119 b2) (FP.dadd v123 b3) v0 v1 (FP.dadd v0 v2) (FP.dadd v1 v3) h161 n0 Z171 G1610 G1611 G1612 G1613 F166 F167 F168 F169 F165) hZ (hw _ (List.mem_of_getElem? (i := 34) rfl)) (hw _ (List.mem_of_getElem? (i := 3) rfl)) (by decide) (by decide)) q187a q187c (g := (mkF m 259 #[.val (.int xa), .val (.int ya), .val (.int wa), .val (.int ha), .val (.int d), .val (.int sel), .val (.int wA), .val (.int hA), .val (.int i103), .val (.int i107), .val (.int i111), .val (.int i115), .val (.double v119), .second, .val (.double v123), .second, .val (.ref b126), .val (.ref b144), .val (.int i177), .val (.int kd)] [(.ref b126), (.ref b144)])) rfl (by rw [hml]; rfl) (Steps.refl _) (argsL := [(.ref b126)]) (rest := []) (lenOf pd__28Ljava_2flang_2fObject_3b_29Z rfl) rfl (by show 2 * 0 + _ ≤ _; exact Nat.le_of_eq rfl) (hb hby at_259) (fun _ _ => ⟨rfl, e161, (by decide : 2 + 0 ≤ _), (by decide : 8 + 0 ≤ _)⟩)
      dsimp only [Pt.U, Pt.locs, Pt.cells, Pt.slots] at X187 l187 y187 z187 st187 hQ187
      subst l187 y187 z187
      obtain ⟨rfl, N187q, e187⟩ := hQ187
      have N188 := Fr.app N162 N187q
      have k189 : ∀ t, Steps p.tables e below (T187.setTop (mkF m 262 #[.val (.int xa), .val (.int ya), .val (.int wa), .val (.int ha), .val (.int d), .val (.int sel), .val (.int wA), .val (.int hA), .val (.int i103), .val (.int i107), .val (.int i111), .val (.int i115), .val (.double v119), .second, .val (.double v123), .second, .val (.ref b126), .val (.ref b144), .val (.int i177), .val (.int kd)] [(.int (own_eq v119 v123 (FP.dadd v119 b2) (FP.dadd v123 b3) v0 v1 (FP.dadd v0 v2) (FP.dadd v1 v3)))])) t → Steps p.tables e below (s₁.setTop (entryFrame m #[(.int xa), (.int ya), (.int wa), (.int ha), (.int d), (.int sel)] maxLocals)) t := fun t k => k186 t (st187.trans k)
      have hfin : (own_eq v119 v123 (FP.dadd v119 b2) (FP.dadd v123 b3) v0 v1 (FP.dadd v0 v2) (FP.dadd v1 v3)) = i177 := by rw [own_sym Dbx Dby Ds1q159 Ds2q159 Dv0 Dv1 Ds1q135 Ds2q135, hi177]; exact own_fin Dv0 Dv1 Ds1q135 Ds2q135 Dbx Dby Ds1q159 Ds2q159
      have k190 : ∀ t, Steps p.tables e below (T187.setTop (mkF m 272 #[.val (.int xa), .val (.int ya), .val (.int wa), .val (.int ha), .val (.int d), .val (.int sel), .val (.int wA), .val (.int hA), .val (.int i103), .val (.int i107), .val (.int i111), .val (.int i115), .val (.double v119), .second, .val (.double v123), .second, .val (.ref b126), .val (.ref b144), .val (.int i177), .val (.int kd)] [(.int (1 : Int32))])) t → Steps p.tables e below (s₁.setTop (entryFrame m #[(.int xa), (.int ya), (.int wa), (.int ha), (.int d), (.int sel)] maxLocals)) t := fun t k => k189 t (by
        show Steps p.tables e below (T187.setTop (mkF m 262 #[.val (.int xa), .val (.int ya), .val (.int wa), .val (.int ha), .val (.int d), .val (.int sel), .val (.int wA), .val (.int hA), .val (.int i103), .val (.int i107), .val (.int i111), .val (.int i115), .val (.double v119), .second, .val (.double v123), .second, .val (.ref b126), .val (.ref b144), .val (.int i177), .val (.int kd)] [(.int (own_eq v119 v123 (FP.dadd v119 b2) (FP.dadd v123 b3) v0 v1 (FP.dadd v0 v2) (FP.dadd v1 v3)))])) _
        refine XS.iload X187.here hx rfl (hb hby at_262) rfl ?_
        show Steps p.tables e below (T187.setTop (mkF m 264 #[.val (.int xa), .val (.int ya), .val (.int wa), .val (.int ha), .val (.int d), .val (.int sel), .val (.int wA), .val (.int hA), .val (.int i103), .val (.int i107), .val (.int i111), .val (.int i115), .val (.double v119), .second, .val (.double v123), .second, .val (.ref b126), .val (.ref b144), .val (.int i177), .val (.int kd)] [(.int i177), (.int (own_eq v119 v123 (FP.dadd v119 b2) (FP.dadd v123 b3) v0 v1 (FP.dadd v0 v2) (FP.dadd v1 v3)))])) _
        refine XS.icmpNo X187.here hx rfl (hb hby at_264) rfl (teq hfin).2 ?_
        show Steps p.tables e below (T187.setTop (mkF m 267 #[.val (.int xa), .val (.int ya), .val (.int wa), .val (.int ha), .val (.int d), .val (.int sel), .val (.int wA), .val (.int hA), .val (.int i103), .val (.int i107), .val (.int i111), .val (.int i115), .val (.double v119), .second, .val (.double v123), .second, .val (.ref b126), .val (.ref b144), .val (.int i177), .val (.int kd)] [])) _
        refine XS.iconst X187.here hx rfl (hb hby at_267) ?_
        show Steps p.tables e below (T187.setTop (mkF m 268 #[.val (.int xa), .val (.int ya), .val (.int wa), .val (.int ha), .val (.int d), .val (.int sel), .val (.int wA), .val (.int hA), .val (.int i103), .val (.int i107), .val (.int i111), .val (.int i115), .val (.double v119), .second, .val (.double v123), .second, .val (.ref b126), .val (.ref b144), .val (.int i177), .val (.int kd)] [(.int (1 : Int32))])) _
        refine XS.goto X187.here hx rfl (pc0 := 268) (pc' := 272) rfl (hb hby at_268) (by decide) (by decide) ?_
        exact k)
      obtain ⟨fs, hr, hrun, hended, hW, hsame⟩ := X187.leave (v := some (.int (1 : Int32))) (fun h => by rw [Bd.returns] at h; cases h)
      refine ⟨_, _, k190 _ (retOut X187 hx (t := .boolean) Bd.returns rfl (Or.inl ⟨rfl, Or.inr (Or.inl rfl), _, rfl⟩) (hb hby at_272) hr), hrun, hended, _, _, rfl, ?_, ⟨_, rfl⟩, hW, hsame.mono (by decide) (by decide)⟩
      show Q_rm0 Z xa ya wa ha d sel cs h0 n0 _ T187.heap _
      rw [e187]
      exact ⟨rfl, N188⟩
    · have k191 : ∀ t, Steps p.tables e below (T161.setTop (mkF m 276 #[.val (.int xa), .val (.int ya), .val (.int wa), .val (.int ha), .val (.int d), .val (.int sel), .val (.int wA), .val (.int hA), .val (.int i103), .val (.int i107), .val (.int i111), .val (.int i115), .val (.double v119), .second, .val (.double v123), .second, .val (.ref b126), .val (.ref b144), .val (.int i177), .val (.int kd)] [(.int (2 : Int32)), (.int kd)])) t → Steps p.tables e below (s₁.setTop (entryFrame m #[(.int xa), (.int ya), (.int wa), (.int ha), (.int d), (.int sel)] maxLocals)) t := fun t k => k185 t (by
        show Steps p.tables e below (T161.setTop (mkF m 252 #[.val (.int xa), .val (.int ya), .val (.int wa), .val (.int ha), .val (.int d), .val (.int sel), .val (.int wA), .val (.int hA), .val (.int i103), .val (.int i107), .val (.int i111), .val (.int i115), .val (.double v119), .second, .val (.double v123), .second, .val (.ref b126), .val (.ref b144), .val (.int i177), .val (.int kd)] [(.int (1 : Int32)), (.int kd)])) _
        refine XS.icmpYes X161.here hx rfl (pc0 := 252) (pc' := 273) rfl (hb hby at_252) rfl (feq ek1).2 (by decide) (by decide) ?_
        show Steps p.tables e below (T161.setTop (mkF m 273 #[.val (.int xa), .val (.int ya), .val (.int wa), .val (.int ha), .val (.int d), .val (.int sel), .val (.int wA), .val (.int hA), .val (.int i103), .val (.int i107), .val (.int i111), .val (.int i115), .val (.double v119), .second, .val (.double v123), .second, .val (.ref b126), .val (.ref b144), .val (.int i177), .val (.int kd)] [])) _
        refine XS.iload X161.here hx rfl (hb hby at_273) rfl ?_
        show Steps p.tables e below (T161.setTop (mkF m 275 #[.val (.int xa), .val (.int ya), .val (.int wa), .val (.int ha), .val (.int d), .val (.int sel), .val (.int wA), .val (.int hA), .val (.int i103), .val (.int i107), .val (.int i111), .val (.int i115), .val (.double v119), .second, .val (.double v123), .second, .val (.ref b126), .val (.ref b144), .val (.int i177), .val (.int kd)] [(.int kd)])) _
        refine XS.iconst X161.here hx rfl (hb hby at_275) ?_
        exact k)
      by_cases ek2 : kd = (2 : Int32)
      · have k192 : ∀ t, Steps p.tables e below (T161.setTop (mkF m 282 #[.val (.int xa), .val (.int ya), .val (.int wa), .val (.int ha), .val (.int d), .val (.int sel), .val (.int wA), .val (.int hA), .val (.int i103), .val (.int i107), .val (.int i111), .val (.int i115), .val (.double v119), .second, .val (.double v123), .second, .val (.ref b126), .val (.ref b144), .val (.int i177), .val (.int kd)] [.null, (.ref b126)])) t → Steps p.tables e below (s₁.setTop (entryFrame m #[(.int xa), (.int ya), (.int wa), (.int ha), (.int d), (.int sel)] maxLocals)) t := fun t k => k191 t (by
          show Steps p.tables e below (T161.setTop (mkF m 276 #[.val (.int xa), .val (.int ya), .val (.int wa), .val (.int ha), .val (.int d), .val (.int sel), .val (.int wA), .val (.int hA), .val (.int i103), .val (.int i107), .val (.int i111), .val (.int i115), .val (.double v119), .second, .val (.double v123), .second, .val (.ref b126), .val (.ref b144), .val (.int i177), .val (.int kd)] [(.int (2 : Int32)), (.int kd)])) _
          refine XS.icmpNo X161.here hx rfl (hb hby at_276) rfl (teq ek2).2 ?_
          show Steps p.tables e below (T161.setTop (mkF m 279 #[.val (.int xa), .val (.int ya), .val (.int wa), .val (.int ha), .val (.int d), .val (.int sel), .val (.int wA), .val (.int hA), .val (.int i103), .val (.int i107), .val (.int i111), .val (.int i115), .val (.double v119), .second, .val (.double v123), .second, .val (.ref b126), .val (.ref b144), .val (.int i177), .val (.int kd)] [])) _
          refine XS.aload X161.here hx rfl (hb hby at_279) rfl rfl ?_
          show Steps p.tables e below (T161.setTop (mkF m 281 #[.val (.int xa), .val (.int ya), .val (.int wa), .val (.int ha), .val (.int d), .val (.int sel), .val (.int wA), .val (.int hA), .val (.int i103), .val (.int i107), .val (.int i111), .val (.int i115), .val (.double v119), .second, .val (.double v123), .second, .val (.ref b126), .val (.ref b144), .val (.int i177), .val (.int kd)] [(.ref b126)])) _
          refine XS.aconstNull X161.here hx rfl (hb hby at_281) ?_
          exact k)
        obtain ⟨cq193, kq193, q193a, q193b, q193c⟩ := isOf hZ e161 F165
        obtain ⟨_, _, ⟨T193, L193, k193, n193⟩, -, X193, ⟨Lc193, hQ193, l193, y193, z193⟩, st193⟩ := X161.virtualBack hx (y := (⟨"com/example/hoja/hoja/model/Box", "equals", "(Ljava/lang/Object;)Z"⟩ : MethodName)) (z := (⟨"com/example/hoja/hoja/model/Box", "equals", "(Ljava/lang/Object;)Z"⟩ : MethodName)) hown (mvT hZ (hw _ (List.mem_of_getElem? (i := 30) rfl))) (mvT hZ (hw _ (List.mem_of_getElem? (i := 31) rfl))) (notFace_of_selects (args := #[]) (mvT hZ (hw _ (List.mem_of_getElem? (i := 33) rfl)))) (mvT hZ (hw _ (List.mem_of_getElem? (i := 33) rfl))) (mvT hZ (hw _ (List.mem_of_getElem? (i := 32) rfl))) (by decide) (backOf (W := 0) (eqn l Z a0 hw [] b126 h161 n0 Z171 ) hZ (hw _ (List.mem_of_getElem? (i := 34) rfl)) (hw _ (List.mem_of_getElem? (i := 3) rfl)) (by decide) (by decide)) q193a q193c (g := (mkF m 282 #[.val (.int xa), .val (.int ya), .val (.int wa), .val (.int ha), .val (.int d), .val (.int sel), .val (.int wA), .val (.int hA), .val (.int i103), .val (.int i107), .val (.int i111), .val (.int i115), .val (.double v119), .second, .val (.double v123), .second, .val (.ref b126), .val (.ref b144), .val (.int i177), .val (.int kd)] [.null, (.ref b126)])) rfl (by rw [hml]; rfl) (Steps.refl _) (argsL := [.null]) (rest := []) (lenOf pd__28Ljava_2flang_2fObject_3b_29Z rfl) rfl (by show 2 * 0 + _ ≤ _; exact Nat.le_of_eq rfl) (hb hby at_282) (fun _ _ => ⟨rfl, e161, (by decide : 2 + 0 ≤ _), (by decide : 8 + 0 ≤ _)⟩)
        dsimp only [Pt.U, Pt.locs, Pt.cells, Pt.slots] at X193 l193 y193 z193 st193 hQ193
        subst l193 y193 z193
        obtain ⟨rfl, N193q, e193⟩ := hQ193
        have N194 := Fr.app N162 N193q
        have k195 : ∀ t, Steps p.tables e below (T193.setTop (mkF m 285 #[.val (.int xa), .val (.int ya), .val (.int wa), .val (.int ha), .val (.int d), .val (.int sel), .val (.int wA), .val (.int hA), .val (.int i103), .val (.int i107), .val (.int i111), .val (.int i115), .val (.double v119), .second, .val (.double v123), .second, .val (.ref b126), .val (.ref b144), .val (.int i177), .val (.int kd)] [(.int (0 : Int32))])) t → Steps p.tables e below (s₁.setTop (entryFrame m #[(.int xa), (.int ya), (.int wa), (.int ha), (.int d), (.int sel)] maxLocals)) t := fun t k => k192 t (st193.trans k)
        have k196 : ∀ t, Steps p.tables e below (T193.setTop (mkF m 292 #[.val (.int xa), .val (.int ya), .val (.int wa), .val (.int ha), .val (.int d), .val (.int sel), .val (.int wA), .val (.int hA), .val (.int i103), .val (.int i107), .val (.int i111), .val (.int i115), .val (.double v119), .second, .val (.double v123), .second, .val (.ref b126), .val (.ref b144), .val (.int i177), .val (.int kd)] [(.ref b126), (.ref b126)])) t → Steps p.tables e below (s₁.setTop (entryFrame m #[(.int xa), (.int ya), (.int wa), (.int ha), (.int d), (.int sel)] maxLocals)) t := fun t k => k195 t (by
          show Steps p.tables e below (T193.setTop (mkF m 285 #[.val (.int xa), .val (.int ya), .val (.int wa), .val (.int ha), .val (.int d), .val (.int sel), .val (.int wA), .val (.int hA), .val (.int i103), .val (.int i107), .val (.int i111), .val (.int i115), .val (.double v119), .second, .val (.double v123), .second, .val (.ref b126), .val (.ref b144), .val (.int i177), .val (.int kd)] [(.int (0 : Int32))])) _
          refine XS.ifNo X193.here hx rfl (hb hby at_285) rfl ((if0 _ _).trans (teq (by decide)).2) ?_
          show Steps p.tables e below (T193.setTop (mkF m 288 #[.val (.int xa), .val (.int ya), .val (.int wa), .val (.int ha), .val (.int d), .val (.int sel), .val (.int wA), .val (.int hA), .val (.int i103), .val (.int i107), .val (.int i111), .val (.int i115), .val (.double v119), .second, .val (.double v123), .second, .val (.ref b126), .val (.ref b144), .val (.int i177), .val (.int kd)] [])) _
          refine XS.aload X193.here hx rfl (hb hby at_288) rfl rfl ?_
          show Steps p.tables e below (T193.setTop (mkF m 290 #[.val (.int xa), .val (.int ya), .val (.int wa), .val (.int ha), .val (.int d), .val (.int sel), .val (.int wA), .val (.int hA), .val (.int i103), .val (.int i107), .val (.int i111), .val (.int i115), .val (.double v119), .second, .val (.double v123), .second, .val (.ref b126), .val (.ref b144), .val (.int i177), .val (.int kd)] [(.ref b126)])) _
          refine XS.aload X193.here hx rfl (hb hby at_290) rfl rfl ?_
          exact k)
        obtain ⟨cq197, kq197, q197a, q197b, q197c⟩ := isOf hZ e193 F165
        obtain ⟨_, _, ⟨T197, L197, k197, n197⟩, -, X197, ⟨Lc197, hQ197, l197, y197, z197⟩, st197⟩ := X193.virtualBack hx (y := (⟨"com/example/hoja/hoja/model/Box", "equals", "(Ljava/lang/Object;)Z"⟩ : MethodName)) (z := (⟨"com/example/hoja/hoja/model/Box", "equals", "(Ljava/lang/Object;)Z"⟩ : MethodName)) hown (mvT hZ (hw _ (List.mem_of_getElem? (i := 30) rfl))) (mvT hZ (hw _ (List.mem_of_getElem? (i := 31) rfl))) (notFace_of_selects (args := #[]) (mvT hZ (hw _ (List.mem_of_getElem? (i := 33) rfl)))) (mvT hZ (hw _ (List.mem_of_getElem? (i := 33) rfl))) (mvT hZ (hw _ (List.mem_of_getElem? (i := 32) rfl))) (by decide) (backOf (W := 0) (eqb l Z a0 hw [] b126 b126 v0 v1 (FP.dadd v0 v2) (FP.dadd v1 v3) v0 v1 (FP.dadd v0 v2) (FP.dadd v1 v3) h161 n0 Z171 F166 F167 F168 F169 F166 F167 F168 F169 F165) hZ (hw _ (List.mem_of_getElem? (i := 34) rfl)) (hw _ (List.mem_of_getElem? (i := 3) rfl)) (by decide) (by decide)) q197a q197c (g := (mkF m 292 #[.val (.int xa), .val (.int ya), .val (.int wa), .val (.int ha), .val (.int d), .val (.int sel), .val (.int wA), .val (.int hA), .val (.int i103), .val (.int i107), .val (.int i111), .val (.int i115), .val (.double v119), .second, .val (.double v123), .second, .val (.ref b126), .val (.ref b144), .val (.int i177), .val (.int kd)] [(.ref b126), (.ref b126)])) rfl (by rw [hml]; rfl) (Steps.refl _) (argsL := [(.ref b126)]) (rest := []) (lenOf pd__28Ljava_2flang_2fObject_3b_29Z rfl) rfl (by show 2 * 0 + _ ≤ _; exact Nat.le_of_eq rfl) (hb hby at_292) (fun _ _ => ⟨rfl, e193, (by decide : 2 + 0 ≤ _), (by decide : 8 + 0 ≤ _)⟩)
        dsimp only [Pt.U, Pt.locs, Pt.cells, Pt.slots] at X197 l197 y197 z197 st197 hQ197
        subst l197 y197 z197
        obtain ⟨rfl, N197q, e197⟩ := hQ197
        have N198 := Fr.app N194 N197q
        have k199 : ∀ t, Steps p.tables e below (T197.setTop (mkF m 295 #[.val (.int xa), .val (.int ya), .val (.int wa), .val (.int ha), .val (.int d), .val (.int sel), .val (.int wA), .val (.int hA), .val (.int i103), .val (.int i107), .val (.int i111), .val (.int i115), .val (.double v119), .second, .val (.double v123), .second, .val (.ref b126), .val (.ref b144), .val (.int i177), .val (.int kd)] [(.int (own_eq v0 v1 (FP.dadd v0 v2) (FP.dadd v1 v3) v0 v1 (FP.dadd v0 v2) (FP.dadd v1 v3)))])) t → Steps p.tables e below (s₁.setTop (entryFrame m #[(.int xa), (.int ya), (.int wa), (.int ha), (.int d), (.int sel)] maxLocals)) t := fun t k => k196 t (st197.trans k)
        have hself : ¬ ((own_eq v0 v1 (FP.dadd v0 v2) (FP.dadd v1 v3) v0 v1 (FP.dadd v0 v2) (FP.dadd v1 v3)) = (0 : Int32)) := own_self Dv0 Dv1 Ds1q135 Ds2q135
        have k200 : ∀ t, Steps p.tables e below (T197.setTop (mkF m 303 #[.val (.int xa), .val (.int ya), .val (.int wa), .val (.int ha), .val (.int d), .val (.int sel), .val (.int wA), .val (.int hA), .val (.int i103), .val (.int i107), .val (.int i111), .val (.int i115), .val (.double v119), .second, .val (.double v123), .second, .val (.ref b126), .val (.ref b144), .val (.int i177), .val (.int kd)] [(.int (1 : Int32))])) t → Steps p.tables e below (s₁.setTop (entryFrame m #[(.int xa), (.int ya), (.int wa), (.int ha), (.int d), (.int sel)] maxLocals)) t := fun t k => k199 t (by
          show Steps p.tables e below (T197.setTop (mkF m 295 #[.val (.int xa), .val (.int ya), .val (.int wa), .val (.int ha), .val (.int d), .val (.int sel), .val (.int wA), .val (.int hA), .val (.int i103), .val (.int i107), .val (.int i111), .val (.int i115), .val (.double v119), .second, .val (.double v123), .second, .val (.ref b126), .val (.ref b144), .val (.int i177), .val (.int kd)] [(.int (own_eq v0 v1 (FP.dadd v0 v2) (FP.dadd v1 v3) v0 v1 (FP.dadd v0 v2) (FP.dadd v1 v3)))])) _
          refine XS.ifNo X197.here hx rfl (hb hby at_295) rfl ((if0 _ _).trans (feq hself).1) ?_
          show Steps p.tables e below (T197.setTop (mkF m 298 #[.val (.int xa), .val (.int ya), .val (.int wa), .val (.int ha), .val (.int d), .val (.int sel), .val (.int wA), .val (.int hA), .val (.int i103), .val (.int i107), .val (.int i111), .val (.int i115), .val (.double v119), .second, .val (.double v123), .second, .val (.ref b126), .val (.ref b144), .val (.int i177), .val (.int kd)] [])) _
          refine XS.iconst X197.here hx rfl (hb hby at_298) ?_
          show Steps p.tables e below (T197.setTop (mkF m 299 #[.val (.int xa), .val (.int ya), .val (.int wa), .val (.int ha), .val (.int d), .val (.int sel), .val (.int wA), .val (.int hA), .val (.int i103), .val (.int i107), .val (.int i111), .val (.int i115), .val (.double v119), .second, .val (.double v123), .second, .val (.ref b126), .val (.ref b144), .val (.int i177), .val (.int kd)] [(.int (1 : Int32))])) _
          refine XS.goto X197.here hx rfl (pc0 := 299) (pc' := 303) rfl (hb hby at_299) (by decide) (by decide) ?_
          exact k)
        obtain ⟨fs, hr, hrun, hended, hW, hsame⟩ := X197.leave (v := some (.int (1 : Int32))) (fun h => by rw [Bd.returns] at h; cases h)
        refine ⟨_, _, k200 _ (retOut X197 hx (t := .boolean) Bd.returns rfl (Or.inl ⟨rfl, Or.inr (Or.inl rfl), _, rfl⟩) (hb hby at_303) hr), hrun, hended, _, _, rfl, ?_, ⟨_, rfl⟩, hW, hsame.mono (by decide) (by decide)⟩
        show Q_rm0 Z xa ya wa ha d sel cs h0 n0 _ T197.heap _
        rw [e197]
        exact ⟨rfl, N198⟩
      · have k201 : ∀ t, Steps p.tables e below (T161.setTop (mkF m 304 #[.val (.int xa), .val (.int ya), .val (.int wa), .val (.int ha), .val (.int d), .val (.int sel), .val (.int wA), .val (.int hA), .val (.int i103), .val (.int i107), .val (.int i111), .val (.int i115), .val (.double v119), .second, .val (.double v123), .second, .val (.ref b126), .val (.ref b144), .val (.int i177), .val (.int kd)] [])) t → Steps p.tables e below (s₁.setTop (entryFrame m #[(.int xa), (.int ya), (.int wa), (.int ha), (.int d), (.int sel)] maxLocals)) t := fun t k => k191 t (by
          show Steps p.tables e below (T161.setTop (mkF m 276 #[.val (.int xa), .val (.int ya), .val (.int wa), .val (.int ha), .val (.int d), .val (.int sel), .val (.int wA), .val (.int hA), .val (.int i103), .val (.int i107), .val (.int i111), .val (.int i115), .val (.double v119), .second, .val (.double v123), .second, .val (.ref b126), .val (.ref b144), .val (.int i177), .val (.int kd)] [(.int (2 : Int32)), (.int kd)])) _
          refine XS.icmpYes X161.here hx rfl (pc0 := 276) (pc' := 304) rfl (hb hby at_276) rfl (feq ek2).2 (by decide) (by decide) ?_
          exact k)
        have k202 : ∀ t, Steps p.tables e below (T161.setTop (mkF m 313 #[.val (.int xa), .val (.int ya), .val (.int wa), .val (.int ha), .val (.int d), .val (.int sel), .val (.int wA), .val (.int hA), .val (.int i103), .val (.int i107), .val (.int i111), .val (.int i115), .val (.double v119), .second, .val (.double v123), .second, .val (.ref b126), .val (.ref b144), .val (.int i177), .val (.int kd)] [(.int ((d &&& (255 : Int32)).toUInt32.toUInt16.toUInt32.toInt32)), (.ref b126)])) t → Steps p.tables e below (s₁.setTop (entryFrame m #[(.int xa), (.int ya), (.int wa), (.int ha), (.int d), (.int sel)] maxLocals)) t := fun t k => k201 t (by
          show Steps p.tables e below (T161.setTop (mkF m 304 #[.val (.int xa), .val (.int ya), .val (.int wa), .val (.int ha), .val (.int d), .val (.int sel), .val (.int wA), .val (.int hA), .val (.int i103), .val (.int i107), .val (.int i111), .val (.int i115), .val (.double v119), .second, .val (.double v123), .second, .val (.ref b126), .val (.ref b144), .val (.int i177), .val (.int kd)] [])) _
          refine XS.aload X161.here hx rfl (hb hby at_304) rfl rfl ?_
          show Steps p.tables e below (T161.setTop (mkF m 306 #[.val (.int xa), .val (.int ya), .val (.int wa), .val (.int ha), .val (.int d), .val (.int sel), .val (.int wA), .val (.int hA), .val (.int i103), .val (.int i107), .val (.int i111), .val (.int i115), .val (.double v119), .second, .val (.double v123), .second, .val (.ref b126), .val (.ref b144), .val (.int i177), .val (.int kd)] [(.ref b126)])) _
          refine XS.iload X161.here hx rfl (hb hby at_306) rfl ?_
          show Steps p.tables e below (T161.setTop (mkF m 308 #[.val (.int xa), .val (.int ya), .val (.int wa), .val (.int ha), .val (.int d), .val (.int sel), .val (.int wA), .val (.int hA), .val (.int i103), .val (.int i107), .val (.int i111), .val (.int i115), .val (.double v119), .second, .val (.double v123), .second, .val (.ref b126), .val (.ref b144), .val (.int i177), .val (.int kd)] [(.int d), (.ref b126)])) _
          refine XS.sipush X161.here hx rfl (hb hby at_308) ?_
          show Steps p.tables e below (T161.setTop (mkF m 311 #[.val (.int xa), .val (.int ya), .val (.int wa), .val (.int ha), .val (.int d), .val (.int sel), .val (.int wA), .val (.int hA), .val (.int i103), .val (.int i107), .val (.int i111), .val (.int i115), .val (.double v119), .second, .val (.double v123), .second, .val (.ref b126), .val (.ref b144), .val (.int i177), .val (.int kd)] [(.int (255 : Int32)), (.int d), (.ref b126)])) _
          refine XS.iand X161.here hx rfl (hb hby at_311) rfl ?_
          show Steps p.tables e below (T161.setTop (mkF m 312 #[.val (.int xa), .val (.int ya), .val (.int wa), .val (.int ha), .val (.int d), .val (.int sel), .val (.int wA), .val (.int hA), .val (.int i103), .val (.int i107), .val (.int i111), .val (.int i115), .val (.double v119), .second, .val (.double v123), .second, .val (.ref b126), .val (.ref b144), .val (.int i177), .val (.int kd)] [(.int (d &&& (255 : Int32))), (.ref b126)])) _
          refine XS.i2c X161.here hx rfl (hb hby at_312) rfl ?_
          exact k)
        obtain ⟨_, _, ⟨T203, L203, k203, n203⟩, -, X203, ⟨Lc203, hQ203, l203, y203, z203⟩, st203⟩ := Jvm.LawKit.callS X161 hx (y := (⟨"java/lang/String", "valueOf", "(C)Ljava/lang/String;"⟩ : MethodName)) hown (mvT hZ (hw _ (List.mem_of_getElem? (i := 37) rfl))) (mvT hZ (hw _ (List.mem_of_getElem? (i := 38) rfl))) (mvT hZ (hw _ (List.mem_of_getElem? (i := 39) rfl))) (mvT hZ (hw _ (List.mem_of_getElem? (i := 40) rfl))) (by decide) (backOf (W := 1) (rm7 l Z a0 hw [] ((d &&& (255 : Int32)).toUInt32.toUInt16.toUInt32.toInt32) cs h161 n0 Z171 (own_ch d) (Scs.ext F164.2) hcs) hZ (hw _ (List.mem_of_getElem? (i := 40) rfl)) (hw _ (List.mem_of_getElem? (i := 39) rfl)) (by decide) (by decide)) (g := (mkF m 313 #[.val (.int xa), .val (.int ya), .val (.int wa), .val (.int ha), .val (.int d), .val (.int sel), .val (.int wA), .val (.int hA), .val (.int i103), .val (.int i107), .val (.int i111), .val (.int i115), .val (.double v119), .second, .val (.double v123), .second, .val (.ref b126), .val (.ref b144), .val (.int i177), .val (.int kd)] [(.int ((d &&& (255 : Int32)).toUInt32.toUInt16.toUInt32.toInt32)), (.ref b126)])) rfl (by rw [hml]; rfl) (argsL := [(.int ((d &&& (255 : Int32)).toUInt32.toUInt16.toUInt32.toInt32))]) (rest := [(.ref b126)]) (lenOf pd__28C_29Ljava_2flang_2fString_3b rfl) rfl (by show 2 * 0 + _ ≤ _; exact Nat.le_of_eq rfl) (hb hby at_313) (fun _ _ => ⟨rfl, e161, (by decide : 2 + 2 ≤ _), (by decide : 8 + 5 ≤ _)⟩)
        dsimp only [Pt.U, Pt.locs, Pt.cells, Pt.slots] at X203 l203 y203 z203 st203 hQ203
        subst l203 y203 z203
        obtain ⟨h203, e203⟩ : ∃ h', T203.heap = h' := ⟨_, rfl⟩
        rw [e203] at hQ203
        obtain ⟨b203, t203, kk203, rfl, N203q, gb203, gt203, nbt203, K203, G203e, G203v, G203c, V203⟩ := hQ203
        have N204 := Fr.app N162 N203q
        have k205 : ∀ t, Steps p.tables e below (T203.setTop (mkF m 316 #[.val (.int xa), .val (.int ya), .val (.int wa), .val (.int ha), .val (.int d), .val (.int sel), .val (.int wA), .val (.int hA), .val (.int i103), .val (.int i107), .val (.int i111), .val (.int i115), .val (.double v119), .second, .val (.double v123), .second, .val (.ref b126), .val (.ref b144), .val (.int i177), .val (.int kd)] [(.ref b203), (.ref b126)])) t → Steps p.tables e below (s₁.setTop (entryFrame m #[(.int xa), (.int ya), (.int wa), (.int ha), (.int d), (.int sel)] maxLocals)) t := fun t k => k202 t (st203 t k)
        have F206 := F164.keep K203 all0
        have F207 := F165.keep K203
        have F208 := F166.keep K203 nin0
        have F209 := F167.keep K203 nin0
        have F210 := F168.keep K203 nin0
        have F211 := F169.keep K203 nin0
        have F212 := G161e.keep K203
        have F213 := G1610.keep K203 nin0
        have F214 := G1611.keep K203 nin0
        have F215 := G1612.keep K203 nin0
        have F216 := G1613.keep K203 nin0
        have Z217 : n0 ≤ h203.size := Nat.le_trans Z171 K203.1
        obtain ⟨cq218, kq218, q218a, q218b, q218c⟩ := isOf hZ e203 F207
        obtain ⟨_, _, ⟨T218, L218, k218, n218⟩, -, X218, ⟨Lc218, hQ218, l218, y218, z218⟩, st218⟩ := X203.virtualBack hx (y := (⟨"com/example/hoja/hoja/model/Box", "equals", "(Ljava/lang/Object;)Z"⟩ : MethodName)) (z := (⟨"com/example/hoja/hoja/model/Box", "equals", "(Ljava/lang/Object;)Z"⟩ : MethodName)) hown (mvT hZ (hw _ (List.mem_of_getElem? (i := 30) rfl))) (mvT hZ (hw _ (List.mem_of_getElem? (i := 31) rfl))) (notFace_of_selects (args := #[]) (mvT hZ (hw _ (List.mem_of_getElem? (i := 33) rfl)))) (mvT hZ (hw _ (List.mem_of_getElem? (i := 33) rfl))) (mvT hZ (hw _ (List.mem_of_getElem? (i := 32) rfl))) (by decide) (backOf (W := 0) (eqs l Z a0 hw [] b126 b203 h203 n0 Z217 G203e (own_nobox hw)) hZ (hw _ (List.mem_of_getElem? (i := 34) rfl)) (hw _ (List.mem_of_getElem? (i := 3) rfl)) (by decide) (by decide)) q218a q218c (g := (mkF m 316 #[.val (.int xa), .val (.int ya), .val (.int wa), .val (.int ha), .val (.int d), .val (.int sel), .val (.int wA), .val (.int hA), .val (.int i103), .val (.int i107), .val (.int i111), .val (.int i115), .val (.double v119), .second, .val (.double v123), .second, .val (.ref b126), .val (.ref b144), .val (.int i177), .val (.int kd)] [(.ref b203), (.ref b126)])) rfl (by rw [hml]; rfl) (Steps.refl _) (argsL := [(.ref b203)]) (rest := []) (lenOf pd__28Ljava_2flang_2fObject_3b_29Z rfl) rfl (by show 2 * 0 + _ ≤ _; exact Nat.le_of_eq rfl) (hb hby at_316) (fun _ _ => ⟨rfl, e203, (by decide : 4 + 0 ≤ _), (by decide : 13 + 0 ≤ _)⟩)
        dsimp only [Pt.U, Pt.locs, Pt.cells, Pt.slots] at X218 l218 y218 z218 st218 hQ218
        subst l218 y218 z218
        obtain ⟨rfl, N218q, e218⟩ := hQ218
        have N219 := Fr.app N204 N218q
        have k220 : ∀ t, Steps p.tables e below (T218.setTop (mkF m 319 #[.val (.int xa), .val (.int ya), .val (.int wa), .val (.int ha), .val (.int d), .val (.int sel), .val (.int wA), .val (.int hA), .val (.int i103), .val (.int i107), .val (.int i111), .val (.int i115), .val (.double v119), .second, .val (.double v123), .second, .val (.ref b126), .val (.ref b144), .val (.int i177), .val (.int kd)] [(.int (0 : Int32))])) t → Steps p.tables e below (s₁.setTop (entryFrame m #[(.int xa), (.int ya), (.int wa), (.int ha), (.int d), (.int sel)] maxLocals)) t := fun t k => k205 t (st218.trans k)
        have k221 : ∀ t, Steps p.tables e below (T218.setTop (mkF m 327 #[.val (.int xa), .val (.int ya), .val (.int wa), .val (.int ha), .val (.int d), .val (.int sel), .val (.int wA), .val (.int hA), .val (.int i103), .val (.int i107), .val (.int i111), .val (.int i115), .val (.double v119), .second, .val (.double v123), .second, .val (.ref b126), .val (.ref b144), .val (.int i177), .val (.int kd)] [(.int (1 : Int32))])) t → Steps p.tables e below (s₁.setTop (entryFrame m #[(.int xa), (.int ya), (.int wa), (.int ha), (.int d), (.int sel)] maxLocals)) t := fun t k => k220 t (by
          show Steps p.tables e below (T218.setTop (mkF m 319 #[.val (.int xa), .val (.int ya), .val (.int wa), .val (.int ha), .val (.int d), .val (.int sel), .val (.int wA), .val (.int hA), .val (.int i103), .val (.int i107), .val (.int i111), .val (.int i115), .val (.double v119), .second, .val (.double v123), .second, .val (.ref b126), .val (.ref b144), .val (.int i177), .val (.int kd)] [(.int (0 : Int32))])) _
          refine XS.ifNo X218.here hx rfl (hb hby at_319) rfl ((if0 _ _).trans (teq (by decide)).2) ?_
          show Steps p.tables e below (T218.setTop (mkF m 322 #[.val (.int xa), .val (.int ya), .val (.int wa), .val (.int ha), .val (.int d), .val (.int sel), .val (.int wA), .val (.int hA), .val (.int i103), .val (.int i107), .val (.int i111), .val (.int i115), .val (.double v119), .second, .val (.double v123), .second, .val (.ref b126), .val (.ref b144), .val (.int i177), .val (.int kd)] [])) _
          refine XS.iconst X218.here hx rfl (hb hby at_322) ?_
          show Steps p.tables e below (T218.setTop (mkF m 323 #[.val (.int xa), .val (.int ya), .val (.int wa), .val (.int ha), .val (.int d), .val (.int sel), .val (.int wA), .val (.int hA), .val (.int i103), .val (.int i107), .val (.int i111), .val (.int i115), .val (.double v119), .second, .val (.double v123), .second, .val (.ref b126), .val (.ref b144), .val (.int i177), .val (.int kd)] [(.int (1 : Int32))])) _
          refine XS.goto X218.here hx rfl (pc0 := 323) (pc' := 327) rfl (hb hby at_323) (by decide) (by decide) ?_
          exact k)
        obtain ⟨fs, hr, hrun, hended, hW, hsame⟩ := X218.leave (v := some (.int (1 : Int32))) (fun h => by rw [Bd.returns] at h; cases h)
        refine ⟨_, _, k221 _ (retOut X218 hx (t := .boolean) Bd.returns rfl (Or.inl ⟨rfl, Or.inr (Or.inl rfl), _, rfl⟩) (hb hby at_327) hr), hrun, hended, _, _, rfl, ?_, ⟨_, rfl⟩, hW, hsame.mono (by decide) (by decide)⟩
        show Q_rm0 Z xa ya wa ha d sel cs h0 n0 _ T218.heap _
        rw [e218]
        exact ⟨rfl, N219⟩
set_option maxRecDepth 65536 in
set_option maxHeartbeats 40000000 in
theorem comes_1 {Post : Tables → Env → Array Value → State → Outcome → State → Prop} (hpost : ∀ tb e args s v u, (limb_1_1.after args s (.returned v) u = true ∧ limb_1_2.after args s (.returned v) u = true ∧ True) → FrameEnd s (.returned v) u (Jvm.fieldLocs frame_1_writes args s ++ Jvm.arrayLocs frame_1_arrays args s ++ Jvm.staticLocs frame_1_statics s) 16 128 → Post tb e args s (.returned v) u) :
    ArmFor flags0 classFile x code maxLocals ret World_1 tables_1 room_1 Calls_1 rest_1 Pre_1 Post := by
  intro l hfl _ _ p e ha hc hk s m args below hf hA hF happ hP
  obtain ⟨hcalls, hrest, hpre⟩ := hP
  obtain ⟨-, -, -, hnamed, -, -, -, hat⟩ := (Spec.applies_iff hf).mp happ
  obtain ⟨hg, hn⟩ := and_e (Cond.before_iff.mp (show (Jvm.Cond.and given_1 narrow_1).before args s = true from hpre))
  obtain ⟨g1, g2⟩ := and_e hg
  obtain ⟨g3, g4⟩ := and_e g2
  obtain ⟨g5, g6⟩ := and_e g4
  obtain ⟨g7, g8⟩ := and_e g6
  obtain ⟨g9, g10⟩ := and_e g8
  obtain ⟨g11, g12⟩ := and_e g10
  obtain ⟨w0, w1, w2, w3, w4, w5, rfl⟩ : ∃ w0 w1 w2 w3 w4 w5 : Value, args = #[w0, w1, w2, w3, w4, w5] := by
    have hs : args.size = 6 := by simpa [Cond.value, given_1] using g1
    obtain ⟨L⟩ := args
    match L, hs with
    | [w0, w1, w2, w3, w4, w5], _ => exact ⟨w0, w1, w2, w3, w4, w5, rfl⟩
  have hw := fun d (hd : d ∈ tables_1) => atoms_spec (ws := Jvm.Cond.code x code maxLocals ret :: tables_1) hat d (List.mem_cons_of_mem _ hd)
  obtain ⟨i0, ei0⟩ := is_v g3
  obtain rfl : w0 = (.int i0) := Option.some.inj ei0
  obtain ⟨i1, ei1⟩ := is_v g5
  obtain rfl : w1 = (.int i1) := Option.some.inj ei1
  obtain ⟨i2, ei2⟩ := is_v g7
  obtain rfl : w2 = (.int i2) := Option.some.inj ei2
  obtain ⟨i3, ei3⟩ := is_v g9
  obtain rfl : w3 = (.int i3) := Option.some.inj ei3
  obtain ⟨i4, ei4⟩ := is_v g11
  obtain rfl : w4 = (.int i4) := Option.some.inj ei4
  obtain ⟨i5, ei5⟩ := is_v g12
  obtain rfl : w5 = (.int i5) := Option.some.inj ei5
  obtain ⟨hsets, hown0⟩ := atoms_of _ (rest_1_c_eq ▸ (show rest_1_c.before _ s = true from hrest))
  have nz := not_v (Cond.before_iff.mp (hsets _ (List.mem_of_getElem? (i := 2) rfl)))
  obtain ⟨cs, ecs⟩ := is_v (Cond.before_iff.mp (hsets _ (List.mem_of_getElem? (i := 1) rfl)))
  have Scs : Sta s s.heap "java/lang/String" "COMPACT_STRINGS" "Z" (.int cs) := Sta.start ecs (Or.inl (hsets _ (List.mem_of_getElem? (i := 0) rfl)))
  have hcs : ¬ (cs = (0 : Int32)) := gotF (Cond.eq_ints ecs (Term.int_eval (0))) nz
  obtain ⟨n, o, h1, h2, h3, _, L, rfl, ⟨rfl, N⟩, hq⟩ := rm0 l s _ hw tables_1 i0 i1 i2 i3 i4 i5 cs s.heap s.heap.size (Nat.le_refl _) Scs hcs (Old.start s) p e ha hc hk s m _ below hf ((Spec.applies_iff_loose hf).mp happ).1 ⟨rfl, State.Warmed39.refl s, rfl⟩ trivial
  refine ⟨n, _, h1, h2, h3, hpost _ _ _ _ _ _ ⟨Cond.after_iff.mpr rfl, Cond.after_iff.mpr (eq_i res_at (Term.int_eval (1)) rfl), trivial⟩ ⟨hq.1, hq.2.1, (hq.2.2.sift fun y hy => Or.inr (N y hy)).mono (by decide) (by decide)⟩⟩
theorem main_1_1 : Claimed_1_1 := comes_1 fun _ _ _ _ _ _ h hF => ⟨h.1, hF⟩
theorem main_1_2 : Claimed_1_2 := comes_1 fun _ _ _ _ _ _ h hF => ⟨h.2.1, hF⟩
end Jvm.Pilot.@@N@@
namespace Jvm.Pilot.@@N@@
open Jvm Jvm.ClassFile Sem Op Lib Jvm.Free Jvm.Stand Jvm.Pilot.@@N@@.Jvm.D
/-! MADE BY PROGRAM (witnessworld.py) out of the Statement's table words and the real class files: 20 classes; the members and pool entries that the words name. The judged class is class 1, her method 1. -/
namespace start1
open Jvm.ClassFile
def u (s : String) : CpInfo := .utf8 (stringToUtf16 s)
/-- a pool by its gaps: so many unusable entries, then the entry; so many at the end -/
def gap : Nat → List CpInfo → List CpInfo
  | 0, r => r
  | n + 1, r => .unusable :: gap n r
def poolList (es : List (Nat × CpInfo)) (last : Nat) : List CpInfo := es.foldr (fun e r => gap e.1 (e.2 :: r)) (gap last [])
def pool (es : List (Nat × CpInfo)) (last : Nat) : Array CpInfo := ⟨poolList es last⟩
def fileOf (pool : Array CpInfo) (this : Nat) (attrs : Array Attribute := #[]) (ms : Array MethodInfo := #[]) (fl : Nat := 33) (sup : Nat := 0) (ifs : Array Nat := #[]) (fds : Array FieldInfo := #[]) : ClassFile where
  minorVersion := 0
  majorVersion := 65
  constantPool := pool
  accessFlags := fl
  thisClass := this
  superClass := sup
  interfaces := ifs
  fields := fds
  methods := ms
  attributes := attrs
def plain (name : String) (sup : Option ClassId) : Class where
  name := name
  kind := .ordinary
  loader := none
  accessFlags := 33
  super := sup
  interfaces := #[]
  cf := none
  fields := #[]
  methods := #[]
  instanceTypes := #[]
  staticTypes := #[]
  resolved := #[]
  callSites := []
  init := .initialized
  statics := none
  mirror := none

def pool0 : Array CpInfo := pool [(5, u "<init>"), (0, u "()V"), (1, .class_ 10), (1, u "java/lang/Object")] 113

def k0c0 : Code := { maxStack := 0, maxLocals := 1, code := object_method_1_code, exceptionTable := #[], attributes := #[] }
def k0m0 : Method := { name := "<init>", desc := "()V", sig := { parameters := [], returnType := none }, accessFlags := 1, code := some k0c0 }
/-- java/lang/Object -/
def k0 : Class := { plain "java/lang/Object" none with
  accessFlags := 33
  interfaces := #[]
  cf := some (fileOf pool0 8 #[] #[{ accessFlags := 1, nameIndex := 5, descriptorIndex := 6, attributes := #[] }] 33 0 #[] #[])
  fields := #[]
  methods := #[k0m0]
  instanceTypes := #[]
  staticTypes := #[]
  resolved := Array.replicate 124 none
  statics := none }

def pool1 : Array CpInfo := pool [(2, .class_ 4), (1, u "java/lang/Object"), (0, u "<init>"), (0, u "()V"), (0, .integer 2147483647), (0, .class_ 9), (0, u "com/example/hoja/hoja/model/Box"), (0, .methodref 8 11), (0, .nameAndType 5 12), (0, u "(DDDD)V"), (0, .methodref 8 14), (0, .nameAndType 15 16), (0, u "equals"), (0, u "(Ljava/lang/Object;)Z"), (0, .methodref 18 19), (0, .class_ 20), (0, .nameAndType 21 22), (0, u "java/lang/String"), (0, u "valueOf"), (0, u "(C)Ljava/lang/String;"), (0, .class_ 24), (0, u "com/example/hoja/hoja/model/BoxEqualsPinLaw"), (2, u "law"), (0, u "(IIIIII)Z")] 3

def k1m0 : Method := { name := "<init>", desc := "()V", sig := { parameters := [], returnType := none }, accessFlags := 1, code := none }
def k1c1 : Code := { maxStack := 10, maxLocals := 20, code := code, exceptionTable := #[], attributes := #[] }
def k1m1 : Method := { name := "law", desc := "(IIIIII)Z", sig := { parameters := [.int, .int, .int, .int, .int, .int], returnType := some .boolean }, accessFlags := 9, code := some k1c1 }
/-- com/example/hoja/hoja/model/BoxEqualsPinLaw -/
def k1 : Class := { plain "com/example/hoja/hoja/model/BoxEqualsPinLaw" (some 0) with
  accessFlags := 49
  interfaces := #[]
  cf := some (fileOf pool1 23 #[] #[{ accessFlags := 1, nameIndex := 5, descriptorIndex := 6, attributes := #[] }, { accessFlags := 9, nameIndex := 27, descriptorIndex := 28, attributes := #[] }] 49 2 #[] #[])
  fields := #[]
  methods := #[k1m0, k1m1]
  instanceTypes := #[]
  staticTypes := #[]
  resolved := Array.replicate 32 none
  statics := none }

def pool2 : Array CpInfo := pool [(1, .methodref 2 3), (0, .class_ 4), (0, .nameAndType 5 6), (0, u "com/example/hoja/hoja/model/Box"), (0, u "<init>"), (0, u "(DDDDDD)V"), (0, .methodref 8 9), (0, .class_ 10), (0, .nameAndType 5 11), (0, u "java/lang/Object"), (0, u "()V"), (9, .methodref 22 23), (0, .class_ 24), (0, .nameAndType 25 26), (0, u "java/lang/Double"), (0, u "isFinite"), (0, u "(D)Z"), (3, .fieldref 2 31), (0, .nameAndType 32 33), (0, u "x"), (0, u "D"), (0, .fieldref 2 35), (0, .nameAndType 36 33), (0, u "y"), (0, .fieldref 2 38), (0, .nameAndType 39 33), (0, u "right"), (0, .fieldref 2 41), (0, .nameAndType 42 33), (0, u "bottom"), (65, u "(DDDD)V"), (14, u "equals"), (0, u "(Ljava/lang/Object;)Z")] 24

def k2c0 : Code := { maxStack := 13, maxLocals := 9, code := prog_26_method_1_code, exceptionTable := #[], attributes := #[] }
def k2m0 : Method := { name := "<init>", desc := "(DDDD)V", sig := { parameters := [.double, .double, .double, .double], returnType := none }, accessFlags := 1, code := some k2c0 }
def k2c1 : Code := { maxStack := 10, maxLocals := 13, code := prog_26_method_3_code, exceptionTable := #[], attributes := #[] }
def k2m1 : Method := { name := "<init>", desc := "(DDDDDD)V", sig := { parameters := [.double, .double, .double, .double, .double, .double], returnType := none }, accessFlags := 2, code := some k2c1 }
def k2c2 : Code := { maxStack := 4, maxLocals := 3, code := prog_26_method_16_code, exceptionTable := #[], attributes := #[] }
def k2m2 : Method := { name := "equals", desc := "(Ljava/lang/Object;)Z", sig := { parameters := [(.object "java/lang/Object")], returnType := some .boolean }, accessFlags := 1, code := some k2c2 }
/-- com/example/hoja/hoja/model/Box -/
def k2 : Class := { plain "com/example/hoja/hoja/model/Box" (some 0) with
  accessFlags := 49
  interfaces := #[]
  cf := some (fileOf pool2 2 #[] #[{ accessFlags := 1, nameIndex := 5, descriptorIndex := 108, attributes := #[] }, { accessFlags := 2, nameIndex := 5, descriptorIndex := 6, attributes := #[] }, { accessFlags := 1, nameIndex := 123, descriptorIndex := 124, attributes := #[] }] 49 8 #[] #[{ accessFlags := 18, nameIndex := 32, descriptorIndex := 33, attributes := #[] }, { accessFlags := 18, nameIndex := 36, descriptorIndex := 33, attributes := #[] }, { accessFlags := 18, nameIndex := 39, descriptorIndex := 33, attributes := #[] }, { accessFlags := 18, nameIndex := 42, descriptorIndex := 33, attributes := #[] }])
  fields := #[{ name := "x", type := .double, accessFlags := 18, slot := 0, constantValue := 0 }, { name := "y", type := .double, accessFlags := 18, slot := 1, constantValue := 0 }, { name := "right", type := .double, accessFlags := 18, slot := 2, constantValue := 0 }, { name := "bottom", type := .double, accessFlags := 18, slot := 3, constantValue := 0 }]
  methods := #[k2m0, k2m1, k2m2]
  instanceTypes := #[.double, .double, .double, .double]
  staticTypes := #[]
  resolved := Array.replicate 149 none
  statics := none }

def pool3 : Array CpInfo := pool [(1, .class_ 2), (0, u "java/io/Serializable"), (0, .class_ 4), (0, u "java/lang/Object")] 2

/-- java/io/Serializable -/
def k3 : Class := { plain "java/io/Serializable" (some 0) with
  accessFlags := 1537
  interfaces := #[]
  cf := some (fileOf pool3 1 #[] #[] 1537 3 #[] #[])
  fields := #[]
  methods := #[]
  instanceTypes := #[]
  staticTypes := #[]
  resolved := Array.replicate 7 none
  statics := none }

def pool4 : Array CpInfo := pool [(2, .class_ 4), (1, u "java/lang/Object"), (0, u "<init>"), (0, u "()V"), (1, .class_ 10), (1, u "java/lang/Number"), (2, .class_ 14), (0, u "java/io/Serializable"), (0, u "serialVersionUID"), (0, u "J")] 20

def k4m0 : Method := { name := "<init>", desc := "()V", sig := { parameters := [], returnType := none }, accessFlags := 1, code := none }
/-- java/lang/Number -/
def k4 : Class := { plain "java/lang/Number" (some 0) with
  accessFlags := 1057
  interfaces := #[3]
  cf := some (fileOf pool4 8 #[] #[{ accessFlags := 1, nameIndex := 5, descriptorIndex := 6, attributes := #[] }] 1057 2 #[13] #[{ accessFlags := 26, nameIndex := 15, descriptorIndex := 16, attributes := #[] }])
  fields := #[{ name := "serialVersionUID", type := .long, accessFlags := 26, slot := 0, constantValue := 0 }]
  methods := #[k4m0]
  instanceTypes := #[]
  staticTypes := #[.long]
  resolved := Array.replicate 37 none
  statics := none }

def pool5 : Array CpInfo := pool [(1, .class_ 2), (0, u "java/lang/Comparable"), (0, .class_ 4), (0, u "java/lang/Object")] 7

/-- java/lang/Comparable -/
def k5 : Class := { plain "java/lang/Comparable" (some 0) with
  accessFlags := 1537
  interfaces := #[]
  cf := some (fileOf pool5 1 #[] #[] 1537 3 #[] #[])
  fields := #[]
  methods := #[]
  instanceTypes := #[]
  staticTypes := #[]
  resolved := Array.replicate 12 none
  statics := none }

def pool6 : Array CpInfo := pool [(1, .class_ 2), (0, u "java/lang/constant/Constable"), (0, .class_ 4), (0, u "java/lang/Object")] 6

/-- java/lang/constant/Constable -/
def k6 : Class := { plain "java/lang/constant/Constable" (some 0) with
  accessFlags := 1537
  interfaces := #[]
  cf := some (fileOf pool6 1 #[] #[] 1537 3 #[] #[])
  fields := #[]
  methods := #[]
  instanceTypes := #[]
  staticTypes := #[]
  resolved := Array.replicate 11 none
  statics := none }

def pool7 : Array CpInfo := pool [(1, .class_ 2), (0, u "java/lang/constant/ConstantDesc"), (0, .class_ 4), (0, u "java/lang/Object")] 32

/-- java/lang/constant/ConstantDesc -/
def k7 : Class := { plain "java/lang/constant/ConstantDesc" (some 0) with
  accessFlags := 1537
  interfaces := #[]
  cf := some (fileOf pool7 1 #[] #[] 1537 3 #[] #[])
  fields := #[]
  methods := #[]
  instanceTypes := #[]
  staticTypes := #[]
  resolved := Array.replicate 37 none
  statics := none }

def pool8 : Array CpInfo := pool [(1, .class_ 2), (0, u "java/lang/Double"), (10, u "isFinite"), (0, u "(D)Z"), (8, .class_ 25), (1, u "java/lang/Math"), (12, .methodref 23 39), (0, .nameAndType 40 41), (0, u "abs"), (0, u "(D)D"), (69, .double 9218868437227405311), (2, .class_ 116), (1, u "java/lang/Number"), (3, u "value"), (0, u "D"), (51, u "TYPE"), (0, u "Ljava/lang/Class;"), (0, .class_ 176), (0, u "java/lang/Comparable"), (0, .class_ 178), (0, u "java/lang/constant/Constable"), (0, .class_ 180), (0, u "java/lang/constant/ConstantDesc"), (0, u "POSITIVE_INFINITY"), (3, u "NEGATIVE_INFINITY"), (2, u "NaN"), (2, u "MAX_VALUE"), (0, u "MIN_NORMAL"), (0, u "MIN_VALUE"), (2, u "SIZE"), (0, u "I"), (1, u "PRECISION"), (1, u "MAX_EXPONENT"), (1, u "MIN_EXPONENT"), (1, u "BYTES"), (3, u "serialVersionUID"), (0, u "J")] 79

def k8c0 : Code := { maxStack := 4, maxLocals := 2, code := jdk_117_method_8_code, exceptionTable := #[], attributes := #[] }
def k8m0 : Method := { name := "isFinite", desc := "(D)Z", sig := { parameters := [.double], returnType := some .boolean }, accessFlags := 9, code := some k8c0 }
/-- java/lang/Double -/
def k8 : Class := { plain "java/lang/Double" (some 4) with
  accessFlags := 49
  interfaces := #[5, 6, 7]
  cf := some (fileOf pool8 1 #[] #[{ accessFlags := 9, nameIndex := 13, descriptorIndex := 14, attributes := #[] }] 49 114 #[175, 177, 179] #[{ accessFlags := 25, nameIndex := 181, descriptorIndex := 121, attributes := #[] }, { accessFlags := 25, nameIndex := 185, descriptorIndex := 121, attributes := #[] }, { accessFlags := 25, nameIndex := 188, descriptorIndex := 121, attributes := #[] }, { accessFlags := 25, nameIndex := 191, descriptorIndex := 121, attributes := #[] }, { accessFlags := 25, nameIndex := 192, descriptorIndex := 121, attributes := #[] }, { accessFlags := 25, nameIndex := 193, descriptorIndex := 121, attributes := #[] }, { accessFlags := 25, nameIndex := 196, descriptorIndex := 197, attributes := #[] }, { accessFlags := 25, nameIndex := 199, descriptorIndex := 197, attributes := #[] }, { accessFlags := 25, nameIndex := 201, descriptorIndex := 197, attributes := #[] }, { accessFlags := 25, nameIndex := 203, descriptorIndex := 197, attributes := #[] }, { accessFlags := 25, nameIndex := 205, descriptorIndex := 197, attributes := #[] }, { accessFlags := 25, nameIndex := 173, descriptorIndex := 174, attributes := #[] }, { accessFlags := 18, nameIndex := 120, descriptorIndex := 121, attributes := #[] }, { accessFlags := 26, nameIndex := 209, descriptorIndex := 210, attributes := #[] }])
  fields := #[{ name := "POSITIVE_INFINITY", type := .double, accessFlags := 25, slot := 0, constantValue := 0 }, { name := "NEGATIVE_INFINITY", type := .double, accessFlags := 25, slot := 1, constantValue := 0 }, { name := "NaN", type := .double, accessFlags := 25, slot := 2, constantValue := 0 }, { name := "MAX_VALUE", type := .double, accessFlags := 25, slot := 3, constantValue := 0 }, { name := "MIN_NORMAL", type := .double, accessFlags := 25, slot := 4, constantValue := 0 }, { name := "MIN_VALUE", type := .double, accessFlags := 25, slot := 5, constantValue := 0 }, { name := "SIZE", type := .int, accessFlags := 25, slot := 6, constantValue := 0 }, { name := "PRECISION", type := .int, accessFlags := 25, slot := 7, constantValue := 0 }, { name := "MAX_EXPONENT", type := .int, accessFlags := 25, slot := 8, constantValue := 0 }, { name := "MIN_EXPONENT", type := .int, accessFlags := 25, slot := 9, constantValue := 0 }, { name := "BYTES", type := .int, accessFlags := 25, slot := 10, constantValue := 0 }, { name := "TYPE", type := (.object "java/lang/Class"), accessFlags := 25, slot := 11, constantValue := 0 }, { name := "value", type := .double, accessFlags := 18, slot := 0, constantValue := 0 }, { name := "serialVersionUID", type := .long, accessFlags := 26, slot := 12, constantValue := 0 }]
  methods := #[k8m0]
  instanceTypes := #[.double]
  staticTypes := #[.double, .double, .double, .double, .double, .double, .int, .int, .int, .int, .int, (.object "java/lang/Class"), .long]
  resolved := Array.replicate 290 none
  statics := none }

def pool9 : Array CpInfo := pool [(1, .class_ 2), (0, u "java/lang/Math"), (1, .class_ 6), (1, u "java/lang/Object"), (0, u "<init>"), (0, u "()V"), (5, u "(D)D"), (83, .class_ 100), (1, u "java/lang/Math$RandomNumberGeneratorHolder"), (23, u "abs"), (47, u "negativeZeroFloatBits"), (0, u "J"), (2, u "negativeZeroDoubleBits"), (68, u "$assertionsDisabled"), (0, u "Z"), (91, u "twoToTheDoubleScaleDown"), (0, u "D"), (4, u "twoToTheDoubleScaleUp"), (9, u "E"), (3, u "PI"), (2, u "TAU"), (2, u "DEGREES_TO_RADIANS"), (0, u "RADIANS_TO_DEGREES")] 94

def k9m0 : Method := { name := "<init>", desc := "()V", sig := { parameters := [], returnType := none }, accessFlags := 2, code := none }
def k9c1 : Code := { maxStack := 4, maxLocals := 2, code := jdk_29_method_64_code, exceptionTable := #[], attributes := #[] }
def k9m1 : Method := { name := "abs", desc := "(D)D", sig := { parameters := [.double], returnType := some .double }, accessFlags := 9, code := some k9c1 }
/-- java/lang/Math -/
def k9 : Class := { plain "java/lang/Math" (some 0) with
  accessFlags := 49
  interfaces := #[]
  cf := some (fileOf pool9 1 #[.nestMembers #[98]] #[{ accessFlags := 2, nameIndex := 7, descriptorIndex := 8, attributes := #[] }, { accessFlags := 9, nameIndex := 124, descriptorIndex := 14, attributes := #[] }] 49 4 #[] #[{ accessFlags := 25, nameIndex := 354, descriptorIndex := 339, attributes := #[] }, { accessFlags := 25, nameIndex := 358, descriptorIndex := 339, attributes := #[] }, { accessFlags := 25, nameIndex := 361, descriptorIndex := 339, attributes := #[] }, { accessFlags := 26, nameIndex := 364, descriptorIndex := 339, attributes := #[] }, { accessFlags := 26, nameIndex := 365, descriptorIndex := 339, attributes := #[] }, { accessFlags := 26, nameIndex := 172, descriptorIndex := 173, attributes := #[] }, { accessFlags := 26, nameIndex := 176, descriptorIndex := 173, attributes := #[] }, { accessFlags := 8, nameIndex := 344, descriptorIndex := 339, attributes := #[] }, { accessFlags := 8, nameIndex := 338, descriptorIndex := 339, attributes := #[] }, { accessFlags := 4120, nameIndex := 245, descriptorIndex := 246, attributes := #[] }])
  fields := #[{ name := "E", type := .double, accessFlags := 25, slot := 0, constantValue := 0 }, { name := "PI", type := .double, accessFlags := 25, slot := 1, constantValue := 0 }, { name := "TAU", type := .double, accessFlags := 25, slot := 2, constantValue := 0 }, { name := "DEGREES_TO_RADIANS", type := .double, accessFlags := 26, slot := 3, constantValue := 0 }, { name := "RADIANS_TO_DEGREES", type := .double, accessFlags := 26, slot := 4, constantValue := 0 }, { name := "negativeZeroFloatBits", type := .long, accessFlags := 26, slot := 5, constantValue := 0 }, { name := "negativeZeroDoubleBits", type := .long, accessFlags := 26, slot := 6, constantValue := 0 }, { name := "twoToTheDoubleScaleUp", type := .double, accessFlags := 8, slot := 7, constantValue := 0 }, { name := "twoToTheDoubleScaleDown", type := .double, accessFlags := 8, slot := 8, constantValue := 0 }, { name := "$assertionsDisabled", type := .boolean, accessFlags := 4120, slot := 9, constantValue := 0 }]
  methods := #[k9m0, k9m1]
  instanceTypes := #[]
  staticTypes := #[.double, .double, .double, .double, .double, .long, .long, .double, .double, .boolean]
  resolved := Array.replicate 460 none
  statics := none }

def pool10 : Array CpInfo := pool [(2, .class_ 4), (1, u "java/lang/CharSequence"), (42, .class_ 48), (0, u "java/lang/CharSequence$1CodePointIterator"), (10, .class_ 60), (0, u "java/lang/CharSequence$1CharIterator"), (5, .class_ 67), (0, u "java/lang/Object")] 63

/-- java/lang/CharSequence -/
def k10 : Class := { plain "java/lang/CharSequence" (some 0) with
  accessFlags := 1537
  interfaces := #[]
  cf := some (fileOf pool10 2 #[.nestMembers #[47, 59]] #[] 1537 66 #[] #[])
  fields := #[]
  methods := #[]
  instanceTypes := #[]
  staticTypes := #[]
  resolved := Array.replicate 131 none
  statics := none }

def pool11 : Array CpInfo := pool [(1, .methodref 2 3), (0, .class_ 4), (0, .nameAndType 5 6), (0, u "java/lang/Object"), (0, u "<init>"), (0, u "()V"), (2, .fieldref 10 11), (0, .class_ 12), (0, .nameAndType 13 14), (0, u "java/lang/String"), (0, u "value"), (0, u "[B"), (0, .fieldref 10 16), (0, .nameAndType 17 18), (0, u "coder"), (0, u "B"), (2, u "hash"), (0, u "I"), (2, u "hashIsZero"), (0, u "Z"), (11, .fieldref 10 39), (0, .nameAndType 40 26), (0, u "COMPACT_STRINGS"), (12, u "toBytes"), (53, .class_ 109), (1, u "java/lang/StringLatin1"), (99, .methodref 10 210), (0, .nameAndType 5 211), (0, u "([BB)V"), (157, u "(C)Z"), (205, .class_ 576), (0, u "java/lang/CharSequence"), (22, u "CASE_INSENSITIVE_ORDER"), (0, u "Ljava/util/Comparator;"), (181, u "valueOf"), (0, u "(C)Ljava/lang/String;"), (231, .methodref 107 1016), (0, .nameAndType 1017 369), (0, u "canEncode"), (0, .methodref 107 1019), (0, .nameAndType 53 1020), (0, u "(C)[B"), (80, u "serialPersistentFields"), (0, u "[Ljava/io/ObjectStreamField;"), (0, .class_ 1104), (0, u "java/lang/String$CaseInsensitiveComparator"), (1, .class_ 1107), (0, u "java/io/Serializable"), (0, .class_ 1109), (0, u "java/lang/Comparable"), (0, .class_ 1111), (0, u "java/lang/constant/Constable"), (0, .class_ 1113), (0, u "java/lang/constant/ConstantDesc"), (2, u "serialVersionUID"), (0, u "J"), (3, u "REPL"), (0, u "C"), (2, u "LATIN1"), (1, u "UTF16")] 323

def k11m0 : Method := { name := "<init>", desc := "()V", sig := { parameters := [], returnType := none }, accessFlags := 1, code := none }
def k11c1 : Code := { maxStack := 4, maxLocals := 1, code := jdk_42_method_139_code, exceptionTable := #[], attributes := #[] }
def k11m1 : Method := { name := "valueOf", desc := "(C)Ljava/lang/String;", sig := { parameters := [.char], returnType := some (.object "java/lang/String") }, accessFlags := 9, code := some k11c1 }
def k11c2 : Code := { maxStack := 2, maxLocals := 3, code := jdk_42_method_151_code, exceptionTable := #[], attributes := #[] }
def k11m2 : Method := { name := "<init>", desc := "([BB)V", sig := { parameters := [(.array .byte), .byte], returnType := none }, accessFlags := 0, code := some k11c2 }
/-- java/lang/String -/
def k11 : Class := { plain "java/lang/String" (some 0) with
  accessFlags := 49
  interfaces := #[3, 5, 10, 6, 7]
  cf := some (fileOf pool11 10 #[.nestMembers #[1103]] #[{ accessFlags := 1, nameIndex := 5, descriptorIndex := 6, attributes := #[] }, { accessFlags := 9, nameIndex := 782, descriptorIndex := 783, attributes := #[] }, { accessFlags := 0, nameIndex := 5, descriptorIndex := 211, attributes := #[] }] 49 2 #[1106, 1108, 575, 1110, 1112] #[{ accessFlags := 18, nameIndex := 13, descriptorIndex := 14, attributes := #[] }, { accessFlags := 18, nameIndex := 17, descriptorIndex := 18, attributes := #[] }, { accessFlags := 2, nameIndex := 21, descriptorIndex := 22, attributes := #[] }, { accessFlags := 2, nameIndex := 25, descriptorIndex := 26, attributes := #[] }, { accessFlags := 26, nameIndex := 1116, descriptorIndex := 1117, attributes := #[] }, { accessFlags := 24, nameIndex := 40, descriptorIndex := 26, attributes := #[] }, { accessFlags := 26, nameIndex := 1101, descriptorIndex := 1102, attributes := #[] }, { accessFlags := 26, nameIndex := 1121, descriptorIndex := 1122, attributes := #[] }, { accessFlags := 25, nameIndex := 599, descriptorIndex := 600, attributes := #[] }, { accessFlags := 24, nameIndex := 1125, descriptorIndex := 18, attributes := #[] }, { accessFlags := 24, nameIndex := 1127, descriptorIndex := 18, attributes := #[] }])
  fields := #[{ name := "value", type := (.array .byte), accessFlags := 18, slot := 0, constantValue := 0 }, { name := "coder", type := .byte, accessFlags := 18, slot := 1, constantValue := 0 }, { name := "hash", type := .int, accessFlags := 2, slot := 2, constantValue := 0 }, { name := "hashIsZero", type := .boolean, accessFlags := 2, slot := 3, constantValue := 0 }, { name := "serialVersionUID", type := .long, accessFlags := 26, slot := 0, constantValue := 0 }, { name := "COMPACT_STRINGS", type := .boolean, accessFlags := 24, slot := 1, constantValue := 0 }, { name := "serialPersistentFields", type := (.array (.object "java/io/ObjectStreamField")), accessFlags := 26, slot := 2, constantValue := 0 }, { name := "REPL", type := .char, accessFlags := 26, slot := 3, constantValue := 0 }, { name := "CASE_INSENSITIVE_ORDER", type := (.object "java/util/Comparator"), accessFlags := 25, slot := 4, constantValue := 0 }, { name := "LATIN1", type := .byte, accessFlags := 24, slot := 5, constantValue := 0 }, { name := "UTF16", type := .byte, accessFlags := 24, slot := 6, constantValue := 0 }]
  methods := #[k11m0, k11m1, k11m2]
  instanceTypes := #[(.array .byte), .byte, .int, .boolean]
  staticTypes := #[.long, .boolean, (.array (.object "java/io/ObjectStreamField")), .char, (.object "java/util/Comparator"), .byte, .byte]
  resolved := Array.replicate 1451 none
  statics := some 0 }

def pool12 : Array CpInfo := pool [(4, .class_ 6), (1, u "java/lang/Object"), (0, u "<init>"), (0, u "()V"), (5, .class_ 16), (1, u "java/lang/StringLatin1"), (73, u "canEncode"), (14, u "(C)Z"), (15, u "$assertionsDisabled"), (0, u "Z"), (98, .class_ 223), (1, u "java/lang/StringLatin1$LinesSpliterator"), (156, u "toBytes"), (1, u "(C)[B"), (7, .class_ 391), (0, u "java/lang/StringLatin1$CharsSpliterator")] 3

def k12m0 : Method := { name := "<init>", desc := "()V", sig := { parameters := [], returnType := none }, accessFlags := 0, code := none }
def k12c1 : Code := { maxStack := 2, maxLocals := 1, code := jdk_43_method_3_code, exceptionTable := #[], attributes := #[] }
def k12m1 : Method := { name := "canEncode", desc := "(C)Z", sig := { parameters := [.char], returnType := some .boolean }, accessFlags := 9, code := some k12c1 }
def k12c2 : Code := { maxStack := 4, maxLocals := 1, code := jdk_43_method_46_code, exceptionTable := #[], attributes := #[] }
def k12m2 : Method := { name := "toBytes", desc := "(C)[B", sig := { parameters := [.char], returnType := some (.array .byte) }, accessFlags := 9, code := some k12c2 }
/-- java/lang/StringLatin1 -/
def k12 : Class := { plain "java/lang/StringLatin1" (some 0) with
  accessFlags := 48
  interfaces := #[]
  cf := some (fileOf pool12 14 #[.nestMembers #[390, 221]] #[{ accessFlags := 0, nameIndex := 7, descriptorIndex := 8, attributes := #[] }, { accessFlags := 9, nameIndex := 90, descriptorIndex := 105, attributes := #[] }, { accessFlags := 9, nameIndex := 380, descriptorIndex := 382, attributes := #[] }] 48 4 #[] #[{ accessFlags := 4120, nameIndex := 121, descriptorIndex := 122, attributes := #[] }])
  fields := #[{ name := "$assertionsDisabled", type := .boolean, accessFlags := 4120, slot := 0, constantValue := 0 }]
  methods := #[k12m0, k12m1, k12m2]
  instanceTypes := #[]
  staticTypes := #[.boolean]
  resolved := Array.replicate 395 none
  statics := none }

def pool13 : Array CpInfo := pool [(2, .class_ 4), (1, u "java/lang/Object"), (0, u "<init>"), (0, u "()V"), (17, .class_ 26), (1, u "jdk/internal/util/Preconditions"), (28, .class_ 56), (0, u "jdk/internal/util/Preconditions$4"), (57, .class_ 115), (0, u "jdk/internal/util/Preconditions$1"), (7, u "SIOOBE_FORMATTER"), (0, u "Ljava/util/function/BiFunction;"), (0, .class_ 126), (0, u "jdk/internal/util/Preconditions$2"), (3, u "AIOOBE_FORMATTER"), (0, .class_ 132), (0, u "jdk/internal/util/Preconditions$3"), (3, u "IOOBE_FORMATTER")] 57

def k13m0 : Method := { name := "<init>", desc := "()V", sig := { parameters := [], returnType := none }, accessFlags := 1, code := none }
/-- jdk/internal/util/Preconditions -/
def k13 : Class := { plain "jdk/internal/util/Preconditions" (some 0) with
  accessFlags := 33
  interfaces := #[]
  cf := some (fileOf pool13 24 #[.nestMembers #[55, 131, 125, 114]] #[{ accessFlags := 1, nameIndex := 5, descriptorIndex := 6, attributes := #[] }] 33 2 #[] #[{ accessFlags := 25, nameIndex := 123, descriptorIndex := 124, attributes := #[] }, { accessFlags := 25, nameIndex := 130, descriptorIndex := 124, attributes := #[] }, { accessFlags := 25, nameIndex := 136, descriptorIndex := 124, attributes := #[] }])
  fields := #[{ name := "SIOOBE_FORMATTER", type := (.object "java/util/function/BiFunction"), accessFlags := 25, slot := 0, constantValue := 0 }, { name := "AIOOBE_FORMATTER", type := (.object "java/util/function/BiFunction"), accessFlags := 25, slot := 1, constantValue := 0 }, { name := "IOOBE_FORMATTER", type := (.object "java/util/function/BiFunction"), accessFlags := 25, slot := 2, constantValue := 0 }]
  methods := #[k13m0]
  instanceTypes := #[]
  staticTypes := #[(.object "java/util/function/BiFunction"), (.object "java/util/function/BiFunction"), (.object "java/util/function/BiFunction")]
  resolved := Array.replicate 194 none
  statics := some 1 }

def pool14 : Array CpInfo := pool [(9, u "<init>"), (6, .class_ 18), (1, u "java/lang/Object"), (0, u "()V"), (1, .class_ 23), (1, u "jdk/internal/util/ArraysSupport"), (0, u "LOG2_ARRAY_LONG_INDEX_SCALE"), (0, u "I"), (2, u "U"), (0, u "Ljdk/internal/misc/Unsafe;"), (8, u "BIG_ENDIAN"), (0, u "Z"), (8, u "LOG2_BYTE_BIT_SIZE"), (4, u "LOG2_ARRAY_INT_INDEX_SCALE"), (54, u "JLA"), (0, u "Ljdk/internal/access/JavaLangAccess;"), (11, u "LOG2_ARRAY_BOOLEAN_INDEX_SCALE"), (9, u "LOG2_ARRAY_BYTE_INDEX_SCALE"), (5, u "LOG2_ARRAY_CHAR_INDEX_SCALE"), (5, u "LOG2_ARRAY_SHORT_INDEX_SCALE"), (18, u "LOG2_ARRAY_FLOAT_INDEX_SCALE"), (24, u "LOG2_ARRAY_DOUBLE_INDEX_SCALE"), (89, u "T_BOOLEAN"), (2, u "T_CHAR"), (1, u "T_FLOAT"), (1, u "T_DOUBLE"), (1, u "T_BYTE"), (1, u "T_SHORT"), (1, u "T_INT"), (1, u "T_LONG"), (1, u "SOFT_MAX_ARRAY_LENGTH")] 83

def k14m0 : Method := { name := "<init>", desc := "()V", sig := { parameters := [], returnType := none }, accessFlags := 2, code := none }
/-- jdk/internal/util/ArraysSupport -/
def k14 : Class := { plain "jdk/internal/util/ArraysSupport" (some 0) with
  accessFlags := 33
  interfaces := #[]
  cf := some (fileOf pool14 21 #[] #[{ accessFlags := 2, nameIndex := 9, descriptorIndex := 19, attributes := #[] }] 33 16 #[] #[{ accessFlags := 24, nameIndex := 28, descriptorIndex := 29, attributes := #[] }, { accessFlags := 26, nameIndex := 38, descriptorIndex := 39, attributes := #[] }, { accessFlags := 25, nameIndex := 121, descriptorIndex := 25, attributes := #[] }, { accessFlags := 25, nameIndex := 131, descriptorIndex := 25, attributes := #[] }, { accessFlags := 25, nameIndex := 137, descriptorIndex := 25, attributes := #[] }, { accessFlags := 25, nameIndex := 143, descriptorIndex := 25, attributes := #[] }, { accessFlags := 25, nameIndex := 53, descriptorIndex := 25, attributes := #[] }, { accessFlags := 25, nameIndex := 24, descriptorIndex := 25, attributes := #[] }, { accessFlags := 25, nameIndex := 162, descriptorIndex := 25, attributes := #[] }, { accessFlags := 25, nameIndex := 187, descriptorIndex := 25, attributes := #[] }, { accessFlags := 26, nameIndex := 48, descriptorIndex := 25, attributes := #[] }, { accessFlags := 25, nameIndex := 277, descriptorIndex := 25, attributes := #[] }, { accessFlags := 25, nameIndex := 280, descriptorIndex := 25, attributes := #[] }, { accessFlags := 25, nameIndex := 282, descriptorIndex := 25, attributes := #[] }, { accessFlags := 25, nameIndex := 284, descriptorIndex := 25, attributes := #[] }, { accessFlags := 25, nameIndex := 286, descriptorIndex := 25, attributes := #[] }, { accessFlags := 25, nameIndex := 288, descriptorIndex := 25, attributes := #[] }, { accessFlags := 25, nameIndex := 290, descriptorIndex := 25, attributes := #[] }, { accessFlags := 25, nameIndex := 292, descriptorIndex := 25, attributes := #[] }, { accessFlags := 26, nameIndex := 108, descriptorIndex := 109, attributes := #[] }, { accessFlags := 25, nameIndex := 294, descriptorIndex := 25, attributes := #[] }])
  fields := #[{ name := "U", type := (.object "jdk/internal/misc/Unsafe"), accessFlags := 24, slot := 0, constantValue := 0 }, { name := "BIG_ENDIAN", type := .boolean, accessFlags := 26, slot := 1, constantValue := 0 }, { name := "LOG2_ARRAY_BOOLEAN_INDEX_SCALE", type := .int, accessFlags := 25, slot := 2, constantValue := 0 }, { name := "LOG2_ARRAY_BYTE_INDEX_SCALE", type := .int, accessFlags := 25, slot := 3, constantValue := 0 }, { name := "LOG2_ARRAY_CHAR_INDEX_SCALE", type := .int, accessFlags := 25, slot := 4, constantValue := 0 }, { name := "LOG2_ARRAY_SHORT_INDEX_SCALE", type := .int, accessFlags := 25, slot := 5, constantValue := 0 }, { name := "LOG2_ARRAY_INT_INDEX_SCALE", type := .int, accessFlags := 25, slot := 6, constantValue := 0 }, { name := "LOG2_ARRAY_LONG_INDEX_SCALE", type := .int, accessFlags := 25, slot := 7, constantValue := 0 }, { name := "LOG2_ARRAY_FLOAT_INDEX_SCALE", type := .int, accessFlags := 25, slot := 8, constantValue := 0 }, { name := "LOG2_ARRAY_DOUBLE_INDEX_SCALE", type := .int, accessFlags := 25, slot := 9, constantValue := 0 }, { name := "LOG2_BYTE_BIT_SIZE", type := .int, accessFlags := 26, slot := 10, constantValue := 0 }, { name := "T_BOOLEAN", type := .int, accessFlags := 25, slot := 11, constantValue := 0 }, { name := "T_CHAR", type := .int, accessFlags := 25, slot := 12, constantValue := 0 }, { name := "T_FLOAT", type := .int, accessFlags := 25, slot := 13, constantValue := 0 }, { name := "T_DOUBLE", type := .int, accessFlags := 25, slot := 14, constantValue := 0 }, { name := "T_BYTE", type := .int, accessFlags := 25, slot := 15, constantValue := 0 }, { name := "T_SHORT", type := .int, accessFlags := 25, slot := 16, constantValue := 0 }, { name := "T_INT", type := .int, accessFlags := 25, slot := 17, constantValue := 0 }, { name := "T_LONG", type := .int, accessFlags := 25, slot := 18, constantValue := 0 }, { name := "JLA", type := (.object "jdk/internal/access/JavaLangAccess"), accessFlags := 26, slot := 19, constantValue := 0 }, { name := "SOFT_MAX_ARRAY_LENGTH", type := .int, accessFlags := 25, slot := 20, constantValue := 0 }]
  methods := #[k14m0]
  instanceTypes := #[]
  staticTypes := #[(.object "jdk/internal/misc/Unsafe"), .boolean, .int, .int, .int, .int, .int, .int, .int, .int, .int, .int, .int, .int, .int, .int, .int, .int, .int, (.object "jdk/internal/access/JavaLangAccess"), .int]
  resolved := Array.replicate 378 none
  statics := none }

def pool15 : Array CpInfo := pool [(1, u "java/lang/Cloneable"), (0, .class_ 1), (0, u "java/lang/Object"), (0, .class_ 3)] 3

/-- java/lang/Cloneable -/
def k15 : Class := { plain "java/lang/Cloneable" (some 0) with
  accessFlags := 1537
  interfaces := #[]
  cf := some (fileOf pool15 2 #[] #[] 1537 4 #[] #[])
  fields := #[]
  methods := #[]
  instanceTypes := #[]
  staticTypes := #[]
  resolved := Array.replicate 8 none
  statics := none }

/-- the primitive byte -/
def k16 : Class := { plain "byte" none with kind := .primitive 'B', accessFlags := 0x411 }
/-- [B -/
def k17 : Class := { plain "[B" (some 0) with kind := .array 16 .byte, interfaces := #[15, 3], accessFlags := 1041 }

/-- the primitive int -/
def k18 : Class := { plain "int" none with kind := .primitive 'I', accessFlags := 0x411 }
/-- [I -/
def k19 : Class := { plain "[I" (some 0) with kind := .array 18 .int, interfaces := #[15, 3], accessFlags := 1041 }

def heap : Heap := #[{ cls := 11, slots := #[.long 0, .int 1, .null, .int 0, .null, .int 0, .int 0], vm := .statics 11 },
  { cls := 13, slots := #[.null, .null, .null], vm := .statics 13 }]
def classes : Array Class := #[k0, k1, k2, k3, k4, k5, k6, k7, k8, k9, k10, k11, k12, k13, k14, k15, k16, k17, k18, k19]
def interned : List (Array UInt16 × Addr) := []
def slotsUsed : Nat := 10
def theMethod : MethodId := ⟨1, 1⟩
def args0 : Array Value := #[.int 3, .int 2, .int 1, .int 7, .int 2, .int 5]
def aboutOver (below : List Frame) : State where
  vm := { classes := classes, interned := interned.toArray }
  heap := heap
  slotsUsed := slotsUsed
  threads := #[{ frames := .invoking theMethod args0 :: below }]
def below0 : List Frame := [.native { method := ⟨0, 0⟩, args := #[] }]
def about1 : State := aboutOver below0
def p0 : Program := .bare "" "" ""
def e0 : Env := launch0.env 0 0 0
theorem w_frames : about1.frames = Frame.invoking theMethod args0 :: below0 := rfl
set_option maxRecDepth 65536 in
theorem w_args : argsFit about1.vm theMethod args0 = true := by decide +kernel
set_option maxRecDepth 65536 in
theorem w_heap : heapFits about1 = true := by decide +kernel
set_option maxRecDepth 65536 in
theorem w_runnable : about1.curStatus? = some .runnable := by decide +kernel
set_option maxRecDepth 65536 in
theorem w_alone : about1.alone = true := by decide +kernel
set_option maxRecDepth 65536 in
theorem w_named : about1.methodNamed? x = some theMethod := by decide +kernel
set_option maxRecDepth 65536 in
theorem w_hears : about1.hears theMethod below0 = true := by decide +kernel
set_option maxRecDepth 65536 in
theorem w_ripe : about1.ripe theMethod args0 below0 = true := by decide +kernel
theorem w_running : about1.status = .running := rfl
set_option maxRecDepth 65536 in
theorem w_room : about1.hasRoom e0.platform room_1 = true :=
  launch0.hasRoom_least _ room_1 (by decide +kernel) (by decide +kernel) (by decide +kernel) (by decide +kernel) (by decide +kernel) (by decide +kernel)
theorem allAtoms_all (ts : List Jvm.Cond) (a : Array Jvm.Value) (st : Jvm.State) : (allAtoms ts).before a st = ts.all (fun c => c.before a st) := by
  induction ts with
  | nil => rfl
  | cons c t ih =>
    show (Jvm.Cond.and c (allAtoms t)).before a st = _
    rw [Jvm.Cond.before_and, ih, List.all_cons]
def words1 : List Jvm.Cond := Jvm.Cond.code x code maxLocals ret :: tables_1
/-- a 'code' word, met by the world's own term for the bytes: nothing is compared byte by byte -/
theorem code_word {y : MethodName} {bytes : ByteArray} {mx : Nat} {rt : Option FieldType} {a : Array Value} {s : State} {m : MethodId} {meth : Method} {c : Code} (h1 : s.methodNamed? y = some m) (h2 : s.vm.method? m = some meth) (h3 : meth.code = some c) (h4 : c.code = bytes)
    (h5 : (c.maxLocals == mx && c.exceptionTable.isEmpty && decide (c.maxStack ≤ mostOperands) && decide (meth.sig.returnType = rt) && !meth.locks && decide (parseMethodDescriptor y.desc = some meth.sig)) = true) : (Jvm.Cond.code y bytes mx rt).before a s = true := by
  simp only [Bool.and_eq_true, beq_iff_eq, Bool.not_eq_true', decide_eq_true_eq] at h5
  obtain ⟨⟨⟨⟨⟨g1, g2⟩, g3⟩, g4⟩, g5⟩, g6⟩ := h5
  simp [Cond.before, Cond.holds, Cond.value, h1, h2, h3, h4, g1, g2, g3, g4, g5, g6]
def isCode : Jvm.Cond → Bool
  | .code _ _ _ _ => true
  | _ => false
theorem all_split {L : List Jvm.Cond} {P : Jvm.Cond → Bool} (h1 : L.all (fun c => isCode c || P c) = true) (h2 : ∀ c ∈ L.filter isCode, P c = true) : L.all P = true := by
  refine List.all_eq_true.mpr fun c hc => ?_
  have h := List.all_eq_true.mp h1 c hc
  rcases Bool.eq_false_or_eq_true (isCode c) with hi | hi
  · exact h2 c (List.mem_filter.mpr ⟨hc, hi⟩)
  · simpa [hi] using h
set_option maxRecDepth 65536 in
theorem w_c0 : (Jvm.Cond.code x code maxLocals ret).before args0 about1 = true := code_word (m := ⟨1, 1⟩) (meth := k1m1) (c := k1c1) (by decide +kernel) rfl rfl rfl (by decide +kernel)
set_option maxRecDepth 65536 in
theorem w_c1 : (Jvm.Cond.code ({ cls := "com/example/hoja/hoja/model/Box", name := "<init>", desc := "(DDDD)V" } : Jvm.MethodName) prog_26_method_1_code (9 : Nat) (Option.none : Option Jvm.ClassFile.FieldType)).before args0 about1 = true := code_word (m := ⟨2, 0⟩) (meth := k2m0) (c := k2c0) (by decide +kernel) rfl rfl rfl (by decide +kernel)
set_option maxRecDepth 65536 in
theorem w_c2 : (Jvm.Cond.code ({ cls := "com/example/hoja/hoja/model/Box", name := "<init>", desc := "(DDDDDD)V" } : Jvm.MethodName) prog_26_method_3_code (13 : Nat) (Option.none : Option Jvm.ClassFile.FieldType)).before args0 about1 = true := code_word (m := ⟨2, 1⟩) (meth := k2m1) (c := k2c1) (by decide +kernel) rfl rfl rfl (by decide +kernel)
set_option maxRecDepth 65536 in
theorem w_c3 : (Jvm.Cond.code ({ cls := "java/lang/Object", name := "<init>", desc := "()V" } : Jvm.MethodName) object_method_1_code (1 : Nat) (Option.none : Option Jvm.ClassFile.FieldType)).before args0 about1 = true := code_word (m := ⟨0, 0⟩) (meth := k0m0) (c := k0c0) (by decide +kernel) rfl rfl rfl (by decide +kernel)
set_option maxRecDepth 65536 in
theorem w_c4 : (Jvm.Cond.code ({ cls := "java/lang/Double", name := "isFinite", desc := "(D)Z" } : Jvm.MethodName) jdk_117_method_8_code (2 : Nat) (Option.some Jvm.ClassFile.FieldType.boolean)).before args0 about1 = true := code_word (m := ⟨8, 0⟩) (meth := k8m0) (c := k8c0) (by decide +kernel) rfl rfl rfl (by decide +kernel)
set_option maxRecDepth 65536 in
theorem w_c5 : (Jvm.Cond.code ({ cls := "java/lang/Math", name := "abs", desc := "(D)D" } : Jvm.MethodName) jdk_29_method_64_code (2 : Nat) (Option.some Jvm.ClassFile.FieldType.double)).before args0 about1 = true := code_word (m := ⟨9, 1⟩) (meth := k9m1) (c := k9c1) (by decide +kernel) rfl rfl rfl (by decide +kernel)
set_option maxRecDepth 65536 in
theorem w_c6 : (Jvm.Cond.code ({ cls := "com/example/hoja/hoja/model/Box", name := "equals", desc := "(Ljava/lang/Object;)Z" } : Jvm.MethodName) prog_26_method_16_code (3 : Nat) (Option.some Jvm.ClassFile.FieldType.boolean)).before args0 about1 = true := code_word (m := ⟨2, 2⟩) (meth := k2m2) (c := k2c2) (by decide +kernel) rfl rfl rfl (by decide +kernel)
set_option maxRecDepth 65536 in
theorem w_c7 : (Jvm.Cond.code ({ cls := "java/lang/String", name := "valueOf", desc := "(C)Ljava/lang/String;" } : Jvm.MethodName) jdk_42_method_139_code (1 : Nat) (Option.some (Jvm.ClassFile.FieldType.object "java/lang/String"))).before args0 about1 = true := code_word (m := ⟨11, 1⟩) (meth := k11m1) (c := k11c1) (by decide +kernel) rfl rfl rfl (by decide +kernel)
set_option maxRecDepth 65536 in
theorem w_c8 : (Jvm.Cond.code ({ cls := "java/lang/StringLatin1", name := "canEncode", desc := "(C)Z" } : Jvm.MethodName) jdk_43_method_3_code (1 : Nat) (Option.some Jvm.ClassFile.FieldType.boolean)).before args0 about1 = true := code_word (m := ⟨12, 1⟩) (meth := k12m1) (c := k12c1) (by decide +kernel) rfl rfl rfl (by decide +kernel)
set_option maxRecDepth 65536 in
theorem w_c9 : (Jvm.Cond.code ({ cls := "java/lang/StringLatin1", name := "toBytes", desc := "(C)[B" } : Jvm.MethodName) jdk_43_method_46_code (1 : Nat) (Option.some (Jvm.ClassFile.FieldType.array Jvm.ClassFile.FieldType.byte))).before args0 about1 = true := code_word (m := ⟨12, 2⟩) (meth := k12m2) (c := k12c2) (by decide +kernel) rfl rfl rfl (by decide +kernel)
set_option maxRecDepth 65536 in
theorem w_c10 : (Jvm.Cond.code ({ cls := "java/lang/String", name := "<init>", desc := "([BB)V" } : Jvm.MethodName) jdk_42_method_151_code (3 : Nat) (Option.none : Option Jvm.ClassFile.FieldType)).before args0 about1 = true := code_word (m := ⟨11, 2⟩) (meth := k11m2) (c := k11c2) (by decide +kernel) rfl rfl rfl (by decide +kernel)
def codes1 : List Jvm.Cond := [Jvm.Cond.code x code maxLocals ret, Jvm.Cond.code ({ cls := "com/example/hoja/hoja/model/Box", name := "<init>", desc := "(DDDD)V" } : Jvm.MethodName) prog_26_method_1_code (9 : Nat) (Option.none : Option Jvm.ClassFile.FieldType), Jvm.Cond.code ({ cls := "com/example/hoja/hoja/model/Box", name := "<init>", desc := "(DDDDDD)V" } : Jvm.MethodName) prog_26_method_3_code (13 : Nat) (Option.none : Option Jvm.ClassFile.FieldType), Jvm.Cond.code ({ cls := "java/lang/Object", name := "<init>", desc := "()V" } : Jvm.MethodName) object_method_1_code (1 : Nat) (Option.none : Option Jvm.ClassFile.FieldType), Jvm.Cond.code ({ cls := "java/lang/Double", name := "isFinite", desc := "(D)Z" } : Jvm.MethodName) jdk_117_method_8_code (2 : Nat) (Option.some Jvm.ClassFile.FieldType.boolean), Jvm.Cond.code ({ cls := "java/lang/Math", name := "abs", desc := "(D)D" } : Jvm.MethodName) jdk_29_method_64_code (2 : Nat) (Option.some Jvm.ClassFile.FieldType.double), Jvm.Cond.code ({ cls := "com/example/hoja/hoja/model/Box", name := "equals", desc := "(Ljava/lang/Object;)Z" } : Jvm.MethodName) prog_26_method_16_code (3 : Nat) (Option.some Jvm.ClassFile.FieldType.boolean), Jvm.Cond.code ({ cls := "java/lang/String", name := "valueOf", desc := "(C)Ljava/lang/String;" } : Jvm.MethodName) jdk_42_method_139_code (1 : Nat) (Option.some (Jvm.ClassFile.FieldType.object "java/lang/String")), Jvm.Cond.code ({ cls := "java/lang/StringLatin1", name := "canEncode", desc := "(C)Z" } : Jvm.MethodName) jdk_43_method_3_code (1 : Nat) (Option.some Jvm.ClassFile.FieldType.boolean), Jvm.Cond.code ({ cls := "java/lang/StringLatin1", name := "toBytes", desc := "(C)[B" } : Jvm.MethodName) jdk_43_method_46_code (1 : Nat) (Option.some (Jvm.ClassFile.FieldType.array Jvm.ClassFile.FieldType.byte)), Jvm.Cond.code ({ cls := "java/lang/String", name := "<init>", desc := "([BB)V" } : Jvm.MethodName) jdk_42_method_151_code (3 : Nat) (Option.none : Option Jvm.ClassFile.FieldType)]
set_option maxRecDepth 65536 in
theorem codes_eq : words1.filter isCode = codes1 := rfl
theorem w_codes : ∀ c ∈ words1.filter isCode, c.before args0 about1 = true := by
  rw [codes_eq]
  intro c hc
  simp only [codes1, List.mem_cons, List.not_mem_nil, or_false] at hc
  rcases hc with rfl | rfl | rfl | rfl | rfl | rfl | rfl | rfl | rfl | rfl | rfl
  · exact w_c0
  · exact w_c1
  · exact w_c2
  · exact w_c3
  · exact w_c4
  · exact w_c5
  · exact w_c6
  · exact w_c7
  · exact w_c8
  · exact w_c9
  · exact w_c10
set_option maxRecDepth 65536 in
theorem w_t1 : (words1.take 24).all (fun c => isCode c || c.before args0 about1) = true := by decide +kernel
set_option maxRecDepth 65536 in
theorem w_t2 : ((words1.drop 24).take 24).all (fun c => isCode c || c.before args0 about1) = true := by decide +kernel
set_option maxRecDepth 65536 in
theorem w_t3 : ((words1.drop 24).drop 24).all (fun c => isCode c || c.before args0 about1) = true := by decide +kernel
theorem w_tables : (allAtoms (Jvm.Cond.code x code maxLocals ret :: tables_1)).before args0 about1 = true := by
  rw [allAtoms_all]
  show words1.all (fun c => c.before args0 about1) = true
  refine all_split ?_ w_codes
  rw [← List.take_append_drop 24 words1, List.all_append, w_t1, ← List.take_append_drop 24 (words1.drop 24), List.all_append, w_t2, w_t3]
  rfl
set_option maxRecDepth 65536 in
theorem w_rest : rest_1_c.before args0 about1 = true := by decide +kernel
set_option maxRecDepth 65536 in
theorem w_case : (Jvm.Cond.and given_1 narrow_1).before args0 about1 = true := by decide +kernel
theorem w_applies : (headSpec (Jvm.Cond.code x code maxLocals ret :: tables_1) room_1).applies x e0.platform about1 = true :=
  (Spec.applies_iff w_frames).mpr ⟨w_running, w_runnable, w_alone, w_named, w_hears, w_ripe, w_room, w_tables⟩
theorem atStart : AtStart classFile x code maxLocals ret World_1 tables_1 room_1 Calls_1 rest_1 Pre_1 launch0 p0 e0 about1 theMethod args0 below0 :=
  ⟨lists_1, trivial, launch0.admits_env _ _ _, launch0.least_env, fairChoices_fair.cas, fairChoices_fair.clock, w_frames, w_args, w_heap, w_applies, trivial, w_rest, w_case⟩
end start1
theorem witness_1 : WitnessClaimed_1 := ⟨start1.p0, start1.e0, start1.about1, start1.theMethod, start1.args0, start1.below0, start1.atStart⟩
end Jvm.Pilot.@@N@@
