import JvmDerived
import JvmDerived.Pilot.@@N@@Statement
import JvmDerived.Pilot.@@N@@Code
set_option linter.unusedVariables false
set_option linter.unusedSimpArgs false
namespace Jvm.OwnFp
open Jvm.FP.Core Op
/-! own: exact values. `Dyf f i k d`: the datum d is finite and worth i / 2^k. -/
def Dyf (f : Fmt) (i : Int) (k : Nat) (d : Datum) : Prop := (∃ s c q, d = .fin s c q) ∧ zval f d * 2 ^ k = i * 2 ^ (-f.qmin).toNat
theorem pw_pos (n : Nat) : (0 : Int) < 2 ^ n := Int.pow_pos (by decide)
theorem pw_cast (n : Nat) : ((2 ^ n : Nat) : Int) = 2 ^ n := by simp
theorem signed_abs (i : Int) : signed (decide (i < 0)) i.natAbs = i := by
  unfold signed
  by_cases h : i < 0 <;> simp [h] <;> omega
theorem signed_mulI (s : Bool) (c k : Nat) : signed s (c * 2 ^ k) = signed s c * 2 ^ k := by
  rw [signed_mul, pw_cast]
theorem vex {f : Fmt} (hf : Good f) {i : Int} {k : Nat} (hi : i.natAbs < 2 ^ f.p) (hk : (k : Int) ≤ -f.qmin) (hq : 0 ≤ f.qmax) :
    ∃ s c q, FP.Core.fits f (.fin s c q) ∧ zval f (.fin s c q) * 2 ^ k = i * 2 ^ (-f.qmin).toNat := by
  obtain ⟨c', q', h, hu⟩ := round_exact hf (decide (i < 0)) (c := i.natAbs) (q := -(k : Int)) hi (by omega) (by omega)
  refine ⟨_, c', q', h ▸ round_fits hf _, ?_⟩
  show signed (decide (i < 0)) (inUnits c' q' f.qmin) * 2 ^ k = _
  rw [hu]
  unfold inUnits
  rw [signed_mulI, signed_abs, Int.mul_assoc, ← Int.pow_add, show (-(k : Int) - f.qmin).toNat + k = (-f.qmin).toNat by omega]
theorem dyf_of_zval {f : Fmt} (hf : Good f) {s : Bool} {A B : Nat} {e : Int} {s' : Bool} {c' : Nat} {q' : Int} (hV : FP.Core.fits f (.fin s' c' q'))
    (hz : zval f (roundRatio f s A B e) = zval f (.fin s' c' q')) : ∃ s₀ c₀ q₀, roundRatio f s A B e = .fin s₀ c₀ q₀ := by
  rcases roundRatio_cases f s A B e with ⟨c, q, h⟩ | h
  · exact ⟨s, c, q, h⟩
  · exfalso
    rw [h] at hz
    have h1 := zmag_lt_top hf hV
    have h2 := congrArg Int.natAbs hz
    unfold zval at h2
    rw [natAbs_signed, natAbs_signed] at h2
    have h3 : zmag f (.inf s) = f.tails * 2 ^ (f.exps - 2) := rfl
    have h4 : zmag f (.fin s' c' q') = inUnits c' q' f.qmin := rfl
    omega
/-- an exact result that the format holds is not rounded -/
theorem rnd {f : Fmt} (hf : Good f) (hq : 0 ≤ f.qmax) {s : Bool} {c : Nat} {q e0 : Int} (h0 : e0 ≤ f.qmin) (h0e : e0 ≤ q) {i : Int} {k : Nat} (hi : i.natAbs < 2 ^ f.p) (hk : (k : Int) ≤ -f.qmin)
    (h : signed s (inUnits c q e0) * 2 ^ k = i * 2 ^ (-f.qmin).toNat * 2 ^ (f.qmin - e0).toNat) : Dyf f i k (round f (.fin s c q)) := by
  obtain ⟨s', c', q', hV, hv⟩ := vex hf hi hk hq
  have hn : Datum.fin s' c' q' ≠ .nan := nofun
  have he : zval f (.fin s' c' q') * ((2 ^ (f.qmin - e0).toNat : Nat) : Int) = signed s (inUnits c q e0) := by
    refine Int.eq_of_mul_eq_mul_right (Int.ne_of_gt (pw_pos k)) ?_
    rw [h, ← hv, pw_cast]; ac_rfl
  have hz : zval f (round f (.fin s c q)) = zval f (.fin s' c' q') :=
    Int.le_antisymm (zval_round_le hf hV hn h0 h0e (Int.le_of_eq he.symm)) (zval_round_ge hf hV hn h0 h0e (Int.le_of_eq he))
  exact ⟨dyf_of_zval hf hV hz, by rw [hz]; exact hv⟩
theorem Dyf.fit {f : Fmt} {i : Int} {k : Nat} {d : Datum} (h : Dyf f i k d) : ∃ s c q, d = .fin s c q := h.1
theorem Dyf.up {f : Fmt} {i : Int} {k : Nat} {d : Datum} (h : Dyf f i k d) (l : Nat) : Dyf f (i * 2 ^ l) (k + l) d :=
  ⟨h.1, by rw [Int.pow_add, ← Int.mul_assoc, h.2]; ac_rfl⟩
theorem Dyf.to {f : Fmt} {i j : Int} {k l : Nat} {d : Datum} (h : Dyf f i k d) (e : i * 2 ^ l = j * 2 ^ k) : Dyf f j l d := by
  refine ⟨h.1, Int.eq_of_mul_eq_mul_right (Int.ne_of_gt (pw_pos k)) ?_⟩
  calc zval f d * 2 ^ l * 2 ^ k = (zval f d * 2 ^ k) * 2 ^ l := by ac_rfl
    _ = (i * 2 ^ l) * 2 ^ (-f.qmin).toNat := by rw [h.2]; ac_rfl
    _ = j * 2 ^ (-f.qmin).toNat * 2 ^ k := by rw [e]; ac_rfl
theorem Dyf.sum {f : Fmt} (hf : Good f) (hq : 0 ≤ f.qmax) {i j : Int} {k : Nat} {x y : Datum} (fx : FP.Core.fits f x) (fy : FP.Core.fits f y) (hx : Dyf f i k x) (hy : Dyf f j k y) (hi : (i + j).natAbs < 2 ^ f.p) (hk : (k : Int) ≤ -f.qmin) :
    Dyf f (i + j) k (round f (exactSum x y)) := by
  obtain ⟨⟨s, c, q, rfl⟩, hx⟩ := hx
  obtain ⟨⟨t, d, r, rfl⟩, hy⟩ := hy
  obtain ⟨sg, n, e, he, hle, hu⟩ := sum_units fx fy
  rw [he]
  refine rnd hf hq (Int.le_refl _) hle hi hk ?_
  rw [hu, Int.add_mul, hx, hy, Int.add_mul, Int.sub_self]
  simp
theorem Dyf.neg {f : Fmt} {i : Int} {k : Nat} {x : Datum} (hx : Dyf f i k x) : Dyf f (-i) k (negate x) := by
  obtain ⟨⟨s, c, q, rfl⟩, hx⟩ := hx
  refine ⟨⟨_, _, _, rfl⟩, ?_⟩
  rw [zval_negate, Int.neg_mul, hx, Int.neg_mul]
theorem Dyf.prod {f : Fmt} (hf : Good f) (hq : 0 ≤ f.qmax) {i j : Int} {k l : Nat} {x y : Datum} (fx : FP.Core.fits f x) (fy : FP.Core.fits f y) (hx : Dyf f i k x) (hy : Dyf f j l y) (hi : (i * j).natAbs < 2 ^ f.p) (hk : ((k + l : Nat) : Int) ≤ -f.qmin) :
    Dyf f (i * j) (k + l) (round f (exactProduct x y)) := by
  obtain ⟨⟨s, c, q, rfl⟩, hx⟩ := hx
  obtain ⟨⟨t, d, r, rfl⟩, hy⟩ := hy
  obtain ⟨he, hle, hu⟩ := product_units fx fy
  rw [he]
  have hn := qmin_neg hf
  refine rnd hf hq (e0 := 2 * f.qmin) (by omega) hle hi hk ?_
  rw [hu, signed_xor, show (f.qmin - 2 * f.qmin).toNat = (-f.qmin).toNat by omega, Int.pow_add]
  calc zval f (.fin s c q) * zval f (.fin t d r) * (2 ^ k * 2 ^ l) = (zval f (.fin s c q) * 2 ^ k) * (zval f (.fin t d r) * 2 ^ l) := by ac_rfl
    _ = _ := by rw [hx, hy]; ac_rfl
theorem natAbs_pow (n : Nat) : ((2 : Int) ^ n).natAbs = 2 ^ n := by rw [Int.natAbs_pow]; rfl
theorem natAbs_zval (f : Fmt) (d : Datum) : (zval f d).natAbs = zmag f d := natAbs_signed _ _
/-- an exact quotient that the format holds is not rounded -/
theorem Dyf.quot {f : Fmt} (hf : Good f) (hq : 0 ≤ f.qmax) {i j n : Int} {k l m : Nat} {x y : Datum} (fx : FP.Core.fits f x) (fy : FP.Core.fits f y) (hx : Dyf f i k x) (hy : Dyf f j l y) (hj : j ≠ 0) (hi : n.natAbs < 2 ^ f.p) (hm : (m : Int) ≤ -f.qmin)
    (e : i * 2 ^ l * 2 ^ m = n * j * 2 ^ k) : Dyf f n m (quotient f x y) := by
  obtain ⟨⟨s, c, q, rfl⟩, hx⟩ := hx
  obtain ⟨⟨t, d, r, rfl⟩, hy⟩ := hy
  obtain ⟨s', c', q', hV, hv⟩ := vex hf hi hm hq
  have hn : Datum.fin s' c' q' ≠ .nan := nofun
  have hqm := qmin_neg hf
  have fx1 := fx.2.1
  have fy1 := fy.2.1
  -- the signed equation
  have hz : zval f (.fin s c q) * 2 ^ (-f.qmin).toNat = zval f (.fin s' c' q') * zval f (.fin t d r) := by
    refine Int.eq_of_mul_eq_mul_right (Int.ne_of_gt (Int.mul_pos (Int.mul_pos (pw_pos k) (pw_pos l)) (pw_pos m))) ?_
    calc zval f (.fin s c q) * 2 ^ (-f.qmin).toNat * (2 ^ k * 2 ^ l * 2 ^ m) = (zval f (.fin s c q) * 2 ^ k) * (2 ^ l * 2 ^ m) * 2 ^ (-f.qmin).toNat := by ac_rfl
      _ = (i * 2 ^ l * 2 ^ m) * 2 ^ (-f.qmin).toNat * 2 ^ (-f.qmin).toNat := by rw [hx]; ac_rfl
      _ = (n * 2 ^ (-f.qmin).toNat) * (j * 2 ^ (-f.qmin).toNat) * 2 ^ k := by rw [e]; ac_rfl
      _ = (zval f (.fin s' c' q') * 2 ^ m) * (zval f (.fin t d r) * 2 ^ l) * 2 ^ k := by rw [hv, hy]
      _ = _ := by ac_rfl
  have hzb : zval f (.fin t d r) ≠ 0 := by
    intro h0
    rw [h0, Int.zero_mul] at hy
    rcases Int.mul_eq_zero.mp hy.symm with h | h
    · exact hj h
    · exact absurd h (Int.ne_of_gt (pw_pos _))
  have hd : d ≠ 0 := by
    rintro rfl
    apply hzb
    show signed t (inUnits 0 r f.qmin) = 0
    unfold inUnits; rw [Nat.zero_mul, signed_zero]
  have hmag : zmag f (.fin s c q) * 2 ^ (-f.qmin).toNat = zmag f (.fin s' c' q') * zmag f (.fin t d r) := by
    have h2 := congrArg Int.natAbs hz
    rw [Int.natAbs_mul, Int.natAbs_mul, natAbs_pow, natAbs_zval, natAbs_zval, natAbs_zval] at h2
    exact h2
  have hun : inUnits c (q - r) (2 * f.qmin - r) = zmag f (.fin s' c' q') * 2 ^ (f.qmin - (2 * f.qmin - r)).toNat * d := by
    have a1 : inUnits c (q - r) (2 * f.qmin - r) = zmag f (.fin s c q) * 2 ^ (-f.qmin).toNat := by
      show c * 2 ^ _ = c * 2 ^ _ * 2 ^ _
      rw [Nat.mul_assoc, ← Nat.pow_add, show (q - r - (2 * f.qmin - r)).toNat = (q - f.qmin).toNat + (-f.qmin).toNat by omega]
    rw [a1, hmag, show (f.qmin - (2 * f.qmin - r)).toNat = (r - f.qmin).toNat by omega]
    show _ * (d * 2 ^ _) = _
    ac_rfl
  have hqt : quotient f (.fin s c q) (.fin t d r) = roundRatio f (s != t) c d (q - r) := by
    show (if d = 0 then _ else _) = _
    rw [if_neg hd]
  have hm2 : zmag f (roundRatio f (s != t) c d (q - r)) = zmag f (.fin s' c' q') :=
    Nat.le_antisymm (zmag_roundRatio_le hf (e0 := 2 * f.qmin - r) (Nat.pos_of_ne_zero hd) hV hn (by omega) (by omega) (Nat.le_of_eq hun))
      (zmag_roundRatio_ge hf (e0 := 2 * f.qmin - r) (Nat.pos_of_ne_zero hd) hV (by omega) (by omega) (Nat.le_of_eq hun.symm))
  have hsg : signed (s != t) (zmag f (.fin s' c' q')) = zval f (.fin s' c' q') := by
    have p0 : zmag f (.fin s c q) = inUnits c q f.qmin := rfl
    have hS : zval f (.fin s c q) * 2 ^ (-f.qmin).toNat * zval f (.fin t d r) = zval f (.fin s' c' q') * (zval f (.fin t d r) * zval f (.fin t d r)) := by rw [hz]; ac_rfl
    by_cases h0 : zmag f (.fin s' c' q') = 0
    · unfold zval; rw [h0, signed_zero, signed_zero]
    · have hbb : 0 < zval f (.fin t d r) * zval f (.fin t d r) := by
        rcases Int.lt_or_gt_of_ne hzb with h | h
        · exact Int.mul_pos_of_neg_of_neg h h
        · exact Int.mul_pos h h
      have hst : zval f (.fin s c q) * zval f (.fin t d r) = signed (s != t) (zmag f (.fin s c q) * zmag f (.fin t d r)) := by
        rw [signed_xor]; rfl
      have e1 : zval f (.fin s' c' q') * (zval f (.fin t d r) * zval f (.fin t d r)) = signed (s != t) (zmag f (.fin s c q) * zmag f (.fin t d r)) * 2 ^ (-f.qmin).toNat := by
        rw [← hS, ← hst]; ac_rfl
      have e2 : signed (s != t) (zmag f (.fin s c q) * zmag f (.fin t d r)) * 2 ^ (-f.qmin).toNat = signed (s != t) (zmag f (.fin s' c' q')) * (zval f (.fin t d r) * zval f (.fin t d r)) := by
        rw [← signed_mulI, show zmag f (.fin s c q) * zmag f (.fin t d r) * 2 ^ (-f.qmin).toNat = zmag f (.fin s' c' q') * (zmag f (.fin t d r) * zmag f (.fin t d r)) by rw [Nat.mul_right_comm, hmag]; ac_rfl, signed_mul]
        congr 1
        unfold zval
        rw [Int.natCast_mul]
        cases (sgn (.fin t d r)) <;> simp [signed, Int.neg_mul_neg]
      exact Int.eq_of_mul_eq_mul_right (Int.ne_of_gt hbb) (e2.symm.trans e1.symm)
  have hzz : zval f (roundRatio f (s != t) c d (q - r)) = zval f (.fin s' c' q') := by
    rw [← hsg]
    show signed (sgn (roundRatio f (s != t) c d (q - r))) (zmag f (roundRatio f (s != t) c d (q - r))) = _
    rw [sgn_roundRatio, hm2]
  rw [hqt]
  exact ⟨dyf_of_zval hf hV hzz, by rw [hzz]; exact hv⟩
theorem Dyf.ofInt {f : Fmt} (hf : Good f) (hq : 0 ≤ f.qmax) {i : Int} (hi : i.natAbs < 2 ^ f.p) : Dyf f i 0 (round f (FP.Core.ofInt i)) := by
  have hn := qmin_neg hf
  refine rnd hf hq (Int.le_refl _) (by omega) hi (by omega) ?_
  unfold inUnits
  rw [signed_mulI, signed_abs, Int.sub_self]
  simp
theorem Dyf.order {f : Fmt} (hf : Good f) {i j : Int} {k : Nat} {x y : Datum} (fx : FP.Core.fits f x) (fy : FP.Core.fits f y) (hx : Dyf f i k x) (hy : Dyf f j k y) : order x y = some (compare i j) := by
  obtain ⟨⟨s, c, q, rfl⟩, hx⟩ := hx
  obtain ⟨⟨t, d, r, rfl⟩, hy⟩ := hy
  rw [order_zval hf fx fy nofun nofun, ← compare_mul_pos _ _ _ (pw_pos k), hx, hy, compare_mul_pos _ _ _ (pw_pos _)]
/-! doubles -/
def Dy (i : Int) (k : Nat) (a : UInt64) : Prop := Dyf b64 i k (val64 a)
theorem qm64 : (0 : Int) ≤ b64.qmax := by decide
theorem Dy.fin {i : Int} {k : Nat} {a : UInt64} (h : Dy i k a) : DFin a := h.1
theorem Dy.nn {i : Int} {k : Nat} {a : UInt64} (h : Dy i k a) : Jvm.Free.Fl.NoNaN64 a := (Jvm.Free.Fl.fin64_core.mpr h.1).noNaN
theorem Dy.to {i j : Int} {k l : Nat} {a : UInt64} (h : Dy i k a) (e : i * 2 ^ l = j * 2 ^ k) : Dy j l a := Dyf.to h e
theorem Dy.up {i : Int} {k : Nat} {a : UInt64} (h : Dy i k a) (l : Nat) : Dy (i * 2 ^ l) (k + l) a := Dyf.up h l
theorem Dy.add {i j : Int} {k : Nat} {a b : UInt64} (ha : Dy i k a) (hb : Dy j k b) (hi : (i + j).natAbs < 9007199254740992) (hk : k ≤ 1074) : Dy (i + j) k (FP.dadd a b) := by
  show Dyf b64 _ _ (val64 (dadd a b))
  rw [val64_dadd]
  exact Dyf.sum good_b64 qm64 (val64_fits a) (val64_fits b) ha hb hi (by rw [qmin_b64]; omega)
theorem Dy.sub {i j : Int} {k : Nat} {a b : UInt64} (ha : Dy i k a) (hb : Dy j k b) (hi : (i - j).natAbs < 9007199254740992) (hk : k ≤ 1074) : Dy (i - j) k (FP.dsub a b) := by
  show Dyf b64 _ _ (val64 (dsub a b))
  rw [val64_dsub]
  exact Dyf.sum good_b64 qm64 (val64_fits a) (negate_fits (val64_fits b)) ha hb.neg hi (by rw [qmin_b64]; omega)
theorem Dy.mul {i j : Int} {k l : Nat} {a b : UInt64} (ha : Dy i k a) (hb : Dy j l b) (hi : (i * j).natAbs < 9007199254740992) (hk : k + l ≤ 1074) : Dy (i * j) (k + l) (FP.dmul a b) := by
  show Dyf b64 _ _ (val64 (dmul a b))
  rw [val64_dmul]
  exact Dyf.prod good_b64 qm64 (val64_fits a) (val64_fits b) ha hb hi (by rw [qmin_b64]; omega)
theorem Dy.div {i j n : Int} {k l m : Nat} {a b : UInt64} (ha : Dy i k a) (hb : Dy j l b) (hj : j ≠ 0) (hi : n.natAbs < 9007199254740992) (hk : m ≤ 1074) (e : i * 2 ^ l * 2 ^ m = n * j * 2 ^ k) : Dy n m (FP.ddiv a b) := by
  show Dyf b64 _ _ (val64 (ddiv a b))
  rw [val64_ddiv]
  exact Dyf.quot good_b64 qm64 (val64_fits a) (val64_fits b) ha hb hj hi (by rw [qmin_b64]; omega) e
theorem Dy.neg {i : Int} {k : Nat} {a : UInt64} (ha : Dy i k a) : Dy (-i) k (FP.dneg a) := by
  show Dyf b64 _ _ (val64 (FP.dneg a))
  rw [Jvm.FP.val64_dneg]
  exact Dyf.neg ha
theorem Dy.i2d (x : Int32) : Dy x.toInt 0 (FP.i2d x) := by
  show Dyf b64 _ _ (val64 (FP.Core.i2d x))
  rw [val64_i2d]
  exact Dyf.ofInt good_b64 qm64 (by have := int32_abs x; show _ < 2 ^ 53; omega)
theorem Dy.l2d {x : Int64} (h : x.toInt.natAbs < 9007199254740992) : Dy x.toInt 0 (FP.l2d x) := by
  show Dyf b64 _ _ (val64 (FP.Core.l2d x))
  rw [val64_l2d]
  exact Dyf.ofInt good_b64 qm64 h
theorem Dy.cmp {i j : Int} {k : Nat} {a b : UInt64} (ha : Dy i k a) (hb : Dy j k b) : FP.dcmp a b = some (compare i j) :=
  Dyf.order good_b64 (val64_fits a) (val64_fits b) ha hb
theorem Dy.cmp_eq {i j : Int} {k : Nat} {a b : UInt64} (ha : Dy i k a) (hb : Dy j k b) (e : i = j) (o : ClassFile.CmpOp) : cmpValue (FP.dcmp a b) o = 0 := by
  rw [ha.cmp hb, e, compare_self_int]; rfl
theorem Dy.cmp_lt {i j : Int} {k : Nat} {a b : UInt64} (ha : Dy i k a) (hb : Dy j k b) (e : i < j) (o : ClassFile.CmpOp) : cmpValue (FP.dcmp a b) o = -1 := by
  rw [ha.cmp hb, show compare i j = .lt by rw [compare_ite, if_pos e]]; rfl
theorem Dy.cmp_gt {i j : Int} {k : Nat} {a b : UInt64} (ha : Dy i k a) (hb : Dy j k b) (e : j < i) (o : ClassFile.CmpOp) : cmpValue (FP.dcmp a b) o = 1 := by
  rw [ha.cmp hb, show compare i j = .gt by rw [compare_ite, if_neg (by omega), if_neg (by omega)]]; rfl
theorem dy_of {i : Int} {k : Nat} {a : UInt64} {s : Bool} {c : Nat} {q : Int} (h : val64 a = .fin s c q) (e : zval b64 (.fin s c q) * 2 ^ k = i * 2 ^ 1074) : Dy i k a :=
  ⟨⟨s, c, q, h⟩, by rw [h, e]; rfl⟩
theorem dy0 (k : Nat) : Dy 0 k (0 : UInt64) := dy_of (s := false) (c := 0) (q := -1074) (by decide +kernel) (by
  rw [show zval b64 (.fin false 0 (-1074)) = 0 from rfl, Int.zero_mul, Int.zero_mul])
theorem dy1 (k : Nat) : Dy (2 ^ k) k (4607182418800017408 : UInt64) := dy_of (s := false) (c := 2 ^ 52) (q := -52) (by decide +kernel) (by
  rw [show zval b64 (.fin false (2 ^ 52) (-52)) = 2 ^ 1074 by decide +kernel, Int.mul_comm])
theorem Dy.ge {i j : Int} {k : Nat} {a b : UInt64} (ha : Dy i k a) (hb : Dy j k b) (e : j ≤ i) (o : ClassFile.CmpOp) : ¬ (cmpValue (FP.dcmp a b) o < (0 : Int32)) := by
  rcases Int.lt_or_eq_of_le e with h | h
  · rw [ha.cmp_gt hb h]; decide
  · rw [ha.cmp_eq hb h.symm]; decide
theorem Dy.le {i j : Int} {k : Nat} {a b : UInt64} (ha : Dy i k a) (hb : Dy j k b) (e : i ≤ j) (o : ClassFile.CmpOp) : ¬ ((0 : Int32) < cmpValue (FP.dcmp a b) o) := by
  rcases Int.lt_or_eq_of_le e with h | h
  · rw [ha.cmp_lt hb h]; decide
  · rw [ha.cmp_eq hb h]; decide
theorem Dy.lt_inf {i : Int} {k : Nat} {a : UInt64} (ha : Dy i k a) (o : ClassFile.CmpOp) : cmpValue (FP.dcmp a (9218868437227405312 : UInt64)) o < (0 : Int32) := by
  rw [Jvm.RoadKit.dcmp_pinf (Jvm.Free.Fl.fin64_core.mpr ha.1)]; decide
theorem isfin {a : UInt64} (h : DFin a) : ¬ ((0 : Int32) < cmpValue (FP.dcmp (a &&& 0x7fffffffffffffff) (9218868437227405311 : UInt64)) .g) := by
  have hn : dIsNaN a = false := (notNaN_iff a).mpr (by obtain ⟨s, c, q, e⟩ := h; rw [e]; exact nofun)
  rcases (le_max hn).mpr h with e | e <;> rw [show FP.dcmp (a &&& 0x7fffffffffffffff) (9218868437227405311 : UInt64) = _ from e] <;> decide
theorem since0 (s : State) : s.Since s.vm 0 := ⟨State.Warmed39.refl s, fun j p h1 h2 => by
  rw [Array.getElem?_eq_none h1] at h2; cases h2⟩
theorem i2d_nz {v : Int32} (h : v ≠ 0) : ¬ DZero (FP.i2d v) := fun q => i2d_ne_zero h ((zero_bits2 _).mp q)
theorem nn_of {x : UInt64} (h : dIsNaN x = false) : Jvm.Free.Fl.NoNaN64 x := Jvm.Free.Fl.noNaN64_no.mpr h
theorem no_of {x : UInt64} (h : Jvm.Free.Fl.NoNaN64 x) : dIsNaN x = false := Jvm.Free.Fl.noNaN64_no.mp h
theorem no_fin {x : UInt64} (h : DFin x) : dIsNaN x = false := (notNaN_iff x).mpr (by obtain ⟨s, c, q, e⟩ := h; rw [e]; exact nofun)
theorem nn_div {a : UInt64} {v : Int32} (ha : dIsNaN a = false) (h : v ≠ 0) : Jvm.Free.Fl.NoNaN64 (FP.ddiv a (FP.i2d v)) := nn_of (ddiv_out ha (i2d_fin v) (i2d_nz h))
theorem fin_div (a : Int32) {v : Int32} (h : v ≠ 0) : DFin (FP.ddiv (FP.i2d a) (FP.i2d v)) := by
  have h1 := i2d_mag a
  have h2 := i2d_big (v := v) (fun q => h (Int32.toInt_inj.mp q))
  exact fin_of_lt (ddiv_mag h1 h2.1 h2.2 (by decide) (by decide)) (by decide)
end Jvm.OwnFp
namespace Jvm.Pilot.@@N@@
open Jvm Jvm.ClassFile Sem Op Lib Jvm.Free Jvm.Stand Jvm.LawKit Jvm.RoadKit Bundle Jvm.Pilot.@@N@@.Jvm.D
open Jvm.OwnFp Jvm.FP.Core
def own_d (p b : Int32) : UInt64 := if p = (0 : Int32) then (if b = (0 : Int32) then FP.i2d p else (9223372036854775808 : UInt64)) else FP.i2d p
def own_h (u : UInt64) : Int32 := (((u).toInt64 ^^^ (((u).toInt64.toUInt64 >>> ((32 : Int32) &&& 0x3f).toInt64.toUInt64).toInt64)).toInt32)
theorem own_dm0 : Dy 0 0 (9223372036854775808 : UInt64) := dy_of (s := true) (c := 0) (q := -1074) (by decide +kernel) (by decide +kernel)
theorem own_dd (p b : Int32) : Dy p.toInt 0 (own_d p b) := by
  unfold own_d
  split
  · rename_i h; subst h
    split
    · exact Dy.i2d 0
    · exact own_dm0
  · exact Dy.i2d p
theorem own_nn (r : Int32) (P : Prop) [Decidable P] : 0 ≤ (if P then (r &&& (2147483647 : Int32)) else (0 : Int32)).toInt := by
  have := c_and r 2147483647 (by decide)
  split
  · exact this.1
  · decide
theorem own_z {i : Int} {a : UInt64} (h : Dy i 0 a) (b : i.natAbs < 9007199254740992) : Dy (i + 0) 0 (FP.dadd a (0 : UInt64)) := Dy.add h (dy0 0) (by omega) (by decide)
theorem own_zero {a : UInt64} (h : Dy 0 0 a) : a = 0 ∨ a = 9223372036854775808 := by
  obtain ⟨⟨s, c, q, e⟩, hz⟩ := h
  have hz' : zval b64 (val64 a) = 0 := by simpa using hz
  have hc : zmag b64 (val64 a) = 0 := by rw [← natAbs_zval, hz']; rfl
  rw [zmag_bits (by rw [e]; exact nofun), unitsOf_eq_zero] at hc
  have lt := a.toNat_lt
  have : a.toNat = 0 ∨ a.toNat = 9223372036854775808 := by omega
  rcases this with g | g
  · exact Or.inl (UInt64.toNat_inj.mp (by rw [g]; rfl))
  · exact Or.inr (UInt64.toNat_inj.mp (by rw [g]; rfl))
theorem own_same {i : Int} {a b : UInt64} (ha : Dy i 0 a) (hb : Dy i 0 b) : FP.dadd a (0 : UInt64) = FP.dadd b (0 : UInt64) := by
  by_cases h : i = 0
  · subst h
    rcases own_zero ha with rfl | rfl <;> rcases own_zero hb with rfl | rfl <;> decide +kernel
  · have e : a = b := by
      refine eq_bits (fun z => h ?_) (by rw [show dcmp a b = _ from ha.cmp hb, compare_self_int])
      have := z.zval
      have hz := hb.2
      rw [this] at hz
      have q : i * 2 ^ (-b64.qmin).toNat = 0 := by rw [← hz]; simp
      rcases Int.mul_eq_zero.mp q with g | g
      · exact g
      · exact absurd g (Int.ne_of_gt (pw_pos _))
    rw [e]
theorem ef_4_D (m : MethodId) (x0 : UInt64) : entryFrame m #[(.double x0)] 2 = mkF m 0 #[.val (.double x0), .second] [] := by first | (simp [entryFrame, mkF, argsToLocals, Value.category]; done) | rfl
theorem d4_0 : decode jdk_117_method_8_code 0 = .ok (.dload_n 0, 1) := by decide +kernel
theorem d4_1 : decode jdk_117_method_8_code 1 = .ok (.invokestatic 38, 3) := by decide +kernel
theorem pd__28D_29D : parseMethodDescriptor "(D)D" = some ⟨[.double], some .double⟩ := by decide +kernel
theorem d4_4 : decode jdk_117_method_8_code 4 = .ok (.ldc2_w 111, 3) := by decide +kernel
theorem d4_7 : decode jdk_117_method_8_code 7 = .ok (.dcmp .g, 1) := by decide +kernel
theorem d4_8 : decode jdk_117_method_8_code 8 = .ok (.ifCond .gt 7, 3) := by decide +kernel
theorem d4_11 : decode jdk_117_method_8_code 11 = .ok (.iconst 1, 1) := by decide +kernel
theorem d4_12 : decode jdk_117_method_8_code 12 = .ok (.goto 4, 3) := by decide +kernel
theorem d4_16 : decode jdk_117_method_8_code 16 = .ok (.ireturn, 1) := by decide +kernel
def Q_rm4 (Z : State) (u1 : UInt64) (h0 : Heap) (n0 : Nat) (v : Option Value) (h : Heap) (L : List Loc) : Prop := v = some (.int 1) ∧ Fr n0 L ∧ h = h0
theorem pn_java_2flang_2fDouble : plainName "java/lang/Double" = true := by first | (simp [plainName, overriddenIn]; done) | decide +kernel
set_option maxRecDepth 65536 in
set_option maxHeartbeats 40000000 in
theorem rm4 (l : Launch) (Z : State) (a0 : Array Value) (hw : ∀ d ∈ tables_1, d.before a0 Z = true) (ws : List Jvm.Cond) (u1 : UInt64) (h0 : Heap) (n0 : Nat) (Z0 : n0 ≤ h0.size) (hf : Jvm.FP.Core.DFin u1) :
    MetFree l (⟨"java/lang/Double", "isFinite", "(D)Z"⟩ : MethodName) (head1 (Jvm.Cond.code (⟨"java/lang/Double", "isFinite", "(D)Z"⟩ : MethodName) jdk_117_method_8_code 2 (some .boolean) :: ws) ({ frames := 1, cells := 0, slots := 0, locals := 13 } : Room)) (fun a U => a = #[(.double u1)] ∧ Z.Warmed39 U.vm ∧ U.heap = h0) (fun _ _ _ _ _ => True) (fun _ U o U' => ∃ v L, o = .returned v ∧ Q_rm4 Z u1 h0 n0 v U'.heap L ∧ FrameEnd U o U' L ({ frames := 1, cells := 0, slots := 0, locals := 13 } : Room).cells ({ frames := 1, cells := 0, slots := 0, locals := 13 } : Room).slots) := by
  refine MetFree.of_bodySF (plainFor_of_name pn_java_2flang_2fDouble) hisR ?_
  intro p e s m args below meth c s₁ Bd hml0 hP hK
  obtain ⟨rfl, hZ, hh⟩ := hP
  have hx := Bd.exec
  have hby := Bd.bytes
  have hml : c.maxLocals = 2 := hml0
  have hown : s.vm.findClass "java/lang/Double" = some m.cls := findClass_of_methodNamed Bd.named
  have hnm := (name_of_methodNamed Bd.named Bd.method).1
  have X0 : Stand p l e ({ frames := 1, cells := 0, slots := 0, locals := 13 } : Room) s m #[(.double u1)] below meth c s₁ [] 0 0 := Stand.of_body Bd
  have e0 : s₁.heap = h0 := by rw [← hh, Bd.state]; rfl
  have N0 := Fr.nil n0
  have k0 : ∀ t, Steps p.tables e below (s₁.setTop (mkF m 0 #[.val (.double u1), .second] [])) t → Steps p.tables e below (s₁.setTop (entryFrame m #[(.double u1)] 2)) t := fun t k => castTop (ef_4_D m u1) k
  have k101 : ∀ t, Steps p.tables e below (s₁.setTop (mkF m 1 #[.val (.double u1), .second] [(.double u1)])) t → Steps p.tables e below (s₁.setTop (entryFrame m #[(.double u1)] 2)) t := fun t k => k0 t (by
    show Steps p.tables e below (s₁.setTop (mkF m 0 #[.val (.double u1), .second] [])) _
    refine XS.dloadN X0.here hx rfl (hb hby d4_0) rfl ?_
    exact k)
  obtain ⟨T102, X102, e102, st102⟩ := natS X0 hx hZ (y := Jvm.Free.Fl.Abs.absDN) hown (hw _ (List.mem_of_getElem? (i := 17) rfl)) (hw _ (List.mem_of_getElem? (i := 18) rfl)) (hw _ (List.mem_of_getElem? (i := 19) rfl)) (hw _ (List.mem_of_getElem? (i := 20) rfl)) (by decide) e0 (W := 0) (F := fun a' => a' = #[(.double u1)] ∧ Jvm.Free.Fl.NoNaN64 u1) (fun hq => Jvm.Free.Fl.Abs.absD_pays u1 hq (by decide) (by decide)) (g := (mkF m 1 #[.val (.double u1), .second] [(.double u1)])) rfl (by rw [hml]; rfl) (argsL := [(.double u1)]) (rest := []) (lenOf pd__28D_29D rfl) rfl (by show 2 * 0 + _ ≤ _; exact Nat.le_of_eq rfl) (hb hby d4_1) (by decide) (by decide) ⟨rfl, (Jvm.Free.Fl.fin64_core.mpr hf).noNaN⟩ rfl
  have k103 : ∀ t, Steps p.tables e below (T102.setTop (mkF m 4 #[.val (.double u1), .second] [(.double (u1 &&& 0x7fffffffffffffff))])) t → Steps p.tables e below (s₁.setTop (entryFrame m #[(.double u1)] 2)) t := fun t k => k101 t (st102 t k)
  have k104 : ∀ t, Steps p.tables e below (T102.setTop (mkF m 16 #[.val (.double u1), .second] [(.int (1 : Int32))])) t → Steps p.tables e below (s₁.setTop (entryFrame m #[(.double u1)] 2)) t := fun t k => k103 t (by
    show Steps p.tables e below (T102.setTop (mkF m 4 #[.val (.double u1), .second] [(.double (u1 &&& 0x7fffffffffffffff))])) _
    refine X102.ldc2DoubleC hx hown (mvT hZ (hw _ (List.mem_of_getElem? (i := 21) rfl))) (g := (mkF m 4 #[.val (.double u1), .second] [(.double (u1 &&& 0x7fffffffffffffff))])) rfl (hb hby d4_4) _ ?_
    show Steps p.tables e below (T102.setTop (mkF m 7 #[.val (.double u1), .second] [(.double (9218868437227405311 : UInt64)), (.double (u1 &&& 0x7fffffffffffffff))])) _
    refine XS.dcmpS X102.here hx rfl (hb hby d4_7) rfl rfl ?_
    show Steps p.tables e below (T102.setTop (mkF m 8 #[.val (.double u1), .second] [(.int (cmpValue (FP.dcmp (u1 &&& 0x7fffffffffffffff) (9218868437227405311 : UInt64)) .g))])) _
    refine XS.ifNo X102.here hx rfl (hb hby d4_8) rfl ((if0 _ _).trans (flt (Jvm.OwnFp.isfin hf)).2.2.1) ?_
    show Steps p.tables e below (T102.setTop (mkF m 11 #[.val (.double u1), .second] [])) _
    refine XS.iconst X102.here hx rfl (hb hby d4_11) ?_
    show Steps p.tables e below (T102.setTop (mkF m 12 #[.val (.double u1), .second] [(.int (1 : Int32))])) _
    refine XS.goto X102.here hx rfl (pc0 := 12) (pc' := 16) rfl (hb hby d4_12) (by decide) (by decide) ?_
    exact k)
  obtain ⟨fs, hr, hrun, hended, hW, hsame⟩ := X102.leave (v := some (.int (1 : Int32))) (fun h => by rw [Bd.returns] at h; cases h)
  refine ⟨_, _, k104 _ (retOut X102 hx (t := .boolean) Bd.returns rfl (Or.inl ⟨rfl, Or.inr (Or.inl rfl), _, rfl⟩) (hb hby d4_16) hr), hrun, hended, _, _, rfl, ?_, ⟨_, rfl⟩, hW, hsame.mono (by decide) (by decide)⟩
  show Q_rm4 Z u1 h0 n0 _ T102.heap _
  rw [e102]
  exact ⟨rfl, N0, rfl⟩
theorem ef_2_RDDDDDD (m : MethodId) (x0 : Addr) (x1 : UInt64) (x2 : UInt64) (x3 : UInt64) (x4 : UInt64) (x5 : UInt64) (x6 : UInt64) : entryFrame m #[(.ref x0), (.double x1), (.double x2), (.double x3), (.double x4), (.double x5), (.double x6)] 13 = mkF m 0 #[.val (.ref x0), .val (.double x1), .second, .val (.double x2), .second, .val (.double x3), .second, .val (.double x4), .second, .val (.double x5), .second, .val (.double x6), .second] [] := by first | (simp [entryFrame, mkF, argsToLocals, Value.category]; done) | rfl
theorem d2_0 : decode prog_26_method_3_code 0 = .ok (.aload_n 0, 1) := by decide +kernel
theorem d2_1 : decode prog_26_method_3_code 1 = .ok (.invokespecial 7, 3) := by decide +kernel
theorem d2_4 : decode prog_26_method_3_code 4 = .ok (.dload 9, 2) := by decide +kernel
theorem d2_6 : decode prog_26_method_3_code 6 = .ok (.dconst 0, 1) := by decide +kernel
theorem d2_7 : decode prog_26_method_3_code 7 = .ok (.dcmp .l, 1) := by decide +kernel
theorem d2_8 : decode prog_26_method_3_code 8 = .ok (.ifCond .lt 10, 3) := by decide +kernel
theorem d2_11 : decode prog_26_method_3_code 11 = .ok (.dload 11, 2) := by decide +kernel
theorem d2_13 : decode prog_26_method_3_code 13 = .ok (.dconst 0, 1) := by decide +kernel
theorem d2_14 : decode prog_26_method_3_code 14 = .ok (.dcmp .l, 1) := by decide +kernel
theorem d2_15 : decode prog_26_method_3_code 15 = .ok (.ifCond .ge 20, 3) := by decide +kernel
theorem d2_35 : decode prog_26_method_3_code 35 = .ok (.dload 5, 2) := by decide +kernel
theorem d2_37 : decode prog_26_method_3_code 37 = .ok (.invokestatic 21, 3) := by decide +kernel
theorem pd__28D_29Z : parseMethodDescriptor "(D)Z" = some ⟨[.double], some .boolean⟩ := by decide +kernel
theorem d2_40 : decode prog_26_method_3_code 40 = .ok (.ifCond .eq 27, 3) := by decide +kernel
theorem d2_43 : decode prog_26_method_3_code 43 = .ok (.dload 7, 2) := by decide +kernel
theorem d2_45 : decode prog_26_method_3_code 45 = .ok (.invokestatic 21, 3) := by decide +kernel
theorem d2_48 : decode prog_26_method_3_code 48 = .ok (.ifCond .eq 19, 3) := by decide +kernel
theorem d2_51 : decode prog_26_method_3_code 51 = .ok (.dload 9, 2) := by decide +kernel
theorem d2_53 : decode prog_26_method_3_code 53 = .ok (.invokestatic 21, 3) := by decide +kernel
theorem d2_56 : decode prog_26_method_3_code 56 = .ok (.ifCond .eq 11, 3) := by decide +kernel
theorem d2_59 : decode prog_26_method_3_code 59 = .ok (.dload 11, 2) := by decide +kernel
theorem d2_61 : decode prog_26_method_3_code 61 = .ok (.invokestatic 21, 3) := by decide +kernel
theorem d2_64 : decode prog_26_method_3_code 64 = .ok (.ifCond .ne 22, 3) := by decide +kernel
theorem d2_86 : decode prog_26_method_3_code 86 = .ok (.aload_n 0, 1) := by decide +kernel
theorem d2_87 : decode prog_26_method_3_code 87 = .ok (.dload_n 1, 1) := by decide +kernel
theorem d2_88 : decode prog_26_method_3_code 88 = .ok (.putfield 30, 3) := by decide +kernel
theorem d2_91 : decode prog_26_method_3_code 91 = .ok (.aload_n 0, 1) := by decide +kernel
theorem d2_92 : decode prog_26_method_3_code 92 = .ok (.dload_n 3, 1) := by decide +kernel
theorem d2_93 : decode prog_26_method_3_code 93 = .ok (.putfield 34, 3) := by decide +kernel
theorem d2_96 : decode prog_26_method_3_code 96 = .ok (.aload_n 0, 1) := by decide +kernel
theorem d2_97 : decode prog_26_method_3_code 97 = .ok (.dload 5, 2) := by decide +kernel
theorem d2_99 : decode prog_26_method_3_code 99 = .ok (.putfield 37, 3) := by decide +kernel
theorem d2_102 : decode prog_26_method_3_code 102 = .ok (.aload_n 0, 1) := by decide +kernel
theorem d2_103 : decode prog_26_method_3_code 103 = .ok (.dload 7, 2) := by decide +kernel
theorem d2_105 : decode prog_26_method_3_code 105 = .ok (.putfield 40, 3) := by decide +kernel
theorem d2_108 : decode prog_26_method_3_code 108 = .ok (.return_, 1) := by decide +kernel
def Q_rm2 (Z : State) (a1 : Addr) (u1 : UInt64) (u2 : UInt64) (u3 : UInt64) (u4 : UInt64) (u5 : UInt64) (u6 : UInt64) (h0 : Heap) (n0 : Nat) (v : Option Value) (h : Heap) (L : List Loc) : Prop := v = none ∧ Fr n0 L ∧ Keep h0 h [a1] ∧ Exa Z h a1 "com/example/hoja/hoja/model/Box" ∧ Fld Z h a1 "com/example/hoja/hoja/model/Box" "x" "D" (.double u1) ∧ Fld Z h a1 "com/example/hoja/hoja/model/Box" "y" "D" (.double u2) ∧ Fld Z h a1 "com/example/hoja/hoja/model/Box" "right" "D" (.double u3) ∧ Fld Z h a1 "com/example/hoja/hoja/model/Box" "bottom" "D" (.double u4)
theorem pn_com_2fexample_2fhoja_2fhoja_2fmodel_2fBox : plainName "com/example/hoja/hoja/model/Box" = true := by first | (simp [plainName, overriddenIn]; done) | decide +kernel
set_option maxRecDepth 65536 in
set_option maxHeartbeats 40000000 in
theorem rm2 (l : Launch) (Z : State) (a0 : Array Value) (hw : ∀ d ∈ tables_1, d.before a0 Z = true) (ws : List Jvm.Cond) (a1 : Addr) (u1 : UInt64) (u2 : UInt64) (u3 : UInt64) (u4 : UInt64) (u5 : UInt64) (u6 : UInt64) (h0 : Heap) (n0 : Nat) (Z0 : n0 ≤ h0.size) (F0 : Fld Z h0 a1 "com/example/hoja/hoja/model/Box" "x" "D" (.double (0 : UInt64))) (F1 : Fld Z h0 a1 "com/example/hoja/hoja/model/Box" "y" "D" (.double (0 : UInt64))) (F2 : Fld Z h0 a1 "com/example/hoja/hoja/model/Box" "right" "D" (.double (0 : UInt64))) (F3 : Fld Z h0 a1 "com/example/hoja/hoja/model/Box" "bottom" "D" (.double (0 : UInt64))) (E1 : Exa Z h0 a1 "com/example/hoja/hoja/model/Box") (ga : n0 ≤ a1) (c8 : ¬ (cmpValue (FP.dcmp u5 (0 : UInt64)) .l < (0 : Int32))) (c15 : ¬ (cmpValue (FP.dcmp u6 (0 : UInt64)) .l < (0 : Int32))) (f_u3 : Jvm.FP.Core.DFin u3) (f_u4 : Jvm.FP.Core.DFin u4) (f_u5 : Jvm.FP.Core.DFin u5) (f_u6 : Jvm.FP.Core.DFin u6) :
    MetFree l (⟨"com/example/hoja/hoja/model/Box", "<init>", "(DDDDDD)V"⟩ : MethodName) (head1 (Jvm.Cond.code (⟨"com/example/hoja/hoja/model/Box", "<init>", "(DDDDDD)V"⟩ : MethodName) prog_26_method_3_code 13 none :: ws) ({ frames := 2, cells := 0, slots := 0, locals := 26 } : Room)) (fun a U => a = #[(.ref a1), (.double u1), (.double u2), (.double u3), (.double u4), (.double u5), (.double u6)] ∧ Z.Warmed39 U.vm ∧ U.heap = h0) (fun _ _ _ _ _ => True) (fun _ U o U' => ∃ v L, o = .returned v ∧ Q_rm2 Z a1 u1 u2 u3 u4 u5 u6 h0 n0 v U'.heap L ∧ FrameEnd U o U' L ({ frames := 2, cells := 0, slots := 0, locals := 26 } : Room).cells ({ frames := 2, cells := 0, slots := 0, locals := 26 } : Room).slots) := by
  refine MetFree.of_bodySF (plainFor_of_name pn_com_2fexample_2fhoja_2fhoja_2fmodel_2fBox) hisR ?_
  intro p e s m args below meth c s₁ Bd hml0 hP hK
  obtain ⟨rfl, hZ, hh⟩ := hP
  have hx := Bd.exec
  have hby := Bd.bytes
  have hml : c.maxLocals = 13 := hml0
  have hown : s.vm.findClass "com/example/hoja/hoja/model/Box" = some m.cls := findClass_of_methodNamed Bd.named
  have hnm := (name_of_methodNamed Bd.named Bd.method).1
  have X0 : Stand p l e ({ frames := 2, cells := 0, slots := 0, locals := 26 } : Room) s m #[(.ref a1), (.double u1), (.double u2), (.double u3), (.double u4), (.double u5), (.double u6)] below meth c s₁ [] 0 0 := Stand.of_body Bd
  have e0 : s₁.heap = h0 := by rw [← hh, Bd.state]; rfl
  have N0 := Fr.nil n0
  have k0 : ∀ t, Steps p.tables e below (s₁.setTop (mkF m 0 #[.val (.ref a1), .val (.double u1), .second, .val (.double u2), .second, .val (.double u3), .second, .val (.double u4), .second, .val (.double u5), .second, .val (.double u6), .second] [])) t → Steps p.tables e below (s₁.setTop (entryFrame m #[(.ref a1), (.double u1), (.double u2), (.double u3), (.double u4), (.double u5), (.double u6)] 13)) t := fun t k => castTop (ef_2_RDDDDDD m a1 u1 u2 u3 u4 u5 u6) k
  have K0 := Keep.refl h0 [a1]
  have k101 : ∀ t, Steps p.tables e below (s₁.setTop (mkF m 1 #[.val (.ref a1), .val (.double u1), .second, .val (.double u2), .second, .val (.double u3), .second, .val (.double u4), .second, .val (.double u5), .second, .val (.double u6), .second] [(.ref a1)])) t → Steps p.tables e below (s₁.setTop (entryFrame m #[(.ref a1), (.double u1), (.double u2), (.double u3), (.double u4), (.double u5), (.double u6)] 13)) t := fun t k => k0 t (by
    show Steps p.tables e below (s₁.setTop (mkF m 0 #[.val (.ref a1), .val (.double u1), .second, .val (.double u2), .second, .val (.double u3), .second, .val (.double u4), .second, .val (.double u5), .second, .val (.double u6), .second] [])) _
    refine XS.aloadN X0.here hx rfl (hb hby d2_0) rfl rfl ?_
    exact k)
  obtain ⟨T102, X102, e102, st102⟩ := initO X0 hx hZ hown (hw _ (List.mem_of_getElem? (i := 10) rfl)) (hw _ (List.mem_of_getElem? (i := 11) rfl)) (hw _ (List.mem_of_getElem? (i := 12) rfl)) e0 (g := (mkF m 1 #[.val (.ref a1), .val (.double u1), .second, .val (.double u2), .second, .val (.double u3), .second, .val (.double u4), .second, .val (.double u5), .second, .val (.double u6), .second] [(.ref a1)])) rfl (by rw [hml]; rfl) rfl (hb hby d2_1) (by decide) (W := 0) (by show 2 * 0 + _ ≤ _; exact Nat.le_of_eq rfl) (by decide)
  have k103 : ∀ t, Steps p.tables e below (T102.setTop (mkF m 4 #[.val (.ref a1), .val (.double u1), .second, .val (.double u2), .second, .val (.double u3), .second, .val (.double u4), .second, .val (.double u5), .second, .val (.double u6), .second] [])) t → Steps p.tables e below (s₁.setTop (entryFrame m #[(.ref a1), (.double u1), (.double u2), (.double u3), (.double u4), (.double u5), (.double u6)] 13)) t := fun t k => k101 t (st102 t k)
  have k104 : ∀ t, Steps p.tables e below (T102.setTop (mkF m 37 #[.val (.ref a1), .val (.double u1), .second, .val (.double u2), .second, .val (.double u3), .second, .val (.double u4), .second, .val (.double u5), .second, .val (.double u6), .second] [(.double u3)])) t → Steps p.tables e below (s₁.setTop (entryFrame m #[(.ref a1), (.double u1), (.double u2), (.double u3), (.double u4), (.double u5), (.double u6)] 13)) t := fun t k => k103 t (by
    show Steps p.tables e below (T102.setTop (mkF m 4 #[.val (.ref a1), .val (.double u1), .second, .val (.double u2), .second, .val (.double u3), .second, .val (.double u4), .second, .val (.double u5), .second, .val (.double u6), .second] [])) _
    refine XS.dload X102.here hx rfl (hb hby d2_4) rfl ?_
    show Steps p.tables e below (T102.setTop (mkF m 6 #[.val (.ref a1), .val (.double u1), .second, .val (.double u2), .second, .val (.double u3), .second, .val (.double u4), .second, .val (.double u5), .second, .val (.double u6), .second] [(.double u5)])) _
    refine XS.dconst0 X102.here hx rfl (hb hby d2_6) (v := (0 : UInt64)) rfl ?_
    show Steps p.tables e below (T102.setTop (mkF m 7 #[.val (.ref a1), .val (.double u1), .second, .val (.double u2), .second, .val (.double u3), .second, .val (.double u4), .second, .val (.double u5), .second, .val (.double u6), .second] [(.double (0 : UInt64)), (.double u5)])) _
    refine XS.dcmpS X102.here hx rfl (hb hby d2_7) rfl rfl ?_
    show Steps p.tables e below (T102.setTop (mkF m 8 #[.val (.ref a1), .val (.double u1), .second, .val (.double u2), .second, .val (.double u3), .second, .val (.double u4), .second, .val (.double u5), .second, .val (.double u6), .second] [(.int (cmpValue (FP.dcmp u5 (0 : UInt64)) .l))])) _
    refine XS.ifNo X102.here hx rfl (hb hby d2_8) rfl ((if0 _ _).trans (flt c8).1) ?_
    show Steps p.tables e below (T102.setTop (mkF m 11 #[.val (.ref a1), .val (.double u1), .second, .val (.double u2), .second, .val (.double u3), .second, .val (.double u4), .second, .val (.double u5), .second, .val (.double u6), .second] [])) _
    refine XS.dload X102.here hx rfl (hb hby d2_11) rfl ?_
    show Steps p.tables e below (T102.setTop (mkF m 13 #[.val (.ref a1), .val (.double u1), .second, .val (.double u2), .second, .val (.double u3), .second, .val (.double u4), .second, .val (.double u5), .second, .val (.double u6), .second] [(.double u6)])) _
    refine XS.dconst0 X102.here hx rfl (hb hby d2_13) (v := (0 : UInt64)) rfl ?_
    show Steps p.tables e below (T102.setTop (mkF m 14 #[.val (.ref a1), .val (.double u1), .second, .val (.double u2), .second, .val (.double u3), .second, .val (.double u4), .second, .val (.double u5), .second, .val (.double u6), .second] [(.double (0 : UInt64)), (.double u6)])) _
    refine XS.dcmpS X102.here hx rfl (hb hby d2_14) rfl rfl ?_
    show Steps p.tables e below (T102.setTop (mkF m 15 #[.val (.ref a1), .val (.double u1), .second, .val (.double u2), .second, .val (.double u3), .second, .val (.double u4), .second, .val (.double u5), .second, .val (.double u6), .second] [(.int (cmpValue (FP.dcmp u6 (0 : UInt64)) .l))])) _
    refine XS.ifYes X102.here hx rfl (pc0 := 15) (pc' := 35) rfl (hb hby d2_15) rfl ((if0 _ _).trans (flt c15).2.1) (by decide) (by decide) ?_
    show Steps p.tables e below (T102.setTop (mkF m 35 #[.val (.ref a1), .val (.double u1), .second, .val (.double u2), .second, .val (.double u3), .second, .val (.double u4), .second, .val (.double u5), .second, .val (.double u6), .second] [])) _
    refine XS.dload X102.here hx rfl (hb hby d2_35) rfl ?_
    exact k)
  obtain ⟨_, _, ⟨T105, L105, k105, n105⟩, -, X105, ⟨Lc105, hQ105, l105, y105, z105⟩, st105⟩ := Jvm.LawKit.callS X102 hx (y := (⟨"java/lang/Double", "isFinite", "(D)Z"⟩ : MethodName)) hown (mvT hZ (hw _ (List.mem_of_getElem? (i := 13) rfl))) (mvT hZ (hw _ (List.mem_of_getElem? (i := 14) rfl))) (mvT hZ (hw _ (List.mem_of_getElem? (i := 15) rfl))) (mvT hZ (hw _ (List.mem_of_getElem? (i := 16) rfl))) (by decide) (backOf (W := 0) (rm4 l Z a0 hw [] u3 h0 n0 Z0 f_u3) hZ (hw _ (List.mem_of_getElem? (i := 16) rfl)) (hw _ (List.mem_of_getElem? (i := 15) rfl)) (by decide) (by decide)) (g := (mkF m 37 #[.val (.ref a1), .val (.double u1), .second, .val (.double u2), .second, .val (.double u3), .second, .val (.double u4), .second, .val (.double u5), .second, .val (.double u6), .second] [(.double u3)])) rfl (by rw [hml]; rfl) (argsL := [(.double u3)]) (rest := []) (lenOf pd__28D_29Z rfl) rfl (by show 2 * 0 + _ ≤ _; exact Nat.le_of_eq rfl) (hb hby d2_37) (fun _ _ => ⟨rfl, e102, (by decide : 0 + 0 ≤ _), (by decide : 0 + 0 ≤ _)⟩)
  dsimp only [Pt.U, Pt.locs, Pt.cells, Pt.slots] at X105 l105 y105 z105 st105 hQ105
  subst l105 y105 z105
  obtain ⟨rfl, N105q, e105⟩ := hQ105
  have N106 := Fr.app N0 N105q
  have k107 : ∀ t, Steps p.tables e below (T105.setTop (mkF m 40 #[.val (.ref a1), .val (.double u1), .second, .val (.double u2), .second, .val (.double u3), .second, .val (.double u4), .second, .val (.double u5), .second, .val (.double u6), .second] [(.int (1 : Int32))])) t → Steps p.tables e below (s₁.setTop (entryFrame m #[(.ref a1), (.double u1), (.double u2), (.double u3), (.double u4), (.double u5), (.double u6)] 13)) t := fun t k => k104 t (st105 t k)
  have k108 : ∀ t, Steps p.tables e below (T105.setTop (mkF m 45 #[.val (.ref a1), .val (.double u1), .second, .val (.double u2), .second, .val (.double u3), .second, .val (.double u4), .second, .val (.double u5), .second, .val (.double u6), .second] [(.double u4)])) t → Steps p.tables e below (s₁.setTop (entryFrame m #[(.ref a1), (.double u1), (.double u2), (.double u3), (.double u4), (.double u5), (.double u6)] 13)) t := fun t k => k107 t (by
    show Steps p.tables e below (T105.setTop (mkF m 40 #[.val (.ref a1), .val (.double u1), .second, .val (.double u2), .second, .val (.double u3), .second, .val (.double u4), .second, .val (.double u5), .second, .val (.double u6), .second] [(.int (1 : Int32))])) _
    refine XS.ifNo X105.here hx rfl (hb hby d2_40) rfl ((if0 _ _).trans (feq (by decide)).1) ?_
    show Steps p.tables e below (T105.setTop (mkF m 43 #[.val (.ref a1), .val (.double u1), .second, .val (.double u2), .second, .val (.double u3), .second, .val (.double u4), .second, .val (.double u5), .second, .val (.double u6), .second] [])) _
    refine XS.dload X105.here hx rfl (hb hby d2_43) rfl ?_
    exact k)
  obtain ⟨_, _, ⟨T109, L109, k109, n109⟩, -, X109, ⟨Lc109, hQ109, l109, y109, z109⟩, st109⟩ := Jvm.LawKit.callS X105 hx (y := (⟨"java/lang/Double", "isFinite", "(D)Z"⟩ : MethodName)) hown (mvT hZ (hw _ (List.mem_of_getElem? (i := 13) rfl))) (mvT hZ (hw _ (List.mem_of_getElem? (i := 14) rfl))) (mvT hZ (hw _ (List.mem_of_getElem? (i := 15) rfl))) (mvT hZ (hw _ (List.mem_of_getElem? (i := 16) rfl))) (by decide) (backOf (W := 0) (rm4 l Z a0 hw [] u4 h0 n0 Z0 f_u4) hZ (hw _ (List.mem_of_getElem? (i := 16) rfl)) (hw _ (List.mem_of_getElem? (i := 15) rfl)) (by decide) (by decide)) (g := (mkF m 45 #[.val (.ref a1), .val (.double u1), .second, .val (.double u2), .second, .val (.double u3), .second, .val (.double u4), .second, .val (.double u5), .second, .val (.double u6), .second] [(.double u4)])) rfl (by rw [hml]; rfl) (argsL := [(.double u4)]) (rest := []) (lenOf pd__28D_29Z rfl) rfl (by show 2 * 0 + _ ≤ _; exact Nat.le_of_eq rfl) (hb hby d2_45) (fun _ _ => ⟨rfl, e105, (by decide : 0 + 0 ≤ _), (by decide : 0 + 0 ≤ _)⟩)
  dsimp only [Pt.U, Pt.locs, Pt.cells, Pt.slots] at X109 l109 y109 z109 st109 hQ109
  subst l109 y109 z109
  obtain ⟨rfl, N109q, e109⟩ := hQ109
  have N110 := Fr.app N106 N109q
  have k111 : ∀ t, Steps p.tables e below (T109.setTop (mkF m 48 #[.val (.ref a1), .val (.double u1), .second, .val (.double u2), .second, .val (.double u3), .second, .val (.double u4), .second, .val (.double u5), .second, .val (.double u6), .second] [(.int (1 : Int32))])) t → Steps p.tables e below (s₁.setTop (entryFrame m #[(.ref a1), (.double u1), (.double u2), (.double u3), (.double u4), (.double u5), (.double u6)] 13)) t := fun t k => k108 t (st109 t k)
  have k112 : ∀ t, Steps p.tables e below (T109.setTop (mkF m 53 #[.val (.ref a1), .val (.double u1), .second, .val (.double u2), .second, .val (.double u3), .second, .val (.double u4), .second, .val (.double u5), .second, .val (.double u6), .second] [(.double u5)])) t → Steps p.tables e below (s₁.setTop (entryFrame m #[(.ref a1), (.double u1), (.double u2), (.double u3), (.double u4), (.double u5), (.double u6)] 13)) t := fun t k => k111 t (by
    show Steps p.tables e below (T109.setTop (mkF m 48 #[.val (.ref a1), .val (.double u1), .second, .val (.double u2), .second, .val (.double u3), .second, .val (.double u4), .second, .val (.double u5), .second, .val (.double u6), .second] [(.int (1 : Int32))])) _
    refine XS.ifNo X109.here hx rfl (hb hby d2_48) rfl ((if0 _ _).trans (feq (by decide)).1) ?_
    show Steps p.tables e below (T109.setTop (mkF m 51 #[.val (.ref a1), .val (.double u1), .second, .val (.double u2), .second, .val (.double u3), .second, .val (.double u4), .second, .val (.double u5), .second, .val (.double u6), .second] [])) _
    refine XS.dload X109.here hx rfl (hb hby d2_51) rfl ?_
    exact k)
  obtain ⟨_, _, ⟨T113, L113, k113, n113⟩, -, X113, ⟨Lc113, hQ113, l113, y113, z113⟩, st113⟩ := Jvm.LawKit.callS X109 hx (y := (⟨"java/lang/Double", "isFinite", "(D)Z"⟩ : MethodName)) hown (mvT hZ (hw _ (List.mem_of_getElem? (i := 13) rfl))) (mvT hZ (hw _ (List.mem_of_getElem? (i := 14) rfl))) (mvT hZ (hw _ (List.mem_of_getElem? (i := 15) rfl))) (mvT hZ (hw _ (List.mem_of_getElem? (i := 16) rfl))) (by decide) (backOf (W := 0) (rm4 l Z a0 hw [] u5 h0 n0 Z0 f_u5) hZ (hw _ (List.mem_of_getElem? (i := 16) rfl)) (hw _ (List.mem_of_getElem? (i := 15) rfl)) (by decide) (by decide)) (g := (mkF m 53 #[.val (.ref a1), .val (.double u1), .second, .val (.double u2), .second, .val (.double u3), .second, .val (.double u4), .second, .val (.double u5), .second, .val (.double u6), .second] [(.double u5)])) rfl (by rw [hml]; rfl) (argsL := [(.double u5)]) (rest := []) (lenOf pd__28D_29Z rfl) rfl (by show 2 * 0 + _ ≤ _; exact Nat.le_of_eq rfl) (hb hby d2_53) (fun _ _ => ⟨rfl, e109, (by decide : 0 + 0 ≤ _), (by decide : 0 + 0 ≤ _)⟩)
  dsimp only [Pt.U, Pt.locs, Pt.cells, Pt.slots] at X113 l113 y113 z113 st113 hQ113
  subst l113 y113 z113
  obtain ⟨rfl, N113q, e113⟩ := hQ113
  have N114 := Fr.app N110 N113q
  have k115 : ∀ t, Steps p.tables e below (T113.setTop (mkF m 56 #[.val (.ref a1), .val (.double u1), .second, .val (.double u2), .second, .val (.double u3), .second, .val (.double u4), .second, .val (.double u5), .second, .val (.double u6), .second] [(.int (1 : Int32))])) t → Steps p.tables e below (s₁.setTop (entryFrame m #[(.ref a1), (.double u1), (.double u2), (.double u3), (.double u4), (.double u5), (.double u6)] 13)) t := fun t k => k112 t (st113 t k)
  have k116 : ∀ t, Steps p.tables e below (T113.setTop (mkF m 61 #[.val (.ref a1), .val (.double u1), .second, .val (.double u2), .second, .val (.double u3), .second, .val (.double u4), .second, .val (.double u5), .second, .val (.double u6), .second] [(.double u6)])) t → Steps p.tables e below (s₁.setTop (entryFrame m #[(.ref a1), (.double u1), (.double u2), (.double u3), (.double u4), (.double u5), (.double u6)] 13)) t := fun t k => k115 t (by
    show Steps p.tables e below (T113.setTop (mkF m 56 #[.val (.ref a1), .val (.double u1), .second, .val (.double u2), .second, .val (.double u3), .second, .val (.double u4), .second, .val (.double u5), .second, .val (.double u6), .second] [(.int (1 : Int32))])) _
    refine XS.ifNo X113.here hx rfl (hb hby d2_56) rfl ((if0 _ _).trans (feq (by decide)).1) ?_
    show Steps p.tables e below (T113.setTop (mkF m 59 #[.val (.ref a1), .val (.double u1), .second, .val (.double u2), .second, .val (.double u3), .second, .val (.double u4), .second, .val (.double u5), .second, .val (.double u6), .second] [])) _
    refine XS.dload X113.here hx rfl (hb hby d2_59) rfl ?_
    exact k)
  obtain ⟨_, _, ⟨T117, L117, k117, n117⟩, -, X117, ⟨Lc117, hQ117, l117, y117, z117⟩, st117⟩ := Jvm.LawKit.callS X113 hx (y := (⟨"java/lang/Double", "isFinite", "(D)Z"⟩ : MethodName)) hown (mvT hZ (hw _ (List.mem_of_getElem? (i := 13) rfl))) (mvT hZ (hw _ (List.mem_of_getElem? (i := 14) rfl))) (mvT hZ (hw _ (List.mem_of_getElem? (i := 15) rfl))) (mvT hZ (hw _ (List.mem_of_getElem? (i := 16) rfl))) (by decide) (backOf (W := 0) (rm4 l Z a0 hw [] u6 h0 n0 Z0 f_u6) hZ (hw _ (List.mem_of_getElem? (i := 16) rfl)) (hw _ (List.mem_of_getElem? (i := 15) rfl)) (by decide) (by decide)) (g := (mkF m 61 #[.val (.ref a1), .val (.double u1), .second, .val (.double u2), .second, .val (.double u3), .second, .val (.double u4), .second, .val (.double u5), .second, .val (.double u6), .second] [(.double u6)])) rfl (by rw [hml]; rfl) (argsL := [(.double u6)]) (rest := []) (lenOf pd__28D_29Z rfl) rfl (by show 2 * 0 + _ ≤ _; exact Nat.le_of_eq rfl) (hb hby d2_61) (fun _ _ => ⟨rfl, e113, (by decide : 0 + 0 ≤ _), (by decide : 0 + 0 ≤ _)⟩)
  dsimp only [Pt.U, Pt.locs, Pt.cells, Pt.slots] at X117 l117 y117 z117 st117 hQ117
  subst l117 y117 z117
  obtain ⟨rfl, N117q, e117⟩ := hQ117
  have N118 := Fr.app N114 N117q
  have k119 : ∀ t, Steps p.tables e below (T117.setTop (mkF m 64 #[.val (.ref a1), .val (.double u1), .second, .val (.double u2), .second, .val (.double u3), .second, .val (.double u4), .second, .val (.double u5), .second, .val (.double u6), .second] [(.int (1 : Int32))])) t → Steps p.tables e below (s₁.setTop (entryFrame m #[(.ref a1), (.double u1), (.double u2), (.double u3), (.double u4), (.double u5), (.double u6)] 13)) t := fun t k => k116 t (st117 t k)
  have k120 : ∀ t, Steps p.tables e below (T117.setTop (mkF m 88 #[.val (.ref a1), .val (.double u1), .second, .val (.double u2), .second, .val (.double u3), .second, .val (.double u4), .second, .val (.double u5), .second, .val (.double u6), .second] [(.double u1), (.ref a1)])) t → Steps p.tables e below (s₁.setTop (entryFrame m #[(.ref a1), (.double u1), (.double u2), (.double u3), (.double u4), (.double u5), (.double u6)] 13)) t := fun t k => k119 t (by
    show Steps p.tables e below (T117.setTop (mkF m 64 #[.val (.ref a1), .val (.double u1), .second, .val (.double u2), .second, .val (.double u3), .second, .val (.double u4), .second, .val (.double u5), .second, .val (.double u6), .second] [(.int (1 : Int32))])) _
    refine XS.ifYes X117.here hx rfl (pc0 := 64) (pc' := 86) rfl (hb hby d2_64) rfl ((if0 _ _).trans (feq (by decide)).2) (by decide) (by decide) ?_
    show Steps p.tables e below (T117.setTop (mkF m 86 #[.val (.ref a1), .val (.double u1), .second, .val (.double u2), .second, .val (.double u3), .second, .val (.double u4), .second, .val (.double u5), .second, .val (.double u6), .second] [])) _
    refine XS.aloadN X117.here hx rfl (hb hby d2_86) rfl rfl ?_
    show Steps p.tables e below (T117.setTop (mkF m 87 #[.val (.ref a1), .val (.double u1), .second, .val (.double u2), .second, .val (.double u3), .second, .val (.double u4), .second, .val (.double u5), .second, .val (.double u6), .second] [(.ref a1)])) _
    refine XS.dloadN X117.here hx rfl (hb hby d2_87) rfl ?_
    exact k)
  obtain ⟨T121, h121, X121, e121, W121, st121⟩ := putF X117 hx hZ hown (host := "") (Or.inl (hw _ (List.mem_of_getElem? (i := 22) rfl))) Via.refl e117 F0 E1 (Or.inr ⟨(hw _ (List.mem_of_getElem? (i := 23) rfl)), rfl, hnm⟩) (hw _ (List.mem_of_getElem? (i := 2) rfl)) (ty := .double) (by decide) rfl rfl (g := (mkF m 88 #[.val (.ref a1), .val (.double u1), .second, .val (.double u2), .second, .val (.double u3), .second, .val (.double u4), .second, .val (.double u5), .second, .val (.double u6), .second] [(.double u1), (.ref a1)])) rfl rfl (hb hby d2_88)
  have F122 := F0.same W121
  have F123 := F1.other W121 (Or.inr (slot_ne (Or.inr (hw _ (List.mem_of_getElem? (i := 25) rfl))) (Or.inr (hw _ (List.mem_of_getElem? (i := 23) rfl))) (by decide) (t := .double) (t' := .double) (by decide) (by decide)))
  have F124 := F2.other W121 (Or.inr (slot_ne (Or.inr (hw _ (List.mem_of_getElem? (i := 27) rfl))) (Or.inr (hw _ (List.mem_of_getElem? (i := 23) rfl))) (by decide) (t := .double) (t' := .double) (by decide) (by decide)))
  have F125 := F3.other W121 (Or.inr (slot_ne (Or.inr (hw _ (List.mem_of_getElem? (i := 29) rfl))) (Or.inr (hw _ (List.mem_of_getElem? (i := 23) rfl))) (by decide) (t := .double) (t' := .double) (by decide) (by decide)))
  have F126 := E1.wr W121
  have Z127 : n0 ≤ h121.size := Nat.le_trans Z0 (Nat.le_of_eq W121.size.symm)
  have N128 := Fr.snoc X121 N118 ga
  have K129 := K0.wr W121 (Or.inl (List.mem_of_getElem? (i := 0) rfl))
  have k130 : ∀ t, Steps p.tables e below (T121.setTop (mkF m 91 #[.val (.ref a1), .val (.double u1), .second, .val (.double u2), .second, .val (.double u3), .second, .val (.double u4), .second, .val (.double u5), .second, .val (.double u6), .second] [])) t → Steps p.tables e below (s₁.setTop (entryFrame m #[(.ref a1), (.double u1), (.double u2), (.double u3), (.double u4), (.double u5), (.double u6)] 13)) t := fun t k => k120 t (st121 t k)
  have k131 : ∀ t, Steps p.tables e below (T121.setTop (mkF m 93 #[.val (.ref a1), .val (.double u1), .second, .val (.double u2), .second, .val (.double u3), .second, .val (.double u4), .second, .val (.double u5), .second, .val (.double u6), .second] [(.double u2), (.ref a1)])) t → Steps p.tables e below (s₁.setTop (entryFrame m #[(.ref a1), (.double u1), (.double u2), (.double u3), (.double u4), (.double u5), (.double u6)] 13)) t := fun t k => k130 t (by
    show Steps p.tables e below (T121.setTop (mkF m 91 #[.val (.ref a1), .val (.double u1), .second, .val (.double u2), .second, .val (.double u3), .second, .val (.double u4), .second, .val (.double u5), .second, .val (.double u6), .second] [])) _
    refine XS.aloadN X121.here hx rfl (hb hby d2_91) rfl rfl ?_
    show Steps p.tables e below (T121.setTop (mkF m 92 #[.val (.ref a1), .val (.double u1), .second, .val (.double u2), .second, .val (.double u3), .second, .val (.double u4), .second, .val (.double u5), .second, .val (.double u6), .second] [(.ref a1)])) _
    refine XS.dloadN X121.here hx rfl (hb hby d2_92) rfl ?_
    exact k)
  obtain ⟨T132, h132, X132, e132, W132, st132⟩ := putF X121 hx hZ hown (host := "") (Or.inl (hw _ (List.mem_of_getElem? (i := 24) rfl))) Via.refl e121 F123 F126 (Or.inr ⟨(hw _ (List.mem_of_getElem? (i := 25) rfl)), rfl, hnm⟩) (hw _ (List.mem_of_getElem? (i := 2) rfl)) (ty := .double) (by decide) rfl rfl (g := (mkF m 93 #[.val (.ref a1), .val (.double u1), .second, .val (.double u2), .second, .val (.double u3), .second, .val (.double u4), .second, .val (.double u5), .second, .val (.double u6), .second] [(.double u2), (.ref a1)])) rfl rfl (hb hby d2_93)
  have F133 := F123.same W132
  have F134 := F124.other W132 (Or.inr (slot_ne (Or.inr (hw _ (List.mem_of_getElem? (i := 27) rfl))) (Or.inr (hw _ (List.mem_of_getElem? (i := 25) rfl))) (by decide) (t := .double) (t' := .double) (by decide) (by decide)))
  have F135 := F125.other W132 (Or.inr (slot_ne (Or.inr (hw _ (List.mem_of_getElem? (i := 29) rfl))) (Or.inr (hw _ (List.mem_of_getElem? (i := 25) rfl))) (by decide) (t := .double) (t' := .double) (by decide) (by decide)))
  have F136 := F126.wr W132
  have F137 := F122.other W132 (Or.inr (slot_ne (Or.inr (hw _ (List.mem_of_getElem? (i := 23) rfl))) (Or.inr (hw _ (List.mem_of_getElem? (i := 25) rfl))) (by decide) (t := .double) (t' := .double) (by decide) (by decide)))
  have Z138 : n0 ≤ h132.size := Nat.le_trans Z127 (Nat.le_of_eq W132.size.symm)
  have N139 := Fr.snoc X132 N128 ga
  have K140 := K129.wr W132 (Or.inl (List.mem_of_getElem? (i := 0) rfl))
  have k141 : ∀ t, Steps p.tables e below (T132.setTop (mkF m 96 #[.val (.ref a1), .val (.double u1), .second, .val (.double u2), .second, .val (.double u3), .second, .val (.double u4), .second, .val (.double u5), .second, .val (.double u6), .second] [])) t → Steps p.tables e below (s₁.setTop (entryFrame m #[(.ref a1), (.double u1), (.double u2), (.double u3), (.double u4), (.double u5), (.double u6)] 13)) t := fun t k => k131 t (st132 t k)
  have k142 : ∀ t, Steps p.tables e below (T132.setTop (mkF m 99 #[.val (.ref a1), .val (.double u1), .second, .val (.double u2), .second, .val (.double u3), .second, .val (.double u4), .second, .val (.double u5), .second, .val (.double u6), .second] [(.double u3), (.ref a1)])) t → Steps p.tables e below (s₁.setTop (entryFrame m #[(.ref a1), (.double u1), (.double u2), (.double u3), (.double u4), (.double u5), (.double u6)] 13)) t := fun t k => k141 t (by
    show Steps p.tables e below (T132.setTop (mkF m 96 #[.val (.ref a1), .val (.double u1), .second, .val (.double u2), .second, .val (.double u3), .second, .val (.double u4), .second, .val (.double u5), .second, .val (.double u6), .second] [])) _
    refine XS.aloadN X132.here hx rfl (hb hby d2_96) rfl rfl ?_
    show Steps p.tables e below (T132.setTop (mkF m 97 #[.val (.ref a1), .val (.double u1), .second, .val (.double u2), .second, .val (.double u3), .second, .val (.double u4), .second, .val (.double u5), .second, .val (.double u6), .second] [(.ref a1)])) _
    refine XS.dload X132.here hx rfl (hb hby d2_97) rfl ?_
    exact k)
  obtain ⟨T143, h143, X143, e143, W143, st143⟩ := putF X132 hx hZ hown (host := "") (Or.inl (hw _ (List.mem_of_getElem? (i := 26) rfl))) Via.refl e132 F134 F136 (Or.inr ⟨(hw _ (List.mem_of_getElem? (i := 27) rfl)), rfl, hnm⟩) (hw _ (List.mem_of_getElem? (i := 2) rfl)) (ty := .double) (by decide) rfl rfl (g := (mkF m 99 #[.val (.ref a1), .val (.double u1), .second, .val (.double u2), .second, .val (.double u3), .second, .val (.double u4), .second, .val (.double u5), .second, .val (.double u6), .second] [(.double u3), (.ref a1)])) rfl rfl (hb hby d2_99)
  have F144 := F134.same W143
  have F145 := F135.other W143 (Or.inr (slot_ne (Or.inr (hw _ (List.mem_of_getElem? (i := 29) rfl))) (Or.inr (hw _ (List.mem_of_getElem? (i := 27) rfl))) (by decide) (t := .double) (t' := .double) (by decide) (by decide)))
  have F146 := F136.wr W143
  have F147 := F137.other W143 (Or.inr (slot_ne (Or.inr (hw _ (List.mem_of_getElem? (i := 23) rfl))) (Or.inr (hw _ (List.mem_of_getElem? (i := 27) rfl))) (by decide) (t := .double) (t' := .double) (by decide) (by decide)))
  have F148 := F133.other W143 (Or.inr (slot_ne (Or.inr (hw _ (List.mem_of_getElem? (i := 25) rfl))) (Or.inr (hw _ (List.mem_of_getElem? (i := 27) rfl))) (by decide) (t := .double) (t' := .double) (by decide) (by decide)))
  have Z149 : n0 ≤ h143.size := Nat.le_trans Z138 (Nat.le_of_eq W143.size.symm)
  have N150 := Fr.snoc X143 N139 ga
  have K151 := K140.wr W143 (Or.inl (List.mem_of_getElem? (i := 0) rfl))
  have k152 : ∀ t, Steps p.tables e below (T143.setTop (mkF m 102 #[.val (.ref a1), .val (.double u1), .second, .val (.double u2), .second, .val (.double u3), .second, .val (.double u4), .second, .val (.double u5), .second, .val (.double u6), .second] [])) t → Steps p.tables e below (s₁.setTop (entryFrame m #[(.ref a1), (.double u1), (.double u2), (.double u3), (.double u4), (.double u5), (.double u6)] 13)) t := fun t k => k142 t (st143 t k)
  have k153 : ∀ t, Steps p.tables e below (T143.setTop (mkF m 105 #[.val (.ref a1), .val (.double u1), .second, .val (.double u2), .second, .val (.double u3), .second, .val (.double u4), .second, .val (.double u5), .second, .val (.double u6), .second] [(.double u4), (.ref a1)])) t → Steps p.tables e below (s₁.setTop (entryFrame m #[(.ref a1), (.double u1), (.double u2), (.double u3), (.double u4), (.double u5), (.double u6)] 13)) t := fun t k => k152 t (by
    show Steps p.tables e below (T143.setTop (mkF m 102 #[.val (.ref a1), .val (.double u1), .second, .val (.double u2), .second, .val (.double u3), .second, .val (.double u4), .second, .val (.double u5), .second, .val (.double u6), .second] [])) _
    refine XS.aloadN X143.here hx rfl (hb hby d2_102) rfl rfl ?_
    show Steps p.tables e below (T143.setTop (mkF m 103 #[.val (.ref a1), .val (.double u1), .second, .val (.double u2), .second, .val (.double u3), .second, .val (.double u4), .second, .val (.double u5), .second, .val (.double u6), .second] [(.ref a1)])) _
    refine XS.dload X143.here hx rfl (hb hby d2_103) rfl ?_
    exact k)
  obtain ⟨T154, h154, X154, e154, W154, st154⟩ := putF X143 hx hZ hown (host := "") (Or.inl (hw _ (List.mem_of_getElem? (i := 28) rfl))) Via.refl e143 F145 F146 (Or.inr ⟨(hw _ (List.mem_of_getElem? (i := 29) rfl)), rfl, hnm⟩) (hw _ (List.mem_of_getElem? (i := 2) rfl)) (ty := .double) (by decide) rfl rfl (g := (mkF m 105 #[.val (.ref a1), .val (.double u1), .second, .val (.double u2), .second, .val (.double u3), .second, .val (.double u4), .second, .val (.double u5), .second, .val (.double u6), .second] [(.double u4), (.ref a1)])) rfl rfl (hb hby d2_105)
  have F155 := F145.same W154
  have F156 := F146.wr W154
  have F157 := F147.other W154 (Or.inr (slot_ne (Or.inr (hw _ (List.mem_of_getElem? (i := 23) rfl))) (Or.inr (hw _ (List.mem_of_getElem? (i := 29) rfl))) (by decide) (t := .double) (t' := .double) (by decide) (by decide)))
  have F158 := F148.other W154 (Or.inr (slot_ne (Or.inr (hw _ (List.mem_of_getElem? (i := 25) rfl))) (Or.inr (hw _ (List.mem_of_getElem? (i := 29) rfl))) (by decide) (t := .double) (t' := .double) (by decide) (by decide)))
  have F159 := F144.other W154 (Or.inr (slot_ne (Or.inr (hw _ (List.mem_of_getElem? (i := 27) rfl))) (Or.inr (hw _ (List.mem_of_getElem? (i := 29) rfl))) (by decide) (t := .double) (t' := .double) (by decide) (by decide)))
  have Z160 : n0 ≤ h154.size := Nat.le_trans Z149 (Nat.le_of_eq W154.size.symm)
  have N161 := Fr.snoc X154 N150 ga
  have K162 := K151.wr W154 (Or.inl (List.mem_of_getElem? (i := 0) rfl))
  have k163 : ∀ t, Steps p.tables e below (T154.setTop (mkF m 108 #[.val (.ref a1), .val (.double u1), .second, .val (.double u2), .second, .val (.double u3), .second, .val (.double u4), .second, .val (.double u5), .second, .val (.double u6), .second] [])) t → Steps p.tables e below (s₁.setTop (entryFrame m #[(.ref a1), (.double u1), (.double u2), (.double u3), (.double u4), (.double u5), (.double u6)] 13)) t := fun t k => k153 t (st154 t k)
  obtain ⟨fs, hr, hrun, hended, hW, hsame⟩ := X154.leave (v := none) (fun _ => rfl)
  refine ⟨_, _, k163 _ (X154.returnOut hx Bd.returns (hb hby d2_108) hr), hrun, hended, _, _, rfl, ?_, ⟨_, rfl⟩, hW, hsame.mono (by decide) (by decide)⟩
  show Q_rm2 Z a1 u1 u2 u3 u4 u5 u6 h0 n0 _ T154.heap _
  rw [e154]
  exact ⟨rfl, N161, K162, F156, F157, F158, F159, F155⟩
theorem ef_1_RDDDD (m : MethodId) (x0 : Addr) (x1 : UInt64) (x2 : UInt64) (x3 : UInt64) (x4 : UInt64) : entryFrame m #[(.ref x0), (.double x1), (.double x2), (.double x3), (.double x4)] 9 = mkF m 0 #[.val (.ref x0), .val (.double x1), .second, .val (.double x2), .second, .val (.double x3), .second, .val (.double x4), .second] [] := by first | (simp [entryFrame, mkF, argsToLocals, Value.category]; done) | rfl
theorem d1_0 : decode prog_26_method_1_code 0 = .ok (.aload_n 0, 1) := by decide +kernel
theorem d1_1 : decode prog_26_method_1_code 1 = .ok (.dload_n 1, 1) := by decide +kernel
theorem d1_2 : decode prog_26_method_1_code 2 = .ok (.dload_n 3, 1) := by decide +kernel
theorem d1_3 : decode prog_26_method_1_code 3 = .ok (.dload_n 1, 1) := by decide +kernel
theorem d1_4 : decode prog_26_method_1_code 4 = .ok (.dload 5, 2) := by decide +kernel
theorem d1_6 : decode prog_26_method_1_code 6 = .ok (.dadd, 1) := by decide +kernel
theorem d1_7 : decode prog_26_method_1_code 7 = .ok (.dload_n 3, 1) := by decide +kernel
theorem d1_8 : decode prog_26_method_1_code 8 = .ok (.dload 7, 2) := by decide +kernel
theorem d1_10 : decode prog_26_method_1_code 10 = .ok (.dadd, 1) := by decide +kernel
theorem d1_11 : decode prog_26_method_1_code 11 = .ok (.dload 5, 2) := by decide +kernel
theorem d1_13 : decode prog_26_method_1_code 13 = .ok (.dload 7, 2) := by decide +kernel
theorem d1_15 : decode prog_26_method_1_code 15 = .ok (.invokespecial 1, 3) := by decide +kernel
theorem pd__28DDDDDD_29V : parseMethodDescriptor "(DDDDDD)V" = some ⟨[.double, .double, .double, .double, .double, .double], none⟩ := by decide +kernel
theorem d1_18 : decode prog_26_method_1_code 18 = .ok (.return_, 1) := by decide +kernel
def Q_rm1 (Z : State) (a1 : Addr) (v1 : UInt64) (v2 : UInt64) (v3 : UInt64) (v4 : UInt64) (h0 : Heap) (n0 : Nat) (v : Option Value) (h : Heap) (L : List Loc) : Prop := v = none ∧ Fr n0 L ∧ Keep h0 h [a1] ∧ Exa Z h a1 "com/example/hoja/hoja/model/Box" ∧ Fld Z h a1 "com/example/hoja/hoja/model/Box" "x" "D" (.double v1) ∧ Fld Z h a1 "com/example/hoja/hoja/model/Box" "y" "D" (.double v2) ∧ Fld Z h a1 "com/example/hoja/hoja/model/Box" "right" "D" (.double (FP.dadd v1 v3)) ∧ Fld Z h a1 "com/example/hoja/hoja/model/Box" "bottom" "D" (.double (FP.dadd v2 v4))
set_option maxRecDepth 65536 in
set_option maxHeartbeats 40000000 in
theorem rm1 (l : Launch) (Z : State) (a0 : Array Value) (hw : ∀ d ∈ tables_1, d.before a0 Z = true) (ws : List Jvm.Cond) (a1 : Addr) (v1 : UInt64) (v2 : UInt64) (v3 : UInt64) (v4 : UInt64) (h0 : Heap) (n0 : Nat) (Z0 : n0 ≤ h0.size) (F0 : Fld Z h0 a1 "com/example/hoja/hoja/model/Box" "x" "D" (.double (0 : UInt64))) (F1 : Fld Z h0 a1 "com/example/hoja/hoja/model/Box" "y" "D" (.double (0 : UInt64))) (F2 : Fld Z h0 a1 "com/example/hoja/hoja/model/Box" "right" "D" (.double (0 : UInt64))) (F3 : Fld Z h0 a1 "com/example/hoja/hoja/model/Box" "bottom" "D" (.double (0 : UInt64))) (E1 : Exa Z h0 a1 "com/example/hoja/hoja/model/Box") (ga : n0 ≤ a1) (c8 : ¬ (cmpValue (FP.dcmp v3 (0 : UInt64)) .l < (0 : Int32))) (c15 : ¬ (cmpValue (FP.dcmp v4 (0 : UInt64)) .l < (0 : Int32))) (fr : Jvm.FP.Core.DFin (FP.dadd v1 v3)) (fb : Jvm.FP.Core.DFin (FP.dadd v2 v4)) (f3 : Jvm.FP.Core.DFin v3) (f4 : Jvm.FP.Core.DFin v4) :
    MetFree l (⟨"com/example/hoja/hoja/model/Box", "<init>", "(DDDD)V"⟩ : MethodName) (head1 (Jvm.Cond.code (⟨"com/example/hoja/hoja/model/Box", "<init>", "(DDDD)V"⟩ : MethodName) prog_26_method_1_code 9 none :: ws) ({ frames := 3, cells := 0, slots := 0, locals := 50 } : Room)) (fun a U => a = #[(.ref a1), (.double v1), (.double v2), (.double v3), (.double v4)] ∧ Z.Warmed39 U.vm ∧ U.heap = h0) (fun _ _ _ _ _ => True) (fun _ U o U' => ∃ v L, o = .returned v ∧ Q_rm1 Z a1 v1 v2 v3 v4 h0 n0 v U'.heap L ∧ FrameEnd U o U' L ({ frames := 3, cells := 0, slots := 0, locals := 50 } : Room).cells ({ frames := 3, cells := 0, slots := 0, locals := 50 } : Room).slots) := by
  refine MetFree.of_bodySF (plainFor_of_name pn_com_2fexample_2fhoja_2fhoja_2fmodel_2fBox) hisR ?_
  intro p e s m args below meth c s₁ Bd hml0 hP hK
  obtain ⟨rfl, hZ, hh⟩ := hP
  have hx := Bd.exec
  have hby := Bd.bytes
  have hml : c.maxLocals = 9 := hml0
  have hown : s.vm.findClass "com/example/hoja/hoja/model/Box" = some m.cls := findClass_of_methodNamed Bd.named
  have hnm := (name_of_methodNamed Bd.named Bd.method).1
  have X0 : Stand p l e ({ frames := 3, cells := 0, slots := 0, locals := 50 } : Room) s m #[(.ref a1), (.double v1), (.double v2), (.double v3), (.double v4)] below meth c s₁ [] 0 0 := Stand.of_body Bd
  have e0 : s₁.heap = h0 := by rw [← hh, Bd.state]; rfl
  have N0 := Fr.nil n0
  have k0 : ∀ t, Steps p.tables e below (s₁.setTop (mkF m 0 #[.val (.ref a1), .val (.double v1), .second, .val (.double v2), .second, .val (.double v3), .second, .val (.double v4), .second] [])) t → Steps p.tables e below (s₁.setTop (entryFrame m #[(.ref a1), (.double v1), (.double v2), (.double v3), (.double v4)] 9)) t := fun t k => castTop (ef_1_RDDDD m a1 v1 v2 v3 v4) k
  have K0 := Keep.refl h0 [a1]
  have k101 : ∀ t, Steps p.tables e below (s₁.setTop (mkF m 15 #[.val (.ref a1), .val (.double v1), .second, .val (.double v2), .second, .val (.double v3), .second, .val (.double v4), .second] [(.double v4), (.double v3), (.double (FP.dadd v2 v4)), (.double (FP.dadd v1 v3)), (.double v2), (.double v1), (.ref a1)])) t → Steps p.tables e below (s₁.setTop (entryFrame m #[(.ref a1), (.double v1), (.double v2), (.double v3), (.double v4)] 9)) t := fun t k => k0 t (by
    show Steps p.tables e below (s₁.setTop (mkF m 0 #[.val (.ref a1), .val (.double v1), .second, .val (.double v2), .second, .val (.double v3), .second, .val (.double v4), .second] [])) _
    refine XS.aloadN X0.here hx rfl (hb hby d1_0) rfl rfl ?_
    show Steps p.tables e below (s₁.setTop (mkF m 1 #[.val (.ref a1), .val (.double v1), .second, .val (.double v2), .second, .val (.double v3), .second, .val (.double v4), .second] [(.ref a1)])) _
    refine XS.dloadN X0.here hx rfl (hb hby d1_1) rfl ?_
    show Steps p.tables e below (s₁.setTop (mkF m 2 #[.val (.ref a1), .val (.double v1), .second, .val (.double v2), .second, .val (.double v3), .second, .val (.double v4), .second] [(.double v1), (.ref a1)])) _
    refine XS.dloadN X0.here hx rfl (hb hby d1_2) rfl ?_
    show Steps p.tables e below (s₁.setTop (mkF m 3 #[.val (.ref a1), .val (.double v1), .second, .val (.double v2), .second, .val (.double v3), .second, .val (.double v4), .second] [(.double v2), (.double v1), (.ref a1)])) _
    refine XS.dloadN X0.here hx rfl (hb hby d1_3) rfl ?_
    show Steps p.tables e below (s₁.setTop (mkF m 4 #[.val (.ref a1), .val (.double v1), .second, .val (.double v2), .second, .val (.double v3), .second, .val (.double v4), .second] [(.double v1), (.double v2), (.double v1), (.ref a1)])) _
    refine XS.dload X0.here hx rfl (hb hby d1_4) rfl ?_
    show Steps p.tables e below (s₁.setTop (mkF m 6 #[.val (.ref a1), .val (.double v1), .second, .val (.double v2), .second, .val (.double v3), .second, .val (.double v4), .second] [(.double v3), (.double v1), (.double v2), (.double v1), (.ref a1)])) _
    refine XS.daddS X0.here hx rfl (hb hby d1_6) rfl ((Jvm.Free.Fl.fin64_core.mpr fr).noNaN) rfl ?_
    show Steps p.tables e below (s₁.setTop (mkF m 7 #[.val (.ref a1), .val (.double v1), .second, .val (.double v2), .second, .val (.double v3), .second, .val (.double v4), .second] [(.double (FP.dadd v1 v3)), (.double v2), (.double v1), (.ref a1)])) _
    refine XS.dloadN X0.here hx rfl (hb hby d1_7) rfl ?_
    show Steps p.tables e below (s₁.setTop (mkF m 8 #[.val (.ref a1), .val (.double v1), .second, .val (.double v2), .second, .val (.double v3), .second, .val (.double v4), .second] [(.double v2), (.double (FP.dadd v1 v3)), (.double v2), (.double v1), (.ref a1)])) _
    refine XS.dload X0.here hx rfl (hb hby d1_8) rfl ?_
    show Steps p.tables e below (s₁.setTop (mkF m 10 #[.val (.ref a1), .val (.double v1), .second, .val (.double v2), .second, .val (.double v3), .second, .val (.double v4), .second] [(.double v4), (.double v2), (.double (FP.dadd v1 v3)), (.double v2), (.double v1), (.ref a1)])) _
    refine XS.daddS X0.here hx rfl (hb hby d1_10) rfl ((Jvm.Free.Fl.fin64_core.mpr fb).noNaN) rfl ?_
    show Steps p.tables e below (s₁.setTop (mkF m 11 #[.val (.ref a1), .val (.double v1), .second, .val (.double v2), .second, .val (.double v3), .second, .val (.double v4), .second] [(.double (FP.dadd v2 v4)), (.double (FP.dadd v1 v3)), (.double v2), (.double v1), (.ref a1)])) _
    refine XS.dload X0.here hx rfl (hb hby d1_11) rfl ?_
    show Steps p.tables e below (s₁.setTop (mkF m 13 #[.val (.ref a1), .val (.double v1), .second, .val (.double v2), .second, .val (.double v3), .second, .val (.double v4), .second] [(.double v3), (.double (FP.dadd v2 v4)), (.double (FP.dadd v1 v3)), (.double v2), (.double v1), (.ref a1)])) _
    refine XS.dload X0.here hx rfl (hb hby d1_13) rfl ?_
    exact k)
  obtain ⟨_, _, ⟨T102, L102, k102, n102⟩, -, X102, ⟨Lc102, hQ102, l102, y102, z102⟩, st102⟩ := X0.specialBack hx (y := (⟨"com/example/hoja/hoja/model/Box", "<init>", "(DDDDDD)V"⟩ : MethodName)) rfl hown (mvT hZ (hw _ (List.mem_of_getElem? (i := 7) rfl))) (mvT hZ (hw _ (List.mem_of_getElem? (i := 8) rfl))) (mvT hZ (hw _ (List.mem_of_getElem? (i := 9) rfl))) (by decide) (backOf (W := 0) (rm2 l Z a0 hw [] a1 v1 v2 (FP.dadd v1 v3) (FP.dadd v2 v4) v3 v4 h0 n0 Z0 F0 F1 F2 F3 E1 ga c8 c15 fr fb f3 f4) hZ (hw _ (List.mem_of_getElem? (i := 9) rfl)) (hw _ (List.mem_of_getElem? (i := 3) rfl)) (by decide) (by decide)) (g := (mkF m 15 #[.val (.ref a1), .val (.double v1), .second, .val (.double v2), .second, .val (.double v3), .second, .val (.double v4), .second] [(.double v4), (.double v3), (.double (FP.dadd v2 v4)), (.double (FP.dadd v1 v3)), (.double v2), (.double v1), (.ref a1)])) rfl (by rw [hml]; rfl) (Steps.refl _) (a := a1) (argsL := [(.double v1), (.double v2), (.double (FP.dadd v1 v3)), (.double (FP.dadd v2 v4)), (.double v3), (.double v4)]) (rest := []) (lenOf pd__28DDDDDD_29V rfl) rfl (by show 2 * 0 + _ ≤ _; exact Nat.le_of_eq rfl) (hb hby d1_15) (fun _ _ => ⟨rfl, e0, (by decide : 0 + 0 ≤ _), (by decide : 0 + 0 ≤ _)⟩)
  dsimp only [Pt.U, Pt.locs, Pt.cells, Pt.slots] at X102 l102 y102 z102 st102 hQ102
  subst l102 y102 z102
  obtain ⟨h102, e102⟩ : ∃ h', T102.heap = h' := ⟨_, rfl⟩
  rw [e102] at hQ102
  obtain ⟨rfl, N102q, K102, G102e, G1020, G1021, G1022, G1023⟩ := hQ102
  have N103 := Fr.app N0 N102q
  have k104 : ∀ t, Steps p.tables e below (T102.setTop (mkF m 18 #[.val (.ref a1), .val (.double v1), .second, .val (.double v2), .second, .val (.double v3), .second, .val (.double v4), .second] [])) t → Steps p.tables e below (s₁.setTop (entryFrame m #[(.ref a1), (.double v1), (.double v2), (.double v3), (.double v4)] 9)) t := fun t k => k101 t (st102.trans k)
  have F105 := E1.keep K102
  have Z106 : n0 ≤ h102.size := Nat.le_trans Z0 K102.1
  have K107 := Keep.trans K0 K102 (allS (Or.inl (List.mem_of_getElem? (i := 0) rfl)) all0)
  obtain ⟨fs, hr, hrun, hended, hW, hsame⟩ := X102.leave (v := none) (fun _ => rfl)
  refine ⟨_, _, k104 _ (X102.returnOut hx Bd.returns (hb hby d1_18) hr), hrun, hended, _, _, rfl, ?_, ⟨_, rfl⟩, hW, hsame.mono (by decide) (by decide)⟩
  show Q_rm1 Z a1 v1 v2 v3 v4 h0 n0 _ T102.heap _
  rw [e102]
  exact ⟨rfl, N103, K107, G102e, G1020, G1021, G1022, G1023⟩
theorem ef_7_RR (m : MethodId) (x0 : Addr) (x1 : Addr) : entryFrame m #[(.ref x0), (.ref x1)] 3 = mkF m 0 #[.val (.ref x0), .val (.ref x1), .unset] [] := by first | (simp [entryFrame, mkF, argsToLocals, Value.category]; done) | rfl
theorem d7_0 : decode prog_26_method_16_code 0 = .ok (.aload_n 1, 1) := by decide +kernel
theorem d7_1 : decode prog_26_method_16_code 1 = .ok (.instanceof 2, 3) := by decide +kernel
theorem d7_4 : decode prog_26_method_16_code 4 = .ok (.ifCond .ne 5, 3) := by decide +kernel
theorem d7_9 : decode prog_26_method_16_code 9 = .ok (.aload_n 1, 1) := by decide +kernel
theorem d7_10 : decode prog_26_method_16_code 10 = .ok (.checkcast 2, 3) := by decide +kernel
theorem d7_13 : decode prog_26_method_16_code 13 = .ok (.astore_n 2, 1) := by decide +kernel
theorem d7_14 : decode prog_26_method_16_code 14 = .ok (.aload_n 0, 1) := by decide +kernel
theorem d7_15 : decode prog_26_method_16_code 15 = .ok (.getfield 30, 3) := by decide +kernel
theorem d7_18 : decode prog_26_method_16_code 18 = .ok (.aload_n 2, 1) := by decide +kernel
theorem d7_19 : decode prog_26_method_16_code 19 = .ok (.getfield 30, 3) := by decide +kernel
theorem d7_22 : decode prog_26_method_16_code 22 = .ok (.dcmp .l, 1) := by decide +kernel
theorem d7_23 : decode prog_26_method_16_code 23 = .ok (.ifCond .ne 43, 3) := by decide +kernel
theorem d7_26 : decode prog_26_method_16_code 26 = .ok (.aload_n 0, 1) := by decide +kernel
theorem d7_27 : decode prog_26_method_16_code 27 = .ok (.getfield 34, 3) := by decide +kernel
theorem d7_30 : decode prog_26_method_16_code 30 = .ok (.aload_n 2, 1) := by decide +kernel
theorem d7_31 : decode prog_26_method_16_code 31 = .ok (.getfield 34, 3) := by decide +kernel
theorem d7_34 : decode prog_26_method_16_code 34 = .ok (.dcmp .l, 1) := by decide +kernel
theorem d7_35 : decode prog_26_method_16_code 35 = .ok (.ifCond .ne 31, 3) := by decide +kernel
theorem d7_38 : decode prog_26_method_16_code 38 = .ok (.aload_n 0, 1) := by decide +kernel
theorem d7_39 : decode prog_26_method_16_code 39 = .ok (.getfield 37, 3) := by decide +kernel
theorem d7_42 : decode prog_26_method_16_code 42 = .ok (.aload_n 2, 1) := by decide +kernel
theorem d7_43 : decode prog_26_method_16_code 43 = .ok (.getfield 37, 3) := by decide +kernel
theorem d7_46 : decode prog_26_method_16_code 46 = .ok (.dcmp .l, 1) := by decide +kernel
theorem d7_47 : decode prog_26_method_16_code 47 = .ok (.ifCond .ne 19, 3) := by decide +kernel
theorem d7_50 : decode prog_26_method_16_code 50 = .ok (.aload_n 0, 1) := by decide +kernel
theorem d7_51 : decode prog_26_method_16_code 51 = .ok (.getfield 40, 3) := by decide +kernel
theorem d7_54 : decode prog_26_method_16_code 54 = .ok (.aload_n 2, 1) := by decide +kernel
theorem d7_55 : decode prog_26_method_16_code 55 = .ok (.getfield 40, 3) := by decide +kernel
theorem d7_58 : decode prog_26_method_16_code 58 = .ok (.dcmp .l, 1) := by decide +kernel
theorem d7_59 : decode prog_26_method_16_code 59 = .ok (.ifCond .ne 7, 3) := by decide +kernel
theorem d7_62 : decode prog_26_method_16_code 62 = .ok (.iconst 1, 1) := by decide +kernel
theorem d7_63 : decode prog_26_method_16_code 63 = .ok (.goto 4, 3) := by decide +kernel
theorem d7_67 : decode prog_26_method_16_code 67 = .ok (.ireturn, 1) := by decide +kernel
def Q_eq4 (Z : State) (a1 : Addr) (a2 : Addr) (x0 : UInt64) (x1 : UInt64) (x2 : UInt64) (x3 : UInt64) (y0 : UInt64) (y1 : UInt64) (y2 : UInt64) (y3 : UInt64) (h0 : Heap) (n0 : Nat) (v : Option Value) (h : Heap) (L : List Loc) : Prop := v = some (.int 1) ∧ Fr n0 L ∧ h = h0
set_option maxRecDepth 65536 in
set_option maxHeartbeats 40000000 in
theorem eq4 (l : Launch) (Z : State) (a0 : Array Value) (hw : ∀ d ∈ tables_1, d.before a0 Z = true) (ws : List Jvm.Cond) (a1 : Addr) (a2 : Addr) (x0 : UInt64) (x1 : UInt64) (x2 : UInt64) (x3 : UInt64) (y0 : UInt64) (y1 : UInt64) (y2 : UInt64) (y3 : UInt64) (h0 : Heap) (n0 : Nat) (Z0 : n0 ≤ h0.size) (F0 : Fld Z h0 a1 "com/example/hoja/hoja/model/Box" "x" "D" (.double x0)) (F1 : Fld Z h0 a1 "com/example/hoja/hoja/model/Box" "y" "D" (.double x1)) (F2 : Fld Z h0 a1 "com/example/hoja/hoja/model/Box" "right" "D" (.double x2)) (F3 : Fld Z h0 a1 "com/example/hoja/hoja/model/Box" "bottom" "D" (.double x3)) (H0 : Fld Z h0 a2 "com/example/hoja/hoja/model/Box" "x" "D" (.double y0)) (H1 : Fld Z h0 a2 "com/example/hoja/hoja/model/Box" "y" "D" (.double y1)) (H2 : Fld Z h0 a2 "com/example/hoja/hoja/model/Box" "right" "D" (.double y2)) (H3 : Fld Z h0 a2 "com/example/hoja/hoja/model/Box" "bottom" "D" (.double y3)) (E2 : Exa Z h0 a2 "com/example/hoja/hoja/model/Box") (c0 : cmpValue (FP.dcmp x0 y0) .l = (0 : Int32)) (c1 : cmpValue (FP.dcmp x1 y1) .l = (0 : Int32)) (c2 : cmpValue (FP.dcmp x2 y2) .l = (0 : Int32)) (c3 : cmpValue (FP.dcmp x3 y3) .l = (0 : Int32)) :
    MetFree l (⟨"com/example/hoja/hoja/model/Box", "equals", "(Ljava/lang/Object;)Z"⟩ : MethodName) (head1 (Jvm.Cond.code (⟨"com/example/hoja/hoja/model/Box", "equals", "(Ljava/lang/Object;)Z"⟩ : MethodName) prog_26_method_16_code 3 (some .boolean) :: ws) ({ frames := 0, cells := 0, slots := 0, locals := 0 } : Room)) (fun a U => a = #[(.ref a1), (.ref a2)] ∧ Z.Warmed39 U.vm ∧ U.heap = h0) (fun _ _ _ _ _ => True) (fun _ U o U' => ∃ v L, o = .returned v ∧ Q_eq4 Z a1 a2 x0 x1 x2 x3 y0 y1 y2 y3 h0 n0 v U'.heap L ∧ FrameEnd U o U' L ({ frames := 0, cells := 0, slots := 0, locals := 0 } : Room).cells ({ frames := 0, cells := 0, slots := 0, locals := 0 } : Room).slots) := by
  refine MetFree.of_bodySF (plainFor_of_name pn_com_2fexample_2fhoja_2fhoja_2fmodel_2fBox) hisR ?_
  intro p e s m args below meth c s₁ Bd hml0 hP hK
  obtain ⟨rfl, hZ, hh⟩ := hP
  have hx := Bd.exec
  have hby := Bd.bytes
  have hml : c.maxLocals = 3 := hml0
  have hown : s.vm.findClass "com/example/hoja/hoja/model/Box" = some m.cls := findClass_of_methodNamed Bd.named
  have hnm := (name_of_methodNamed Bd.named Bd.method).1
  have X0 : Stand p l e ({ frames := 0, cells := 0, slots := 0, locals := 0 } : Room) s m #[(.ref a1), (.ref a2)] below meth c s₁ [] 0 0 := Stand.of_body Bd
  have e0 : s₁.heap = h0 := by rw [← hh, Bd.state]; rfl
  have N0 := Fr.nil n0
  have k0 : ∀ t, Steps p.tables e below (s₁.setTop (mkF m 0 #[.val (.ref a1), .val (.ref a2), .unset] [])) t → Steps p.tables e below (s₁.setTop (entryFrame m #[(.ref a1), (.ref a2)] 3)) t := fun t k => castTop (ef_7_RR m a1 a2) k
  have k101 : ∀ t, Steps p.tables e below (s₁.setTop (mkF m 1 #[.val (.ref a1), .val (.ref a2), .unset] [(.ref a2)])) t → Steps p.tables e below (s₁.setTop (entryFrame m #[(.ref a1), (.ref a2)] 3)) t := fun t k => k0 t (by
    show Steps p.tables e below (s₁.setTop (mkF m 0 #[.val (.ref a1), .val (.ref a2), .unset] [])) _
    refine XS.aloadN X0.here hx rfl (hb hby d7_0) rfl rfl ?_
    exact k)
  obtain ⟨T102, X102, e102, st102⟩ := instY X0 hx hZ hown (hw _ (List.mem_of_getElem? (i := 39) rfl)) e0 (Ins.self E2) (g := (mkF m 1 #[.val (.ref a1), .val (.ref a2), .unset] [(.ref a2)])) rfl rfl (hb hby d7_1)
  have k103 : ∀ t, Steps p.tables e below (T102.setTop (mkF m 4 #[.val (.ref a1), .val (.ref a2), .unset] [(.int (1 : Int32))])) t → Steps p.tables e below (s₁.setTop (entryFrame m #[(.ref a1), (.ref a2)] 3)) t := fun t k => k101 t (st102 t k)
  have k104 : ∀ t, Steps p.tables e below (T102.setTop (mkF m 10 #[.val (.ref a1), .val (.ref a2), .unset] [(.ref a2)])) t → Steps p.tables e below (s₁.setTop (entryFrame m #[(.ref a1), (.ref a2)] 3)) t := fun t k => k103 t (by
    show Steps p.tables e below (T102.setTop (mkF m 4 #[.val (.ref a1), .val (.ref a2), .unset] [(.int (1 : Int32))])) _
    refine XS.ifYes X102.here hx rfl (pc0 := 4) (pc' := 9) rfl (hb hby d7_4) rfl ((if0 _ _).trans (feq (by decide)).2) (by decide) (by decide) ?_
    show Steps p.tables e below (T102.setTop (mkF m 9 #[.val (.ref a1), .val (.ref a2), .unset] [])) _
    refine XS.aloadN X102.here hx rfl (hb hby d7_9) rfl rfl ?_
    exact k)
  obtain ⟨T105, X105, e105, st105⟩ := castY X102 hx hZ hown (hw _ (List.mem_of_getElem? (i := 39) rfl)) e102 (Ins.self E2) (g := (mkF m 10 #[.val (.ref a1), .val (.ref a2), .unset] [(.ref a2)])) rfl rfl (hb hby d7_10)
  have k106 : ∀ t, Steps p.tables e below (T105.setTop (mkF m 13 #[.val (.ref a1), .val (.ref a2), .unset] [(.ref a2)])) t → Steps p.tables e below (s₁.setTop (entryFrame m #[(.ref a1), (.ref a2)] 3)) t := fun t k => k104 t (st105 t k)
  have k107 : ∀ t, Steps p.tables e below (T105.setTop (mkF m 15 #[.val (.ref a1), .val (.ref a2), .val (.ref a2)] [(.ref a1)])) t → Steps p.tables e below (s₁.setTop (entryFrame m #[(.ref a1), (.ref a2)] 3)) t := fun t k => k106 t (by
    show Steps p.tables e below (T105.setTop (mkF m 13 #[.val (.ref a1), .val (.ref a2), .unset] [(.ref a2)])) _
    refine XS.astoreN X105.here hx rfl (hb hby d7_13) rfl rfl (l' := #[.val (.ref a1), .val (.ref a2), .val (.ref a2)]) rfl ?_
    show Steps p.tables e below (T105.setTop (mkF m 14 #[.val (.ref a1), .val (.ref a2), .val (.ref a2)] [])) _
    refine XS.aloadN X105.here hx rfl (hb hby d7_14) rfl rfl ?_
    exact k)
  obtain ⟨T108, X108, e108, st108⟩ := getF X105 hx hZ hown (host := "") (Or.inl (hw _ (List.mem_of_getElem? (i := 22) rfl))) Via.refl e105 F0 (g := (mkF m 15 #[.val (.ref a1), .val (.ref a2), .val (.ref a2)] [(.ref a1)])) rfl rfl (hb hby d7_15)
  have k109 : ∀ t, Steps p.tables e below (T108.setTop (mkF m 18 #[.val (.ref a1), .val (.ref a2), .val (.ref a2)] [(.double x0)])) t → Steps p.tables e below (s₁.setTop (entryFrame m #[(.ref a1), (.ref a2)] 3)) t := fun t k => k107 t (st108 t k)
  have k110 : ∀ t, Steps p.tables e below (T108.setTop (mkF m 19 #[.val (.ref a1), .val (.ref a2), .val (.ref a2)] [(.ref a2), (.double x0)])) t → Steps p.tables e below (s₁.setTop (entryFrame m #[(.ref a1), (.ref a2)] 3)) t := fun t k => k109 t (by
    show Steps p.tables e below (T108.setTop (mkF m 18 #[.val (.ref a1), .val (.ref a2), .val (.ref a2)] [(.double x0)])) _
    refine XS.aloadN X108.here hx rfl (hb hby d7_18) rfl rfl ?_
    exact k)
  obtain ⟨T111, X111, e111, st111⟩ := getF X108 hx hZ hown (host := "") (Or.inl (hw _ (List.mem_of_getElem? (i := 22) rfl))) Via.refl e108 H0 (g := (mkF m 19 #[.val (.ref a1), .val (.ref a2), .val (.ref a2)] [(.ref a2), (.double x0)])) rfl rfl (hb hby d7_19)
  have k112 : ∀ t, Steps p.tables e below (T111.setTop (mkF m 22 #[.val (.ref a1), .val (.ref a2), .val (.ref a2)] [(.double y0), (.double x0)])) t → Steps p.tables e below (s₁.setTop (entryFrame m #[(.ref a1), (.ref a2)] 3)) t := fun t k => k110 t (st111 t k)
  have k113 : ∀ t, Steps p.tables e below (T111.setTop (mkF m 27 #[.val (.ref a1), .val (.ref a2), .val (.ref a2)] [(.ref a1)])) t → Steps p.tables e below (s₁.setTop (entryFrame m #[(.ref a1), (.ref a2)] 3)) t := fun t k => k112 t (by
    show Steps p.tables e below (T111.setTop (mkF m 22 #[.val (.ref a1), .val (.ref a2), .val (.ref a2)] [(.double y0), (.double x0)])) _
    refine XS.dcmpS X111.here hx rfl (hb hby d7_22) rfl rfl ?_
    show Steps p.tables e below (T111.setTop (mkF m 23 #[.val (.ref a1), .val (.ref a2), .val (.ref a2)] [(.int (cmpValue (FP.dcmp x0 y0) .l))])) _
    refine XS.ifNo X111.here hx rfl (hb hby d7_23) rfl ((if0 _ _).trans (teq c0).2) ?_
    show Steps p.tables e below (T111.setTop (mkF m 26 #[.val (.ref a1), .val (.ref a2), .val (.ref a2)] [])) _
    refine XS.aloadN X111.here hx rfl (hb hby d7_26) rfl rfl ?_
    exact k)
  obtain ⟨T114, X114, e114, st114⟩ := getF X111 hx hZ hown (host := "") (Or.inl (hw _ (List.mem_of_getElem? (i := 24) rfl))) Via.refl e111 F1 (g := (mkF m 27 #[.val (.ref a1), .val (.ref a2), .val (.ref a2)] [(.ref a1)])) rfl rfl (hb hby d7_27)
  have k115 : ∀ t, Steps p.tables e below (T114.setTop (mkF m 30 #[.val (.ref a1), .val (.ref a2), .val (.ref a2)] [(.double x1)])) t → Steps p.tables e below (s₁.setTop (entryFrame m #[(.ref a1), (.ref a2)] 3)) t := fun t k => k113 t (st114 t k)
  have k116 : ∀ t, Steps p.tables e below (T114.setTop (mkF m 31 #[.val (.ref a1), .val (.ref a2), .val (.ref a2)] [(.ref a2), (.double x1)])) t → Steps p.tables e below (s₁.setTop (entryFrame m #[(.ref a1), (.ref a2)] 3)) t := fun t k => k115 t (by
    show Steps p.tables e below (T114.setTop (mkF m 30 #[.val (.ref a1), .val (.ref a2), .val (.ref a2)] [(.double x1)])) _
    refine XS.aloadN X114.here hx rfl (hb hby d7_30) rfl rfl ?_
    exact k)
  obtain ⟨T117, X117, e117, st117⟩ := getF X114 hx hZ hown (host := "") (Or.inl (hw _ (List.mem_of_getElem? (i := 24) rfl))) Via.refl e114 H1 (g := (mkF m 31 #[.val (.ref a1), .val (.ref a2), .val (.ref a2)] [(.ref a2), (.double x1)])) rfl rfl (hb hby d7_31)
  have k118 : ∀ t, Steps p.tables e below (T117.setTop (mkF m 34 #[.val (.ref a1), .val (.ref a2), .val (.ref a2)] [(.double y1), (.double x1)])) t → Steps p.tables e below (s₁.setTop (entryFrame m #[(.ref a1), (.ref a2)] 3)) t := fun t k => k116 t (st117 t k)
  have k119 : ∀ t, Steps p.tables e below (T117.setTop (mkF m 39 #[.val (.ref a1), .val (.ref a2), .val (.ref a2)] [(.ref a1)])) t → Steps p.tables e below (s₁.setTop (entryFrame m #[(.ref a1), (.ref a2)] 3)) t := fun t k => k118 t (by
    show Steps p.tables e below (T117.setTop (mkF m 34 #[.val (.ref a1), .val (.ref a2), .val (.ref a2)] [(.double y1), (.double x1)])) _
    refine XS.dcmpS X117.here hx rfl (hb hby d7_34) rfl rfl ?_
    show Steps p.tables e below (T117.setTop (mkF m 35 #[.val (.ref a1), .val (.ref a2), .val (.ref a2)] [(.int (cmpValue (FP.dcmp x1 y1) .l))])) _
    refine XS.ifNo X117.here hx rfl (hb hby d7_35) rfl ((if0 _ _).trans (teq c1).2) ?_
    show Steps p.tables e below (T117.setTop (mkF m 38 #[.val (.ref a1), .val (.ref a2), .val (.ref a2)] [])) _
    refine XS.aloadN X117.here hx rfl (hb hby d7_38) rfl rfl ?_
    exact k)
  obtain ⟨T120, X120, e120, st120⟩ := getF X117 hx hZ hown (host := "") (Or.inl (hw _ (List.mem_of_getElem? (i := 26) rfl))) Via.refl e117 F2 (g := (mkF m 39 #[.val (.ref a1), .val (.ref a2), .val (.ref a2)] [(.ref a1)])) rfl rfl (hb hby d7_39)
  have k121 : ∀ t, Steps p.tables e below (T120.setTop (mkF m 42 #[.val (.ref a1), .val (.ref a2), .val (.ref a2)] [(.double x2)])) t → Steps p.tables e below (s₁.setTop (entryFrame m #[(.ref a1), (.ref a2)] 3)) t := fun t k => k119 t (st120 t k)
  have k122 : ∀ t, Steps p.tables e below (T120.setTop (mkF m 43 #[.val (.ref a1), .val (.ref a2), .val (.ref a2)] [(.ref a2), (.double x2)])) t → Steps p.tables e below (s₁.setTop (entryFrame m #[(.ref a1), (.ref a2)] 3)) t := fun t k => k121 t (by
    show Steps p.tables e below (T120.setTop (mkF m 42 #[.val (.ref a1), .val (.ref a2), .val (.ref a2)] [(.double x2)])) _
    refine XS.aloadN X120.here hx rfl (hb hby d7_42) rfl rfl ?_
    exact k)
  obtain ⟨T123, X123, e123, st123⟩ := getF X120 hx hZ hown (host := "") (Or.inl (hw _ (List.mem_of_getElem? (i := 26) rfl))) Via.refl e120 H2 (g := (mkF m 43 #[.val (.ref a1), .val (.ref a2), .val (.ref a2)] [(.ref a2), (.double x2)])) rfl rfl (hb hby d7_43)
  have k124 : ∀ t, Steps p.tables e below (T123.setTop (mkF m 46 #[.val (.ref a1), .val (.ref a2), .val (.ref a2)] [(.double y2), (.double x2)])) t → Steps p.tables e below (s₁.setTop (entryFrame m #[(.ref a1), (.ref a2)] 3)) t := fun t k => k122 t (st123 t k)
  have k125 : ∀ t, Steps p.tables e below (T123.setTop (mkF m 51 #[.val (.ref a1), .val (.ref a2), .val (.ref a2)] [(.ref a1)])) t → Steps p.tables e below (s₁.setTop (entryFrame m #[(.ref a1), (.ref a2)] 3)) t := fun t k => k124 t (by
    show Steps p.tables e below (T123.setTop (mkF m 46 #[.val (.ref a1), .val (.ref a2), .val (.ref a2)] [(.double y2), (.double x2)])) _
    refine XS.dcmpS X123.here hx rfl (hb hby d7_46) rfl rfl ?_
    show Steps p.tables e below (T123.setTop (mkF m 47 #[.val (.ref a1), .val (.ref a2), .val (.ref a2)] [(.int (cmpValue (FP.dcmp x2 y2) .l))])) _
    refine XS.ifNo X123.here hx rfl (hb hby d7_47) rfl ((if0 _ _).trans (teq c2).2) ?_
    show Steps p.tables e below (T123.setTop (mkF m 50 #[.val (.ref a1), .val (.ref a2), .val (.ref a2)] [])) _
    refine XS.aloadN X123.here hx rfl (hb hby d7_50) rfl rfl ?_
    exact k)
  obtain ⟨T126, X126, e126, st126⟩ := getF X123 hx hZ hown (host := "") (Or.inl (hw _ (List.mem_of_getElem? (i := 28) rfl))) Via.refl e123 F3 (g := (mkF m 51 #[.val (.ref a1), .val (.ref a2), .val (.ref a2)] [(.ref a1)])) rfl rfl (hb hby d7_51)
  have k127 : ∀ t, Steps p.tables e below (T126.setTop (mkF m 54 #[.val (.ref a1), .val (.ref a2), .val (.ref a2)] [(.double x3)])) t → Steps p.tables e below (s₁.setTop (entryFrame m #[(.ref a1), (.ref a2)] 3)) t := fun t k => k125 t (st126 t k)
  have k128 : ∀ t, Steps p.tables e below (T126.setTop (mkF m 55 #[.val (.ref a1), .val (.ref a2), .val (.ref a2)] [(.ref a2), (.double x3)])) t → Steps p.tables e below (s₁.setTop (entryFrame m #[(.ref a1), (.ref a2)] 3)) t := fun t k => k127 t (by
    show Steps p.tables e below (T126.setTop (mkF m 54 #[.val (.ref a1), .val (.ref a2), .val (.ref a2)] [(.double x3)])) _
    refine XS.aloadN X126.here hx rfl (hb hby d7_54) rfl rfl ?_
    exact k)
  obtain ⟨T129, X129, e129, st129⟩ := getF X126 hx hZ hown (host := "") (Or.inl (hw _ (List.mem_of_getElem? (i := 28) rfl))) Via.refl e126 H3 (g := (mkF m 55 #[.val (.ref a1), .val (.ref a2), .val (.ref a2)] [(.ref a2), (.double x3)])) rfl rfl (hb hby d7_55)
  have k130 : ∀ t, Steps p.tables e below (T129.setTop (mkF m 58 #[.val (.ref a1), .val (.ref a2), .val (.ref a2)] [(.double y3), (.double x3)])) t → Steps p.tables e below (s₁.setTop (entryFrame m #[(.ref a1), (.ref a2)] 3)) t := fun t k => k128 t (st129 t k)
  have k131 : ∀ t, Steps p.tables e below (T129.setTop (mkF m 67 #[.val (.ref a1), .val (.ref a2), .val (.ref a2)] [(.int (1 : Int32))])) t → Steps p.tables e below (s₁.setTop (entryFrame m #[(.ref a1), (.ref a2)] 3)) t := fun t k => k130 t (by
    show Steps p.tables e below (T129.setTop (mkF m 58 #[.val (.ref a1), .val (.ref a2), .val (.ref a2)] [(.double y3), (.double x3)])) _
    refine XS.dcmpS X129.here hx rfl (hb hby d7_58) rfl rfl ?_
    show Steps p.tables e below (T129.setTop (mkF m 59 #[.val (.ref a1), .val (.ref a2), .val (.ref a2)] [(.int (cmpValue (FP.dcmp x3 y3) .l))])) _
    refine XS.ifNo X129.here hx rfl (hb hby d7_59) rfl ((if0 _ _).trans (teq c3).2) ?_
    show Steps p.tables e below (T129.setTop (mkF m 62 #[.val (.ref a1), .val (.ref a2), .val (.ref a2)] [])) _
    refine XS.iconst X129.here hx rfl (hb hby d7_62) ?_
    show Steps p.tables e below (T129.setTop (mkF m 63 #[.val (.ref a1), .val (.ref a2), .val (.ref a2)] [(.int (1 : Int32))])) _
    refine XS.goto X129.here hx rfl (pc0 := 63) (pc' := 67) rfl (hb hby d7_63) (by decide) (by decide) ?_
    exact k)
  obtain ⟨fs, hr, hrun, hended, hW, hsame⟩ := X129.leave (v := some (.int (1 : Int32))) (fun h => by rw [Bd.returns] at h; cases h)
  refine ⟨_, _, k131 _ (retOut X129 hx (t := .boolean) Bd.returns rfl (Or.inl ⟨rfl, Or.inr (Or.inl rfl), _, rfl⟩) (hb hby d7_67) hr), hrun, hended, _, _, rfl, ?_, ⟨_, rfl⟩, hW, hsame.mono (by decide) (by decide)⟩
  show Q_eq4 Z a1 a2 x0 x1 x2 x3 y0 y1 y2 y3 h0 n0 _ T129.heap _
  rw [e129]
  exact ⟨rfl, N0, rfl⟩
theorem ef_6_II (m : MethodId) (x0 : Int32) (x1 : Int32) : entryFrame m #[(.int x0), (.int x1)] 2 = mkF m 0 #[.val (.int x0), .val (.int x1)] [] := by first | (simp [entryFrame, mkF, argsToLocals, Value.category]; done) | rfl
theorem d6_0 : decode method_2_code 0 = .ok (.iload_n 0, 1) := by decide +kernel
theorem d6_1 : decode method_2_code 1 = .ok (.ifCond .ne 11, 3) := by decide +kernel
theorem d6_4 : decode method_2_code 4 = .ok (.iload_n 1, 1) := by decide +kernel
theorem d6_5 : decode method_2_code 5 = .ok (.ifCond .eq 7, 3) := by decide +kernel
theorem d6_12 : decode method_2_code 12 = .ok (.iload_n 0, 1) := by decide +kernel
theorem d6_13 : decode method_2_code 13 = .ok (.i2d, 1) := by decide +kernel
theorem d6_14 : decode method_2_code 14 = .ok (.dreturn, 1) := by decide +kernel
theorem d6_8 : decode method_2_code 8 = .ok (.ldc2_w 7, 3) := by decide +kernel
theorem d6_11 : decode method_2_code 11 = .ok (.dreturn, 1) := by decide +kernel
def Q_rm6 (Z : State) (p1 : Int32) (p2 : Int32) (h0 : Heap) (n0 : Nat) (v : Option Value) (h : Heap) (L : List Loc) : Prop := v = some (.double (own_d p1 p2)) ∧ Fr n0 L ∧ h = h0
theorem pn_com_2fexample_2fhoja_2fhoja_2fmodel_2fBoxHashCodePinLaw : plainName "com/example/hoja/hoja/model/BoxHashCodePinLaw" = true := by first | (simp [plainName, overriddenIn]; done) | decide +kernel
set_option maxRecDepth 65536 in
set_option maxHeartbeats 40000000 in
theorem rm6 (l : Launch) (Z : State) (a0 : Array Value) (hw : ∀ d ∈ tables_1, d.before a0 Z = true) (ws : List Jvm.Cond) (p1 : Int32) (p2 : Int32) (h0 : Heap) (n0 : Nat) (Z0 : n0 ≤ h0.size) :
    MetFree l (⟨"com/example/hoja/hoja/model/BoxHashCodePinLaw", "d", "(IZ)D"⟩ : MethodName) (head1 (Jvm.Cond.code (⟨"com/example/hoja/hoja/model/BoxHashCodePinLaw", "d", "(IZ)D"⟩ : MethodName) method_2_code 2 (some .double) :: ws) ({ frames := 0, cells := 0, slots := 0, locals := 0 } : Room)) (fun a U => a = #[(.int p1), (.int p2)] ∧ Z.Warmed39 U.vm ∧ U.heap = h0) (fun _ _ _ _ _ => True) (fun _ U o U' => ∃ v L, o = .returned v ∧ Q_rm6 Z p1 p2 h0 n0 v U'.heap L ∧ FrameEnd U o U' L ({ frames := 0, cells := 0, slots := 0, locals := 0 } : Room).cells ({ frames := 0, cells := 0, slots := 0, locals := 0 } : Room).slots) := by
  refine MetFree.of_bodySF (plainFor_of_name pn_com_2fexample_2fhoja_2fhoja_2fmodel_2fBoxHashCodePinLaw) hisR ?_
  intro p e s m args below meth c s₁ Bd hml0 hP hK
  obtain ⟨rfl, hZ, hh⟩ := hP
  have hx := Bd.exec
  have hby := Bd.bytes
  have hml : c.maxLocals = 2 := hml0
  have hown : s.vm.findClass "com/example/hoja/hoja/model/BoxHashCodePinLaw" = some m.cls := findClass_of_methodNamed Bd.named
  have hnm := (name_of_methodNamed Bd.named Bd.method).1
  have X0 : Stand p l e ({ frames := 0, cells := 0, slots := 0, locals := 0 } : Room) s m #[(.int p1), (.int p2)] below meth c s₁ [] 0 0 := Stand.of_body Bd
  have e0 : s₁.heap = h0 := by rw [← hh, Bd.state]; rfl
  have N0 := Fr.nil n0
  have k0 : ∀ t, Steps p.tables e below (s₁.setTop (mkF m 0 #[.val (.int p1), .val (.int p2)] [])) t → Steps p.tables e below (s₁.setTop (entryFrame m #[(.int p1), (.int p2)] 2)) t := fun t k => castTop (ef_6_II m p1 p2) k
  have k101 : ∀ t, Steps p.tables e below (s₁.setTop (mkF m 1 #[.val (.int p1), .val (.int p2)] [(.int p1)])) t → Steps p.tables e below (s₁.setTop (entryFrame m #[(.int p1), (.int p2)] 2)) t := fun t k => k0 t (by
    show Steps p.tables e below (s₁.setTop (mkF m 0 #[.val (.int p1), .val (.int p2)] [])) _
    refine XS.iloadN X0.here hx rfl (hb hby d6_0) rfl ?_
    exact k)
  by_cases d1 : p1 = (0 : Int32)
  · have k102 : ∀ t, Steps p.tables e below (s₁.setTop (mkF m 5 #[.val (.int p1), .val (.int p2)] [(.int p2)])) t → Steps p.tables e below (s₁.setTop (entryFrame m #[(.int p1), (.int p2)] 2)) t := fun t k => k101 t (by
      show Steps p.tables e below (s₁.setTop (mkF m 1 #[.val (.int p1), .val (.int p2)] [(.int p1)])) _
      refine XS.ifNo X0.here hx rfl (hb hby d6_1) rfl ((if0 _ _).trans (teq d1).2) ?_
      show Steps p.tables e below (s₁.setTop (mkF m 4 #[.val (.int p1), .val (.int p2)] [])) _
      refine XS.iloadN X0.here hx rfl (hb hby d6_4) rfl ?_
      exact k)
    by_cases d2 : p2 = (0 : Int32)
    · have k103 : ∀ t, Steps p.tables e below (s₁.setTop (mkF m 14 #[.val (.int p1), .val (.int p2)] [(.double (FP.i2d p1))])) t → Steps p.tables e below (s₁.setTop (entryFrame m #[(.int p1), (.int p2)] 2)) t := fun t k => k102 t (by
        show Steps p.tables e below (s₁.setTop (mkF m 5 #[.val (.int p1), .val (.int p2)] [(.int p2)])) _
        refine XS.ifYes X0.here hx rfl (pc0 := 5) (pc' := 12) rfl (hb hby d6_5) rfl ((if0 _ _).trans (teq d2).1) (by decide) (by decide) ?_
        show Steps p.tables e below (s₁.setTop (mkF m 12 #[.val (.int p1), .val (.int p2)] [])) _
        refine XS.iloadN X0.here hx rfl (hb hby d6_12) rfl ?_
        show Steps p.tables e below (s₁.setTop (mkF m 13 #[.val (.int p1), .val (.int p2)] [(.int p1)])) _
        refine XS.i2dS X0.here hx rfl (hb hby d6_13) rfl rfl ?_
        exact k)
      obtain ⟨fs, hr, hrun, hended, hW, hsame⟩ := X0.leave (v := some (.double (FP.i2d p1))) (fun h => by rw [Bd.returns] at h; cases h)
      refine ⟨_, _, k103 _ (retOut X0 hx (t := .double) Bd.returns rfl (Or.inr (Or.inr (Or.inl ⟨rfl, rfl, _, rfl⟩))) (hb hby d6_14) hr), hrun, hended, _, _, rfl, ?_, ⟨_, rfl⟩, hW, hsame.mono (by decide) (by decide)⟩
      show Q_rm6 Z p1 p2 h0 n0 _ s₁.heap _
      rw [e0]
      exact ⟨by rw [own_d, if_pos d1, if_pos d2], N0, rfl⟩
    · have k104 : ∀ t, Steps p.tables e below (s₁.setTop (mkF m 11 #[.val (.int p1), .val (.int p2)] [(.double (9223372036854775808 : UInt64))])) t → Steps p.tables e below (s₁.setTop (entryFrame m #[(.int p1), (.int p2)] 2)) t := fun t k => k102 t (by
        show Steps p.tables e below (s₁.setTop (mkF m 5 #[.val (.int p1), .val (.int p2)] [(.int p2)])) _
        refine XS.ifNo X0.here hx rfl (hb hby d6_5) rfl ((if0 _ _).trans (feq d2).1) ?_
        show Steps p.tables e below (s₁.setTop (mkF m 8 #[.val (.int p1), .val (.int p2)] [])) _
        refine X0.ldc2DoubleC hx hown (mvT hZ (hw _ (List.mem_of_getElem? (i := 62) rfl))) (g := (mkF m 8 #[.val (.int p1), .val (.int p2)] [])) rfl (hb hby d6_8) _ ?_
        exact k)
      obtain ⟨fs, hr, hrun, hended, hW, hsame⟩ := X0.leave (v := some (.double (9223372036854775808 : UInt64))) (fun h => by rw [Bd.returns] at h; cases h)
      refine ⟨_, _, k104 _ (retOut X0 hx (t := .double) Bd.returns rfl (Or.inr (Or.inr (Or.inl ⟨rfl, rfl, _, rfl⟩))) (hb hby d6_11) hr), hrun, hended, _, _, rfl, ?_, ⟨_, rfl⟩, hW, hsame.mono (by decide) (by decide)⟩
      show Q_rm6 Z p1 p2 h0 n0 _ s₁.heap _
      rw [e0]
      exact ⟨by rw [own_d, if_pos d1, if_neg d2], N0, rfl⟩
  · have k105 : ∀ t, Steps p.tables e below (s₁.setTop (mkF m 14 #[.val (.int p1), .val (.int p2)] [(.double (FP.i2d p1))])) t → Steps p.tables e below (s₁.setTop (entryFrame m #[(.int p1), (.int p2)] 2)) t := fun t k => k101 t (by
      show Steps p.tables e below (s₁.setTop (mkF m 1 #[.val (.int p1), .val (.int p2)] [(.int p1)])) _
      refine XS.ifYes X0.here hx rfl (pc0 := 1) (pc' := 12) rfl (hb hby d6_1) rfl ((if0 _ _).trans (feq d1).2) (by decide) (by decide) ?_
      show Steps p.tables e below (s₁.setTop (mkF m 12 #[.val (.int p1), .val (.int p2)] [])) _
      refine XS.iloadN X0.here hx rfl (hb hby d6_12) rfl ?_
      show Steps p.tables e below (s₁.setTop (mkF m 13 #[.val (.int p1), .val (.int p2)] [(.int p1)])) _
      refine XS.i2dS X0.here hx rfl (hb hby d6_13) rfl rfl ?_
      exact k)
    obtain ⟨fs, hr, hrun, hended, hW, hsame⟩ := X0.leave (v := some (.double (FP.i2d p1))) (fun h => by rw [Bd.returns] at h; cases h)
    refine ⟨_, _, k105 _ (retOut X0 hx (t := .double) Bd.returns rfl (Or.inr (Or.inr (Or.inl ⟨rfl, rfl, _, rfl⟩))) (hb hby d6_14) hr), hrun, hended, _, _, rfl, ?_, ⟨_, rfl⟩, hW, hsame.mono (by decide) (by decide)⟩
    show Q_rm6 Z p1 p2 h0 n0 _ s₁.heap _
    rw [e0]
    exact ⟨by rw [own_d, if_neg d1], N0, rfl⟩
theorem ef_11_D (m : MethodId) (x0 : UInt64) : entryFrame m #[(.double x0)] 2 = mkF m 0 #[.val (.double x0), .second] [] := by first | (simp [entryFrame, mkF, argsToLocals, Value.category]; done) | rfl
theorem d11_0 : decode jdk_117_method_6_code 0 = .ok (.dload_n 0, 1) := by decide +kernel
theorem d11_1 : decode jdk_117_method_6_code 1 = .ok (.dload_n 0, 1) := by decide +kernel
theorem d11_2 : decode jdk_117_method_6_code 2 = .ok (.dcmp .l, 1) := by decide +kernel
theorem d11_3 : decode jdk_117_method_6_code 3 = .ok (.ifCond .eq 7, 3) := by decide +kernel
theorem d11_10 : decode jdk_117_method_6_code 10 = .ok (.iconst 0, 1) := by decide +kernel
theorem d11_11 : decode jdk_117_method_6_code 11 = .ok (.ireturn, 1) := by decide +kernel
def Q_rm11 (Z : State) (u1 : UInt64) (h0 : Heap) (n0 : Nat) (v : Option Value) (h : Heap) (L : List Loc) : Prop := v = some (.int 0) ∧ Fr n0 L ∧ h = h0
set_option maxRecDepth 65536 in
set_option maxHeartbeats 40000000 in
theorem rm11 (l : Launch) (Z : State) (a0 : Array Value) (hw : ∀ d ∈ tables_1, d.before a0 Z = true) (ws : List Jvm.Cond) (u1 : UInt64) (h0 : Heap) (n0 : Nat) (Z0 : n0 ≤ h0.size) (nn : Jvm.Free.Fl.NoNaN64 u1) :
    MetFree l (⟨"java/lang/Double", "isNaN", "(D)Z"⟩ : MethodName) (head1 (Jvm.Cond.code (⟨"java/lang/Double", "isNaN", "(D)Z"⟩ : MethodName) jdk_117_method_6_code 2 (some .boolean) :: ws) ({ frames := 0, cells := 0, slots := 0, locals := 0 } : Room)) (fun a U => a = #[(.double u1)] ∧ Z.Warmed39 U.vm ∧ U.heap = h0) (fun _ _ _ _ _ => True) (fun _ U o U' => ∃ v L, o = .returned v ∧ Q_rm11 Z u1 h0 n0 v U'.heap L ∧ FrameEnd U o U' L ({ frames := 0, cells := 0, slots := 0, locals := 0 } : Room).cells ({ frames := 0, cells := 0, slots := 0, locals := 0 } : Room).slots) := by
  refine MetFree.of_bodySF (plainFor_of_name pn_java_2flang_2fDouble) hisR ?_
  intro p e s m args below meth c s₁ Bd hml0 hP hK
  obtain ⟨rfl, hZ, hh⟩ := hP
  have hx := Bd.exec
  have hby := Bd.bytes
  have hml : c.maxLocals = 2 := hml0
  have hown : s.vm.findClass "java/lang/Double" = some m.cls := findClass_of_methodNamed Bd.named
  have hnm := (name_of_methodNamed Bd.named Bd.method).1
  have X0 : Stand p l e ({ frames := 0, cells := 0, slots := 0, locals := 0 } : Room) s m #[(.double u1)] below meth c s₁ [] 0 0 := Stand.of_body Bd
  have e0 : s₁.heap = h0 := by rw [← hh, Bd.state]; rfl
  have N0 := Fr.nil n0
  have k0 : ∀ t, Steps p.tables e below (s₁.setTop (mkF m 0 #[.val (.double u1), .second] [])) t → Steps p.tables e below (s₁.setTop (entryFrame m #[(.double u1)] 2)) t := fun t k => castTop (ef_11_D m u1) k
  have k101 : ∀ t, Steps p.tables e below (s₁.setTop (mkF m 11 #[.val (.double u1), .second] [(.int (0 : Int32))])) t → Steps p.tables e below (s₁.setTop (entryFrame m #[(.double u1)] 2)) t := fun t k => k0 t (by
    show Steps p.tables e below (s₁.setTop (mkF m 0 #[.val (.double u1), .second] [])) _
    refine XS.dloadN X0.here hx rfl (hb hby d11_0) rfl ?_
    show Steps p.tables e below (s₁.setTop (mkF m 1 #[.val (.double u1), .second] [(.double u1)])) _
    refine XS.dloadN X0.here hx rfl (hb hby d11_1) rfl ?_
    show Steps p.tables e below (s₁.setTop (mkF m 2 #[.val (.double u1), .second] [(.double u1), (.double u1)])) _
    refine XS.dcmpS X0.here hx rfl (hb hby d11_2) rfl rfl ?_
    show Steps p.tables e below (s₁.setTop (mkF m 3 #[.val (.double u1), .second] [(.int (cmpValue (FP.dcmp u1 u1) .l))])) _
    refine XS.ifYes X0.here hx rfl (pc0 := 3) (pc' := 10) rfl (hb hby d11_3) rfl ((if0 _ _).trans (teq (dcmpV_self nn .l)).1) (by decide) (by decide) ?_
    show Steps p.tables e below (s₁.setTop (mkF m 10 #[.val (.double u1), .second] [])) _
    refine XS.iconst X0.here hx rfl (hb hby d11_10) ?_
    exact k)
  obtain ⟨fs, hr, hrun, hended, hW, hsame⟩ := X0.leave (v := some (.int (0 : Int32))) (fun h => by rw [Bd.returns] at h; cases h)
  refine ⟨_, _, k101 _ (retOut X0 hx (t := .boolean) Bd.returns rfl (Or.inl ⟨rfl, Or.inr (Or.inl rfl), _, rfl⟩) (hb hby d11_11) hr), hrun, hended, _, _, rfl, ?_, ⟨_, rfl⟩, hW, hsame.mono (by decide) (by decide)⟩
  show Q_rm11 Z u1 h0 n0 _ s₁.heap _
  rw [e0]
  exact ⟨rfl, N0, rfl⟩
theorem ef_10_D (m : MethodId) (x0 : UInt64) : entryFrame m #[(.double x0)] 2 = mkF m 0 #[.val (.double x0), .second] [] := by first | (simp [entryFrame, mkF, argsToLocals, Value.category]; done) | rfl
theorem d10_0 : decode jdk_117_method_23_code 0 = .ok (.dload_n 0, 1) := by decide +kernel
theorem d10_1 : decode jdk_117_method_23_code 1 = .ok (.invokestatic 122, 3) := by decide +kernel
theorem d10_4 : decode jdk_117_method_23_code 4 = .ok (.ifCond .ne 8, 3) := by decide +kernel
theorem d10_7 : decode jdk_117_method_23_code 7 = .ok (.dload_n 0, 1) := by decide +kernel
theorem d10_8 : decode jdk_117_method_23_code 8 = .ok (.invokestatic 134, 3) := by decide +kernel
theorem d10_11 : decode jdk_117_method_23_code 11 = .ok (.lreturn, 1) := by decide +kernel
def Q_rm10 (Z : State) (u1 : UInt64) (h0 : Heap) (n0 : Nat) (v : Option Value) (h : Heap) (L : List Loc) : Prop := v = some (.long (u1).toInt64) ∧ Fr n0 L ∧ h = h0
set_option maxRecDepth 65536 in
set_option maxHeartbeats 40000000 in
theorem rm10 (l : Launch) (Z : State) (a0 : Array Value) (hw : ∀ d ∈ tables_1, d.before a0 Z = true) (ws : List Jvm.Cond) (u1 : UInt64) (h0 : Heap) (n0 : Nat) (Z0 : n0 ≤ h0.size) (nn : Jvm.Free.Fl.NoNaN64 u1) :
    MetFree l (⟨"java/lang/Double", "doubleToLongBits", "(D)J"⟩ : MethodName) (head1 (Jvm.Cond.code (⟨"java/lang/Double", "doubleToLongBits", "(D)J"⟩ : MethodName) jdk_117_method_23_code 2 (some .long) :: ws) ({ frames := 1, cells := 0, slots := 0, locals := 15 } : Room)) (fun a U => a = #[(.double u1)] ∧ Z.Warmed39 U.vm ∧ U.heap = h0) (fun _ _ _ _ _ => True) (fun _ U o U' => ∃ v L, o = .returned v ∧ Q_rm10 Z u1 h0 n0 v U'.heap L ∧ FrameEnd U o U' L ({ frames := 1, cells := 0, slots := 0, locals := 15 } : Room).cells ({ frames := 1, cells := 0, slots := 0, locals := 15 } : Room).slots) := by
  refine MetFree.of_bodySF (plainFor_of_name pn_java_2flang_2fDouble) hisR ?_
  intro p e s m args below meth c s₁ Bd hml0 hP hK
  obtain ⟨rfl, hZ, hh⟩ := hP
  have hx := Bd.exec
  have hby := Bd.bytes
  have hml : c.maxLocals = 2 := hml0
  have hown : s.vm.findClass "java/lang/Double" = some m.cls := findClass_of_methodNamed Bd.named
  have hnm := (name_of_methodNamed Bd.named Bd.method).1
  have X0 : Stand p l e ({ frames := 1, cells := 0, slots := 0, locals := 15 } : Room) s m #[(.double u1)] below meth c s₁ [] 0 0 := Stand.of_body Bd
  have e0 : s₁.heap = h0 := by rw [← hh, Bd.state]; rfl
  have N0 := Fr.nil n0
  have k0 : ∀ t, Steps p.tables e below (s₁.setTop (mkF m 0 #[.val (.double u1), .second] [])) t → Steps p.tables e below (s₁.setTop (entryFrame m #[(.double u1)] 2)) t := fun t k => castTop (ef_10_D m u1) k
  have k101 : ∀ t, Steps p.tables e below (s₁.setTop (mkF m 1 #[.val (.double u1), .second] [(.double u1)])) t → Steps p.tables e below (s₁.setTop (entryFrame m #[(.double u1)] 2)) t := fun t k => k0 t (by
    show Steps p.tables e below (s₁.setTop (mkF m 0 #[.val (.double u1), .second] [])) _
    refine XS.dloadN X0.here hx rfl (hb hby d10_0) rfl ?_
    exact k)
  obtain ⟨_, _, ⟨T102, L102, k102, n102⟩, -, X102, ⟨Lc102, hQ102, l102, y102, z102⟩, st102⟩ := Jvm.LawKit.callS X0 hx (y := (⟨"java/lang/Double", "isNaN", "(D)Z"⟩ : MethodName)) hown (mvT hZ (hw _ (List.mem_of_getElem? (i := 52) rfl))) (mvT hZ (hw _ (List.mem_of_getElem? (i := 53) rfl))) (mvT hZ (hw _ (List.mem_of_getElem? (i := 15) rfl))) (mvT hZ (hw _ (List.mem_of_getElem? (i := 54) rfl))) (by decide) (backOf (W := 0) (rm11 l Z a0 hw [] u1 h0 n0 Z0 nn) hZ (hw _ (List.mem_of_getElem? (i := 54) rfl)) (hw _ (List.mem_of_getElem? (i := 15) rfl)) (by decide) (by decide)) (g := (mkF m 1 #[.val (.double u1), .second] [(.double u1)])) rfl (by rw [hml]; rfl) (argsL := [(.double u1)]) (rest := []) (lenOf pd__28D_29Z rfl) rfl (by show 2 * 0 + _ ≤ _; exact Nat.le_of_eq rfl) (hb hby d10_1) (fun _ _ => ⟨rfl, e0, (by decide : 0 + 0 ≤ _), (by decide : 0 + 0 ≤ _)⟩)
  dsimp only [Pt.U, Pt.locs, Pt.cells, Pt.slots] at X102 l102 y102 z102 st102 hQ102
  subst l102 y102 z102
  obtain ⟨rfl, N102q, e102⟩ := hQ102
  have N103 := Fr.app N0 N102q
  have k104 : ∀ t, Steps p.tables e below (T102.setTop (mkF m 4 #[.val (.double u1), .second] [(.int (0 : Int32))])) t → Steps p.tables e below (s₁.setTop (entryFrame m #[(.double u1)] 2)) t := fun t k => k101 t (st102 t k)
  have k105 : ∀ t, Steps p.tables e below (T102.setTop (mkF m 8 #[.val (.double u1), .second] [(.double u1)])) t → Steps p.tables e below (s₁.setTop (entryFrame m #[(.double u1)] 2)) t := fun t k => k104 t (by
    show Steps p.tables e below (T102.setTop (mkF m 4 #[.val (.double u1), .second] [(.int (0 : Int32))])) _
    refine XS.ifNo X102.here hx rfl (hb hby d10_4) rfl ((if0 _ _).trans (teq (by decide)).2) ?_
    show Steps p.tables e below (T102.setTop (mkF m 7 #[.val (.double u1), .second] [])) _
    refine XS.dloadN X102.here hx rfl (hb hby d10_7) rfl ?_
    exact k)
  obtain ⟨vm106, X106, st106⟩ := X102.doubleToRawLongBits hx hown (mvT hZ (hw _ (List.mem_of_getElem? (i := 55) rfl))) (mvT hZ (hw _ (List.mem_of_getElem? (i := 57) rfl))) (mvT hZ (hw _ (List.mem_of_getElem? (i := 56) rfl))) (mvT hZ (hw _ (List.mem_of_getElem? (i := 15) rfl))) (g := (mkF m 8 #[.val (.double u1), .second] [(.double u1)])) rfl (by rw [hml]; rfl) rfl (hb hby d10_8) (by decide) (Nat.le_of_ble_eq_true rfl)
  obtain ⟨T106, eT106⟩ : ∃ z, z = T102.setVm vm106 := ⟨_, rfl⟩
  have e106 : T106.heap = h0 := by rw [eT106]; exact e102
  rw [← eT106] at X106 st106
  have k107 : ∀ t, Steps p.tables e below (T106.setTop (mkF m 11 #[.val (.double u1), .second] [(.long (u1).toInt64)])) t → Steps p.tables e below (s₁.setTop (entryFrame m #[(.double u1)] 2)) t := fun t k => k105 t (st106 t k)
  obtain ⟨fs, hr, hrun, hended, hW, hsame⟩ := X106.leave (v := some (.long (u1).toInt64)) (fun h => by rw [Bd.returns] at h; cases h)
  refine ⟨_, _, k107 _ (retOut X106 hx (t := .long) Bd.returns rfl (Or.inr (Or.inl ⟨rfl, rfl, _, rfl⟩)) (hb hby d10_11) hr), hrun, hended, _, _, rfl, ?_, ⟨_, rfl⟩, hW, hsame.mono (by decide) (by decide)⟩
  show Q_rm10 Z u1 h0 n0 _ T106.heap _
  rw [e106]
  exact ⟨rfl, N103, rfl⟩
theorem ef_12_J (m : MethodId) (x0 : Int64) : entryFrame m #[(.long x0)] 2 = mkF m 0 #[.val (.long x0), .second] [] := by first | (simp [entryFrame, mkF, argsToLocals, Value.category]; done) | rfl
theorem d12_0 : decode jdk_35_method_36_code 0 = .ok (.lload_n 0, 1) := by decide +kernel
theorem d12_1 : decode jdk_35_method_36_code 1 = .ok (.lload_n 0, 1) := by decide +kernel
theorem d12_2 : decode jdk_35_method_36_code 2 = .ok (.bipush 32, 2) := by decide +kernel
theorem d12_4 : decode jdk_35_method_36_code 4 = .ok (.lushr, 1) := by decide +kernel
theorem d12_5 : decode jdk_35_method_36_code 5 = .ok (.lxor, 1) := by decide +kernel
theorem d12_6 : decode jdk_35_method_36_code 6 = .ok (.l2i, 1) := by decide +kernel
theorem d12_7 : decode jdk_35_method_36_code 7 = .ok (.ireturn, 1) := by decide +kernel
def Q_rm12 (Z : State) (q1 : Int64) (h0 : Heap) (n0 : Nat) (v : Option Value) (h : Heap) (L : List Loc) : Prop := v = some (.int ((q1 ^^^ ((q1.toUInt64 >>> ((32 : Int32) &&& 0x3f).toInt64.toUInt64).toInt64)).toInt32)) ∧ Fr n0 L ∧ h = h0
theorem pn_java_2flang_2fLong : plainName "java/lang/Long" = true := by first | (simp [plainName, overriddenIn]; done) | decide +kernel
set_option maxRecDepth 65536 in
set_option maxHeartbeats 40000000 in
theorem rm12 (l : Launch) (Z : State) (a0 : Array Value) (hw : ∀ d ∈ tables_1, d.before a0 Z = true) (ws : List Jvm.Cond) (q1 : Int64) (h0 : Heap) (n0 : Nat) (Z0 : n0 ≤ h0.size) :
    MetFree l (⟨"java/lang/Long", "hashCode", "(J)I"⟩ : MethodName) (head1 (Jvm.Cond.code (⟨"java/lang/Long", "hashCode", "(J)I"⟩ : MethodName) jdk_35_method_36_code 2 (some .int) :: ws) ({ frames := 0, cells := 0, slots := 0, locals := 0 } : Room)) (fun a U => a = #[(.long q1)] ∧ Z.Warmed39 U.vm ∧ U.heap = h0) (fun _ _ _ _ _ => True) (fun _ U o U' => ∃ v L, o = .returned v ∧ Q_rm12 Z q1 h0 n0 v U'.heap L ∧ FrameEnd U o U' L ({ frames := 0, cells := 0, slots := 0, locals := 0 } : Room).cells ({ frames := 0, cells := 0, slots := 0, locals := 0 } : Room).slots) := by
  refine MetFree.of_bodySF (plainFor_of_name pn_java_2flang_2fLong) hisR ?_
  intro p e s m args below meth c s₁ Bd hml0 hP hK
  obtain ⟨rfl, hZ, hh⟩ := hP
  have hx := Bd.exec
  have hby := Bd.bytes
  have hml : c.maxLocals = 2 := hml0
  have hown : s.vm.findClass "java/lang/Long" = some m.cls := findClass_of_methodNamed Bd.named
  have hnm := (name_of_methodNamed Bd.named Bd.method).1
  have X0 : Stand p l e ({ frames := 0, cells := 0, slots := 0, locals := 0 } : Room) s m #[(.long q1)] below meth c s₁ [] 0 0 := Stand.of_body Bd
  have e0 : s₁.heap = h0 := by rw [← hh, Bd.state]; rfl
  have N0 := Fr.nil n0
  have k0 : ∀ t, Steps p.tables e below (s₁.setTop (mkF m 0 #[.val (.long q1), .second] [])) t → Steps p.tables e below (s₁.setTop (entryFrame m #[(.long q1)] 2)) t := fun t k => castTop (ef_12_J m q1) k
  have k101 : ∀ t, Steps p.tables e below (s₁.setTop (mkF m 7 #[.val (.long q1), .second] [(.int ((q1 ^^^ ((q1.toUInt64 >>> ((32 : Int32) &&& 0x3f).toInt64.toUInt64).toInt64)).toInt32))])) t → Steps p.tables e below (s₁.setTop (entryFrame m #[(.long q1)] 2)) t := fun t k => k0 t (by
    show Steps p.tables e below (s₁.setTop (mkF m 0 #[.val (.long q1), .second] [])) _
    refine XS.lloadN X0.here hx rfl (hb hby d12_0) rfl ?_
    show Steps p.tables e below (s₁.setTop (mkF m 1 #[.val (.long q1), .second] [(.long q1)])) _
    refine XS.lloadN X0.here hx rfl (hb hby d12_1) rfl ?_
    show Steps p.tables e below (s₁.setTop (mkF m 2 #[.val (.long q1), .second] [(.long q1), (.long q1)])) _
    refine XS.bipush X0.here hx rfl (hb hby d12_2) ?_
    show Steps p.tables e below (s₁.setTop (mkF m 4 #[.val (.long q1), .second] [(.int (32 : Int32)), (.long q1), (.long q1)])) _
    refine XS.lushr X0.here hx rfl (hb hby d12_4) rfl ?_
    show Steps p.tables e below (s₁.setTop (mkF m 5 #[.val (.long q1), .second] [(.long ((q1.toUInt64 >>> ((32 : Int32) &&& 0x3f).toInt64.toUInt64).toInt64)), (.long q1)])) _
    refine XS.lxor X0.here hx rfl (hb hby d12_5) rfl ?_
    show Steps p.tables e below (s₁.setTop (mkF m 6 #[.val (.long q1), .second] [(.long (q1 ^^^ ((q1.toUInt64 >>> ((32 : Int32) &&& 0x3f).toInt64.toUInt64).toInt64)))])) _
    refine XS.l2i X0.here hx rfl (hb hby d12_6) rfl ?_
    exact k)
  obtain ⟨fs, hr, hrun, hended, hW, hsame⟩ := X0.leave (v := some (.int ((q1 ^^^ ((q1.toUInt64 >>> ((32 : Int32) &&& 0x3f).toInt64.toUInt64).toInt64)).toInt32))) (fun h => by rw [Bd.returns] at h; cases h)
  refine ⟨_, _, k101 _ (retOut X0 hx (t := .int) Bd.returns rfl (Or.inl ⟨rfl, Or.inl rfl, _, rfl⟩) (hb hby d12_7) hr), hrun, hended, _, _, rfl, ?_, ⟨_, rfl⟩, hW, hsame.mono (by decide) (by decide)⟩
  show Q_rm12 Z q1 h0 n0 _ s₁.heap _
  rw [e0]
  exact ⟨rfl, N0, rfl⟩
theorem ef_9_D (m : MethodId) (x0 : UInt64) : entryFrame m #[(.double x0)] 2 = mkF m 0 #[.val (.double x0), .second] [] := by first | (simp [entryFrame, mkF, argsToLocals, Value.category]; done) | rfl
theorem d9_0 : decode jdk_117_method_21_code 0 = .ok (.dload_n 0, 1) := by decide +kernel
theorem d9_1 : decode jdk_117_method_21_code 1 = .ok (.invokestatic 46, 3) := by decide +kernel
theorem pd__28D_29J : parseMethodDescriptor "(D)J" = some ⟨[.double], some .long⟩ := by decide +kernel
theorem d9_4 : decode jdk_117_method_21_code 4 = .ok (.invokestatic 131, 3) := by decide +kernel
theorem pd__28J_29I : parseMethodDescriptor "(J)I" = some ⟨[.long], some .int⟩ := by decide +kernel
theorem d9_7 : decode jdk_117_method_21_code 7 = .ok (.ireturn, 1) := by decide +kernel
def Q_rm9 (Z : State) (u1 : UInt64) (h0 : Heap) (n0 : Nat) (v : Option Value) (h : Heap) (L : List Loc) : Prop := v = some (.int (own_h u1)) ∧ Fr n0 L ∧ h = h0
set_option maxRecDepth 65536 in
set_option maxHeartbeats 40000000 in
theorem rm9 (l : Launch) (Z : State) (a0 : Array Value) (hw : ∀ d ∈ tables_1, d.before a0 Z = true) (ws : List Jvm.Cond) (u1 : UInt64) (h0 : Heap) (n0 : Nat) (Z0 : n0 ≤ h0.size) (nn : Jvm.Free.Fl.NoNaN64 u1) :
    MetFree l (⟨"java/lang/Double", "hashCode", "(D)I"⟩ : MethodName) (head1 (Jvm.Cond.code (⟨"java/lang/Double", "hashCode", "(D)I"⟩ : MethodName) jdk_117_method_21_code 2 (some .int) :: ws) ({ frames := 2, cells := 0, slots := 0, locals := 28 } : Room)) (fun a U => a = #[(.double u1)] ∧ Z.Warmed39 U.vm ∧ U.heap = h0) (fun _ _ _ _ _ => True) (fun _ U o U' => ∃ v L, o = .returned v ∧ Q_rm9 Z u1 h0 n0 v U'.heap L ∧ FrameEnd U o U' L ({ frames := 2, cells := 0, slots := 0, locals := 28 } : Room).cells ({ frames := 2, cells := 0, slots := 0, locals := 28 } : Room).slots) := by
  refine MetFree.of_bodySF (plainFor_of_name pn_java_2flang_2fDouble) hisR ?_
  intro p e s m args below meth c s₁ Bd hml0 hP hK
  obtain ⟨rfl, hZ, hh⟩ := hP
  have hx := Bd.exec
  have hby := Bd.bytes
  have hml : c.maxLocals = 2 := hml0
  have hown : s.vm.findClass "java/lang/Double" = some m.cls := findClass_of_methodNamed Bd.named
  have hnm := (name_of_methodNamed Bd.named Bd.method).1
  have X0 : Stand p l e ({ frames := 2, cells := 0, slots := 0, locals := 28 } : Room) s m #[(.double u1)] below meth c s₁ [] 0 0 := Stand.of_body Bd
  have e0 : s₁.heap = h0 := by rw [← hh, Bd.state]; rfl
  have N0 := Fr.nil n0
  have k0 : ∀ t, Steps p.tables e below (s₁.setTop (mkF m 0 #[.val (.double u1), .second] [])) t → Steps p.tables e below (s₁.setTop (entryFrame m #[(.double u1)] 2)) t := fun t k => castTop (ef_9_D m u1) k
  have k101 : ∀ t, Steps p.tables e below (s₁.setTop (mkF m 1 #[.val (.double u1), .second] [(.double u1)])) t → Steps p.tables e below (s₁.setTop (entryFrame m #[(.double u1)] 2)) t := fun t k => k0 t (by
    show Steps p.tables e below (s₁.setTop (mkF m 0 #[.val (.double u1), .second] [])) _
    refine XS.dloadN X0.here hx rfl (hb hby d9_0) rfl ?_
    exact k)
  obtain ⟨_, _, ⟨T102, L102, k102, n102⟩, -, X102, ⟨Lc102, hQ102, l102, y102, z102⟩, st102⟩ := Jvm.LawKit.callS X0 hx (y := (⟨"java/lang/Double", "doubleToLongBits", "(D)J"⟩ : MethodName)) hown (mvT hZ (hw _ (List.mem_of_getElem? (i := 49) rfl))) (mvT hZ (hw _ (List.mem_of_getElem? (i := 50) rfl))) (mvT hZ (hw _ (List.mem_of_getElem? (i := 15) rfl))) (mvT hZ (hw _ (List.mem_of_getElem? (i := 51) rfl))) (by decide) (backOf (W := 0) (rm10 l Z a0 hw [] u1 h0 n0 Z0 nn) hZ (hw _ (List.mem_of_getElem? (i := 51) rfl)) (hw _ (List.mem_of_getElem? (i := 15) rfl)) (by decide) (by decide)) (g := (mkF m 1 #[.val (.double u1), .second] [(.double u1)])) rfl (by rw [hml]; rfl) (argsL := [(.double u1)]) (rest := []) (lenOf pd__28D_29J rfl) rfl (by show 2 * 0 + _ ≤ _; exact Nat.le_of_eq rfl) (hb hby d9_1) (fun _ _ => ⟨rfl, e0, (by decide : 0 + 0 ≤ _), (by decide : 0 + 0 ≤ _)⟩)
  dsimp only [Pt.U, Pt.locs, Pt.cells, Pt.slots] at X102 l102 y102 z102 st102 hQ102
  subst l102 y102 z102
  obtain ⟨rfl, N102q, e102⟩ := hQ102
  have N103 := Fr.app N0 N102q
  have k104 : ∀ t, Steps p.tables e below (T102.setTop (mkF m 4 #[.val (.double u1), .second] [(.long (u1).toInt64)])) t → Steps p.tables e below (s₁.setTop (entryFrame m #[(.double u1)] 2)) t := fun t k => k101 t (st102 t k)
  obtain ⟨_, _, ⟨T105, L105, k105, n105⟩, -, X105, ⟨Lc105, hQ105, l105, y105, z105⟩, st105⟩ := Jvm.LawKit.callS X102 hx (y := (⟨"java/lang/Long", "hashCode", "(J)I"⟩ : MethodName)) hown (mvT hZ (hw _ (List.mem_of_getElem? (i := 58) rfl))) (mvT hZ (hw _ (List.mem_of_getElem? (i := 59) rfl))) (mvT hZ (hw _ (List.mem_of_getElem? (i := 60) rfl))) (mvT hZ (hw _ (List.mem_of_getElem? (i := 61) rfl))) (by decide) (backOf (W := 0) (rm12 l Z a0 hw [] (u1).toInt64 h0 n0 Z0 ) hZ (hw _ (List.mem_of_getElem? (i := 61) rfl)) (hw _ (List.mem_of_getElem? (i := 60) rfl)) (by decide) (by decide)) (g := (mkF m 4 #[.val (.double u1), .second] [(.long (u1).toInt64)])) rfl (by rw [hml]; rfl) (argsL := [(.long (u1).toInt64)]) (rest := []) (lenOf pd__28J_29I rfl) rfl (by show 2 * 0 + _ ≤ _; exact Nat.le_of_eq rfl) (hb hby d9_4) (fun _ _ => ⟨rfl, e102, (by decide : 0 + 0 ≤ _), (by decide : 0 + 0 ≤ _)⟩)
  dsimp only [Pt.U, Pt.locs, Pt.cells, Pt.slots] at X105 l105 y105 z105 st105 hQ105
  subst l105 y105 z105
  obtain ⟨rfl, N105q, e105⟩ := hQ105
  have N106 := Fr.app N103 N105q
  have k107 : ∀ t, Steps p.tables e below (T105.setTop (mkF m 7 #[.val (.double u1), .second] [(.int (((u1).toInt64 ^^^ (((u1).toInt64.toUInt64 >>> ((32 : Int32) &&& 0x3f).toInt64.toUInt64).toInt64)).toInt32))])) t → Steps p.tables e below (s₁.setTop (entryFrame m #[(.double u1)] 2)) t := fun t k => k104 t (st105 t k)
  obtain ⟨fs, hr, hrun, hended, hW, hsame⟩ := X105.leave (v := some (.int (((u1).toInt64 ^^^ (((u1).toInt64.toUInt64 >>> ((32 : Int32) &&& 0x3f).toInt64.toUInt64).toInt64)).toInt32))) (fun h => by rw [Bd.returns] at h; cases h)
  refine ⟨_, _, k107 _ (retOut X105 hx (t := .int) Bd.returns rfl (Or.inl ⟨rfl, Or.inl rfl, _, rfl⟩) (hb hby d9_7) hr), hrun, hended, _, _, rfl, ?_, ⟨_, rfl⟩, hW, hsame.mono (by decide) (by decide)⟩
  show Q_rm9 Z u1 h0 n0 _ T105.heap _
  rw [e105]
  exact ⟨rfl, N106, rfl⟩
theorem ef_8_R (m : MethodId) (x0 : Addr) : entryFrame m #[(.ref x0)] 2 = mkF m 0 #[.val (.ref x0), .unset] [] := by first | (simp [entryFrame, mkF, argsToLocals, Value.category]; done) | rfl
theorem d8_0 : decode prog_26_method_17_code 0 = .ok (.aload_n 0, 1) := by decide +kernel
theorem d8_1 : decode prog_26_method_17_code 1 = .ok (.getfield 30, 3) := by decide +kernel
theorem d8_4 : decode prog_26_method_17_code 4 = .ok (.dconst 0, 1) := by decide +kernel
theorem d8_5 : decode prog_26_method_17_code 5 = .ok (.dadd, 1) := by decide +kernel
theorem d8_6 : decode prog_26_method_17_code 6 = .ok (.invokestatic 103, 3) := by decide +kernel
theorem pd__28D_29I : parseMethodDescriptor "(D)I" = some ⟨[.double], some .int⟩ := by decide +kernel
theorem d8_9 : decode prog_26_method_17_code 9 = .ok (.istore_n 1, 1) := by decide +kernel
theorem d8_10 : decode prog_26_method_17_code 10 = .ok (.bipush 31, 2) := by decide +kernel
theorem d8_12 : decode prog_26_method_17_code 12 = .ok (.iload_n 1, 1) := by decide +kernel
theorem d8_13 : decode prog_26_method_17_code 13 = .ok (.imul, 1) := by decide +kernel
theorem d8_14 : decode prog_26_method_17_code 14 = .ok (.aload_n 0, 1) := by decide +kernel
theorem d8_15 : decode prog_26_method_17_code 15 = .ok (.getfield 34, 3) := by decide +kernel
theorem d8_18 : decode prog_26_method_17_code 18 = .ok (.dconst 0, 1) := by decide +kernel
theorem d8_19 : decode prog_26_method_17_code 19 = .ok (.dadd, 1) := by decide +kernel
theorem d8_20 : decode prog_26_method_17_code 20 = .ok (.invokestatic 103, 3) := by decide +kernel
theorem d8_23 : decode prog_26_method_17_code 23 = .ok (.iadd, 1) := by decide +kernel
theorem d8_24 : decode prog_26_method_17_code 24 = .ok (.istore_n 1, 1) := by decide +kernel
theorem d8_25 : decode prog_26_method_17_code 25 = .ok (.bipush 31, 2) := by decide +kernel
theorem d8_27 : decode prog_26_method_17_code 27 = .ok (.iload_n 1, 1) := by decide +kernel
theorem d8_28 : decode prog_26_method_17_code 28 = .ok (.imul, 1) := by decide +kernel
theorem d8_29 : decode prog_26_method_17_code 29 = .ok (.aload_n 0, 1) := by decide +kernel
theorem d8_30 : decode prog_26_method_17_code 30 = .ok (.getfield 37, 3) := by decide +kernel
theorem d8_33 : decode prog_26_method_17_code 33 = .ok (.dconst 0, 1) := by decide +kernel
theorem d8_34 : decode prog_26_method_17_code 34 = .ok (.dadd, 1) := by decide +kernel
theorem d8_35 : decode prog_26_method_17_code 35 = .ok (.invokestatic 103, 3) := by decide +kernel
theorem d8_38 : decode prog_26_method_17_code 38 = .ok (.iadd, 1) := by decide +kernel
theorem d8_39 : decode prog_26_method_17_code 39 = .ok (.istore_n 1, 1) := by decide +kernel
theorem d8_40 : decode prog_26_method_17_code 40 = .ok (.bipush 31, 2) := by decide +kernel
theorem d8_42 : decode prog_26_method_17_code 42 = .ok (.iload_n 1, 1) := by decide +kernel
theorem d8_43 : decode prog_26_method_17_code 43 = .ok (.imul, 1) := by decide +kernel
theorem d8_44 : decode prog_26_method_17_code 44 = .ok (.aload_n 0, 1) := by decide +kernel
theorem d8_45 : decode prog_26_method_17_code 45 = .ok (.getfield 40, 3) := by decide +kernel
theorem d8_48 : decode prog_26_method_17_code 48 = .ok (.dconst 0, 1) := by decide +kernel
theorem d8_49 : decode prog_26_method_17_code 49 = .ok (.dadd, 1) := by decide +kernel
theorem d8_50 : decode prog_26_method_17_code 50 = .ok (.invokestatic 103, 3) := by decide +kernel
theorem d8_53 : decode prog_26_method_17_code 53 = .ok (.iadd, 1) := by decide +kernel
theorem d8_54 : decode prog_26_method_17_code 54 = .ok (.istore_n 1, 1) := by decide +kernel
theorem d8_55 : decode prog_26_method_17_code 55 = .ok (.iload_n 1, 1) := by decide +kernel
theorem d8_56 : decode prog_26_method_17_code 56 = .ok (.ireturn, 1) := by decide +kernel
def Q_rm8 (Z : State) (a1 : Addr) (x0 : UInt64) (x1 : UInt64) (x2 : UInt64) (x3 : UInt64) (h0 : Heap) (n0 : Nat) (v : Option Value) (h : Heap) (L : List Loc) : Prop := v = some (.int (((31 : Int32) * (((31 : Int32) * (((31 : Int32) * (own_h (FP.dadd x0 (0 : UInt64)))) + (own_h (FP.dadd x1 (0 : UInt64))))) + (own_h (FP.dadd x2 (0 : UInt64))))) + (own_h (FP.dadd x3 (0 : UInt64))))) ∧ Fr n0 L ∧ h = h0
set_option maxRecDepth 65536 in
set_option maxHeartbeats 40000000 in
theorem rm8 (l : Launch) (Z : State) (a0 : Array Value) (hw : ∀ d ∈ tables_1, d.before a0 Z = true) (ws : List Jvm.Cond) (a1 : Addr) (x0 : UInt64) (x1 : UInt64) (x2 : UInt64) (x3 : UInt64) (h0 : Heap) (n0 : Nat) (Z0 : n0 ≤ h0.size) (F0 : Fld Z h0 a1 "com/example/hoja/hoja/model/Box" "x" "D" (.double x0)) (F1 : Fld Z h0 a1 "com/example/hoja/hoja/model/Box" "y" "D" (.double x1)) (F2 : Fld Z h0 a1 "com/example/hoja/hoja/model/Box" "right" "D" (.double x2)) (F3 : Fld Z h0 a1 "com/example/hoja/hoja/model/Box" "bottom" "D" (.double x3)) (nz0 : Jvm.Free.Fl.NoNaN64 (FP.dadd x0 (0 : UInt64))) (nz1 : Jvm.Free.Fl.NoNaN64 (FP.dadd x1 (0 : UInt64))) (nz2 : Jvm.Free.Fl.NoNaN64 (FP.dadd x2 (0 : UInt64))) (nz3 : Jvm.Free.Fl.NoNaN64 (FP.dadd x3 (0 : UInt64))) :
    MetFree l (⟨"com/example/hoja/hoja/model/Box", "hashCode", "()I"⟩ : MethodName) (head1 (Jvm.Cond.code (⟨"com/example/hoja/hoja/model/Box", "hashCode", "()I"⟩ : MethodName) prog_26_method_17_code 2 (some .int) :: ws) ({ frames := 3, cells := 0, slots := 0, locals := 42 } : Room)) (fun a U => a = #[(.ref a1)] ∧ Z.Warmed39 U.vm ∧ U.heap = h0) (fun _ _ _ _ _ => True) (fun _ U o U' => ∃ v L, o = .returned v ∧ Q_rm8 Z a1 x0 x1 x2 x3 h0 n0 v U'.heap L ∧ FrameEnd U o U' L ({ frames := 3, cells := 0, slots := 0, locals := 42 } : Room).cells ({ frames := 3, cells := 0, slots := 0, locals := 42 } : Room).slots) := by
  refine MetFree.of_bodySF (plainFor_of_name pn_com_2fexample_2fhoja_2fhoja_2fmodel_2fBox) hisR ?_
  intro p e s m args below meth c s₁ Bd hml0 hP hK
  obtain ⟨rfl, hZ, hh⟩ := hP
  have hx := Bd.exec
  have hby := Bd.bytes
  have hml : c.maxLocals = 2 := hml0
  have hown : s.vm.findClass "com/example/hoja/hoja/model/Box" = some m.cls := findClass_of_methodNamed Bd.named
  have hnm := (name_of_methodNamed Bd.named Bd.method).1
  have X0 : Stand p l e ({ frames := 3, cells := 0, slots := 0, locals := 42 } : Room) s m #[(.ref a1)] below meth c s₁ [] 0 0 := Stand.of_body Bd
  have e0 : s₁.heap = h0 := by rw [← hh, Bd.state]; rfl
  have N0 := Fr.nil n0
  have k0 : ∀ t, Steps p.tables e below (s₁.setTop (mkF m 0 #[.val (.ref a1), .unset] [])) t → Steps p.tables e below (s₁.setTop (entryFrame m #[(.ref a1)] 2)) t := fun t k => castTop (ef_8_R m a1) k
  have k101 : ∀ t, Steps p.tables e below (s₁.setTop (mkF m 1 #[.val (.ref a1), .unset] [(.ref a1)])) t → Steps p.tables e below (s₁.setTop (entryFrame m #[(.ref a1)] 2)) t := fun t k => k0 t (by
    show Steps p.tables e below (s₁.setTop (mkF m 0 #[.val (.ref a1), .unset] [])) _
    refine XS.aloadN X0.here hx rfl (hb hby d8_0) rfl rfl ?_
    exact k)
  obtain ⟨T102, X102, e102, st102⟩ := getF X0 hx hZ hown (host := "") (Or.inl (hw _ (List.mem_of_getElem? (i := 22) rfl))) Via.refl e0 F0 (g := (mkF m 1 #[.val (.ref a1), .unset] [(.ref a1)])) rfl rfl (hb hby d8_1)
  have k103 : ∀ t, Steps p.tables e below (T102.setTop (mkF m 4 #[.val (.ref a1), .unset] [(.double x0)])) t → Steps p.tables e below (s₁.setTop (entryFrame m #[(.ref a1)] 2)) t := fun t k => k101 t (st102 t k)
  have k104 : ∀ t, Steps p.tables e below (T102.setTop (mkF m 6 #[.val (.ref a1), .unset] [(.double (FP.dadd x0 (0 : UInt64)))])) t → Steps p.tables e below (s₁.setTop (entryFrame m #[(.ref a1)] 2)) t := fun t k => k103 t (by
    show Steps p.tables e below (T102.setTop (mkF m 4 #[.val (.ref a1), .unset] [(.double x0)])) _
    refine XS.dconst0 X102.here hx rfl (hb hby d8_4) (v := (0 : UInt64)) rfl ?_
    show Steps p.tables e below (T102.setTop (mkF m 5 #[.val (.ref a1), .unset] [(.double (0 : UInt64)), (.double x0)])) _
    refine XS.daddS X102.here hx rfl (hb hby d8_5) rfl (nz0) rfl ?_
    exact k)
  obtain ⟨_, _, ⟨T105, L105, k105, n105⟩, -, X105, ⟨Lc105, hQ105, l105, y105, z105⟩, st105⟩ := Jvm.LawKit.callS X102 hx (y := (⟨"java/lang/Double", "hashCode", "(D)I"⟩ : MethodName)) hown (mvT hZ (hw _ (List.mem_of_getElem? (i := 46) rfl))) (mvT hZ (hw _ (List.mem_of_getElem? (i := 47) rfl))) (mvT hZ (hw _ (List.mem_of_getElem? (i := 15) rfl))) (mvT hZ (hw _ (List.mem_of_getElem? (i := 48) rfl))) (by decide) (backOf (W := 0) (rm9 l Z a0 hw [] (FP.dadd x0 (0 : UInt64)) h0 n0 Z0 nz0) hZ (hw _ (List.mem_of_getElem? (i := 48) rfl)) (hw _ (List.mem_of_getElem? (i := 15) rfl)) (by decide) (by decide)) (g := (mkF m 6 #[.val (.ref a1), .unset] [(.double (FP.dadd x0 (0 : UInt64)))])) rfl (by rw [hml]; rfl) (argsL := [(.double (FP.dadd x0 (0 : UInt64)))]) (rest := []) (lenOf pd__28D_29I rfl) rfl (by show 2 * 0 + _ ≤ _; exact Nat.le_of_eq rfl) (hb hby d8_6) (fun _ _ => ⟨rfl, e102, (by decide : 0 + 0 ≤ _), (by decide : 0 + 0 ≤ _)⟩)
  dsimp only [Pt.U, Pt.locs, Pt.cells, Pt.slots] at X105 l105 y105 z105 st105 hQ105
  subst l105 y105 z105
  obtain ⟨rfl, N105q, e105⟩ := hQ105
  have N106 := Fr.app N0 N105q
  have k107 : ∀ t, Steps p.tables e below (T105.setTop (mkF m 9 #[.val (.ref a1), .unset] [(.int (own_h (FP.dadd x0 (0 : UInt64))))])) t → Steps p.tables e below (s₁.setTop (entryFrame m #[(.ref a1)] 2)) t := fun t k => k104 t (st105 t k)
  have k108 : ∀ t, Steps p.tables e below (T105.setTop (mkF m 15 #[.val (.ref a1), .val (.int (own_h (FP.dadd x0 (0 : UInt64))))] [(.ref a1), (.int ((31 : Int32) * (own_h (FP.dadd x0 (0 : UInt64)))))])) t → Steps p.tables e below (s₁.setTop (entryFrame m #[(.ref a1)] 2)) t := fun t k => k107 t (by
    show Steps p.tables e below (T105.setTop (mkF m 9 #[.val (.ref a1), .unset] [(.int (own_h (FP.dadd x0 (0 : UInt64))))])) _
    refine XS.istoreN X105.here hx rfl (hb hby d8_9) rfl (l' := #[.val (.ref a1), .val (.int (own_h (FP.dadd x0 (0 : UInt64))))]) rfl ?_
    show Steps p.tables e below (T105.setTop (mkF m 10 #[.val (.ref a1), .val (.int (own_h (FP.dadd x0 (0 : UInt64))))] [])) _
    refine XS.bipush X105.here hx rfl (hb hby d8_10) ?_
    show Steps p.tables e below (T105.setTop (mkF m 12 #[.val (.ref a1), .val (.int (own_h (FP.dadd x0 (0 : UInt64))))] [(.int (31 : Int32))])) _
    refine XS.iloadN X105.here hx rfl (hb hby d8_12) rfl ?_
    show Steps p.tables e below (T105.setTop (mkF m 13 #[.val (.ref a1), .val (.int (own_h (FP.dadd x0 (0 : UInt64))))] [(.int (own_h (FP.dadd x0 (0 : UInt64)))), (.int (31 : Int32))])) _
    refine XS.imul X105.here hx rfl (hb hby d8_13) rfl ?_
    show Steps p.tables e below (T105.setTop (mkF m 14 #[.val (.ref a1), .val (.int (own_h (FP.dadd x0 (0 : UInt64))))] [(.int ((31 : Int32) * (own_h (FP.dadd x0 (0 : UInt64)))))])) _
    refine XS.aloadN X105.here hx rfl (hb hby d8_14) rfl rfl ?_
    exact k)
  obtain ⟨T109, X109, e109, st109⟩ := getF X105 hx hZ hown (host := "") (Or.inl (hw _ (List.mem_of_getElem? (i := 24) rfl))) Via.refl e105 F1 (g := (mkF m 15 #[.val (.ref a1), .val (.int (own_h (FP.dadd x0 (0 : UInt64))))] [(.ref a1), (.int ((31 : Int32) * (own_h (FP.dadd x0 (0 : UInt64)))))])) rfl rfl (hb hby d8_15)
  have k110 : ∀ t, Steps p.tables e below (T109.setTop (mkF m 18 #[.val (.ref a1), .val (.int (own_h (FP.dadd x0 (0 : UInt64))))] [(.double x1), (.int ((31 : Int32) * (own_h (FP.dadd x0 (0 : UInt64)))))])) t → Steps p.tables e below (s₁.setTop (entryFrame m #[(.ref a1)] 2)) t := fun t k => k108 t (st109 t k)
  have k111 : ∀ t, Steps p.tables e below (T109.setTop (mkF m 20 #[.val (.ref a1), .val (.int (own_h (FP.dadd x0 (0 : UInt64))))] [(.double (FP.dadd x1 (0 : UInt64))), (.int ((31 : Int32) * (own_h (FP.dadd x0 (0 : UInt64)))))])) t → Steps p.tables e below (s₁.setTop (entryFrame m #[(.ref a1)] 2)) t := fun t k => k110 t (by
    show Steps p.tables e below (T109.setTop (mkF m 18 #[.val (.ref a1), .val (.int (own_h (FP.dadd x0 (0 : UInt64))))] [(.double x1), (.int ((31 : Int32) * (own_h (FP.dadd x0 (0 : UInt64)))))])) _
    refine XS.dconst0 X109.here hx rfl (hb hby d8_18) (v := (0 : UInt64)) rfl ?_
    show Steps p.tables e below (T109.setTop (mkF m 19 #[.val (.ref a1), .val (.int (own_h (FP.dadd x0 (0 : UInt64))))] [(.double (0 : UInt64)), (.double x1), (.int ((31 : Int32) * (own_h (FP.dadd x0 (0 : UInt64)))))])) _
    refine XS.daddS X109.here hx rfl (hb hby d8_19) rfl (nz1) rfl ?_
    exact k)
  obtain ⟨_, _, ⟨T112, L112, k112, n112⟩, -, X112, ⟨Lc112, hQ112, l112, y112, z112⟩, st112⟩ := Jvm.LawKit.callS X109 hx (y := (⟨"java/lang/Double", "hashCode", "(D)I"⟩ : MethodName)) hown (mvT hZ (hw _ (List.mem_of_getElem? (i := 46) rfl))) (mvT hZ (hw _ (List.mem_of_getElem? (i := 47) rfl))) (mvT hZ (hw _ (List.mem_of_getElem? (i := 15) rfl))) (mvT hZ (hw _ (List.mem_of_getElem? (i := 48) rfl))) (by decide) (backOf (W := 1) (rm9 l Z a0 hw [] (FP.dadd x1 (0 : UInt64)) h0 n0 Z0 nz1) hZ (hw _ (List.mem_of_getElem? (i := 48) rfl)) (hw _ (List.mem_of_getElem? (i := 15) rfl)) (by decide) (by decide)) (g := (mkF m 20 #[.val (.ref a1), .val (.int (own_h (FP.dadd x0 (0 : UInt64))))] [(.double (FP.dadd x1 (0 : UInt64))), (.int ((31 : Int32) * (own_h (FP.dadd x0 (0 : UInt64)))))])) rfl (by rw [hml]; rfl) (argsL := [(.double (FP.dadd x1 (0 : UInt64)))]) (rest := [(.int ((31 : Int32) * (own_h (FP.dadd x0 (0 : UInt64)))))]) (lenOf pd__28D_29I rfl) rfl (by show 2 * 0 + _ ≤ _; exact Nat.le_of_eq rfl) (hb hby d8_20) (fun _ _ => ⟨rfl, e109, (by decide : 0 + 0 ≤ _), (by decide : 0 + 0 ≤ _)⟩)
  dsimp only [Pt.U, Pt.locs, Pt.cells, Pt.slots] at X112 l112 y112 z112 st112 hQ112
  subst l112 y112 z112
  obtain ⟨rfl, N112q, e112⟩ := hQ112
  have N113 := Fr.app N106 N112q
  have k114 : ∀ t, Steps p.tables e below (T112.setTop (mkF m 23 #[.val (.ref a1), .val (.int (own_h (FP.dadd x0 (0 : UInt64))))] [(.int (own_h (FP.dadd x1 (0 : UInt64)))), (.int ((31 : Int32) * (own_h (FP.dadd x0 (0 : UInt64)))))])) t → Steps p.tables e below (s₁.setTop (entryFrame m #[(.ref a1)] 2)) t := fun t k => k111 t (st112 t k)
  have k115 : ∀ t, Steps p.tables e below (T112.setTop (mkF m 30 #[.val (.ref a1), .val (.int (((31 : Int32) * (own_h (FP.dadd x0 (0 : UInt64)))) + (own_h (FP.dadd x1 (0 : UInt64)))))] [(.ref a1), (.int ((31 : Int32) * (((31 : Int32) * (own_h (FP.dadd x0 (0 : UInt64)))) + (own_h (FP.dadd x1 (0 : UInt64))))))])) t → Steps p.tables e below (s₁.setTop (entryFrame m #[(.ref a1)] 2)) t := fun t k => k114 t (by
    show Steps p.tables e below (T112.setTop (mkF m 23 #[.val (.ref a1), .val (.int (own_h (FP.dadd x0 (0 : UInt64))))] [(.int (own_h (FP.dadd x1 (0 : UInt64)))), (.int ((31 : Int32) * (own_h (FP.dadd x0 (0 : UInt64)))))])) _
    refine XS.iadd X112.here hx rfl (hb hby d8_23) rfl ?_
    show Steps p.tables e below (T112.setTop (mkF m 24 #[.val (.ref a1), .val (.int (own_h (FP.dadd x0 (0 : UInt64))))] [(.int (((31 : Int32) * (own_h (FP.dadd x0 (0 : UInt64)))) + (own_h (FP.dadd x1 (0 : UInt64)))))])) _
    refine XS.istoreN X112.here hx rfl (hb hby d8_24) rfl (l' := #[.val (.ref a1), .val (.int (((31 : Int32) * (own_h (FP.dadd x0 (0 : UInt64)))) + (own_h (FP.dadd x1 (0 : UInt64)))))]) rfl ?_
    show Steps p.tables e below (T112.setTop (mkF m 25 #[.val (.ref a1), .val (.int (((31 : Int32) * (own_h (FP.dadd x0 (0 : UInt64)))) + (own_h (FP.dadd x1 (0 : UInt64)))))] [])) _
    refine XS.bipush X112.here hx rfl (hb hby d8_25) ?_
    show Steps p.tables e below (T112.setTop (mkF m 27 #[.val (.ref a1), .val (.int (((31 : Int32) * (own_h (FP.dadd x0 (0 : UInt64)))) + (own_h (FP.dadd x1 (0 : UInt64)))))] [(.int (31 : Int32))])) _
    refine XS.iloadN X112.here hx rfl (hb hby d8_27) rfl ?_
    show Steps p.tables e below (T112.setTop (mkF m 28 #[.val (.ref a1), .val (.int (((31 : Int32) * (own_h (FP.dadd x0 (0 : UInt64)))) + (own_h (FP.dadd x1 (0 : UInt64)))))] [(.int (((31 : Int32) * (own_h (FP.dadd x0 (0 : UInt64)))) + (own_h (FP.dadd x1 (0 : UInt64))))), (.int (31 : Int32))])) _
    refine XS.imul X112.here hx rfl (hb hby d8_28) rfl ?_
    show Steps p.tables e below (T112.setTop (mkF m 29 #[.val (.ref a1), .val (.int (((31 : Int32) * (own_h (FP.dadd x0 (0 : UInt64)))) + (own_h (FP.dadd x1 (0 : UInt64)))))] [(.int ((31 : Int32) * (((31 : Int32) * (own_h (FP.dadd x0 (0 : UInt64)))) + (own_h (FP.dadd x1 (0 : UInt64))))))])) _
    refine XS.aloadN X112.here hx rfl (hb hby d8_29) rfl rfl ?_
    exact k)
  obtain ⟨T116, X116, e116, st116⟩ := getF X112 hx hZ hown (host := "") (Or.inl (hw _ (List.mem_of_getElem? (i := 26) rfl))) Via.refl e112 F2 (g := (mkF m 30 #[.val (.ref a1), .val (.int (((31 : Int32) * (own_h (FP.dadd x0 (0 : UInt64)))) + (own_h (FP.dadd x1 (0 : UInt64)))))] [(.ref a1), (.int ((31 : Int32) * (((31 : Int32) * (own_h (FP.dadd x0 (0 : UInt64)))) + (own_h (FP.dadd x1 (0 : UInt64))))))])) rfl rfl (hb hby d8_30)
  have k117 : ∀ t, Steps p.tables e below (T116.setTop (mkF m 33 #[.val (.ref a1), .val (.int (((31 : Int32) * (own_h (FP.dadd x0 (0 : UInt64)))) + (own_h (FP.dadd x1 (0 : UInt64)))))] [(.double x2), (.int ((31 : Int32) * (((31 : Int32) * (own_h (FP.dadd x0 (0 : UInt64)))) + (own_h (FP.dadd x1 (0 : UInt64))))))])) t → Steps p.tables e below (s₁.setTop (entryFrame m #[(.ref a1)] 2)) t := fun t k => k115 t (st116 t k)
  have k118 : ∀ t, Steps p.tables e below (T116.setTop (mkF m 35 #[.val (.ref a1), .val (.int (((31 : Int32) * (own_h (FP.dadd x0 (0 : UInt64)))) + (own_h (FP.dadd x1 (0 : UInt64)))))] [(.double (FP.dadd x2 (0 : UInt64))), (.int ((31 : Int32) * (((31 : Int32) * (own_h (FP.dadd x0 (0 : UInt64)))) + (own_h (FP.dadd x1 (0 : UInt64))))))])) t → Steps p.tables e below (s₁.setTop (entryFrame m #[(.ref a1)] 2)) t := fun t k => k117 t (by
    show Steps p.tables e below (T116.setTop (mkF m 33 #[.val (.ref a1), .val (.int (((31 : Int32) * (own_h (FP.dadd x0 (0 : UInt64)))) + (own_h (FP.dadd x1 (0 : UInt64)))))] [(.double x2), (.int ((31 : Int32) * (((31 : Int32) * (own_h (FP.dadd x0 (0 : UInt64)))) + (own_h (FP.dadd x1 (0 : UInt64))))))])) _
    refine XS.dconst0 X116.here hx rfl (hb hby d8_33) (v := (0 : UInt64)) rfl ?_
    show Steps p.tables e below (T116.setTop (mkF m 34 #[.val (.ref a1), .val (.int (((31 : Int32) * (own_h (FP.dadd x0 (0 : UInt64)))) + (own_h (FP.dadd x1 (0 : UInt64)))))] [(.double (0 : UInt64)), (.double x2), (.int ((31 : Int32) * (((31 : Int32) * (own_h (FP.dadd x0 (0 : UInt64)))) + (own_h (FP.dadd x1 (0 : UInt64))))))])) _
    refine XS.daddS X116.here hx rfl (hb hby d8_34) rfl (nz2) rfl ?_
    exact k)
  obtain ⟨_, _, ⟨T119, L119, k119, n119⟩, -, X119, ⟨Lc119, hQ119, l119, y119, z119⟩, st119⟩ := Jvm.LawKit.callS X116 hx (y := (⟨"java/lang/Double", "hashCode", "(D)I"⟩ : MethodName)) hown (mvT hZ (hw _ (List.mem_of_getElem? (i := 46) rfl))) (mvT hZ (hw _ (List.mem_of_getElem? (i := 47) rfl))) (mvT hZ (hw _ (List.mem_of_getElem? (i := 15) rfl))) (mvT hZ (hw _ (List.mem_of_getElem? (i := 48) rfl))) (by decide) (backOf (W := 1) (rm9 l Z a0 hw [] (FP.dadd x2 (0 : UInt64)) h0 n0 Z0 nz2) hZ (hw _ (List.mem_of_getElem? (i := 48) rfl)) (hw _ (List.mem_of_getElem? (i := 15) rfl)) (by decide) (by decide)) (g := (mkF m 35 #[.val (.ref a1), .val (.int (((31 : Int32) * (own_h (FP.dadd x0 (0 : UInt64)))) + (own_h (FP.dadd x1 (0 : UInt64)))))] [(.double (FP.dadd x2 (0 : UInt64))), (.int ((31 : Int32) * (((31 : Int32) * (own_h (FP.dadd x0 (0 : UInt64)))) + (own_h (FP.dadd x1 (0 : UInt64))))))])) rfl (by rw [hml]; rfl) (argsL := [(.double (FP.dadd x2 (0 : UInt64)))]) (rest := [(.int ((31 : Int32) * (((31 : Int32) * (own_h (FP.dadd x0 (0 : UInt64)))) + (own_h (FP.dadd x1 (0 : UInt64))))))]) (lenOf pd__28D_29I rfl) rfl (by show 2 * 0 + _ ≤ _; exact Nat.le_of_eq rfl) (hb hby d8_35) (fun _ _ => ⟨rfl, e116, (by decide : 0 + 0 ≤ _), (by decide : 0 + 0 ≤ _)⟩)
  dsimp only [Pt.U, Pt.locs, Pt.cells, Pt.slots] at X119 l119 y119 z119 st119 hQ119
  subst l119 y119 z119
  obtain ⟨rfl, N119q, e119⟩ := hQ119
  have N120 := Fr.app N113 N119q
  have k121 : ∀ t, Steps p.tables e below (T119.setTop (mkF m 38 #[.val (.ref a1), .val (.int (((31 : Int32) * (own_h (FP.dadd x0 (0 : UInt64)))) + (own_h (FP.dadd x1 (0 : UInt64)))))] [(.int (own_h (FP.dadd x2 (0 : UInt64)))), (.int ((31 : Int32) * (((31 : Int32) * (own_h (FP.dadd x0 (0 : UInt64)))) + (own_h (FP.dadd x1 (0 : UInt64))))))])) t → Steps p.tables e below (s₁.setTop (entryFrame m #[(.ref a1)] 2)) t := fun t k => k118 t (st119 t k)
  have k122 : ∀ t, Steps p.tables e below (T119.setTop (mkF m 45 #[.val (.ref a1), .val (.int (((31 : Int32) * (((31 : Int32) * (own_h (FP.dadd x0 (0 : UInt64)))) + (own_h (FP.dadd x1 (0 : UInt64))))) + (own_h (FP.dadd x2 (0 : UInt64)))))] [(.ref a1), (.int ((31 : Int32) * (((31 : Int32) * (((31 : Int32) * (own_h (FP.dadd x0 (0 : UInt64)))) + (own_h (FP.dadd x1 (0 : UInt64))))) + (own_h (FP.dadd x2 (0 : UInt64))))))])) t → Steps p.tables e below (s₁.setTop (entryFrame m #[(.ref a1)] 2)) t := fun t k => k121 t (by
    show Steps p.tables e below (T119.setTop (mkF m 38 #[.val (.ref a1), .val (.int (((31 : Int32) * (own_h (FP.dadd x0 (0 : UInt64)))) + (own_h (FP.dadd x1 (0 : UInt64)))))] [(.int (own_h (FP.dadd x2 (0 : UInt64)))), (.int ((31 : Int32) * (((31 : Int32) * (own_h (FP.dadd x0 (0 : UInt64)))) + (own_h (FP.dadd x1 (0 : UInt64))))))])) _
    refine XS.iadd X119.here hx rfl (hb hby d8_38) rfl ?_
    show Steps p.tables e below (T119.setTop (mkF m 39 #[.val (.ref a1), .val (.int (((31 : Int32) * (own_h (FP.dadd x0 (0 : UInt64)))) + (own_h (FP.dadd x1 (0 : UInt64)))))] [(.int (((31 : Int32) * (((31 : Int32) * (own_h (FP.dadd x0 (0 : UInt64)))) + (own_h (FP.dadd x1 (0 : UInt64))))) + (own_h (FP.dadd x2 (0 : UInt64)))))])) _
    refine XS.istoreN X119.here hx rfl (hb hby d8_39) rfl (l' := #[.val (.ref a1), .val (.int (((31 : Int32) * (((31 : Int32) * (own_h (FP.dadd x0 (0 : UInt64)))) + (own_h (FP.dadd x1 (0 : UInt64))))) + (own_h (FP.dadd x2 (0 : UInt64)))))]) rfl ?_
    show Steps p.tables e below (T119.setTop (mkF m 40 #[.val (.ref a1), .val (.int (((31 : Int32) * (((31 : Int32) * (own_h (FP.dadd x0 (0 : UInt64)))) + (own_h (FP.dadd x1 (0 : UInt64))))) + (own_h (FP.dadd x2 (0 : UInt64)))))] [])) _
    refine XS.bipush X119.here hx rfl (hb hby d8_40) ?_
    show Steps p.tables e below (T119.setTop (mkF m 42 #[.val (.ref a1), .val (.int (((31 : Int32) * (((31 : Int32) * (own_h (FP.dadd x0 (0 : UInt64)))) + (own_h (FP.dadd x1 (0 : UInt64))))) + (own_h (FP.dadd x2 (0 : UInt64)))))] [(.int (31 : Int32))])) _
    refine XS.iloadN X119.here hx rfl (hb hby d8_42) rfl ?_
    show Steps p.tables e below (T119.setTop (mkF m 43 #[.val (.ref a1), .val (.int (((31 : Int32) * (((31 : Int32) * (own_h (FP.dadd x0 (0 : UInt64)))) + (own_h (FP.dadd x1 (0 : UInt64))))) + (own_h (FP.dadd x2 (0 : UInt64)))))] [(.int (((31 : Int32) * (((31 : Int32) * (own_h (FP.dadd x0 (0 : UInt64)))) + (own_h (FP.dadd x1 (0 : UInt64))))) + (own_h (FP.dadd x2 (0 : UInt64))))), (.int (31 : Int32))])) _
    refine XS.imul X119.here hx rfl (hb hby d8_43) rfl ?_
    show Steps p.tables e below (T119.setTop (mkF m 44 #[.val (.ref a1), .val (.int (((31 : Int32) * (((31 : Int32) * (own_h (FP.dadd x0 (0 : UInt64)))) + (own_h (FP.dadd x1 (0 : UInt64))))) + (own_h (FP.dadd x2 (0 : UInt64)))))] [(.int ((31 : Int32) * (((31 : Int32) * (((31 : Int32) * (own_h (FP.dadd x0 (0 : UInt64)))) + (own_h (FP.dadd x1 (0 : UInt64))))) + (own_h (FP.dadd x2 (0 : UInt64))))))])) _
    refine XS.aloadN X119.here hx rfl (hb hby d8_44) rfl rfl ?_
    exact k)
  obtain ⟨T123, X123, e123, st123⟩ := getF X119 hx hZ hown (host := "") (Or.inl (hw _ (List.mem_of_getElem? (i := 28) rfl))) Via.refl e119 F3 (g := (mkF m 45 #[.val (.ref a1), .val (.int (((31 : Int32) * (((31 : Int32) * (own_h (FP.dadd x0 (0 : UInt64)))) + (own_h (FP.dadd x1 (0 : UInt64))))) + (own_h (FP.dadd x2 (0 : UInt64)))))] [(.ref a1), (.int ((31 : Int32) * (((31 : Int32) * (((31 : Int32) * (own_h (FP.dadd x0 (0 : UInt64)))) + (own_h (FP.dadd x1 (0 : UInt64))))) + (own_h (FP.dadd x2 (0 : UInt64))))))])) rfl rfl (hb hby d8_45)
  have k124 : ∀ t, Steps p.tables e below (T123.setTop (mkF m 48 #[.val (.ref a1), .val (.int (((31 : Int32) * (((31 : Int32) * (own_h (FP.dadd x0 (0 : UInt64)))) + (own_h (FP.dadd x1 (0 : UInt64))))) + (own_h (FP.dadd x2 (0 : UInt64)))))] [(.double x3), (.int ((31 : Int32) * (((31 : Int32) * (((31 : Int32) * (own_h (FP.dadd x0 (0 : UInt64)))) + (own_h (FP.dadd x1 (0 : UInt64))))) + (own_h (FP.dadd x2 (0 : UInt64))))))])) t → Steps p.tables e below (s₁.setTop (entryFrame m #[(.ref a1)] 2)) t := fun t k => k122 t (st123 t k)
  have k125 : ∀ t, Steps p.tables e below (T123.setTop (mkF m 50 #[.val (.ref a1), .val (.int (((31 : Int32) * (((31 : Int32) * (own_h (FP.dadd x0 (0 : UInt64)))) + (own_h (FP.dadd x1 (0 : UInt64))))) + (own_h (FP.dadd x2 (0 : UInt64)))))] [(.double (FP.dadd x3 (0 : UInt64))), (.int ((31 : Int32) * (((31 : Int32) * (((31 : Int32) * (own_h (FP.dadd x0 (0 : UInt64)))) + (own_h (FP.dadd x1 (0 : UInt64))))) + (own_h (FP.dadd x2 (0 : UInt64))))))])) t → Steps p.tables e below (s₁.setTop (entryFrame m #[(.ref a1)] 2)) t := fun t k => k124 t (by
    show Steps p.tables e below (T123.setTop (mkF m 48 #[.val (.ref a1), .val (.int (((31 : Int32) * (((31 : Int32) * (own_h (FP.dadd x0 (0 : UInt64)))) + (own_h (FP.dadd x1 (0 : UInt64))))) + (own_h (FP.dadd x2 (0 : UInt64)))))] [(.double x3), (.int ((31 : Int32) * (((31 : Int32) * (((31 : Int32) * (own_h (FP.dadd x0 (0 : UInt64)))) + (own_h (FP.dadd x1 (0 : UInt64))))) + (own_h (FP.dadd x2 (0 : UInt64))))))])) _
    refine XS.dconst0 X123.here hx rfl (hb hby d8_48) (v := (0 : UInt64)) rfl ?_
    show Steps p.tables e below (T123.setTop (mkF m 49 #[.val (.ref a1), .val (.int (((31 : Int32) * (((31 : Int32) * (own_h (FP.dadd x0 (0 : UInt64)))) + (own_h (FP.dadd x1 (0 : UInt64))))) + (own_h (FP.dadd x2 (0 : UInt64)))))] [(.double (0 : UInt64)), (.double x3), (.int ((31 : Int32) * (((31 : Int32) * (((31 : Int32) * (own_h (FP.dadd x0 (0 : UInt64)))) + (own_h (FP.dadd x1 (0 : UInt64))))) + (own_h (FP.dadd x2 (0 : UInt64))))))])) _
    refine XS.daddS X123.here hx rfl (hb hby d8_49) rfl (nz3) rfl ?_
    exact k)
  obtain ⟨_, _, ⟨T126, L126, k126, n126⟩, -, X126, ⟨Lc126, hQ126, l126, y126, z126⟩, st126⟩ := Jvm.LawKit.callS X123 hx (y := (⟨"java/lang/Double", "hashCode", "(D)I"⟩ : MethodName)) hown (mvT hZ (hw _ (List.mem_of_getElem? (i := 46) rfl))) (mvT hZ (hw _ (List.mem_of_getElem? (i := 47) rfl))) (mvT hZ (hw _ (List.mem_of_getElem? (i := 15) rfl))) (mvT hZ (hw _ (List.mem_of_getElem? (i := 48) rfl))) (by decide) (backOf (W := 1) (rm9 l Z a0 hw [] (FP.dadd x3 (0 : UInt64)) h0 n0 Z0 nz3) hZ (hw _ (List.mem_of_getElem? (i := 48) rfl)) (hw _ (List.mem_of_getElem? (i := 15) rfl)) (by decide) (by decide)) (g := (mkF m 50 #[.val (.ref a1), .val (.int (((31 : Int32) * (((31 : Int32) * (own_h (FP.dadd x0 (0 : UInt64)))) + (own_h (FP.dadd x1 (0 : UInt64))))) + (own_h (FP.dadd x2 (0 : UInt64)))))] [(.double (FP.dadd x3 (0 : UInt64))), (.int ((31 : Int32) * (((31 : Int32) * (((31 : Int32) * (own_h (FP.dadd x0 (0 : UInt64)))) + (own_h (FP.dadd x1 (0 : UInt64))))) + (own_h (FP.dadd x2 (0 : UInt64))))))])) rfl (by rw [hml]; rfl) (argsL := [(.double (FP.dadd x3 (0 : UInt64)))]) (rest := [(.int ((31 : Int32) * (((31 : Int32) * (((31 : Int32) * (own_h (FP.dadd x0 (0 : UInt64)))) + (own_h (FP.dadd x1 (0 : UInt64))))) + (own_h (FP.dadd x2 (0 : UInt64))))))]) (lenOf pd__28D_29I rfl) rfl (by show 2 * 0 + _ ≤ _; exact Nat.le_of_eq rfl) (hb hby d8_50) (fun _ _ => ⟨rfl, e123, (by decide : 0 + 0 ≤ _), (by decide : 0 + 0 ≤ _)⟩)
  dsimp only [Pt.U, Pt.locs, Pt.cells, Pt.slots] at X126 l126 y126 z126 st126 hQ126
  subst l126 y126 z126
  obtain ⟨rfl, N126q, e126⟩ := hQ126
  have N127 := Fr.app N120 N126q
  have k128 : ∀ t, Steps p.tables e below (T126.setTop (mkF m 53 #[.val (.ref a1), .val (.int (((31 : Int32) * (((31 : Int32) * (own_h (FP.dadd x0 (0 : UInt64)))) + (own_h (FP.dadd x1 (0 : UInt64))))) + (own_h (FP.dadd x2 (0 : UInt64)))))] [(.int (own_h (FP.dadd x3 (0 : UInt64)))), (.int ((31 : Int32) * (((31 : Int32) * (((31 : Int32) * (own_h (FP.dadd x0 (0 : UInt64)))) + (own_h (FP.dadd x1 (0 : UInt64))))) + (own_h (FP.dadd x2 (0 : UInt64))))))])) t → Steps p.tables e below (s₁.setTop (entryFrame m #[(.ref a1)] 2)) t := fun t k => k125 t (st126 t k)
  have k129 : ∀ t, Steps p.tables e below (T126.setTop (mkF m 56 #[.val (.ref a1), .val (.int (((31 : Int32) * (((31 : Int32) * (((31 : Int32) * (own_h (FP.dadd x0 (0 : UInt64)))) + (own_h (FP.dadd x1 (0 : UInt64))))) + (own_h (FP.dadd x2 (0 : UInt64))))) + (own_h (FP.dadd x3 (0 : UInt64)))))] [(.int (((31 : Int32) * (((31 : Int32) * (((31 : Int32) * (own_h (FP.dadd x0 (0 : UInt64)))) + (own_h (FP.dadd x1 (0 : UInt64))))) + (own_h (FP.dadd x2 (0 : UInt64))))) + (own_h (FP.dadd x3 (0 : UInt64)))))])) t → Steps p.tables e below (s₁.setTop (entryFrame m #[(.ref a1)] 2)) t := fun t k => k128 t (by
    show Steps p.tables e below (T126.setTop (mkF m 53 #[.val (.ref a1), .val (.int (((31 : Int32) * (((31 : Int32) * (own_h (FP.dadd x0 (0 : UInt64)))) + (own_h (FP.dadd x1 (0 : UInt64))))) + (own_h (FP.dadd x2 (0 : UInt64)))))] [(.int (own_h (FP.dadd x3 (0 : UInt64)))), (.int ((31 : Int32) * (((31 : Int32) * (((31 : Int32) * (own_h (FP.dadd x0 (0 : UInt64)))) + (own_h (FP.dadd x1 (0 : UInt64))))) + (own_h (FP.dadd x2 (0 : UInt64))))))])) _
    refine XS.iadd X126.here hx rfl (hb hby d8_53) rfl ?_
    show Steps p.tables e below (T126.setTop (mkF m 54 #[.val (.ref a1), .val (.int (((31 : Int32) * (((31 : Int32) * (own_h (FP.dadd x0 (0 : UInt64)))) + (own_h (FP.dadd x1 (0 : UInt64))))) + (own_h (FP.dadd x2 (0 : UInt64)))))] [(.int (((31 : Int32) * (((31 : Int32) * (((31 : Int32) * (own_h (FP.dadd x0 (0 : UInt64)))) + (own_h (FP.dadd x1 (0 : UInt64))))) + (own_h (FP.dadd x2 (0 : UInt64))))) + (own_h (FP.dadd x3 (0 : UInt64)))))])) _
    refine XS.istoreN X126.here hx rfl (hb hby d8_54) rfl (l' := #[.val (.ref a1), .val (.int (((31 : Int32) * (((31 : Int32) * (((31 : Int32) * (own_h (FP.dadd x0 (0 : UInt64)))) + (own_h (FP.dadd x1 (0 : UInt64))))) + (own_h (FP.dadd x2 (0 : UInt64))))) + (own_h (FP.dadd x3 (0 : UInt64)))))]) rfl ?_
    show Steps p.tables e below (T126.setTop (mkF m 55 #[.val (.ref a1), .val (.int (((31 : Int32) * (((31 : Int32) * (((31 : Int32) * (own_h (FP.dadd x0 (0 : UInt64)))) + (own_h (FP.dadd x1 (0 : UInt64))))) + (own_h (FP.dadd x2 (0 : UInt64))))) + (own_h (FP.dadd x3 (0 : UInt64)))))] [])) _
    refine XS.iloadN X126.here hx rfl (hb hby d8_55) rfl ?_
    exact k)
  obtain ⟨fs, hr, hrun, hended, hW, hsame⟩ := X126.leave (v := some (.int (((31 : Int32) * (((31 : Int32) * (((31 : Int32) * (own_h (FP.dadd x0 (0 : UInt64)))) + (own_h (FP.dadd x1 (0 : UInt64))))) + (own_h (FP.dadd x2 (0 : UInt64))))) + (own_h (FP.dadd x3 (0 : UInt64)))))) (fun h => by rw [Bd.returns] at h; cases h)
  refine ⟨_, _, k129 _ (retOut X126 hx (t := .int) Bd.returns rfl (Or.inl ⟨rfl, Or.inl rfl, _, rfl⟩) (hb hby d8_56) hr), hrun, hended, _, _, rfl, ?_, ⟨_, rfl⟩, hW, hsame.mono (by decide) (by decide)⟩
  show Q_rm8 Z a1 x0 x1 x2 x3 h0 n0 _ T126.heap _
  rw [e126]
  exact ⟨rfl, N127, rfl⟩
theorem ef_0_IIIII (m : MethodId) (x0 : Int32) (x1 : Int32) (x2 : Int32) (x3 : Int32) (x4 : Int32) : entryFrame m #[(.int x0), (.int x1), (.int x2), (.int x3), (.int x4)] maxLocals = mkF m 0 #[.val (.int x0), .val (.int x1), .val (.int x2), .val (.int x3), .val (.int x4), .unset, .unset, .unset, .unset, .unset, .unset] [] := by first | (simp [entryFrame, mkF, argsToLocals, Value.category, maxLocals]; done) | rfl
theorem pd__28DDDD_29V : parseMethodDescriptor "(DDDD)V" = some ⟨[.double, .double, .double, .double], none⟩ := by decide +kernel
theorem pd__28IZ_29D : parseMethodDescriptor "(IZ)D" = some ⟨[.int, .boolean], some .double⟩ := by decide +kernel
theorem pd__28Ljava_2flang_2fObject_3b_29Z : parseMethodDescriptor "(Ljava/lang/Object;)Z" = some ⟨[(.object "java/lang/Object")], some .boolean⟩ := by decide +kernel
theorem pd__28_29I : parseMethodDescriptor "()I" = some ⟨[], some .int⟩ := by decide +kernel
def Q_rm0 (Z : State) (pp : Int32) (qq : Int32) (rr : Int32) (ss : Int32) (ff : Int32) (h0 : Heap) (n0 : Nat) (v : Option Value) (h : Heap) (L : List Loc) : Prop := v = some (.int 1) ∧ Fr n0 L
set_option maxRecDepth 65536 in
set_option maxHeartbeats 40000000 in
theorem rm0 (l : Launch) (Z : State) (a0 : Array Value) (hw : ∀ d ∈ tables_1, d.before a0 Z = true) (ws : List Jvm.Cond) (pp : Int32) (qq : Int32) (rr : Int32) (ss : Int32) (ff : Int32) (h0 : Heap) (n0 : Nat) (Z0 : n0 ≤ h0.size) :
    MetFree l x (head1 (Jvm.Cond.code x code maxLocals ret :: ws) room_1) (fun a U => a = #[(.int pp), (.int qq), (.int rr), (.int ss), (.int ff)] ∧ Z.Warmed39 U.vm ∧ U.heap = h0) (fun _ _ _ _ _ => True) (fun _ U o U' => ∃ v L, o = .returned v ∧ Q_rm0 Z pp qq rr ss ff h0 n0 v U'.heap L ∧ FrameEnd U o U' L room_1.cells room_1.slots) := by
  refine MetFree.of_bodySF (plainFor_of_name pn_com_2fexample_2fhoja_2fhoja_2fmodel_2fBoxHashCodePinLaw) hisR ?_
  intro p e s m args below meth c s₁ Bd hml0 hP hK
  obtain ⟨rfl, hZ, hh⟩ := hP
  have hx := Bd.exec
  have hby := Bd.bytes
  have hml : c.maxLocals = 11 := hml0
  have hown : s.vm.findClass "com/example/hoja/hoja/model/BoxHashCodePinLaw" = some m.cls := findClass_of_methodNamed Bd.named
  have hnm := (name_of_methodNamed Bd.named Bd.method).1
  have X0 : Stand p l e room_1 s m #[(.int pp), (.int qq), (.int rr), (.int ss), (.int ff)] below meth c s₁ [] 0 0 := Stand.of_body Bd
  have e0 : s₁.heap = h0 := by rw [← hh, Bd.state]; rfl
  have N0 := Fr.nil n0
  have k0 : ∀ t, Steps p.tables e below (s₁.setTop (mkF m 0 #[.val (.int pp), .val (.int qq), .val (.int rr), .val (.int ss), .val (.int ff), .unset, .unset, .unset, .unset, .unset, .unset] [])) t → Steps p.tables e below (s₁.setTop (entryFrame m #[(.int pp), (.int qq), (.int rr), (.int ss), (.int ff)] maxLocals)) t := fun t k => castTop (ef_0_IIIII m pp qq rr ss ff) k
  have k101 : ∀ t, Steps p.tables e below (s₁.setTop (mkF m 4 #[.val (.int pp), .val (.int qq), .val (.int rr), .val (.int ss), .val (.int ff), .unset, .unset, .unset, .unset, .unset, .unset] [(.int (ff &&& (1 : Int32)))])) t → Steps p.tables e below (s₁.setTop (entryFrame m #[(.int pp), (.int qq), (.int rr), (.int ss), (.int ff)] maxLocals)) t := fun t k => k0 t (by
    show Steps p.tables e below (s₁.setTop (mkF m 0 #[.val (.int pp), .val (.int qq), .val (.int rr), .val (.int ss), .val (.int ff), .unset, .unset, .unset, .unset, .unset, .unset] [])) _
    refine XS.iload X0.here hx rfl (hb hby at_0) rfl ?_
    show Steps p.tables e below (s₁.setTop (mkF m 2 #[.val (.int pp), .val (.int qq), .val (.int rr), .val (.int ss), .val (.int ff), .unset, .unset, .unset, .unset, .unset, .unset] [(.int ff)])) _
    refine XS.iconst X0.here hx rfl (hb hby at_2) ?_
    show Steps p.tables e below (s₁.setTop (mkF m 3 #[.val (.int pp), .val (.int qq), .val (.int rr), .val (.int ss), .val (.int ff), .unset, .unset, .unset, .unset, .unset, .unset] [(.int (1 : Int32)), (.int ff)])) _
    refine XS.iand X0.here hx rfl (hb hby at_3) rfl ?_
    exact k)
  obtain ⟨i103, hi103⟩ : ∃ z : Int32, z = (if (ff &&& (1 : Int32)) = (0 : Int32) then pp else (0 : Int32)) := ⟨_, rfl⟩
  have k104 : ∀ t, Steps p.tables e below (s₁.setTop (mkF m 12 #[.val (.int pp), .val (.int qq), .val (.int rr), .val (.int ss), .val (.int ff), .unset, .unset, .unset, .unset, .unset, .unset] [(.int i103)])) t → Steps p.tables e below (s₁.setTop (entryFrame m #[(.int pp), (.int qq), (.int rr), (.int ss), (.int ff)] maxLocals)) t := fun t k => k101 t (by
    by_cases c102 : (ff &&& (1 : Int32)) = (0 : Int32)
    · rw [if_pos c102] at hi103
      show Steps p.tables e below (s₁.setTop (mkF m 4 #[.val (.int pp), .val (.int qq), .val (.int rr), .val (.int ss), .val (.int ff), .unset, .unset, .unset, .unset, .unset, .unset] [(.int (ff &&& (1 : Int32)))])) _
      refine XS.ifYes X0.here hx rfl (pc0 := 4) (pc' := 11) rfl (hb hby at_4) rfl ((if0 _ _).trans (teq c102).1) (by decide) (by decide) ?_
      show Steps p.tables e below (s₁.setTop (mkF m 11 #[.val (.int pp), .val (.int qq), .val (.int rr), .val (.int ss), .val (.int ff), .unset, .unset, .unset, .unset, .unset, .unset] [])) _
      refine XS.iloadN X0.here hx rfl (hb hby at_11) rfl ?_
      show Steps p.tables e below (s₁.setTop (mkF m 12 #[.val (.int pp), .val (.int qq), .val (.int rr), .val (.int ss), .val (.int ff), .unset, .unset, .unset, .unset, .unset, .unset] [(.int pp)])) _
      exact castTop (by rw [hi103]) k
    · rw [if_neg c102] at hi103
      show Steps p.tables e below (s₁.setTop (mkF m 4 #[.val (.int pp), .val (.int qq), .val (.int rr), .val (.int ss), .val (.int ff), .unset, .unset, .unset, .unset, .unset, .unset] [(.int (ff &&& (1 : Int32)))])) _
      refine XS.ifNo X0.here hx rfl (hb hby at_4) rfl ((if0 _ _).trans (feq c102).1) ?_
      show Steps p.tables e below (s₁.setTop (mkF m 7 #[.val (.int pp), .val (.int qq), .val (.int rr), .val (.int ss), .val (.int ff), .unset, .unset, .unset, .unset, .unset, .unset] [])) _
      refine XS.iconst X0.here hx rfl (hb hby at_7) ?_
      show Steps p.tables e below (s₁.setTop (mkF m 8 #[.val (.int pp), .val (.int qq), .val (.int rr), .val (.int ss), .val (.int ff), .unset, .unset, .unset, .unset, .unset, .unset] [(.int (0 : Int32))])) _
      refine XS.goto X0.here hx rfl (pc0 := 8) (pc' := 12) rfl (hb hby at_8) (by decide) (by decide) ?_
      show Steps p.tables e below (s₁.setTop (mkF m 12 #[.val (.int pp), .val (.int qq), .val (.int rr), .val (.int ss), .val (.int ff), .unset, .unset, .unset, .unset, .unset, .unset] [(.int (0 : Int32))])) _
      exact castTop (by rw [hi103]) k)
  have k105 : ∀ t, Steps p.tables e below (s₁.setTop (mkF m 18 #[.val (.int pp), .val (.int qq), .val (.int rr), .val (.int ss), .val (.int ff), .val (.int i103), .unset, .unset, .unset, .unset, .unset] [(.int (ff &&& (4 : Int32)))])) t → Steps p.tables e below (s₁.setTop (entryFrame m #[(.int pp), (.int qq), (.int rr), (.int ss), (.int ff)] maxLocals)) t := fun t k => k104 t (by
    show Steps p.tables e below (s₁.setTop (mkF m 12 #[.val (.int pp), .val (.int qq), .val (.int rr), .val (.int ss), .val (.int ff), .unset, .unset, .unset, .unset, .unset, .unset] [(.int i103)])) _
    refine XS.istore X0.here hx rfl (hb hby at_12) rfl (l' := #[.val (.int pp), .val (.int qq), .val (.int rr), .val (.int ss), .val (.int ff), .val (.int i103), .unset, .unset, .unset, .unset, .unset]) rfl ?_
    show Steps p.tables e below (s₁.setTop (mkF m 14 #[.val (.int pp), .val (.int qq), .val (.int rr), .val (.int ss), .val (.int ff), .val (.int i103), .unset, .unset, .unset, .unset, .unset] [])) _
    refine XS.iload X0.here hx rfl (hb hby at_14) rfl ?_
    show Steps p.tables e below (s₁.setTop (mkF m 16 #[.val (.int pp), .val (.int qq), .val (.int rr), .val (.int ss), .val (.int ff), .val (.int i103), .unset, .unset, .unset, .unset, .unset] [(.int ff)])) _
    refine XS.iconst X0.here hx rfl (hb hby at_16) ?_
    show Steps p.tables e below (s₁.setTop (mkF m 17 #[.val (.int pp), .val (.int qq), .val (.int rr), .val (.int ss), .val (.int ff), .val (.int i103), .unset, .unset, .unset, .unset, .unset] [(.int (4 : Int32)), (.int ff)])) _
    refine XS.iand X0.here hx rfl (hb hby at_17) rfl ?_
    exact k)
  obtain ⟨i107, hi107⟩ : ∃ z : Int32, z = (if (ff &&& (4 : Int32)) = (0 : Int32) then qq else (0 : Int32)) := ⟨_, rfl⟩
  have k108 : ∀ t, Steps p.tables e below (s₁.setTop (mkF m 26 #[.val (.int pp), .val (.int qq), .val (.int rr), .val (.int ss), .val (.int ff), .val (.int i103), .unset, .unset, .unset, .unset, .unset] [(.int i107)])) t → Steps p.tables e below (s₁.setTop (entryFrame m #[(.int pp), (.int qq), (.int rr), (.int ss), (.int ff)] maxLocals)) t := fun t k => k105 t (by
    by_cases c106 : (ff &&& (4 : Int32)) = (0 : Int32)
    · rw [if_pos c106] at hi107
      show Steps p.tables e below (s₁.setTop (mkF m 18 #[.val (.int pp), .val (.int qq), .val (.int rr), .val (.int ss), .val (.int ff), .val (.int i103), .unset, .unset, .unset, .unset, .unset] [(.int (ff &&& (4 : Int32)))])) _
      refine XS.ifYes X0.here hx rfl (pc0 := 18) (pc' := 25) rfl (hb hby at_18) rfl ((if0 _ _).trans (teq c106).1) (by decide) (by decide) ?_
      show Steps p.tables e below (s₁.setTop (mkF m 25 #[.val (.int pp), .val (.int qq), .val (.int rr), .val (.int ss), .val (.int ff), .val (.int i103), .unset, .unset, .unset, .unset, .unset] [])) _
      refine XS.iloadN X0.here hx rfl (hb hby at_25) rfl ?_
      show Steps p.tables e below (s₁.setTop (mkF m 26 #[.val (.int pp), .val (.int qq), .val (.int rr), .val (.int ss), .val (.int ff), .val (.int i103), .unset, .unset, .unset, .unset, .unset] [(.int qq)])) _
      exact castTop (by rw [hi107]) k
    · rw [if_neg c106] at hi107
      show Steps p.tables e below (s₁.setTop (mkF m 18 #[.val (.int pp), .val (.int qq), .val (.int rr), .val (.int ss), .val (.int ff), .val (.int i103), .unset, .unset, .unset, .unset, .unset] [(.int (ff &&& (4 : Int32)))])) _
      refine XS.ifNo X0.here hx rfl (hb hby at_18) rfl ((if0 _ _).trans (feq c106).1) ?_
      show Steps p.tables e below (s₁.setTop (mkF m 21 #[.val (.int pp), .val (.int qq), .val (.int rr), .val (.int ss), .val (.int ff), .val (.int i103), .unset, .unset, .unset, .unset, .unset] [])) _
      refine XS.iconst X0.here hx rfl (hb hby at_21) ?_
      show Steps p.tables e below (s₁.setTop (mkF m 22 #[.val (.int pp), .val (.int qq), .val (.int rr), .val (.int ss), .val (.int ff), .val (.int i103), .unset, .unset, .unset, .unset, .unset] [(.int (0 : Int32))])) _
      refine XS.goto X0.here hx rfl (pc0 := 22) (pc' := 26) rfl (hb hby at_22) (by decide) (by decide) ?_
      show Steps p.tables e below (s₁.setTop (mkF m 26 #[.val (.int pp), .val (.int qq), .val (.int rr), .val (.int ss), .val (.int ff), .val (.int i103), .unset, .unset, .unset, .unset, .unset] [(.int (0 : Int32))])) _
      exact castTop (by rw [hi107]) k)
  have k109 : ∀ t, Steps p.tables e below (s₁.setTop (mkF m 33 #[.val (.int pp), .val (.int qq), .val (.int rr), .val (.int ss), .val (.int ff), .val (.int i103), .val (.int i107), .unset, .unset, .unset, .unset] [(.int (ff &&& (16 : Int32)))])) t → Steps p.tables e below (s₁.setTop (entryFrame m #[(.int pp), (.int qq), (.int rr), (.int ss), (.int ff)] maxLocals)) t := fun t k => k108 t (by
    show Steps p.tables e below (s₁.setTop (mkF m 26 #[.val (.int pp), .val (.int qq), .val (.int rr), .val (.int ss), .val (.int ff), .val (.int i103), .unset, .unset, .unset, .unset, .unset] [(.int i107)])) _
    refine XS.istore X0.here hx rfl (hb hby at_26) rfl (l' := #[.val (.int pp), .val (.int qq), .val (.int rr), .val (.int ss), .val (.int ff), .val (.int i103), .val (.int i107), .unset, .unset, .unset, .unset]) rfl ?_
    show Steps p.tables e below (s₁.setTop (mkF m 28 #[.val (.int pp), .val (.int qq), .val (.int rr), .val (.int ss), .val (.int ff), .val (.int i103), .val (.int i107), .unset, .unset, .unset, .unset] [])) _
    refine XS.iload X0.here hx rfl (hb hby at_28) rfl ?_
    show Steps p.tables e below (s₁.setTop (mkF m 30 #[.val (.int pp), .val (.int qq), .val (.int rr), .val (.int ss), .val (.int ff), .val (.int i103), .val (.int i107), .unset, .unset, .unset, .unset] [(.int ff)])) _
    refine XS.bipush X0.here hx rfl (hb hby at_30) ?_
    show Steps p.tables e below (s₁.setTop (mkF m 32 #[.val (.int pp), .val (.int qq), .val (.int rr), .val (.int ss), .val (.int ff), .val (.int i103), .val (.int i107), .unset, .unset, .unset, .unset] [(.int (16 : Int32)), (.int ff)])) _
    refine XS.iand X0.here hx rfl (hb hby at_32) rfl ?_
    exact k)
  obtain ⟨i111, hi111⟩ : ∃ z : Int32, z = (if (ff &&& (16 : Int32)) = (0 : Int32) then (rr &&& (2147483647 : Int32)) else (0 : Int32)) := ⟨_, rfl⟩
  have k112 : ∀ t, Steps p.tables e below (s₁.setTop (mkF m 44 #[.val (.int pp), .val (.int qq), .val (.int rr), .val (.int ss), .val (.int ff), .val (.int i103), .val (.int i107), .unset, .unset, .unset, .unset] [(.int i111)])) t → Steps p.tables e below (s₁.setTop (entryFrame m #[(.int pp), (.int qq), (.int rr), (.int ss), (.int ff)] maxLocals)) t := fun t k => k109 t (by
    by_cases c110 : (ff &&& (16 : Int32)) = (0 : Int32)
    · rw [if_pos c110] at hi111
      show Steps p.tables e below (s₁.setTop (mkF m 33 #[.val (.int pp), .val (.int qq), .val (.int rr), .val (.int ss), .val (.int ff), .val (.int i103), .val (.int i107), .unset, .unset, .unset, .unset] [(.int (ff &&& (16 : Int32)))])) _
      refine XS.ifYes X0.here hx rfl (pc0 := 33) (pc' := 40) rfl (hb hby at_33) rfl ((if0 _ _).trans (teq c110).1) (by decide) (by decide) ?_
      show Steps p.tables e below (s₁.setTop (mkF m 40 #[.val (.int pp), .val (.int qq), .val (.int rr), .val (.int ss), .val (.int ff), .val (.int i103), .val (.int i107), .unset, .unset, .unset, .unset] [])) _
      refine XS.iloadN X0.here hx rfl (hb hby at_40) rfl ?_
      show Steps p.tables e below (s₁.setTop (mkF m 41 #[.val (.int pp), .val (.int qq), .val (.int rr), .val (.int ss), .val (.int ff), .val (.int i103), .val (.int i107), .unset, .unset, .unset, .unset] [(.int rr)])) _
      refine X0.ldcInt hx hown (mvT hZ (hw _ (List.mem_of_getElem? (i := 0) rfl))) (g := (mkF m 41 #[.val (.int pp), .val (.int qq), .val (.int rr), .val (.int ss), .val (.int ff), .val (.int i103), .val (.int i107), .unset, .unset, .unset, .unset] [(.int rr)])) rfl (hb hby at_41) _ ?_
      show Steps p.tables e below (s₁.setTop (mkF m 43 #[.val (.int pp), .val (.int qq), .val (.int rr), .val (.int ss), .val (.int ff), .val (.int i103), .val (.int i107), .unset, .unset, .unset, .unset] [(.int (2147483647 : Int32)), (.int rr)])) _
      refine XS.iand X0.here hx rfl (hb hby at_43) rfl ?_
      show Steps p.tables e below (s₁.setTop (mkF m 44 #[.val (.int pp), .val (.int qq), .val (.int rr), .val (.int ss), .val (.int ff), .val (.int i103), .val (.int i107), .unset, .unset, .unset, .unset] [(.int (rr &&& (2147483647 : Int32)))])) _
      exact castTop (by rw [hi111]) k
    · rw [if_neg c110] at hi111
      show Steps p.tables e below (s₁.setTop (mkF m 33 #[.val (.int pp), .val (.int qq), .val (.int rr), .val (.int ss), .val (.int ff), .val (.int i103), .val (.int i107), .unset, .unset, .unset, .unset] [(.int (ff &&& (16 : Int32)))])) _
      refine XS.ifNo X0.here hx rfl (hb hby at_33) rfl ((if0 _ _).trans (feq c110).1) ?_
      show Steps p.tables e below (s₁.setTop (mkF m 36 #[.val (.int pp), .val (.int qq), .val (.int rr), .val (.int ss), .val (.int ff), .val (.int i103), .val (.int i107), .unset, .unset, .unset, .unset] [])) _
      refine XS.iconst X0.here hx rfl (hb hby at_36) ?_
      show Steps p.tables e below (s₁.setTop (mkF m 37 #[.val (.int pp), .val (.int qq), .val (.int rr), .val (.int ss), .val (.int ff), .val (.int i103), .val (.int i107), .unset, .unset, .unset, .unset] [(.int (0 : Int32))])) _
      refine XS.goto X0.here hx rfl (pc0 := 37) (pc' := 44) rfl (hb hby at_37) (by decide) (by decide) ?_
      show Steps p.tables e below (s₁.setTop (mkF m 44 #[.val (.int pp), .val (.int qq), .val (.int rr), .val (.int ss), .val (.int ff), .val (.int i103), .val (.int i107), .unset, .unset, .unset, .unset] [(.int (0 : Int32))])) _
      exact castTop (by rw [hi111]) k)
  have k113 : ∀ t, Steps p.tables e below (s₁.setTop (mkF m 51 #[.val (.int pp), .val (.int qq), .val (.int rr), .val (.int ss), .val (.int ff), .val (.int i103), .val (.int i107), .val (.int i111), .unset, .unset, .unset] [(.int (ff &&& (64 : Int32)))])) t → Steps p.tables e below (s₁.setTop (entryFrame m #[(.int pp), (.int qq), (.int rr), (.int ss), (.int ff)] maxLocals)) t := fun t k => k112 t (by
    show Steps p.tables e below (s₁.setTop (mkF m 44 #[.val (.int pp), .val (.int qq), .val (.int rr), .val (.int ss), .val (.int ff), .val (.int i103), .val (.int i107), .unset, .unset, .unset, .unset] [(.int i111)])) _
    refine XS.istore X0.here hx rfl (hb hby at_44) rfl (l' := #[.val (.int pp), .val (.int qq), .val (.int rr), .val (.int ss), .val (.int ff), .val (.int i103), .val (.int i107), .val (.int i111), .unset, .unset, .unset]) rfl ?_
    show Steps p.tables e below (s₁.setTop (mkF m 46 #[.val (.int pp), .val (.int qq), .val (.int rr), .val (.int ss), .val (.int ff), .val (.int i103), .val (.int i107), .val (.int i111), .unset, .unset, .unset] [])) _
    refine XS.iload X0.here hx rfl (hb hby at_46) rfl ?_
    show Steps p.tables e below (s₁.setTop (mkF m 48 #[.val (.int pp), .val (.int qq), .val (.int rr), .val (.int ss), .val (.int ff), .val (.int i103), .val (.int i107), .val (.int i111), .unset, .unset, .unset] [(.int ff)])) _
    refine XS.bipush X0.here hx rfl (hb hby at_48) ?_
    show Steps p.tables e below (s₁.setTop (mkF m 50 #[.val (.int pp), .val (.int qq), .val (.int rr), .val (.int ss), .val (.int ff), .val (.int i103), .val (.int i107), .val (.int i111), .unset, .unset, .unset] [(.int (64 : Int32)), (.int ff)])) _
    refine XS.iand X0.here hx rfl (hb hby at_50) rfl ?_
    exact k)
  obtain ⟨i115, hi115⟩ : ∃ z : Int32, z = (if (ff &&& (64 : Int32)) = (0 : Int32) then (ss &&& (2147483647 : Int32)) else (0 : Int32)) := ⟨_, rfl⟩
  have k116 : ∀ t, Steps p.tables e below (s₁.setTop (mkF m 62 #[.val (.int pp), .val (.int qq), .val (.int rr), .val (.int ss), .val (.int ff), .val (.int i103), .val (.int i107), .val (.int i111), .unset, .unset, .unset] [(.int i115)])) t → Steps p.tables e below (s₁.setTop (entryFrame m #[(.int pp), (.int qq), (.int rr), (.int ss), (.int ff)] maxLocals)) t := fun t k => k113 t (by
    by_cases c114 : (ff &&& (64 : Int32)) = (0 : Int32)
    · rw [if_pos c114] at hi115
      show Steps p.tables e below (s₁.setTop (mkF m 51 #[.val (.int pp), .val (.int qq), .val (.int rr), .val (.int ss), .val (.int ff), .val (.int i103), .val (.int i107), .val (.int i111), .unset, .unset, .unset] [(.int (ff &&& (64 : Int32)))])) _
      refine XS.ifYes X0.here hx rfl (pc0 := 51) (pc' := 58) rfl (hb hby at_51) rfl ((if0 _ _).trans (teq c114).1) (by decide) (by decide) ?_
      show Steps p.tables e below (s₁.setTop (mkF m 58 #[.val (.int pp), .val (.int qq), .val (.int rr), .val (.int ss), .val (.int ff), .val (.int i103), .val (.int i107), .val (.int i111), .unset, .unset, .unset] [])) _
      refine XS.iloadN X0.here hx rfl (hb hby at_58) rfl ?_
      show Steps p.tables e below (s₁.setTop (mkF m 59 #[.val (.int pp), .val (.int qq), .val (.int rr), .val (.int ss), .val (.int ff), .val (.int i103), .val (.int i107), .val (.int i111), .unset, .unset, .unset] [(.int ss)])) _
      refine X0.ldcInt hx hown (mvT hZ (hw _ (List.mem_of_getElem? (i := 0) rfl))) (g := (mkF m 59 #[.val (.int pp), .val (.int qq), .val (.int rr), .val (.int ss), .val (.int ff), .val (.int i103), .val (.int i107), .val (.int i111), .unset, .unset, .unset] [(.int ss)])) rfl (hb hby at_59) _ ?_
      show Steps p.tables e below (s₁.setTop (mkF m 61 #[.val (.int pp), .val (.int qq), .val (.int rr), .val (.int ss), .val (.int ff), .val (.int i103), .val (.int i107), .val (.int i111), .unset, .unset, .unset] [(.int (2147483647 : Int32)), (.int ss)])) _
      refine XS.iand X0.here hx rfl (hb hby at_61) rfl ?_
      show Steps p.tables e below (s₁.setTop (mkF m 62 #[.val (.int pp), .val (.int qq), .val (.int rr), .val (.int ss), .val (.int ff), .val (.int i103), .val (.int i107), .val (.int i111), .unset, .unset, .unset] [(.int (ss &&& (2147483647 : Int32)))])) _
      exact castTop (by rw [hi115]) k
    · rw [if_neg c114] at hi115
      show Steps p.tables e below (s₁.setTop (mkF m 51 #[.val (.int pp), .val (.int qq), .val (.int rr), .val (.int ss), .val (.int ff), .val (.int i103), .val (.int i107), .val (.int i111), .unset, .unset, .unset] [(.int (ff &&& (64 : Int32)))])) _
      refine XS.ifNo X0.here hx rfl (hb hby at_51) rfl ((if0 _ _).trans (feq c114).1) ?_
      show Steps p.tables e below (s₁.setTop (mkF m 54 #[.val (.int pp), .val (.int qq), .val (.int rr), .val (.int ss), .val (.int ff), .val (.int i103), .val (.int i107), .val (.int i111), .unset, .unset, .unset] [])) _
      refine XS.iconst X0.here hx rfl (hb hby at_54) ?_
      show Steps p.tables e below (s₁.setTop (mkF m 55 #[.val (.int pp), .val (.int qq), .val (.int rr), .val (.int ss), .val (.int ff), .val (.int i103), .val (.int i107), .val (.int i111), .unset, .unset, .unset] [(.int (0 : Int32))])) _
      refine XS.goto X0.here hx rfl (pc0 := 55) (pc' := 62) rfl (hb hby at_55) (by decide) (by decide) ?_
      show Steps p.tables e below (s₁.setTop (mkF m 62 #[.val (.int pp), .val (.int qq), .val (.int rr), .val (.int ss), .val (.int ff), .val (.int i103), .val (.int i107), .val (.int i111), .unset, .unset, .unset] [(.int (0 : Int32))])) _
      exact castTop (by rw [hi115]) k)
  have Bw : 0 ≤ i111.toInt := by rw [hi111]; exact own_nn rr _
  have Bh : 0 ≤ i115.toInt := by rw [hi115]; exact own_nn ss _
  have k117 : ∀ t, Steps p.tables e below (s₁.setTop (mkF m 64 #[.val (.int pp), .val (.int qq), .val (.int rr), .val (.int ss), .val (.int ff), .val (.int i103), .val (.int i107), .val (.int i111), .val (.int i115), .unset, .unset] [])) t → Steps p.tables e below (s₁.setTop (entryFrame m #[(.int pp), (.int qq), (.int rr), (.int ss), (.int ff)] maxLocals)) t := fun t k => k116 t (by
    show Steps p.tables e below (s₁.setTop (mkF m 62 #[.val (.int pp), .val (.int qq), .val (.int rr), .val (.int ss), .val (.int ff), .val (.int i103), .val (.int i107), .val (.int i111), .unset, .unset, .unset] [(.int i115)])) _
    refine XS.istore X0.here hx rfl (hb hby at_62) rfl (l' := #[.val (.int pp), .val (.int qq), .val (.int rr), .val (.int ss), .val (.int ff), .val (.int i103), .val (.int i107), .val (.int i111), .val (.int i115), .unset, .unset]) rfl ?_
    exact k)
  obtain ⟨T118, h118, X118, e118, E118, A118, D118, -, st118⟩ := newO X0 hx hZ hown (hw _ (List.mem_of_getElem? (i := 1) rfl)) (hw _ (List.mem_of_getElem? (i := 2) rfl)) (hw _ (List.mem_of_getElem? (i := 3) rfl)) e0 (g := (mkF m 64 #[.val (.int pp), .val (.int qq), .val (.int rr), .val (.int ss), .val (.int ff), .val (.int i103), .val (.int i107), .val (.int i111), .val (.int i115), .unset, .unset] [])) rfl (hb hby at_64) (by decide) (by decide)
  obtain ⟨b118, g118⟩ : ∃ z, z = h0.size := ⟨_, rfl⟩
  rw [← g118] at A118 D118 st118
  have g119 : n0 ≤ b118 := Nat.le_trans Z0 (Nat.le_of_eq g118.symm)
  have Z120 : n0 ≤ h118.size := Nat.le_trans Z0 E118.1
  have F121 : Fld Z h118 b118 "com/example/hoja/hoja/model/Box" "x" "D" (.double (0 : UInt64)) := D118 (Or.inr (hw _ (List.mem_of_getElem? (i := 23) rfl))) (ty := .double) (by decide)
  have F122 : Fld Z h118 b118 "com/example/hoja/hoja/model/Box" "y" "D" (.double (0 : UInt64)) := D118 (Or.inr (hw _ (List.mem_of_getElem? (i := 25) rfl))) (ty := .double) (by decide)
  have F123 : Fld Z h118 b118 "com/example/hoja/hoja/model/Box" "right" "D" (.double (0 : UInt64)) := D118 (Or.inr (hw _ (List.mem_of_getElem? (i := 27) rfl))) (ty := .double) (by decide)
  have F124 : Fld Z h118 b118 "com/example/hoja/hoja/model/Box" "bottom" "D" (.double (0 : UInt64)) := D118 (Or.inr (hw _ (List.mem_of_getElem? (i := 29) rfl))) (ty := .double) (by decide)
  have k125 : ∀ t, Steps p.tables e below (T118.setTop (mkF m 67 #[.val (.int pp), .val (.int qq), .val (.int rr), .val (.int ss), .val (.int ff), .val (.int i103), .val (.int i107), .val (.int i111), .val (.int i115), .unset, .unset] [(.ref b118)])) t → Steps p.tables e below (s₁.setTop (entryFrame m #[(.int pp), (.int qq), (.int rr), (.int ss), (.int ff)] maxLocals)) t := fun t k => k117 t (st118 t k)
  obtain ⟨v0, hv0⟩ : ∃ z : UInt64, FP.i2d i103 = z := ⟨_, rfl⟩
  have Dv0 : Dy (i103.toInt) (0) v0 := by rw [← hv0]; exact Dy.i2d _
  obtain ⟨v1, hv1⟩ : ∃ z : UInt64, FP.i2d i107 = z := ⟨_, rfl⟩
  have Dv1 : Dy (i107.toInt) (0) v1 := by rw [← hv1]; exact Dy.i2d _
  obtain ⟨v2, hv2⟩ : ∃ z : UInt64, FP.i2d i111 = z := ⟨_, rfl⟩
  have Dv2 : Dy (i111.toInt) (0) v2 := by rw [← hv2]; exact Dy.i2d _
  obtain ⟨v3, hv3⟩ : ∃ z : UInt64, FP.i2d i115 = z := ⟨_, rfl⟩
  have Dv3 : Dy (i115.toInt) (0) v3 := by rw [← hv3]; exact Dy.i2d _
  have Ds1 : Dy (i103.toInt + i111.toInt) 0 (FP.dadd v0 v2) := Dy.add Dv0 Dv2 (by have := rng32 i103; have := rng32 i111; omega) (by decide)
  have Ds2 : Dy (i107.toInt + i115.toInt) 0 (FP.dadd v1 v3) := Dy.add Dv1 Dv3 (by have := rng32 i107; have := rng32 i115; omega) (by decide)
  have k126 : ∀ t, Steps p.tables e below (T118.setTop (mkF m 80 #[.val (.int pp), .val (.int qq), .val (.int rr), .val (.int ss), .val (.int ff), .val (.int i103), .val (.int i107), .val (.int i111), .val (.int i115), .unset, .unset] [(.double v3), (.double v2), (.double v1), (.double v0), (.ref b118), (.ref b118)])) t → Steps p.tables e below (s₁.setTop (entryFrame m #[(.int pp), (.int qq), (.int rr), (.int ss), (.int ff)] maxLocals)) t := fun t k => k125 t (by
    show Steps p.tables e below (T118.setTop (mkF m 67 #[.val (.int pp), .val (.int qq), .val (.int rr), .val (.int ss), .val (.int ff), .val (.int i103), .val (.int i107), .val (.int i111), .val (.int i115), .unset, .unset] [(.ref b118)])) _
    refine XS.dup X118.here hx rfl (hb hby at_67) rfl rfl ?_
    show Steps p.tables e below (T118.setTop (mkF m 68 #[.val (.int pp), .val (.int qq), .val (.int rr), .val (.int ss), .val (.int ff), .val (.int i103), .val (.int i107), .val (.int i111), .val (.int i115), .unset, .unset] [(.ref b118), (.ref b118)])) _
    refine XS.iload X118.here hx rfl (hb hby at_68) rfl ?_
    show Steps p.tables e below (T118.setTop (mkF m 70 #[.val (.int pp), .val (.int qq), .val (.int rr), .val (.int ss), .val (.int ff), .val (.int i103), .val (.int i107), .val (.int i111), .val (.int i115), .unset, .unset] [(.int i103), (.ref b118), (.ref b118)])) _
    refine XS.i2dS X118.here hx rfl (hb hby at_70) rfl hv0 ?_
    show Steps p.tables e below (T118.setTop (mkF m 71 #[.val (.int pp), .val (.int qq), .val (.int rr), .val (.int ss), .val (.int ff), .val (.int i103), .val (.int i107), .val (.int i111), .val (.int i115), .unset, .unset] [(.double v0), (.ref b118), (.ref b118)])) _
    refine XS.iload X118.here hx rfl (hb hby at_71) rfl ?_
    show Steps p.tables e below (T118.setTop (mkF m 73 #[.val (.int pp), .val (.int qq), .val (.int rr), .val (.int ss), .val (.int ff), .val (.int i103), .val (.int i107), .val (.int i111), .val (.int i115), .unset, .unset] [(.int i107), (.double v0), (.ref b118), (.ref b118)])) _
    refine XS.i2dS X118.here hx rfl (hb hby at_73) rfl hv1 ?_
    show Steps p.tables e below (T118.setTop (mkF m 74 #[.val (.int pp), .val (.int qq), .val (.int rr), .val (.int ss), .val (.int ff), .val (.int i103), .val (.int i107), .val (.int i111), .val (.int i115), .unset, .unset] [(.double v1), (.double v0), (.ref b118), (.ref b118)])) _
    refine XS.iload X118.here hx rfl (hb hby at_74) rfl ?_
    show Steps p.tables e below (T118.setTop (mkF m 76 #[.val (.int pp), .val (.int qq), .val (.int rr), .val (.int ss), .val (.int ff), .val (.int i103), .val (.int i107), .val (.int i111), .val (.int i115), .unset, .unset] [(.int i111), (.double v1), (.double v0), (.ref b118), (.ref b118)])) _
    refine XS.i2dS X118.here hx rfl (hb hby at_76) rfl hv2 ?_
    show Steps p.tables e below (T118.setTop (mkF m 77 #[.val (.int pp), .val (.int qq), .val (.int rr), .val (.int ss), .val (.int ff), .val (.int i103), .val (.int i107), .val (.int i111), .val (.int i115), .unset, .unset] [(.double v2), (.double v1), (.double v0), (.ref b118), (.ref b118)])) _
    refine XS.iload X118.here hx rfl (hb hby at_77) rfl ?_
    show Steps p.tables e below (T118.setTop (mkF m 79 #[.val (.int pp), .val (.int qq), .val (.int rr), .val (.int ss), .val (.int ff), .val (.int i103), .val (.int i107), .val (.int i111), .val (.int i115), .unset, .unset] [(.int i115), (.double v2), (.double v1), (.double v0), (.ref b118), (.ref b118)])) _
    refine XS.i2dS X118.here hx rfl (hb hby at_79) rfl hv3 ?_
    exact k)
  obtain ⟨_, _, ⟨T127, L127, k127, n127⟩, -, X127, ⟨Lc127, hQ127, l127, y127, z127⟩, st127⟩ := X118.specialBack hx (y := (⟨"com/example/hoja/hoja/model/Box", "<init>", "(DDDD)V"⟩ : MethodName)) rfl hown (mvT hZ (hw _ (List.mem_of_getElem? (i := 4) rfl))) (mvT hZ (hw _ (List.mem_of_getElem? (i := 5) rfl))) (mvT hZ (hw _ (List.mem_of_getElem? (i := 6) rfl))) (by decide) (backOf (W := 1) (rm1 l Z a0 hw [] b118 v0 v1 v2 v3 h118 n0 Z120 F121 F122 F123 F124 A118 g119 (Dv2.ge (dy0 0) Bw .l) (Dv3.ge (dy0 0) Bh .l) Ds1.fin Ds2.fin Dv2.fin Dv3.fin) hZ (hw _ (List.mem_of_getElem? (i := 6) rfl)) (hw _ (List.mem_of_getElem? (i := 3) rfl)) (by decide) (by decide)) (g := (mkF m 80 #[.val (.int pp), .val (.int qq), .val (.int rr), .val (.int ss), .val (.int ff), .val (.int i103), .val (.int i107), .val (.int i111), .val (.int i115), .unset, .unset] [(.double v3), (.double v2), (.double v1), (.double v0), (.ref b118), (.ref b118)])) rfl (by rw [hml]; rfl) (Steps.refl _) (a := b118) (argsL := [(.double v0), (.double v1), (.double v2), (.double v3)]) (rest := [(.ref b118)]) (lenOf pd__28DDDD_29V rfl) rfl (by show 2 * 0 + _ ≤ _; exact Nat.le_of_eq rfl) (hb hby at_80) (fun _ _ => ⟨rfl, e118, (by decide : 1 + 0 ≤ _), (by decide : 4 + 0 ≤ _)⟩)
  dsimp only [Pt.U, Pt.locs, Pt.cells, Pt.slots] at X127 l127 y127 z127 st127 hQ127
  subst l127 y127 z127
  obtain ⟨h127, e127⟩ : ∃ h', T127.heap = h' := ⟨_, rfl⟩
  rw [e127] at hQ127
  obtain ⟨rfl, N127q, K127, G127e, G1270, G1271, G1272, G1273⟩ := hQ127
  have N128 := Fr.app N0 N127q
  have k129 : ∀ t, Steps p.tables e below (T127.setTop (mkF m 83 #[.val (.int pp), .val (.int qq), .val (.int rr), .val (.int ss), .val (.int ff), .val (.int i103), .val (.int i107), .val (.int i111), .val (.int i115), .unset, .unset] [(.ref b118)])) t → Steps p.tables e below (s₁.setTop (entryFrame m #[(.int pp), (.int qq), (.int rr), (.int ss), (.int ff)] maxLocals)) t := fun t k => k126 t (st127.trans k)
  have Da127 := Ds1
  have Db127 := Ds2
  have F130 := A118.keep K127
  have Z131 : n0 ≤ h127.size := Nat.le_trans Z120 K127.1
  have k132 : ∀ t, Steps p.tables e below (T127.setTop (mkF m 85 #[.val (.int pp), .val (.int qq), .val (.int rr), .val (.int ss), .val (.int ff), .val (.int i103), .val (.int i107), .val (.int i111), .val (.int i115), .val (.ref b118), .unset] [])) t → Steps p.tables e below (s₁.setTop (entryFrame m #[(.int pp), (.int qq), (.int rr), (.int ss), (.int ff)] maxLocals)) t := fun t k => k129 t (by
    show Steps p.tables e below (T127.setTop (mkF m 83 #[.val (.int pp), .val (.int qq), .val (.int rr), .val (.int ss), .val (.int ff), .val (.int i103), .val (.int i107), .val (.int i111), .val (.int i115), .unset, .unset] [(.ref b118)])) _
    refine XS.astore X127.here hx rfl (hb hby at_83) rfl rfl (l' := #[.val (.int pp), .val (.int qq), .val (.int rr), .val (.int ss), .val (.int ff), .val (.int i103), .val (.int i107), .val (.int i111), .val (.int i115), .val (.ref b118), .unset]) rfl ?_
    exact k)
  obtain ⟨T133, h133, X133, e133, E133, A133, D133, -, st133⟩ := newO X127 hx hZ hown (hw _ (List.mem_of_getElem? (i := 1) rfl)) (hw _ (List.mem_of_getElem? (i := 2) rfl)) (hw _ (List.mem_of_getElem? (i := 3) rfl)) e127 (g := (mkF m 85 #[.val (.int pp), .val (.int qq), .val (.int rr), .val (.int ss), .val (.int ff), .val (.int i103), .val (.int i107), .val (.int i111), .val (.int i115), .val (.ref b118), .unset] [])) rfl (hb hby at_85) (by decide) (by decide)
  obtain ⟨b133, g133⟩ : ∃ z, z = h127.size := ⟨_, rfl⟩
  rw [← g133] at A133 D133 st133
  have n134 : b118 ≠ b133 := Nat.ne_of_lt (Nat.lt_of_lt_of_le G127e.lt (Nat.le_of_eq g133.symm))
  have g135 : n0 ≤ b133 := Nat.le_trans Z131 (Nat.le_of_eq g133.symm)
  have F136 := G127e.ext E133
  have F137 := G1270.ext E133
  have F138 := G1271.ext E133
  have F139 := G1272.ext E133
  have F140 := G1273.ext E133
  have Z141 : n0 ≤ h133.size := Nat.le_trans Z131 E133.1
  have F142 : Fld Z h133 b133 "com/example/hoja/hoja/model/Box" "x" "D" (.double (0 : UInt64)) := D133 (Or.inr (hw _ (List.mem_of_getElem? (i := 23) rfl))) (ty := .double) (by decide)
  have F143 : Fld Z h133 b133 "com/example/hoja/hoja/model/Box" "y" "D" (.double (0 : UInt64)) := D133 (Or.inr (hw _ (List.mem_of_getElem? (i := 25) rfl))) (ty := .double) (by decide)
  have F144 : Fld Z h133 b133 "com/example/hoja/hoja/model/Box" "right" "D" (.double (0 : UInt64)) := D133 (Or.inr (hw _ (List.mem_of_getElem? (i := 27) rfl))) (ty := .double) (by decide)
  have F145 : Fld Z h133 b133 "com/example/hoja/hoja/model/Box" "bottom" "D" (.double (0 : UInt64)) := D133 (Or.inr (hw _ (List.mem_of_getElem? (i := 29) rfl))) (ty := .double) (by decide)
  have k146 : ∀ t, Steps p.tables e below (T133.setTop (mkF m 88 #[.val (.int pp), .val (.int qq), .val (.int rr), .val (.int ss), .val (.int ff), .val (.int i103), .val (.int i107), .val (.int i111), .val (.int i115), .val (.ref b118), .unset] [(.ref b133)])) t → Steps p.tables e below (s₁.setTop (entryFrame m #[(.int pp), (.int qq), (.int rr), (.int ss), (.int ff)] maxLocals)) t := fun t k => k132 t (st133 t k)
  have k147 : ∀ t, Steps p.tables e below (T133.setTop (mkF m 95 #[.val (.int pp), .val (.int qq), .val (.int rr), .val (.int ss), .val (.int ff), .val (.int i103), .val (.int i107), .val (.int i111), .val (.int i115), .val (.ref b118), .unset] [(.int (ff &&& (2 : Int32))), (.int i103), (.ref b133), (.ref b133)])) t → Steps p.tables e below (s₁.setTop (entryFrame m #[(.int pp), (.int qq), (.int rr), (.int ss), (.int ff)] maxLocals)) t := fun t k => k146 t (by
    show Steps p.tables e below (T133.setTop (mkF m 88 #[.val (.int pp), .val (.int qq), .val (.int rr), .val (.int ss), .val (.int ff), .val (.int i103), .val (.int i107), .val (.int i111), .val (.int i115), .val (.ref b118), .unset] [(.ref b133)])) _
    refine XS.dup X133.here hx rfl (hb hby at_88) rfl rfl ?_
    show Steps p.tables e below (T133.setTop (mkF m 89 #[.val (.int pp), .val (.int qq), .val (.int rr), .val (.int ss), .val (.int ff), .val (.int i103), .val (.int i107), .val (.int i111), .val (.int i115), .val (.ref b118), .unset] [(.ref b133), (.ref b133)])) _
    refine XS.iload X133.here hx rfl (hb hby at_89) rfl ?_
    show Steps p.tables e below (T133.setTop (mkF m 91 #[.val (.int pp), .val (.int qq), .val (.int rr), .val (.int ss), .val (.int ff), .val (.int i103), .val (.int i107), .val (.int i111), .val (.int i115), .val (.ref b118), .unset] [(.int i103), (.ref b133), (.ref b133)])) _
    refine XS.iload X133.here hx rfl (hb hby at_91) rfl ?_
    show Steps p.tables e below (T133.setTop (mkF m 93 #[.val (.int pp), .val (.int qq), .val (.int rr), .val (.int ss), .val (.int ff), .val (.int i103), .val (.int i107), .val (.int i111), .val (.int i115), .val (.ref b118), .unset] [(.int ff), (.int i103), (.ref b133), (.ref b133)])) _
    refine XS.iconst X133.here hx rfl (hb hby at_93) ?_
    show Steps p.tables e below (T133.setTop (mkF m 94 #[.val (.int pp), .val (.int qq), .val (.int rr), .val (.int ss), .val (.int ff), .val (.int i103), .val (.int i107), .val (.int i111), .val (.int i115), .val (.ref b118), .unset] [(.int (2 : Int32)), (.int ff), (.int i103), (.ref b133), (.ref b133)])) _
    refine XS.iand X133.here hx rfl (hb hby at_94) rfl ?_
    exact k)
  obtain ⟨i149, hi149⟩ : ∃ z : Int32, z = (if (ff &&& (2 : Int32)) = (0 : Int32) then (0 : Int32) else (1 : Int32)) := ⟨_, rfl⟩
  have k150 : ∀ t, Steps p.tables e below (T133.setTop (mkF m 103 #[.val (.int pp), .val (.int qq), .val (.int rr), .val (.int ss), .val (.int ff), .val (.int i103), .val (.int i107), .val (.int i111), .val (.int i115), .val (.ref b118), .unset] [(.int i149), (.int i103), (.ref b133), (.ref b133)])) t → Steps p.tables e below (s₁.setTop (entryFrame m #[(.int pp), (.int qq), (.int rr), (.int ss), (.int ff)] maxLocals)) t := fun t k => k147 t (by
    by_cases c148 : (ff &&& (2 : Int32)) = (0 : Int32)
    · rw [if_pos c148] at hi149
      show Steps p.tables e below (T133.setTop (mkF m 95 #[.val (.int pp), .val (.int qq), .val (.int rr), .val (.int ss), .val (.int ff), .val (.int i103), .val (.int i107), .val (.int i111), .val (.int i115), .val (.ref b118), .unset] [(.int (ff &&& (2 : Int32))), (.int i103), (.ref b133), (.ref b133)])) _
      refine XS.ifYes X133.here hx rfl (pc0 := 95) (pc' := 102) rfl (hb hby at_95) rfl ((if0 _ _).trans (teq c148).1) (by decide) (by decide) ?_
      show Steps p.tables e below (T133.setTop (mkF m 102 #[.val (.int pp), .val (.int qq), .val (.int rr), .val (.int ss), .val (.int ff), .val (.int i103), .val (.int i107), .val (.int i111), .val (.int i115), .val (.ref b118), .unset] [(.int i103), (.ref b133), (.ref b133)])) _
      refine XS.iconst X133.here hx rfl (hb hby at_102) ?_
      show Steps p.tables e below (T133.setTop (mkF m 103 #[.val (.int pp), .val (.int qq), .val (.int rr), .val (.int ss), .val (.int ff), .val (.int i103), .val (.int i107), .val (.int i111), .val (.int i115), .val (.ref b118), .unset] [(.int (0 : Int32)), (.int i103), (.ref b133), (.ref b133)])) _
      exact castTop (by rw [hi149]) k
    · rw [if_neg c148] at hi149
      show Steps p.tables e below (T133.setTop (mkF m 95 #[.val (.int pp), .val (.int qq), .val (.int rr), .val (.int ss), .val (.int ff), .val (.int i103), .val (.int i107), .val (.int i111), .val (.int i115), .val (.ref b118), .unset] [(.int (ff &&& (2 : Int32))), (.int i103), (.ref b133), (.ref b133)])) _
      refine XS.ifNo X133.here hx rfl (hb hby at_95) rfl ((if0 _ _).trans (feq c148).1) ?_
      show Steps p.tables e below (T133.setTop (mkF m 98 #[.val (.int pp), .val (.int qq), .val (.int rr), .val (.int ss), .val (.int ff), .val (.int i103), .val (.int i107), .val (.int i111), .val (.int i115), .val (.ref b118), .unset] [(.int i103), (.ref b133), (.ref b133)])) _
      refine XS.iconst X133.here hx rfl (hb hby at_98) ?_
      show Steps p.tables e below (T133.setTop (mkF m 99 #[.val (.int pp), .val (.int qq), .val (.int rr), .val (.int ss), .val (.int ff), .val (.int i103), .val (.int i107), .val (.int i111), .val (.int i115), .val (.ref b118), .unset] [(.int (1 : Int32)), (.int i103), (.ref b133), (.ref b133)])) _
      refine XS.goto X133.here hx rfl (pc0 := 99) (pc' := 103) rfl (hb hby at_99) (by decide) (by decide) ?_
      show Steps p.tables e below (T133.setTop (mkF m 103 #[.val (.int pp), .val (.int qq), .val (.int rr), .val (.int ss), .val (.int ff), .val (.int i103), .val (.int i107), .val (.int i111), .val (.int i115), .val (.ref b118), .unset] [(.int (1 : Int32)), (.int i103), (.ref b133), (.ref b133)])) _
      exact castTop (by rw [hi149]) k)
  obtain ⟨_, _, ⟨T151, L151, k151, n151⟩, -, X151, ⟨Lc151, hQ151, l151, y151, z151⟩, st151⟩ := Jvm.LawKit.callS X133 hx (y := (⟨"com/example/hoja/hoja/model/BoxHashCodePinLaw", "d", "(IZ)D"⟩ : MethodName)) hown (mvT hZ (hw _ (List.mem_of_getElem? (i := 30) rfl))) (mvT hZ (hw _ (List.mem_of_getElem? (i := 31) rfl))) (mvT hZ (hw _ (List.mem_of_getElem? (i := 32) rfl))) (mvT hZ (hw _ (List.mem_of_getElem? (i := 33) rfl))) (by decide) (backOf (W := 2) (rm6 l Z a0 hw [] i103 i149 h133 n0 Z141 ) hZ (hw _ (List.mem_of_getElem? (i := 33) rfl)) (hw _ (List.mem_of_getElem? (i := 32) rfl)) (by decide) (by decide)) (g := (mkF m 103 #[.val (.int pp), .val (.int qq), .val (.int rr), .val (.int ss), .val (.int ff), .val (.int i103), .val (.int i107), .val (.int i111), .val (.int i115), .val (.ref b118), .unset] [(.int i149), (.int i103), (.ref b133), (.ref b133)])) rfl (by rw [hml]; rfl) (argsL := [(.int i103), (.int i149)]) (rest := [(.ref b133), (.ref b133)]) (lenOf pd__28IZ_29D rfl) rfl (by show 2 * 0 + _ ≤ _; exact Nat.le_of_eq rfl) (hb hby at_103) (fun _ _ => ⟨rfl, e133, (by decide : 2 + 0 ≤ _), (by decide : 8 + 0 ≤ _)⟩)
  dsimp only [Pt.U, Pt.locs, Pt.cells, Pt.slots] at X151 l151 y151 z151 st151 hQ151
  subst l151 y151 z151
  obtain ⟨rfl, N151q, e151⟩ := hQ151
  have N152 := Fr.app N128 N151q
  have k153 : ∀ t, Steps p.tables e below (T151.setTop (mkF m 106 #[.val (.int pp), .val (.int qq), .val (.int rr), .val (.int ss), .val (.int ff), .val (.int i103), .val (.int i107), .val (.int i111), .val (.int i115), .val (.ref b118), .unset] [(.double (own_d i103 i149)), (.ref b133), (.ref b133)])) t → Steps p.tables e below (s₁.setTop (entryFrame m #[(.int pp), (.int qq), (.int rr), (.int ss), (.int ff)] maxLocals)) t := fun t k => k150 t (st151 t k)
  obtain ⟨b0', hb0'⟩ : ∃ z : UInt64, z = (own_d i103 i149) := ⟨_, rfl⟩
  have Db0' : Dy i103.toInt 0 b0' := by rw [hb0']; exact own_dd _ _
  have k154 : ∀ t, Steps p.tables e below (T151.setTop (mkF m 113 #[.val (.int pp), .val (.int qq), .val (.int rr), .val (.int ss), .val (.int ff), .val (.int i103), .val (.int i107), .val (.int i111), .val (.int i115), .val (.ref b118), .unset] [(.int (ff &&& (8 : Int32))), (.int i107), (.double b0'), (.ref b133), (.ref b133)])) t → Steps p.tables e below (s₁.setTop (entryFrame m #[(.int pp), (.int qq), (.int rr), (.int ss), (.int ff)] maxLocals)) t := fun t k => k153 t (by
    show Steps p.tables e below (T151.setTop (mkF m 106 #[.val (.int pp), .val (.int qq), .val (.int rr), .val (.int ss), .val (.int ff), .val (.int i103), .val (.int i107), .val (.int i111), .val (.int i115), .val (.ref b118), .unset] [(.double (own_d i103 i149)), (.ref b133), (.ref b133)])) _
    refine castTop (g' := (mkF m 106 #[.val (.int pp), .val (.int qq), .val (.int rr), .val (.int ss), .val (.int ff), .val (.int i103), .val (.int i107), .val (.int i111), .val (.int i115), .val (.ref b118), .unset] [(.double b0'), (.ref b133), (.ref b133)])) (by rw [hb0']) ?_
    show Steps p.tables e below (T151.setTop (mkF m 106 #[.val (.int pp), .val (.int qq), .val (.int rr), .val (.int ss), .val (.int ff), .val (.int i103), .val (.int i107), .val (.int i111), .val (.int i115), .val (.ref b118), .unset] [(.double b0'), (.ref b133), (.ref b133)])) _
    refine XS.iload X151.here hx rfl (hb hby at_106) rfl ?_
    show Steps p.tables e below (T151.setTop (mkF m 108 #[.val (.int pp), .val (.int qq), .val (.int rr), .val (.int ss), .val (.int ff), .val (.int i103), .val (.int i107), .val (.int i111), .val (.int i115), .val (.ref b118), .unset] [(.int i107), (.double b0'), (.ref b133), (.ref b133)])) _
    refine XS.iload X151.here hx rfl (hb hby at_108) rfl ?_
    show Steps p.tables e below (T151.setTop (mkF m 110 #[.val (.int pp), .val (.int qq), .val (.int rr), .val (.int ss), .val (.int ff), .val (.int i103), .val (.int i107), .val (.int i111), .val (.int i115), .val (.ref b118), .unset] [(.int ff), (.int i107), (.double b0'), (.ref b133), (.ref b133)])) _
    refine XS.bipush X151.here hx rfl (hb hby at_110) ?_
    show Steps p.tables e below (T151.setTop (mkF m 112 #[.val (.int pp), .val (.int qq), .val (.int rr), .val (.int ss), .val (.int ff), .val (.int i103), .val (.int i107), .val (.int i111), .val (.int i115), .val (.ref b118), .unset] [(.int (8 : Int32)), (.int ff), (.int i107), (.double b0'), (.ref b133), (.ref b133)])) _
    refine XS.iand X151.here hx rfl (hb hby at_112) rfl ?_
    exact k)
  obtain ⟨i156, hi156⟩ : ∃ z : Int32, z = (if (ff &&& (8 : Int32)) = (0 : Int32) then (0 : Int32) else (1 : Int32)) := ⟨_, rfl⟩
  have k157 : ∀ t, Steps p.tables e below (T151.setTop (mkF m 121 #[.val (.int pp), .val (.int qq), .val (.int rr), .val (.int ss), .val (.int ff), .val (.int i103), .val (.int i107), .val (.int i111), .val (.int i115), .val (.ref b118), .unset] [(.int i156), (.int i107), (.double b0'), (.ref b133), (.ref b133)])) t → Steps p.tables e below (s₁.setTop (entryFrame m #[(.int pp), (.int qq), (.int rr), (.int ss), (.int ff)] maxLocals)) t := fun t k => k154 t (by
    by_cases c155 : (ff &&& (8 : Int32)) = (0 : Int32)
    · rw [if_pos c155] at hi156
      show Steps p.tables e below (T151.setTop (mkF m 113 #[.val (.int pp), .val (.int qq), .val (.int rr), .val (.int ss), .val (.int ff), .val (.int i103), .val (.int i107), .val (.int i111), .val (.int i115), .val (.ref b118), .unset] [(.int (ff &&& (8 : Int32))), (.int i107), (.double b0'), (.ref b133), (.ref b133)])) _
      refine XS.ifYes X151.here hx rfl (pc0 := 113) (pc' := 120) rfl (hb hby at_113) rfl ((if0 _ _).trans (teq c155).1) (by decide) (by decide) ?_
      show Steps p.tables e below (T151.setTop (mkF m 120 #[.val (.int pp), .val (.int qq), .val (.int rr), .val (.int ss), .val (.int ff), .val (.int i103), .val (.int i107), .val (.int i111), .val (.int i115), .val (.ref b118), .unset] [(.int i107), (.double b0'), (.ref b133), (.ref b133)])) _
      refine XS.iconst X151.here hx rfl (hb hby at_120) ?_
      show Steps p.tables e below (T151.setTop (mkF m 121 #[.val (.int pp), .val (.int qq), .val (.int rr), .val (.int ss), .val (.int ff), .val (.int i103), .val (.int i107), .val (.int i111), .val (.int i115), .val (.ref b118), .unset] [(.int (0 : Int32)), (.int i107), (.double b0'), (.ref b133), (.ref b133)])) _
      exact castTop (by rw [hi156]) k
    · rw [if_neg c155] at hi156
      show Steps p.tables e below (T151.setTop (mkF m 113 #[.val (.int pp), .val (.int qq), .val (.int rr), .val (.int ss), .val (.int ff), .val (.int i103), .val (.int i107), .val (.int i111), .val (.int i115), .val (.ref b118), .unset] [(.int (ff &&& (8 : Int32))), (.int i107), (.double b0'), (.ref b133), (.ref b133)])) _
      refine XS.ifNo X151.here hx rfl (hb hby at_113) rfl ((if0 _ _).trans (feq c155).1) ?_
      show Steps p.tables e below (T151.setTop (mkF m 116 #[.val (.int pp), .val (.int qq), .val (.int rr), .val (.int ss), .val (.int ff), .val (.int i103), .val (.int i107), .val (.int i111), .val (.int i115), .val (.ref b118), .unset] [(.int i107), (.double b0'), (.ref b133), (.ref b133)])) _
      refine XS.iconst X151.here hx rfl (hb hby at_116) ?_
      show Steps p.tables e below (T151.setTop (mkF m 117 #[.val (.int pp), .val (.int qq), .val (.int rr), .val (.int ss), .val (.int ff), .val (.int i103), .val (.int i107), .val (.int i111), .val (.int i115), .val (.ref b118), .unset] [(.int (1 : Int32)), (.int i107), (.double b0'), (.ref b133), (.ref b133)])) _
      refine XS.goto X151.here hx rfl (pc0 := 117) (pc' := 121) rfl (hb hby at_117) (by decide) (by decide) ?_
      show Steps p.tables e below (T151.setTop (mkF m 121 #[.val (.int pp), .val (.int qq), .val (.int rr), .val (.int ss), .val (.int ff), .val (.int i103), .val (.int i107), .val (.int i111), .val (.int i115), .val (.ref b118), .unset] [(.int (1 : Int32)), (.int i107), (.double b0'), (.ref b133), (.ref b133)])) _
      exact castTop (by rw [hi156]) k)
  obtain ⟨_, _, ⟨T158, L158, k158, n158⟩, -, X158, ⟨Lc158, hQ158, l158, y158, z158⟩, st158⟩ := Jvm.LawKit.callS X151 hx (y := (⟨"com/example/hoja/hoja/model/BoxHashCodePinLaw", "d", "(IZ)D"⟩ : MethodName)) hown (mvT hZ (hw _ (List.mem_of_getElem? (i := 30) rfl))) (mvT hZ (hw _ (List.mem_of_getElem? (i := 31) rfl))) (mvT hZ (hw _ (List.mem_of_getElem? (i := 32) rfl))) (mvT hZ (hw _ (List.mem_of_getElem? (i := 33) rfl))) (by decide) (backOf (W := 4) (rm6 l Z a0 hw [] i107 i156 h133 n0 Z141 ) hZ (hw _ (List.mem_of_getElem? (i := 33) rfl)) (hw _ (List.mem_of_getElem? (i := 32) rfl)) (by decide) (by decide)) (g := (mkF m 121 #[.val (.int pp), .val (.int qq), .val (.int rr), .val (.int ss), .val (.int ff), .val (.int i103), .val (.int i107), .val (.int i111), .val (.int i115), .val (.ref b118), .unset] [(.int i156), (.int i107), (.double b0'), (.ref b133), (.ref b133)])) rfl (by rw [hml]; rfl) (argsL := [(.int i107), (.int i156)]) (rest := [(.double b0'), (.ref b133), (.ref b133)]) (lenOf pd__28IZ_29D rfl) rfl (by show 2 * 0 + _ ≤ _; exact Nat.le_of_eq rfl) (hb hby at_121) (fun _ _ => ⟨rfl, e151, (by decide : 2 + 0 ≤ _), (by decide : 8 + 0 ≤ _)⟩)
  dsimp only [Pt.U, Pt.locs, Pt.cells, Pt.slots] at X158 l158 y158 z158 st158 hQ158
  subst l158 y158 z158
  obtain ⟨rfl, N158q, e158⟩ := hQ158
  have N159 := Fr.app N152 N158q
  have k160 : ∀ t, Steps p.tables e below (T158.setTop (mkF m 124 #[.val (.int pp), .val (.int qq), .val (.int rr), .val (.int ss), .val (.int ff), .val (.int i103), .val (.int i107), .val (.int i111), .val (.int i115), .val (.ref b118), .unset] [(.double (own_d i107 i156)), (.double b0'), (.ref b133), (.ref b133)])) t → Steps p.tables e below (s₁.setTop (entryFrame m #[(.int pp), (.int qq), (.int rr), (.int ss), (.int ff)] maxLocals)) t := fun t k => k157 t (st158 t k)
  obtain ⟨b1', hb1'⟩ : ∃ z : UInt64, z = (own_d i107 i156) := ⟨_, rfl⟩
  have Db1' : Dy i107.toInt 0 b1' := by rw [hb1']; exact own_dd _ _
  have k161 : ∀ t, Steps p.tables e below (T158.setTop (mkF m 131 #[.val (.int pp), .val (.int qq), .val (.int rr), .val (.int ss), .val (.int ff), .val (.int i103), .val (.int i107), .val (.int i111), .val (.int i115), .val (.ref b118), .unset] [(.int (ff &&& (32 : Int32))), (.int i111), (.double b1'), (.double b0'), (.ref b133), (.ref b133)])) t → Steps p.tables e below (s₁.setTop (entryFrame m #[(.int pp), (.int qq), (.int rr), (.int ss), (.int ff)] maxLocals)) t := fun t k => k160 t (by
    show Steps p.tables e below (T158.setTop (mkF m 124 #[.val (.int pp), .val (.int qq), .val (.int rr), .val (.int ss), .val (.int ff), .val (.int i103), .val (.int i107), .val (.int i111), .val (.int i115), .val (.ref b118), .unset] [(.double (own_d i107 i156)), (.double b0'), (.ref b133), (.ref b133)])) _
    refine castTop (g' := (mkF m 124 #[.val (.int pp), .val (.int qq), .val (.int rr), .val (.int ss), .val (.int ff), .val (.int i103), .val (.int i107), .val (.int i111), .val (.int i115), .val (.ref b118), .unset] [(.double b1'), (.double b0'), (.ref b133), (.ref b133)])) (by rw [hb1']) ?_
    show Steps p.tables e below (T158.setTop (mkF m 124 #[.val (.int pp), .val (.int qq), .val (.int rr), .val (.int ss), .val (.int ff), .val (.int i103), .val (.int i107), .val (.int i111), .val (.int i115), .val (.ref b118), .unset] [(.double b1'), (.double b0'), (.ref b133), (.ref b133)])) _
    refine XS.iload X158.here hx rfl (hb hby at_124) rfl ?_
    show Steps p.tables e below (T158.setTop (mkF m 126 #[.val (.int pp), .val (.int qq), .val (.int rr), .val (.int ss), .val (.int ff), .val (.int i103), .val (.int i107), .val (.int i111), .val (.int i115), .val (.ref b118), .unset] [(.int i111), (.double b1'), (.double b0'), (.ref b133), (.ref b133)])) _
    refine XS.iload X158.here hx rfl (hb hby at_126) rfl ?_
    show Steps p.tables e below (T158.setTop (mkF m 128 #[.val (.int pp), .val (.int qq), .val (.int rr), .val (.int ss), .val (.int ff), .val (.int i103), .val (.int i107), .val (.int i111), .val (.int i115), .val (.ref b118), .unset] [(.int ff), (.int i111), (.double b1'), (.double b0'), (.ref b133), (.ref b133)])) _
    refine XS.bipush X158.here hx rfl (hb hby at_128) ?_
    show Steps p.tables e below (T158.setTop (mkF m 130 #[.val (.int pp), .val (.int qq), .val (.int rr), .val (.int ss), .val (.int ff), .val (.int i103), .val (.int i107), .val (.int i111), .val (.int i115), .val (.ref b118), .unset] [(.int (32 : Int32)), (.int ff), (.int i111), (.double b1'), (.double b0'), (.ref b133), (.ref b133)])) _
    refine XS.iand X158.here hx rfl (hb hby at_130) rfl ?_
    exact k)
  obtain ⟨i163, hi163⟩ : ∃ z : Int32, z = (if (ff &&& (32 : Int32)) = (0 : Int32) then (0 : Int32) else (1 : Int32)) := ⟨_, rfl⟩
  have k164 : ∀ t, Steps p.tables e below (T158.setTop (mkF m 139 #[.val (.int pp), .val (.int qq), .val (.int rr), .val (.int ss), .val (.int ff), .val (.int i103), .val (.int i107), .val (.int i111), .val (.int i115), .val (.ref b118), .unset] [(.int i163), (.int i111), (.double b1'), (.double b0'), (.ref b133), (.ref b133)])) t → Steps p.tables e below (s₁.setTop (entryFrame m #[(.int pp), (.int qq), (.int rr), (.int ss), (.int ff)] maxLocals)) t := fun t k => k161 t (by
    by_cases c162 : (ff &&& (32 : Int32)) = (0 : Int32)
    · rw [if_pos c162] at hi163
      show Steps p.tables e below (T158.setTop (mkF m 131 #[.val (.int pp), .val (.int qq), .val (.int rr), .val (.int ss), .val (.int ff), .val (.int i103), .val (.int i107), .val (.int i111), .val (.int i115), .val (.ref b118), .unset] [(.int (ff &&& (32 : Int32))), (.int i111), (.double b1'), (.double b0'), (.ref b133), (.ref b133)])) _
      refine XS.ifYes X158.here hx rfl (pc0 := 131) (pc' := 138) rfl (hb hby at_131) rfl ((if0 _ _).trans (teq c162).1) (by decide) (by decide) ?_
      show Steps p.tables e below (T158.setTop (mkF m 138 #[.val (.int pp), .val (.int qq), .val (.int rr), .val (.int ss), .val (.int ff), .val (.int i103), .val (.int i107), .val (.int i111), .val (.int i115), .val (.ref b118), .unset] [(.int i111), (.double b1'), (.double b0'), (.ref b133), (.ref b133)])) _
      refine XS.iconst X158.here hx rfl (hb hby at_138) ?_
      show Steps p.tables e below (T158.setTop (mkF m 139 #[.val (.int pp), .val (.int qq), .val (.int rr), .val (.int ss), .val (.int ff), .val (.int i103), .val (.int i107), .val (.int i111), .val (.int i115), .val (.ref b118), .unset] [(.int (0 : Int32)), (.int i111), (.double b1'), (.double b0'), (.ref b133), (.ref b133)])) _
      exact castTop (by rw [hi163]) k
    · rw [if_neg c162] at hi163
      show Steps p.tables e below (T158.setTop (mkF m 131 #[.val (.int pp), .val (.int qq), .val (.int rr), .val (.int ss), .val (.int ff), .val (.int i103), .val (.int i107), .val (.int i111), .val (.int i115), .val (.ref b118), .unset] [(.int (ff &&& (32 : Int32))), (.int i111), (.double b1'), (.double b0'), (.ref b133), (.ref b133)])) _
      refine XS.ifNo X158.here hx rfl (hb hby at_131) rfl ((if0 _ _).trans (feq c162).1) ?_
      show Steps p.tables e below (T158.setTop (mkF m 134 #[.val (.int pp), .val (.int qq), .val (.int rr), .val (.int ss), .val (.int ff), .val (.int i103), .val (.int i107), .val (.int i111), .val (.int i115), .val (.ref b118), .unset] [(.int i111), (.double b1'), (.double b0'), (.ref b133), (.ref b133)])) _
      refine XS.iconst X158.here hx rfl (hb hby at_134) ?_
      show Steps p.tables e below (T158.setTop (mkF m 135 #[.val (.int pp), .val (.int qq), .val (.int rr), .val (.int ss), .val (.int ff), .val (.int i103), .val (.int i107), .val (.int i111), .val (.int i115), .val (.ref b118), .unset] [(.int (1 : Int32)), (.int i111), (.double b1'), (.double b0'), (.ref b133), (.ref b133)])) _
      refine XS.goto X158.here hx rfl (pc0 := 135) (pc' := 139) rfl (hb hby at_135) (by decide) (by decide) ?_
      show Steps p.tables e below (T158.setTop (mkF m 139 #[.val (.int pp), .val (.int qq), .val (.int rr), .val (.int ss), .val (.int ff), .val (.int i103), .val (.int i107), .val (.int i111), .val (.int i115), .val (.ref b118), .unset] [(.int (1 : Int32)), (.int i111), (.double b1'), (.double b0'), (.ref b133), (.ref b133)])) _
      exact castTop (by rw [hi163]) k)
  obtain ⟨_, _, ⟨T165, L165, k165, n165⟩, -, X165, ⟨Lc165, hQ165, l165, y165, z165⟩, st165⟩ := Jvm.LawKit.callS X158 hx (y := (⟨"com/example/hoja/hoja/model/BoxHashCodePinLaw", "d", "(IZ)D"⟩ : MethodName)) hown (mvT hZ (hw _ (List.mem_of_getElem? (i := 30) rfl))) (mvT hZ (hw _ (List.mem_of_getElem? (i := 31) rfl))) (mvT hZ (hw _ (List.mem_of_getElem? (i := 32) rfl))) (mvT hZ (hw _ (List.mem_of_getElem? (i := 33) rfl))) (by decide) (backOf (W := 6) (rm6 l Z a0 hw [] i111 i163 h133 n0 Z141 ) hZ (hw _ (List.mem_of_getElem? (i := 33) rfl)) (hw _ (List.mem_of_getElem? (i := 32) rfl)) (by decide) (by decide)) (g := (mkF m 139 #[.val (.int pp), .val (.int qq), .val (.int rr), .val (.int ss), .val (.int ff), .val (.int i103), .val (.int i107), .val (.int i111), .val (.int i115), .val (.ref b118), .unset] [(.int i163), (.int i111), (.double b1'), (.double b0'), (.ref b133), (.ref b133)])) rfl (by rw [hml]; rfl) (argsL := [(.int i111), (.int i163)]) (rest := [(.double b1'), (.double b0'), (.ref b133), (.ref b133)]) (lenOf pd__28IZ_29D rfl) rfl (by show 2 * 0 + _ ≤ _; exact Nat.le_of_eq rfl) (hb hby at_139) (fun _ _ => ⟨rfl, e158, (by decide : 2 + 0 ≤ _), (by decide : 8 + 0 ≤ _)⟩)
  dsimp only [Pt.U, Pt.locs, Pt.cells, Pt.slots] at X165 l165 y165 z165 st165 hQ165
  subst l165 y165 z165
  obtain ⟨rfl, N165q, e165⟩ := hQ165
  have N166 := Fr.app N159 N165q
  have k167 : ∀ t, Steps p.tables e below (T165.setTop (mkF m 142 #[.val (.int pp), .val (.int qq), .val (.int rr), .val (.int ss), .val (.int ff), .val (.int i103), .val (.int i107), .val (.int i111), .val (.int i115), .val (.ref b118), .unset] [(.double (own_d i111 i163)), (.double b1'), (.double b0'), (.ref b133), (.ref b133)])) t → Steps p.tables e below (s₁.setTop (entryFrame m #[(.int pp), (.int qq), (.int rr), (.int ss), (.int ff)] maxLocals)) t := fun t k => k164 t (st165 t k)
  obtain ⟨b2', hb2'⟩ : ∃ z : UInt64, z = (own_d i111 i163) := ⟨_, rfl⟩
  have Db2' : Dy i111.toInt 0 b2' := by rw [hb2']; exact own_dd _ _
  have k168 : ∀ t, Steps p.tables e below (T165.setTop (mkF m 150 #[.val (.int pp), .val (.int qq), .val (.int rr), .val (.int ss), .val (.int ff), .val (.int i103), .val (.int i107), .val (.int i111), .val (.int i115), .val (.ref b118), .unset] [(.int (ff &&& (128 : Int32))), (.int i115), (.double b2'), (.double b1'), (.double b0'), (.ref b133), (.ref b133)])) t → Steps p.tables e below (s₁.setTop (entryFrame m #[(.int pp), (.int qq), (.int rr), (.int ss), (.int ff)] maxLocals)) t := fun t k => k167 t (by
    show Steps p.tables e below (T165.setTop (mkF m 142 #[.val (.int pp), .val (.int qq), .val (.int rr), .val (.int ss), .val (.int ff), .val (.int i103), .val (.int i107), .val (.int i111), .val (.int i115), .val (.ref b118), .unset] [(.double (own_d i111 i163)), (.double b1'), (.double b0'), (.ref b133), (.ref b133)])) _
    refine castTop (g' := (mkF m 142 #[.val (.int pp), .val (.int qq), .val (.int rr), .val (.int ss), .val (.int ff), .val (.int i103), .val (.int i107), .val (.int i111), .val (.int i115), .val (.ref b118), .unset] [(.double b2'), (.double b1'), (.double b0'), (.ref b133), (.ref b133)])) (by rw [hb2']) ?_
    show Steps p.tables e below (T165.setTop (mkF m 142 #[.val (.int pp), .val (.int qq), .val (.int rr), .val (.int ss), .val (.int ff), .val (.int i103), .val (.int i107), .val (.int i111), .val (.int i115), .val (.ref b118), .unset] [(.double b2'), (.double b1'), (.double b0'), (.ref b133), (.ref b133)])) _
    refine XS.iload X165.here hx rfl (hb hby at_142) rfl ?_
    show Steps p.tables e below (T165.setTop (mkF m 144 #[.val (.int pp), .val (.int qq), .val (.int rr), .val (.int ss), .val (.int ff), .val (.int i103), .val (.int i107), .val (.int i111), .val (.int i115), .val (.ref b118), .unset] [(.int i115), (.double b2'), (.double b1'), (.double b0'), (.ref b133), (.ref b133)])) _
    refine XS.iload X165.here hx rfl (hb hby at_144) rfl ?_
    show Steps p.tables e below (T165.setTop (mkF m 146 #[.val (.int pp), .val (.int qq), .val (.int rr), .val (.int ss), .val (.int ff), .val (.int i103), .val (.int i107), .val (.int i111), .val (.int i115), .val (.ref b118), .unset] [(.int ff), (.int i115), (.double b2'), (.double b1'), (.double b0'), (.ref b133), (.ref b133)])) _
    refine XS.sipush X165.here hx rfl (hb hby at_146) ?_
    show Steps p.tables e below (T165.setTop (mkF m 149 #[.val (.int pp), .val (.int qq), .val (.int rr), .val (.int ss), .val (.int ff), .val (.int i103), .val (.int i107), .val (.int i111), .val (.int i115), .val (.ref b118), .unset] [(.int (128 : Int32)), (.int ff), (.int i115), (.double b2'), (.double b1'), (.double b0'), (.ref b133), (.ref b133)])) _
    refine XS.iand X165.here hx rfl (hb hby at_149) rfl ?_
    exact k)
  obtain ⟨i170, hi170⟩ : ∃ z : Int32, z = (if (ff &&& (128 : Int32)) = (0 : Int32) then (0 : Int32) else (1 : Int32)) := ⟨_, rfl⟩
  have k171 : ∀ t, Steps p.tables e below (T165.setTop (mkF m 158 #[.val (.int pp), .val (.int qq), .val (.int rr), .val (.int ss), .val (.int ff), .val (.int i103), .val (.int i107), .val (.int i111), .val (.int i115), .val (.ref b118), .unset] [(.int i170), (.int i115), (.double b2'), (.double b1'), (.double b0'), (.ref b133), (.ref b133)])) t → Steps p.tables e below (s₁.setTop (entryFrame m #[(.int pp), (.int qq), (.int rr), (.int ss), (.int ff)] maxLocals)) t := fun t k => k168 t (by
    by_cases c169 : (ff &&& (128 : Int32)) = (0 : Int32)
    · rw [if_pos c169] at hi170
      show Steps p.tables e below (T165.setTop (mkF m 150 #[.val (.int pp), .val (.int qq), .val (.int rr), .val (.int ss), .val (.int ff), .val (.int i103), .val (.int i107), .val (.int i111), .val (.int i115), .val (.ref b118), .unset] [(.int (ff &&& (128 : Int32))), (.int i115), (.double b2'), (.double b1'), (.double b0'), (.ref b133), (.ref b133)])) _
      refine XS.ifYes X165.here hx rfl (pc0 := 150) (pc' := 157) rfl (hb hby at_150) rfl ((if0 _ _).trans (teq c169).1) (by decide) (by decide) ?_
      show Steps p.tables e below (T165.setTop (mkF m 157 #[.val (.int pp), .val (.int qq), .val (.int rr), .val (.int ss), .val (.int ff), .val (.int i103), .val (.int i107), .val (.int i111), .val (.int i115), .val (.ref b118), .unset] [(.int i115), (.double b2'), (.double b1'), (.double b0'), (.ref b133), (.ref b133)])) _
      refine XS.iconst X165.here hx rfl (hb hby at_157) ?_
      show Steps p.tables e below (T165.setTop (mkF m 158 #[.val (.int pp), .val (.int qq), .val (.int rr), .val (.int ss), .val (.int ff), .val (.int i103), .val (.int i107), .val (.int i111), .val (.int i115), .val (.ref b118), .unset] [(.int (0 : Int32)), (.int i115), (.double b2'), (.double b1'), (.double b0'), (.ref b133), (.ref b133)])) _
      exact castTop (by rw [hi170]) k
    · rw [if_neg c169] at hi170
      show Steps p.tables e below (T165.setTop (mkF m 150 #[.val (.int pp), .val (.int qq), .val (.int rr), .val (.int ss), .val (.int ff), .val (.int i103), .val (.int i107), .val (.int i111), .val (.int i115), .val (.ref b118), .unset] [(.int (ff &&& (128 : Int32))), (.int i115), (.double b2'), (.double b1'), (.double b0'), (.ref b133), (.ref b133)])) _
      refine XS.ifNo X165.here hx rfl (hb hby at_150) rfl ((if0 _ _).trans (feq c169).1) ?_
      show Steps p.tables e below (T165.setTop (mkF m 153 #[.val (.int pp), .val (.int qq), .val (.int rr), .val (.int ss), .val (.int ff), .val (.int i103), .val (.int i107), .val (.int i111), .val (.int i115), .val (.ref b118), .unset] [(.int i115), (.double b2'), (.double b1'), (.double b0'), (.ref b133), (.ref b133)])) _
      refine XS.iconst X165.here hx rfl (hb hby at_153) ?_
      show Steps p.tables e below (T165.setTop (mkF m 154 #[.val (.int pp), .val (.int qq), .val (.int rr), .val (.int ss), .val (.int ff), .val (.int i103), .val (.int i107), .val (.int i111), .val (.int i115), .val (.ref b118), .unset] [(.int (1 : Int32)), (.int i115), (.double b2'), (.double b1'), (.double b0'), (.ref b133), (.ref b133)])) _
      refine XS.goto X165.here hx rfl (pc0 := 154) (pc' := 158) rfl (hb hby at_154) (by decide) (by decide) ?_
      show Steps p.tables e below (T165.setTop (mkF m 158 #[.val (.int pp), .val (.int qq), .val (.int rr), .val (.int ss), .val (.int ff), .val (.int i103), .val (.int i107), .val (.int i111), .val (.int i115), .val (.ref b118), .unset] [(.int (1 : Int32)), (.int i115), (.double b2'), (.double b1'), (.double b0'), (.ref b133), (.ref b133)])) _
      exact castTop (by rw [hi170]) k)
  obtain ⟨_, _, ⟨T172, L172, k172, n172⟩, -, X172, ⟨Lc172, hQ172, l172, y172, z172⟩, st172⟩ := Jvm.LawKit.callS X165 hx (y := (⟨"com/example/hoja/hoja/model/BoxHashCodePinLaw", "d", "(IZ)D"⟩ : MethodName)) hown (mvT hZ (hw _ (List.mem_of_getElem? (i := 30) rfl))) (mvT hZ (hw _ (List.mem_of_getElem? (i := 31) rfl))) (mvT hZ (hw _ (List.mem_of_getElem? (i := 32) rfl))) (mvT hZ (hw _ (List.mem_of_getElem? (i := 33) rfl))) (by decide) (backOf (W := 8) (rm6 l Z a0 hw [] i115 i170 h133 n0 Z141 ) hZ (hw _ (List.mem_of_getElem? (i := 33) rfl)) (hw _ (List.mem_of_getElem? (i := 32) rfl)) (by decide) (by decide)) (g := (mkF m 158 #[.val (.int pp), .val (.int qq), .val (.int rr), .val (.int ss), .val (.int ff), .val (.int i103), .val (.int i107), .val (.int i111), .val (.int i115), .val (.ref b118), .unset] [(.int i170), (.int i115), (.double b2'), (.double b1'), (.double b0'), (.ref b133), (.ref b133)])) rfl (by rw [hml]; rfl) (argsL := [(.int i115), (.int i170)]) (rest := [(.double b2'), (.double b1'), (.double b0'), (.ref b133), (.ref b133)]) (lenOf pd__28IZ_29D rfl) rfl (by show 2 * 0 + _ ≤ _; exact Nat.le_of_eq rfl) (hb hby at_158) (fun _ _ => ⟨rfl, e165, (by decide : 2 + 0 ≤ _), (by decide : 8 + 0 ≤ _)⟩)
  dsimp only [Pt.U, Pt.locs, Pt.cells, Pt.slots] at X172 l172 y172 z172 st172 hQ172
  subst l172 y172 z172
  obtain ⟨rfl, N172q, e172⟩ := hQ172
  have N173 := Fr.app N166 N172q
  have k174 : ∀ t, Steps p.tables e below (T172.setTop (mkF m 161 #[.val (.int pp), .val (.int qq), .val (.int rr), .val (.int ss), .val (.int ff), .val (.int i103), .val (.int i107), .val (.int i111), .val (.int i115), .val (.ref b118), .unset] [(.double (own_d i115 i170)), (.double b2'), (.double b1'), (.double b0'), (.ref b133), (.ref b133)])) t → Steps p.tables e below (s₁.setTop (entryFrame m #[(.int pp), (.int qq), (.int rr), (.int ss), (.int ff)] maxLocals)) t := fun t k => k171 t (st172 t k)
  obtain ⟨b3', hb3'⟩ : ∃ z : UInt64, z = (own_d i115 i170) := ⟨_, rfl⟩
  have Db3' : Dy i115.toInt 0 b3' := by rw [hb3']; exact own_dd _ _
  have Ds1 : Dy (i103.toInt + i111.toInt) 0 (FP.dadd b0' b2') := Dy.add Db0' Db2' (by have := rng32 i103; have := rng32 i111; omega) (by decide)
  have Ds2 : Dy (i107.toInt + i115.toInt) 0 (FP.dadd b1' b3') := Dy.add Db1' Db3' (by have := rng32 i107; have := rng32 i115; omega) (by decide)
  have k175 : ∀ t, Steps p.tables e below (T172.setTop (mkF m 161 #[.val (.int pp), .val (.int qq), .val (.int rr), .val (.int ss), .val (.int ff), .val (.int i103), .val (.int i107), .val (.int i111), .val (.int i115), .val (.ref b118), .unset] [(.double b3'), (.double b2'), (.double b1'), (.double b0'), (.ref b133), (.ref b133)])) t → Steps p.tables e below (s₁.setTop (entryFrame m #[(.int pp), (.int qq), (.int rr), (.int ss), (.int ff)] maxLocals)) t := fun t k => k174 t (by
    show Steps p.tables e below (T172.setTop (mkF m 161 #[.val (.int pp), .val (.int qq), .val (.int rr), .val (.int ss), .val (.int ff), .val (.int i103), .val (.int i107), .val (.int i111), .val (.int i115), .val (.ref b118), .unset] [(.double (own_d i115 i170)), (.double b2'), (.double b1'), (.double b0'), (.ref b133), (.ref b133)])) _
    refine castTop (g' := (mkF m 161 #[.val (.int pp), .val (.int qq), .val (.int rr), .val (.int ss), .val (.int ff), .val (.int i103), .val (.int i107), .val (.int i111), .val (.int i115), .val (.ref b118), .unset] [(.double b3'), (.double b2'), (.double b1'), (.double b0'), (.ref b133), (.ref b133)])) (by rw [hb3']) ?_
    exact k)
  obtain ⟨_, _, ⟨T176, L176, k176, n176⟩, -, X176, ⟨Lc176, hQ176, l176, y176, z176⟩, st176⟩ := X172.specialBack hx (y := (⟨"com/example/hoja/hoja/model/Box", "<init>", "(DDDD)V"⟩ : MethodName)) rfl hown (mvT hZ (hw _ (List.mem_of_getElem? (i := 4) rfl))) (mvT hZ (hw _ (List.mem_of_getElem? (i := 5) rfl))) (mvT hZ (hw _ (List.mem_of_getElem? (i := 6) rfl))) (by decide) (backOf (W := 1) (rm1 l Z a0 hw [] b133 b0' b1' b2' b3' h133 n0 Z141 F142 F143 F144 F145 A133 g135 (Db2'.ge (dy0 0) Bw .l) (Db3'.ge (dy0 0) Bh .l) Ds1.fin Ds2.fin Db2'.fin Db3'.fin) hZ (hw _ (List.mem_of_getElem? (i := 6) rfl)) (hw _ (List.mem_of_getElem? (i := 3) rfl)) (by decide) (by decide)) (g := (mkF m 161 #[.val (.int pp), .val (.int qq), .val (.int rr), .val (.int ss), .val (.int ff), .val (.int i103), .val (.int i107), .val (.int i111), .val (.int i115), .val (.ref b118), .unset] [(.double b3'), (.double b2'), (.double b1'), (.double b0'), (.ref b133), (.ref b133)])) rfl (by rw [hml]; rfl) (Steps.refl _) (a := b133) (argsL := [(.double b0'), (.double b1'), (.double b2'), (.double b3')]) (rest := [(.ref b133)]) (lenOf pd__28DDDD_29V rfl) rfl (by show 2 * 0 + _ ≤ _; exact Nat.le_of_eq rfl) (hb hby at_161) (fun _ _ => ⟨rfl, e172, (by decide : 2 + 0 ≤ _), (by decide : 8 + 0 ≤ _)⟩)
  dsimp only [Pt.U, Pt.locs, Pt.cells, Pt.slots] at X176 l176 y176 z176 st176 hQ176
  subst l176 y176 z176
  obtain ⟨h176, e176⟩ : ∃ h', T176.heap = h' := ⟨_, rfl⟩
  rw [e176] at hQ176
  obtain ⟨rfl, N176q, K176, G176e, G1760, G1761, G1762, G1763⟩ := hQ176
  have N177 := Fr.app N173 N176q
  have k178 : ∀ t, Steps p.tables e below (T176.setTop (mkF m 164 #[.val (.int pp), .val (.int qq), .val (.int rr), .val (.int ss), .val (.int ff), .val (.int i103), .val (.int i107), .val (.int i111), .val (.int i115), .val (.ref b118), .unset] [(.ref b133)])) t → Steps p.tables e below (s₁.setTop (entryFrame m #[(.int pp), (.int qq), (.int rr), (.int ss), (.int ff)] maxLocals)) t := fun t k => k175 t (st176.trans k)
  have Da176 := Ds1
  have Db176 := Ds2
  have F179 := F136.keep K176
  have F180 := F137.keep K176 (ninS n134 nin0)
  have F181 := F138.keep K176 (ninS n134 nin0)
  have F182 := F139.keep K176 (ninS n134 nin0)
  have F183 := F140.keep K176 (ninS n134 nin0)
  have F184 := A133.keep K176
  have Z185 : n0 ≤ h176.size := Nat.le_trans Z141 K176.1
  have k186 : ∀ t, Steps p.tables e below (T176.setTop (mkF m 170 #[.val (.int pp), .val (.int qq), .val (.int rr), .val (.int ss), .val (.int ff), .val (.int i103), .val (.int i107), .val (.int i111), .val (.int i115), .val (.ref b118), .val (.ref b133)] [(.ref b133), (.ref b118)])) t → Steps p.tables e below (s₁.setTop (entryFrame m #[(.int pp), (.int qq), (.int rr), (.int ss), (.int ff)] maxLocals)) t := fun t k => k178 t (by
    show Steps p.tables e below (T176.setTop (mkF m 164 #[.val (.int pp), .val (.int qq), .val (.int rr), .val (.int ss), .val (.int ff), .val (.int i103), .val (.int i107), .val (.int i111), .val (.int i115), .val (.ref b118), .unset] [(.ref b133)])) _
    refine XS.astore X176.here hx rfl (hb hby at_164) rfl rfl (l' := #[.val (.int pp), .val (.int qq), .val (.int rr), .val (.int ss), .val (.int ff), .val (.int i103), .val (.int i107), .val (.int i111), .val (.int i115), .val (.ref b118), .val (.ref b133)]) rfl ?_
    show Steps p.tables e below (T176.setTop (mkF m 166 #[.val (.int pp), .val (.int qq), .val (.int rr), .val (.int ss), .val (.int ff), .val (.int i103), .val (.int i107), .val (.int i111), .val (.int i115), .val (.ref b118), .val (.ref b133)] [])) _
    refine XS.aload X176.here hx rfl (hb hby at_166) rfl rfl ?_
    show Steps p.tables e below (T176.setTop (mkF m 168 #[.val (.int pp), .val (.int qq), .val (.int rr), .val (.int ss), .val (.int ff), .val (.int i103), .val (.int i107), .val (.int i111), .val (.int i115), .val (.ref b118), .val (.ref b133)] [(.ref b118)])) _
    refine XS.aload X176.here hx rfl (hb hby at_168) rfl rfl ?_
    exact k)
  obtain ⟨cq187, kq187, q187a, q187b, q187c⟩ := isOf hZ e176 F179
  obtain ⟨_, _, ⟨T187, L187, k187, n187⟩, -, X187, ⟨Lc187, hQ187, l187, y187, z187⟩, st187⟩ := X176.virtualBack hx (y := (⟨"com/example/hoja/hoja/model/Box", "equals", "(Ljava/lang/Object;)Z"⟩ : MethodName)) (z := (⟨"com/example/hoja/hoja/model/Box", "equals", "(Ljava/lang/Object;)Z"⟩ : MethodName)) hown (mvT hZ (hw _ (List.mem_of_getElem? (i := 34) rfl))) (mvT hZ (hw _ (List.mem_of_getElem? (i := 35) rfl))) (notFace_of_selects (args := #[]) (mvT hZ (hw _ (List.mem_of_getElem? (i := 37) rfl)))) (mvT hZ (hw _ (List.mem_of_getElem? (i := 37) rfl))) (mvT hZ (hw _ (List.mem_of_getElem? (i := 36) rfl))) (by decide) (backOf (W := 0) (eq4 l Z a0 hw [] b118 b133 v0 v1 (FP.dadd v0 v2) (FP.dadd v1 v3) b0' b1' (FP.dadd b0' b2') (FP.dadd b1' b3') h176 n0 Z185 F180 F181 F182 F183 G1760 G1761 G1762 G1763 G176e (Dy.cmp_eq Dv0 Db0' rfl .l) (Dy.cmp_eq Dv1 Db1' rfl .l) (Dy.cmp_eq Da127 Da176 rfl .l) (Dy.cmp_eq Db127 Db176 rfl .l)) hZ (hw _ (List.mem_of_getElem? (i := 38) rfl)) (hw _ (List.mem_of_getElem? (i := 3) rfl)) (by decide) (by decide)) q187a q187c (g := (mkF m 170 #[.val (.int pp), .val (.int qq), .val (.int rr), .val (.int ss), .val (.int ff), .val (.int i103), .val (.int i107), .val (.int i111), .val (.int i115), .val (.ref b118), .val (.ref b133)] [(.ref b133), (.ref b118)])) rfl (by rw [hml]; rfl) (Steps.refl _) (argsL := [(.ref b133)]) (rest := []) (lenOf pd__28Ljava_2flang_2fObject_3b_29Z rfl) rfl (by show 2 * 0 + _ ≤ _; exact Nat.le_of_eq rfl) (hb hby at_170) (fun _ _ => ⟨rfl, e176, (by decide : 2 + 0 ≤ _), (by decide : 8 + 0 ≤ _)⟩)
  dsimp only [Pt.U, Pt.locs, Pt.cells, Pt.slots] at X187 l187 y187 z187 st187 hQ187
  subst l187 y187 z187
  obtain ⟨rfl, N187q, e187⟩ := hQ187
  have N188 := Fr.app N177 N187q
  have k189 : ∀ t, Steps p.tables e below (T187.setTop (mkF m 173 #[.val (.int pp), .val (.int qq), .val (.int rr), .val (.int ss), .val (.int ff), .val (.int i103), .val (.int i107), .val (.int i111), .val (.int i115), .val (.ref b118), .val (.ref b133)] [(.int (1 : Int32))])) t → Steps p.tables e below (s₁.setTop (entryFrame m #[(.int pp), (.int qq), (.int rr), (.int ss), (.int ff)] maxLocals)) t := fun t k => k186 t (st187.trans k)
  have k190 : ∀ t, Steps p.tables e below (T187.setTop (mkF m 180 #[.val (.int pp), .val (.int qq), .val (.int rr), .val (.int ss), .val (.int ff), .val (.int i103), .val (.int i107), .val (.int i111), .val (.int i115), .val (.ref b118), .val (.ref b133)] [(.ref b118), (.ref b133)])) t → Steps p.tables e below (s₁.setTop (entryFrame m #[(.int pp), (.int qq), (.int rr), (.int ss), (.int ff)] maxLocals)) t := fun t k => k189 t (by
    show Steps p.tables e below (T187.setTop (mkF m 173 #[.val (.int pp), .val (.int qq), .val (.int rr), .val (.int ss), .val (.int ff), .val (.int i103), .val (.int i107), .val (.int i111), .val (.int i115), .val (.ref b118), .val (.ref b133)] [(.int (1 : Int32))])) _
    refine XS.ifNo X187.here hx rfl (hb hby at_173) rfl ((if0 _ _).trans (feq (by decide)).1) ?_
    show Steps p.tables e below (T187.setTop (mkF m 176 #[.val (.int pp), .val (.int qq), .val (.int rr), .val (.int ss), .val (.int ff), .val (.int i103), .val (.int i107), .val (.int i111), .val (.int i115), .val (.ref b118), .val (.ref b133)] [])) _
    refine XS.aload X187.here hx rfl (hb hby at_176) rfl rfl ?_
    show Steps p.tables e below (T187.setTop (mkF m 178 #[.val (.int pp), .val (.int qq), .val (.int rr), .val (.int ss), .val (.int ff), .val (.int i103), .val (.int i107), .val (.int i111), .val (.int i115), .val (.ref b118), .val (.ref b133)] [(.ref b133)])) _
    refine XS.aload X187.here hx rfl (hb hby at_178) rfl rfl ?_
    exact k)
  obtain ⟨cq191, kq191, q191a, q191b, q191c⟩ := isOf hZ e187 G176e
  obtain ⟨_, _, ⟨T191, L191, k191, n191⟩, -, X191, ⟨Lc191, hQ191, l191, y191, z191⟩, st191⟩ := X187.virtualBack hx (y := (⟨"com/example/hoja/hoja/model/Box", "equals", "(Ljava/lang/Object;)Z"⟩ : MethodName)) (z := (⟨"com/example/hoja/hoja/model/Box", "equals", "(Ljava/lang/Object;)Z"⟩ : MethodName)) hown (mvT hZ (hw _ (List.mem_of_getElem? (i := 34) rfl))) (mvT hZ (hw _ (List.mem_of_getElem? (i := 35) rfl))) (notFace_of_selects (args := #[]) (mvT hZ (hw _ (List.mem_of_getElem? (i := 37) rfl)))) (mvT hZ (hw _ (List.mem_of_getElem? (i := 37) rfl))) (mvT hZ (hw _ (List.mem_of_getElem? (i := 36) rfl))) (by decide) (backOf (W := 0) (eq4 l Z a0 hw [] b133 b118 b0' b1' (FP.dadd b0' b2') (FP.dadd b1' b3') v0 v1 (FP.dadd v0 v2) (FP.dadd v1 v3) h176 n0 Z185 G1760 G1761 G1762 G1763 F180 F181 F182 F183 F179 (Dy.cmp_eq Db0' Dv0 rfl .l) (Dy.cmp_eq Db1' Dv1 rfl .l) (Dy.cmp_eq Da176 Da127 rfl .l) (Dy.cmp_eq Db176 Db127 rfl .l)) hZ (hw _ (List.mem_of_getElem? (i := 38) rfl)) (hw _ (List.mem_of_getElem? (i := 3) rfl)) (by decide) (by decide)) q191a q191c (g := (mkF m 180 #[.val (.int pp), .val (.int qq), .val (.int rr), .val (.int ss), .val (.int ff), .val (.int i103), .val (.int i107), .val (.int i111), .val (.int i115), .val (.ref b118), .val (.ref b133)] [(.ref b118), (.ref b133)])) rfl (by rw [hml]; rfl) (Steps.refl _) (argsL := [(.ref b118)]) (rest := []) (lenOf pd__28Ljava_2flang_2fObject_3b_29Z rfl) rfl (by show 2 * 0 + _ ≤ _; exact Nat.le_of_eq rfl) (hb hby at_180) (fun _ _ => ⟨rfl, e187, (by decide : 2 + 0 ≤ _), (by decide : 8 + 0 ≤ _)⟩)
  dsimp only [Pt.U, Pt.locs, Pt.cells, Pt.slots] at X191 l191 y191 z191 st191 hQ191
  subst l191 y191 z191
  obtain ⟨rfl, N191q, e191⟩ := hQ191
  have N192 := Fr.app N188 N191q
  have k193 : ∀ t, Steps p.tables e below (T191.setTop (mkF m 183 #[.val (.int pp), .val (.int qq), .val (.int rr), .val (.int ss), .val (.int ff), .val (.int i103), .val (.int i107), .val (.int i111), .val (.int i115), .val (.ref b118), .val (.ref b133)] [(.int (1 : Int32))])) t → Steps p.tables e below (s₁.setTop (entryFrame m #[(.int pp), (.int qq), (.int rr), (.int ss), (.int ff)] maxLocals)) t := fun t k => k190 t (st191.trans k)
  have k194 : ∀ t, Steps p.tables e below (T191.setTop (mkF m 188 #[.val (.int pp), .val (.int qq), .val (.int rr), .val (.int ss), .val (.int ff), .val (.int i103), .val (.int i107), .val (.int i111), .val (.int i115), .val (.ref b118), .val (.ref b133)] [(.ref b118)])) t → Steps p.tables e below (s₁.setTop (entryFrame m #[(.int pp), (.int qq), (.int rr), (.int ss), (.int ff)] maxLocals)) t := fun t k => k193 t (by
    show Steps p.tables e below (T191.setTop (mkF m 183 #[.val (.int pp), .val (.int qq), .val (.int rr), .val (.int ss), .val (.int ff), .val (.int i103), .val (.int i107), .val (.int i111), .val (.int i115), .val (.ref b118), .val (.ref b133)] [(.int (1 : Int32))])) _
    refine XS.ifNo X191.here hx rfl (hb hby at_183) rfl ((if0 _ _).trans (feq (by decide)).1) ?_
    show Steps p.tables e below (T191.setTop (mkF m 186 #[.val (.int pp), .val (.int qq), .val (.int rr), .val (.int ss), .val (.int ff), .val (.int i103), .val (.int i107), .val (.int i111), .val (.int i115), .val (.ref b118), .val (.ref b133)] [])) _
    refine XS.aload X191.here hx rfl (hb hby at_186) rfl rfl ?_
    exact k)
  obtain ⟨cq195, kq195, q195a, q195b, q195c⟩ := isOf hZ e191 F179
  obtain ⟨_, _, ⟨T195, L195, k195, n195⟩, -, X195, ⟨Lc195, hQ195, l195, y195, z195⟩, st195⟩ := X191.virtualBack hx (y := (⟨"com/example/hoja/hoja/model/Box", "hashCode", "()I"⟩ : MethodName)) (z := (⟨"com/example/hoja/hoja/model/Box", "hashCode", "()I"⟩ : MethodName)) hown (mvT hZ (hw _ (List.mem_of_getElem? (i := 41) rfl))) (mvT hZ (hw _ (List.mem_of_getElem? (i := 42) rfl))) (notFace_of_selects (args := #[]) (mvT hZ (hw _ (List.mem_of_getElem? (i := 44) rfl)))) (mvT hZ (hw _ (List.mem_of_getElem? (i := 44) rfl))) (mvT hZ (hw _ (List.mem_of_getElem? (i := 43) rfl))) (by decide) (backOf (W := 0) (rm8 l Z a0 hw [] b118 v0 v1 (FP.dadd v0 v2) (FP.dadd v1 v3) h176 n0 Z185 F180 F181 F182 F183 (own_z Dv0 (by have := rng32 i103; have := rng32 i107; have := rng32 i111; have := rng32 i115; omega)).nn (own_z Dv1 (by have := rng32 i103; have := rng32 i107; have := rng32 i111; have := rng32 i115; omega)).nn (own_z Da127 (by have := rng32 i103; have := rng32 i107; have := rng32 i111; have := rng32 i115; omega)).nn (own_z Db127 (by have := rng32 i103; have := rng32 i107; have := rng32 i111; have := rng32 i115; omega)).nn) hZ (hw _ (List.mem_of_getElem? (i := 45) rfl)) (hw _ (List.mem_of_getElem? (i := 3) rfl)) (by decide) (by decide)) q195a q195c (g := (mkF m 188 #[.val (.int pp), .val (.int qq), .val (.int rr), .val (.int ss), .val (.int ff), .val (.int i103), .val (.int i107), .val (.int i111), .val (.int i115), .val (.ref b118), .val (.ref b133)] [(.ref b118)])) rfl (by rw [hml]; rfl) (Steps.refl _) (argsL := []) (rest := []) (lenOf pd__28_29I rfl) rfl (by show 2 * 0 + _ ≤ _; exact Nat.le_of_eq rfl) (hb hby at_188) (fun _ _ => ⟨rfl, e191, (by decide : 2 + 0 ≤ _), (by decide : 8 + 0 ≤ _)⟩)
  dsimp only [Pt.U, Pt.locs, Pt.cells, Pt.slots] at X195 l195 y195 z195 st195 hQ195
  subst l195 y195 z195
  obtain ⟨rfl, N195q, e195⟩ := hQ195
  have N196 := Fr.app N192 N195q
  have k197 : ∀ t, Steps p.tables e below (T195.setTop (mkF m 191 #[.val (.int pp), .val (.int qq), .val (.int rr), .val (.int ss), .val (.int ff), .val (.int i103), .val (.int i107), .val (.int i111), .val (.int i115), .val (.ref b118), .val (.ref b133)] [(.int (((31 : Int32) * (((31 : Int32) * (((31 : Int32) * (own_h (FP.dadd v0 (0 : UInt64)))) + (own_h (FP.dadd v1 (0 : UInt64))))) + (own_h (FP.dadd (FP.dadd v0 v2) (0 : UInt64))))) + (own_h (FP.dadd (FP.dadd v1 v3) (0 : UInt64)))))])) t → Steps p.tables e below (s₁.setTop (entryFrame m #[(.int pp), (.int qq), (.int rr), (.int ss), (.int ff)] maxLocals)) t := fun t k => k194 t (st195.trans k)
  have k198 : ∀ t, Steps p.tables e below (T195.setTop (mkF m 193 #[.val (.int pp), .val (.int qq), .val (.int rr), .val (.int ss), .val (.int ff), .val (.int i103), .val (.int i107), .val (.int i111), .val (.int i115), .val (.ref b118), .val (.ref b133)] [(.ref b133), (.int (((31 : Int32) * (((31 : Int32) * (((31 : Int32) * (own_h (FP.dadd v0 (0 : UInt64)))) + (own_h (FP.dadd v1 (0 : UInt64))))) + (own_h (FP.dadd (FP.dadd v0 v2) (0 : UInt64))))) + (own_h (FP.dadd (FP.dadd v1 v3) (0 : UInt64)))))])) t → Steps p.tables e below (s₁.setTop (entryFrame m #[(.int pp), (.int qq), (.int rr), (.int ss), (.int ff)] maxLocals)) t := fun t k => k197 t (by
    show Steps p.tables e below (T195.setTop (mkF m 191 #[.val (.int pp), .val (.int qq), .val (.int rr), .val (.int ss), .val (.int ff), .val (.int i103), .val (.int i107), .val (.int i111), .val (.int i115), .val (.ref b118), .val (.ref b133)] [(.int (((31 : Int32) * (((31 : Int32) * (((31 : Int32) * (own_h (FP.dadd v0 (0 : UInt64)))) + (own_h (FP.dadd v1 (0 : UInt64))))) + (own_h (FP.dadd (FP.dadd v0 v2) (0 : UInt64))))) + (own_h (FP.dadd (FP.dadd v1 v3) (0 : UInt64)))))])) _
    refine XS.aload X195.here hx rfl (hb hby at_191) rfl rfl ?_
    exact k)
  obtain ⟨cq199, kq199, q199a, q199b, q199c⟩ := isOf hZ e195 G176e
  obtain ⟨_, _, ⟨T199, L199, k199, n199⟩, -, X199, ⟨Lc199, hQ199, l199, y199, z199⟩, st199⟩ := X195.virtualBack hx (y := (⟨"com/example/hoja/hoja/model/Box", "hashCode", "()I"⟩ : MethodName)) (z := (⟨"com/example/hoja/hoja/model/Box", "hashCode", "()I"⟩ : MethodName)) hown (mvT hZ (hw _ (List.mem_of_getElem? (i := 41) rfl))) (mvT hZ (hw _ (List.mem_of_getElem? (i := 42) rfl))) (notFace_of_selects (args := #[]) (mvT hZ (hw _ (List.mem_of_getElem? (i := 44) rfl)))) (mvT hZ (hw _ (List.mem_of_getElem? (i := 44) rfl))) (mvT hZ (hw _ (List.mem_of_getElem? (i := 43) rfl))) (by decide) (backOf (W := 1) (rm8 l Z a0 hw [] b133 b0' b1' (FP.dadd b0' b2') (FP.dadd b1' b3') h176 n0 Z185 G1760 G1761 G1762 G1763 (own_z Db0' (by have := rng32 i103; have := rng32 i107; have := rng32 i111; have := rng32 i115; omega)).nn (own_z Db1' (by have := rng32 i103; have := rng32 i107; have := rng32 i111; have := rng32 i115; omega)).nn (own_z Da176 (by have := rng32 i103; have := rng32 i107; have := rng32 i111; have := rng32 i115; omega)).nn (own_z Db176 (by have := rng32 i103; have := rng32 i107; have := rng32 i111; have := rng32 i115; omega)).nn) hZ (hw _ (List.mem_of_getElem? (i := 45) rfl)) (hw _ (List.mem_of_getElem? (i := 3) rfl)) (by decide) (by decide)) q199a q199c (g := (mkF m 193 #[.val (.int pp), .val (.int qq), .val (.int rr), .val (.int ss), .val (.int ff), .val (.int i103), .val (.int i107), .val (.int i111), .val (.int i115), .val (.ref b118), .val (.ref b133)] [(.ref b133), (.int (((31 : Int32) * (((31 : Int32) * (((31 : Int32) * (own_h (FP.dadd v0 (0 : UInt64)))) + (own_h (FP.dadd v1 (0 : UInt64))))) + (own_h (FP.dadd (FP.dadd v0 v2) (0 : UInt64))))) + (own_h (FP.dadd (FP.dadd v1 v3) (0 : UInt64)))))])) rfl (by rw [hml]; rfl) (Steps.refl _) (argsL := []) (rest := [(.int (((31 : Int32) * (((31 : Int32) * (((31 : Int32) * (own_h (FP.dadd v0 (0 : UInt64)))) + (own_h (FP.dadd v1 (0 : UInt64))))) + (own_h (FP.dadd (FP.dadd v0 v2) (0 : UInt64))))) + (own_h (FP.dadd (FP.dadd v1 v3) (0 : UInt64)))))]) (lenOf pd__28_29I rfl) rfl (by show 2 * 0 + _ ≤ _; exact Nat.le_of_eq rfl) (hb hby at_193) (fun _ _ => ⟨rfl, e195, (by decide : 2 + 0 ≤ _), (by decide : 8 + 0 ≤ _)⟩)
  dsimp only [Pt.U, Pt.locs, Pt.cells, Pt.slots] at X199 l199 y199 z199 st199 hQ199
  subst l199 y199 z199
  obtain ⟨rfl, N199q, e199⟩ := hQ199
  have N200 := Fr.app N196 N199q
  have k201 : ∀ t, Steps p.tables e below (T199.setTop (mkF m 196 #[.val (.int pp), .val (.int qq), .val (.int rr), .val (.int ss), .val (.int ff), .val (.int i103), .val (.int i107), .val (.int i111), .val (.int i115), .val (.ref b118), .val (.ref b133)] [(.int (((31 : Int32) * (((31 : Int32) * (((31 : Int32) * (own_h (FP.dadd b0' (0 : UInt64)))) + (own_h (FP.dadd b1' (0 : UInt64))))) + (own_h (FP.dadd (FP.dadd b0' b2') (0 : UInt64))))) + (own_h (FP.dadd (FP.dadd b1' b3') (0 : UInt64))))), (.int (((31 : Int32) * (((31 : Int32) * (((31 : Int32) * (own_h (FP.dadd v0 (0 : UInt64)))) + (own_h (FP.dadd v1 (0 : UInt64))))) + (own_h (FP.dadd (FP.dadd v0 v2) (0 : UInt64))))) + (own_h (FP.dadd (FP.dadd v1 v3) (0 : UInt64)))))])) t → Steps p.tables e below (s₁.setTop (entryFrame m #[(.int pp), (.int qq), (.int rr), (.int ss), (.int ff)] maxLocals)) t := fun t k => k198 t (st199.trans k)
  have hfin : (((31 : Int32) * (((31 : Int32) * (((31 : Int32) * (own_h (FP.dadd v0 (0 : UInt64)))) + (own_h (FP.dadd v1 (0 : UInt64))))) + (own_h (FP.dadd (FP.dadd v0 v2) (0 : UInt64))))) + (own_h (FP.dadd (FP.dadd v1 v3) (0 : UInt64)))) = (((31 : Int32) * (((31 : Int32) * (((31 : Int32) * (own_h (FP.dadd b0' (0 : UInt64)))) + (own_h (FP.dadd b1' (0 : UInt64))))) + (own_h (FP.dadd (FP.dadd b0' b2') (0 : UInt64))))) + (own_h (FP.dadd (FP.dadd b1' b3') (0 : UInt64)))) := by rw [own_same Dv0 Db0', own_same Dv1 Db1', own_same Da127 Da176, own_same Db127 Db176]
  have k202 : ∀ t, Steps p.tables e below (T199.setTop (mkF m 204 #[.val (.int pp), .val (.int qq), .val (.int rr), .val (.int ss), .val (.int ff), .val (.int i103), .val (.int i107), .val (.int i111), .val (.int i115), .val (.ref b118), .val (.ref b133)] [(.int (1 : Int32))])) t → Steps p.tables e below (s₁.setTop (entryFrame m #[(.int pp), (.int qq), (.int rr), (.int ss), (.int ff)] maxLocals)) t := fun t k => k201 t (by
    show Steps p.tables e below (T199.setTop (mkF m 196 #[.val (.int pp), .val (.int qq), .val (.int rr), .val (.int ss), .val (.int ff), .val (.int i103), .val (.int i107), .val (.int i111), .val (.int i115), .val (.ref b118), .val (.ref b133)] [(.int (((31 : Int32) * (((31 : Int32) * (((31 : Int32) * (own_h (FP.dadd b0' (0 : UInt64)))) + (own_h (FP.dadd b1' (0 : UInt64))))) + (own_h (FP.dadd (FP.dadd b0' b2') (0 : UInt64))))) + (own_h (FP.dadd (FP.dadd b1' b3') (0 : UInt64))))), (.int (((31 : Int32) * (((31 : Int32) * (((31 : Int32) * (own_h (FP.dadd v0 (0 : UInt64)))) + (own_h (FP.dadd v1 (0 : UInt64))))) + (own_h (FP.dadd (FP.dadd v0 v2) (0 : UInt64))))) + (own_h (FP.dadd (FP.dadd v1 v3) (0 : UInt64)))))])) _
    refine XS.icmpNo X199.here hx rfl (hb hby at_196) rfl (teq hfin).2 ?_
    show Steps p.tables e below (T199.setTop (mkF m 199 #[.val (.int pp), .val (.int qq), .val (.int rr), .val (.int ss), .val (.int ff), .val (.int i103), .val (.int i107), .val (.int i111), .val (.int i115), .val (.ref b118), .val (.ref b133)] [])) _
    refine XS.iconst X199.here hx rfl (hb hby at_199) ?_
    show Steps p.tables e below (T199.setTop (mkF m 200 #[.val (.int pp), .val (.int qq), .val (.int rr), .val (.int ss), .val (.int ff), .val (.int i103), .val (.int i107), .val (.int i111), .val (.int i115), .val (.ref b118), .val (.ref b133)] [(.int (1 : Int32))])) _
    refine XS.goto X199.here hx rfl (pc0 := 200) (pc' := 204) rfl (hb hby at_200) (by decide) (by decide) ?_
    exact k)
  obtain ⟨fs, hr, hrun, hended, hW, hsame⟩ := X199.leave (v := some (.int (1 : Int32))) (fun h => by rw [Bd.returns] at h; cases h)
  refine ⟨_, _, k202 _ (retOut X199 hx (t := .boolean) Bd.returns rfl (Or.inl ⟨rfl, Or.inr (Or.inl rfl), _, rfl⟩) (hb hby at_204) hr), hrun, hended, _, _, rfl, ?_, ⟨_, rfl⟩, hW, hsame.mono (by decide) (by decide)⟩
  show Q_rm0 Z pp qq rr ss ff h0 n0 _ T199.heap _
  rw [e199]
  exact ⟨rfl, N200⟩
set_option maxRecDepth 65536 in
set_option maxHeartbeats 40000000 in
theorem comes_1 {Post : Tables → Env → Array Value → State → Outcome → State → Prop} (hpost : ∀ tb e args s v u, (limb_1_1.after args s (.returned v) u = true ∧ limb_1_2.after args s (.returned v) u = true ∧ True) → FrameEnd s (.returned v) u (Jvm.fieldLocs frame_1_writes args s ++ Jvm.arrayLocs frame_1_arrays args s ++ Jvm.staticLocs frame_1_statics s) 16 128 → Post tb e args s (.returned v) u) :
    ArmFor flags0 classFile x code maxLocals ret World_1 tables_1 room_1 Calls_1 rest_1 Pre_1 Post := by
  intro l hfl _ _ p e ha hc hk s m args below hf hA hF happ hP
  obtain ⟨hcalls, hrest, hpre⟩ := hP
  obtain ⟨-, -, -, hnamed, -, -, -, hat⟩ := (Spec.applies_iff hf).mp happ
  obtain ⟨hg, hn⟩ := and_e (Cond.before_iff.mp (show (Jvm.Cond.and given_1 narrow_1).before args s = true from hpre))
  obtain ⟨g1, g2⟩ := and_e hg
  obtain ⟨g3, g4⟩ := and_e g2
  obtain ⟨g5, g6⟩ := and_e g4
  obtain ⟨g7, g8⟩ := and_e g6
  obtain ⟨g9, g10⟩ := and_e g8
  obtain ⟨w0, w1, w2, w3, w4, rfl⟩ : ∃ w0 w1 w2 w3 w4 : Value, args = #[w0, w1, w2, w3, w4] := by
    have hs : args.size = 5 := by simpa [Cond.value, given_1] using g1
    obtain ⟨L⟩ := args
    match L, hs with
    | [w0, w1, w2, w3, w4], _ => exact ⟨w0, w1, w2, w3, w4, rfl⟩
  have hw := fun d (hd : d ∈ tables_1) => atoms_spec (ws := Jvm.Cond.code x code maxLocals ret :: tables_1) hat d (List.mem_cons_of_mem _ hd)
  obtain ⟨i0, ei0⟩ := is_v g3
  obtain rfl : w0 = (.int i0) := Option.some.inj ei0
  obtain ⟨i1, ei1⟩ := is_v g5
  obtain rfl : w1 = (.int i1) := Option.some.inj ei1
  obtain ⟨i2, ei2⟩ := is_v g7
  obtain rfl : w2 = (.int i2) := Option.some.inj ei2
  obtain ⟨i3, ei3⟩ := is_v g9
  obtain rfl : w3 = (.int i3) := Option.some.inj ei3
  obtain ⟨i4, ei4⟩ := is_v g10
  obtain rfl : w4 = (.int i4) := Option.some.inj ei4
  obtain ⟨n, o, h1, h2, h3, _, L, rfl, ⟨rfl, N⟩, hq⟩ := rm0 l s _ hw tables_1 i0 i1 i2 i3 i4 s.heap s.heap.size (Nat.le_refl _) p e ha hc hk s m _ below hf ((Spec.applies_iff_loose hf).mp happ).1 ⟨rfl, State.Warmed39.refl s, rfl⟩ trivial
  refine ⟨n, _, h1, h2, h3, hpost _ _ _ _ _ _ ⟨Cond.after_iff.mpr rfl, Cond.after_iff.mpr (eq_i res_at (Term.int_eval (1)) rfl), trivial⟩ ⟨hq.1, hq.2.1, (hq.2.2.sift fun y hy => Or.inr (N y hy)).mono (by decide) (by decide)⟩⟩
theorem main_1_1 : Claimed_1_1 := comes_1 fun _ _ _ _ _ _ h hF => ⟨h.1, hF⟩
theorem main_1_2 : Claimed_1_2 := comes_1 fun _ _ _ _ _ _ h hF => ⟨h.2.1, hF⟩
end Jvm.Pilot.@@N@@
namespace Jvm.Pilot.@@N@@
open Jvm Jvm.ClassFile Sem Op Lib Jvm.Free Jvm.Stand Jvm.Pilot.@@N@@.Jvm.D
/-! MADE BY PROGRAM (witnessworld.py) out of the Statement's table words and the real class files: 16 classes; the members and pool entries that the words name. The judged class is class 1, her method 2. -/
namespace start1
open Jvm.ClassFile
def u (s : String) : CpInfo := .utf8 (stringToUtf16 s)
/-- a pool by its gaps: so many unusable entries, then the entry; so many at the end -/
def gap : Nat → List CpInfo → List CpInfo
  | 0, r => r
  | n + 1, r => .unusable :: gap n r
def poolList (es : List (Nat × CpInfo)) (last : Nat) : List CpInfo := es.foldr (fun e r => gap e.1 (e.2 :: r)) (gap last [])
def pool (es : List (Nat × CpInfo)) (last : Nat) : Array CpInfo := ⟨poolList es last⟩
def fileOf (pool : Array CpInfo) (this : Nat) (attrs : Array Attribute := #[]) (ms : Array MethodInfo := #[]) (fl : Nat := 33) (sup : Nat := 0) (ifs : Array Nat := #[]) (fds : Array FieldInfo := #[]) : ClassFile where
  minorVersion := 0
  majorVersion := 65
  constantPool := pool
  accessFlags := fl
  thisClass := this
  superClass := sup
  interfaces := ifs
  fields := fds
  methods := ms
  attributes := attrs
def plain (name : String) (sup : Option ClassId) : Class where
  name := name
  kind := .ordinary
  loader := none
  accessFlags := 33
  super := sup
  interfaces := #[]
  cf := none
  fields := #[]
  methods := #[]
  instanceTypes := #[]
  staticTypes := #[]
  resolved := #[]
  callSites := []
  init := .initialized
  statics := none
  mirror := none

def pool0 : Array CpInfo := pool [(5, u "<init>"), (0, u "()V"), (1, .class_ 10), (1, u "java/lang/Object")] 113

def k0c0 : Code := { maxStack := 0, maxLocals := 1, code := object_method_1_code, exceptionTable := #[], attributes := #[] }
def k0m0 : Method := { name := "<init>", desc := "()V", sig := { parameters := [], returnType := none }, accessFlags := 1, code := some k0c0 }
/-- java/lang/Object -/
def k0 : Class := { plain "java/lang/Object" none with
  accessFlags := 33
  interfaces := #[]
  cf := some (fileOf pool0 8 #[] #[{ accessFlags := 1, nameIndex := 5, descriptorIndex := 6, attributes := #[] }] 33 0 #[] #[])
  fields := #[]
  methods := #[k0m0]
  instanceTypes := #[]
  staticTypes := #[]
  resolved := Array.replicate 124 none
  statics := none }

def pool1 : Array CpInfo := pool [(2, .class_ 4), (1, u "java/lang/Object"), (0, u "<init>"), (0, u "()V"), (0, .double 9223372036854775808), (1, .integer 2147483647), (0, .class_ 11), (0, u "com/example/hoja/hoja/model/Box"), (0, .methodref 10 13), (0, .nameAndType 5 14), (0, u "(DDDD)V"), (0, .methodref 16 17), (0, .class_ 18), (0, .nameAndType 19 20), (0, u "com/example/hoja/hoja/model/BoxHashCodePinLaw"), (0, u "d"), (0, u "(IZ)D"), (0, .methodref 10 22), (0, .nameAndType 23 24), (0, u "equals"), (0, u "(Ljava/lang/Object;)Z"), (0, .methodref 10 26), (0, .nameAndType 27 28), (0, u "hashCode"), (0, u "()I"), (3, u "law"), (0, u "(IIIII)Z")] 2

def k1m0 : Method := { name := "<init>", desc := "()V", sig := { parameters := [], returnType := none }, accessFlags := 2, code := none }
def k1c1 : Code := { maxStack := 2, maxLocals := 2, code := method_2_code, exceptionTable := #[], attributes := #[] }
def k1m1 : Method := { name := "d", desc := "(IZ)D", sig := { parameters := [.int, .boolean], returnType := some .double }, accessFlags := 10, code := some k1c1 }
def k1c2 : Code := { maxStack := 11, maxLocals := 11, code := code, exceptionTable := #[], attributes := #[] }
def k1m2 : Method := { name := "law", desc := "(IIIII)Z", sig := { parameters := [.int, .int, .int, .int, .int], returnType := some .boolean }, accessFlags := 9, code := some k1c2 }
/-- com/example/hoja/hoja/model/BoxHashCodePinLaw -/
def k1 : Class := { plain "com/example/hoja/hoja/model/BoxHashCodePinLaw" (some 0) with
  accessFlags := 49
  interfaces := #[]
  cf := some (fileOf pool1 16 #[] #[{ accessFlags := 2, nameIndex := 5, descriptorIndex := 6, attributes := #[] }, { accessFlags := 10, nameIndex := 19, descriptorIndex := 20, attributes := #[] }, { accessFlags := 9, nameIndex := 32, descriptorIndex := 33, attributes := #[] }] 49 2 #[] #[])
  fields := #[]
  methods := #[k1m0, k1m1, k1m2]
  instanceTypes := #[]
  staticTypes := #[]
  resolved := Array.replicate 36 none
  statics := none }

def pool2 : Array CpInfo := pool [(1, .methodref 2 3), (0, .class_ 4), (0, .nameAndType 5 6), (0, u "com/example/hoja/hoja/model/Box"), (0, u "<init>"), (0, u "(DDDDDD)V"), (0, .methodref 8 9), (0, .class_ 10), (0, .nameAndType 5 11), (0, u "java/lang/Object"), (0, u "()V"), (9, .methodref 22 23), (0, .class_ 24), (0, .nameAndType 25 26), (0, u "java/lang/Double"), (0, u "isFinite"), (0, u "(D)Z"), (3, .fieldref 2 31), (0, .nameAndType 32 33), (0, u "x"), (0, u "D"), (0, .fieldref 2 35), (0, .nameAndType 36 33), (0, u "y"), (0, .fieldref 2 38), (0, .nameAndType 39 33), (0, u "right"), (0, .fieldref 2 41), (0, .nameAndType 42 33), (0, u "bottom"), (60, .methodref 22 104), (0, .nameAndType 105 106), (0, u "hashCode"), (0, u "(D)I"), (1, u "(DDDD)V"), (14, u "equals"), (0, u "(Ljava/lang/Object;)Z"), (0, u "()I")] 23

def k2c0 : Code := { maxStack := 13, maxLocals := 9, code := prog_26_method_1_code, exceptionTable := #[], attributes := #[] }
def k2m0 : Method := { name := "<init>", desc := "(DDDD)V", sig := { parameters := [.double, .double, .double, .double], returnType := none }, accessFlags := 1, code := some k2c0 }
def k2c1 : Code := { maxStack := 10, maxLocals := 13, code := prog_26_method_3_code, exceptionTable := #[], attributes := #[] }
def k2m1 : Method := { name := "<init>", desc := "(DDDDDD)V", sig := { parameters := [.double, .double, .double, .double, .double, .double], returnType := none }, accessFlags := 2, code := some k2c1 }
def k2c2 : Code := { maxStack := 4, maxLocals := 3, code := prog_26_method_16_code, exceptionTable := #[], attributes := #[] }
def k2m2 : Method := { name := "equals", desc := "(Ljava/lang/Object;)Z", sig := { parameters := [(.object "java/lang/Object")], returnType := some .boolean }, accessFlags := 1, code := some k2c2 }
def k2c3 : Code := { maxStack := 5, maxLocals := 2, code := prog_26_method_17_code, exceptionTable := #[], attributes := #[] }
def k2m3 : Method := { name := "hashCode", desc := "()I", sig := { parameters := [], returnType := some .int }, accessFlags := 1, code := some k2c3 }
/-- com/example/hoja/hoja/model/Box -/
def k2 : Class := { plain "com/example/hoja/hoja/model/Box" (some 0) with
  accessFlags := 49
  interfaces := #[]
  cf := some (fileOf pool2 2 #[] #[{ accessFlags := 1, nameIndex := 5, descriptorIndex := 108, attributes := #[] }, { accessFlags := 2, nameIndex := 5, descriptorIndex := 6, attributes := #[] }, { accessFlags := 1, nameIndex := 123, descriptorIndex := 124, attributes := #[] }, { accessFlags := 1, nameIndex := 105, descriptorIndex := 125, attributes := #[] }] 49 8 #[] #[{ accessFlags := 18, nameIndex := 32, descriptorIndex := 33, attributes := #[] }, { accessFlags := 18, nameIndex := 36, descriptorIndex := 33, attributes := #[] }, { accessFlags := 18, nameIndex := 39, descriptorIndex := 33, attributes := #[] }, { accessFlags := 18, nameIndex := 42, descriptorIndex := 33, attributes := #[] }])
  fields := #[{ name := "x", type := .double, accessFlags := 18, slot := 0, constantValue := 0 }, { name := "y", type := .double, accessFlags := 18, slot := 1, constantValue := 0 }, { name := "right", type := .double, accessFlags := 18, slot := 2, constantValue := 0 }, { name := "bottom", type := .double, accessFlags := 18, slot := 3, constantValue := 0 }]
  methods := #[k2m0, k2m1, k2m2, k2m3]
  instanceTypes := #[.double, .double, .double, .double]
  staticTypes := #[]
  resolved := Array.replicate 149 none
  statics := none }

def pool3 : Array CpInfo := pool [(1, .class_ 2), (0, u "java/io/Serializable"), (0, .class_ 4), (0, u "java/lang/Object")] 2

/-- java/io/Serializable -/
def k3 : Class := { plain "java/io/Serializable" (some 0) with
  accessFlags := 1537
  interfaces := #[]
  cf := some (fileOf pool3 1 #[] #[] 1537 3 #[] #[])
  fields := #[]
  methods := #[]
  instanceTypes := #[]
  staticTypes := #[]
  resolved := Array.replicate 7 none
  statics := none }

def pool4 : Array CpInfo := pool [(2, .class_ 4), (1, u "java/lang/Object"), (0, u "<init>"), (0, u "()V"), (1, .class_ 10), (1, u "java/lang/Number"), (2, .class_ 14), (0, u "java/io/Serializable"), (0, u "serialVersionUID"), (0, u "J")] 20

def k4m0 : Method := { name := "<init>", desc := "()V", sig := { parameters := [], returnType := none }, accessFlags := 1, code := none }
/-- java/lang/Number -/
def k4 : Class := { plain "java/lang/Number" (some 0) with
  accessFlags := 1057
  interfaces := #[3]
  cf := some (fileOf pool4 8 #[] #[{ accessFlags := 1, nameIndex := 5, descriptorIndex := 6, attributes := #[] }] 1057 2 #[13] #[{ accessFlags := 26, nameIndex := 15, descriptorIndex := 16, attributes := #[] }])
  fields := #[{ name := "serialVersionUID", type := .long, accessFlags := 26, slot := 0, constantValue := 0 }]
  methods := #[k4m0]
  instanceTypes := #[]
  staticTypes := #[.long]
  resolved := Array.replicate 37 none
  statics := none }

def pool5 : Array CpInfo := pool [(1, .class_ 2), (0, u "java/lang/Comparable"), (0, .class_ 4), (0, u "java/lang/Object")] 7

/-- java/lang/Comparable -/
def k5 : Class := { plain "java/lang/Comparable" (some 0) with
  accessFlags := 1537
  interfaces := #[]
  cf := some (fileOf pool5 1 #[] #[] 1537 3 #[] #[])
  fields := #[]
  methods := #[]
  instanceTypes := #[]
  staticTypes := #[]
  resolved := Array.replicate 12 none
  statics := none }

def pool6 : Array CpInfo := pool [(1, .class_ 2), (0, u "java/lang/constant/Constable"), (0, .class_ 4), (0, u "java/lang/Object")] 6

/-- java/lang/constant/Constable -/
def k6 : Class := { plain "java/lang/constant/Constable" (some 0) with
  accessFlags := 1537
  interfaces := #[]
  cf := some (fileOf pool6 1 #[] #[] 1537 3 #[] #[])
  fields := #[]
  methods := #[]
  instanceTypes := #[]
  staticTypes := #[]
  resolved := Array.replicate 11 none
  statics := none }

def pool7 : Array CpInfo := pool [(1, .class_ 2), (0, u "java/lang/constant/ConstantDesc"), (0, .class_ 4), (0, u "java/lang/Object")] 32

/-- java/lang/constant/ConstantDesc -/
def k7 : Class := { plain "java/lang/constant/ConstantDesc" (some 0) with
  accessFlags := 1537
  interfaces := #[]
  cf := some (fileOf pool7 1 #[] #[] 1537 3 #[] #[])
  fields := #[]
  methods := #[]
  instanceTypes := #[]
  staticTypes := #[]
  resolved := Array.replicate 37 none
  statics := none }

def pool8 : Array CpInfo := pool [(1, .class_ 2), (0, u "java/lang/Double"), (10, u "isFinite"), (0, u "(D)Z"), (8, .class_ 25), (1, u "java/lang/Math"), (12, .methodref 23 39), (0, .nameAndType 40 41), (0, u "abs"), (0, u "(D)D"), (4, .methodref 1 47), (0, .nameAndType 48 49), (0, u "doubleToLongBits"), (0, u "(D)J"), (11, .class_ 63), (1, u "java/lang/Long"), (30, u "(D)I"), (16, .double 9218868437227405311), (2, .class_ 116), (1, u "java/lang/Number"), (3, u "value"), (0, u "D"), (0, .methodref 1 123), (0, .nameAndType 124 14), (0, u "isNaN"), (5, u "hashCode"), (0, .methodref 61 132), (0, .nameAndType 130 133), (0, u "(J)I"), (0, .methodref 1 135), (0, .nameAndType 136 49), (0, u "doubleToRawLongBits"), (36, u "TYPE"), (0, u "Ljava/lang/Class;"), (0, .class_ 176), (0, u "java/lang/Comparable"), (0, .class_ 178), (0, u "java/lang/constant/Constable"), (0, .class_ 180), (0, u "java/lang/constant/ConstantDesc"), (0, u "POSITIVE_INFINITY"), (3, u "NEGATIVE_INFINITY"), (2, u "NaN"), (2, u "MAX_VALUE"), (0, u "MIN_NORMAL"), (0, u "MIN_VALUE"), (2, u "SIZE"), (0, u "I"), (1, u "PRECISION"), (1, u "MAX_EXPONENT"), (1, u "MIN_EXPONENT"), (1, u "BYTES"), (3, u "serialVersionUID"), (0, u "J")] 79

def k8c0 : Code := { maxStack := 4, maxLocals := 2, code := jdk_117_method_6_code, exceptionTable := #[], attributes := #[] }
def k8m0 : Method := { name := "isNaN", desc := "(D)Z", sig := { parameters := [.double], returnType := some .boolean }, accessFlags := 9, code := some k8c0 }
def k8c1 : Code := { maxStack := 4, maxLocals := 2, code := jdk_117_method_8_code, exceptionTable := #[], attributes := #[] }
def k8m1 : Method := { name := "isFinite", desc := "(D)Z", sig := { parameters := [.double], returnType := some .boolean }, accessFlags := 9, code := some k8c1 }
def k8c2 : Code := { maxStack := 2, maxLocals := 2, code := jdk_117_method_21_code, exceptionTable := #[], attributes := #[] }
def k8m2 : Method := { name := "hashCode", desc := "(D)I", sig := { parameters := [.double], returnType := some .int }, accessFlags := 9, code := some k8c2 }
def k8c3 : Code := { maxStack := 2, maxLocals := 2, code := jdk_117_method_23_code, exceptionTable := #[], attributes := #[] }
def k8m3 : Method := { name := "doubleToLongBits", desc := "(D)J", sig := { parameters := [.double], returnType := some .long }, accessFlags := 9, code := some k8c3 }
def k8m4 : Method := { name := "doubleToRawLongBits", desc := "(D)J", sig := { parameters := [.double], returnType := some .long }, accessFlags := 265, code := none }
/-- java/lang/Double -/
def k8 : Class := { plain "java/lang/Double" (some 4) with
  accessFlags := 49
  interfaces := #[5, 6, 7]
  cf := some (fileOf pool8 1 #[] #[{ accessFlags := 9, nameIndex := 124, descriptorIndex := 14, attributes := #[] }, { accessFlags := 9, nameIndex := 13, descriptorIndex := 14, attributes := #[] }, { accessFlags := 9, nameIndex := 130, descriptorIndex := 94, attributes := #[] }, { accessFlags := 9, nameIndex := 48, descriptorIndex := 49, attributes := #[] }, { accessFlags := 265, nameIndex := 136, descriptorIndex := 49, attributes := #[] }] 49 114 #[175, 177, 179] #[{ accessFlags := 25, nameIndex := 181, descriptorIndex := 121, attributes := #[] }, { accessFlags := 25, nameIndex := 185, descriptorIndex := 121, attributes := #[] }, { accessFlags := 25, nameIndex := 188, descriptorIndex := 121, attributes := #[] }, { accessFlags := 25, nameIndex := 191, descriptorIndex := 121, attributes := #[] }, { accessFlags := 25, nameIndex := 192, descriptorIndex := 121, attributes := #[] }, { accessFlags := 25, nameIndex := 193, descriptorIndex := 121, attributes := #[] }, { accessFlags := 25, nameIndex := 196, descriptorIndex := 197, attributes := #[] }, { accessFlags := 25, nameIndex := 199, descriptorIndex := 197, attributes := #[] }, { accessFlags := 25, nameIndex := 201, descriptorIndex := 197, attributes := #[] }, { accessFlags := 25, nameIndex := 203, descriptorIndex := 197, attributes := #[] }, { accessFlags := 25, nameIndex := 205, descriptorIndex := 197, attributes := #[] }, { accessFlags := 25, nameIndex := 173, descriptorIndex := 174, attributes := #[] }, { accessFlags := 18, nameIndex := 120, descriptorIndex := 121, attributes := #[] }, { accessFlags := 26, nameIndex := 209, descriptorIndex := 210, attributes := #[] }])
  fields := #[{ name := "POSITIVE_INFINITY", type := .double, accessFlags := 25, slot := 0, constantValue := 0 }, { name := "NEGATIVE_INFINITY", type := .double, accessFlags := 25, slot := 1, constantValue := 0 }, { name := "NaN", type := .double, accessFlags := 25, slot := 2, constantValue := 0 }, { name := "MAX_VALUE", type := .double, accessFlags := 25, slot := 3, constantValue := 0 }, { name := "MIN_NORMAL", type := .double, accessFlags := 25, slot := 4, constantValue := 0 }, { name := "MIN_VALUE", type := .double, accessFlags := 25, slot := 5, constantValue := 0 }, { name := "SIZE", type := .int, accessFlags := 25, slot := 6, constantValue := 0 }, { name := "PRECISION", type := .int, accessFlags := 25, slot := 7, constantValue := 0 }, { name := "MAX_EXPONENT", type := .int, accessFlags := 25, slot := 8, constantValue := 0 }, { name := "MIN_EXPONENT", type := .int, accessFlags := 25, slot := 9, constantValue := 0 }, { name := "BYTES", type := .int, accessFlags := 25, slot := 10, constantValue := 0 }, { name := "TYPE", type := (.object "java/lang/Class"), accessFlags := 25, slot := 11, constantValue := 0 }, { name := "value", type := .double, accessFlags := 18, slot := 0, constantValue := 0 }, { name := "serialVersionUID", type := .long, accessFlags := 26, slot := 12, constantValue := 0 }]
  methods := #[k8m0, k8m1, k8m2, k8m3, k8m4]
  instanceTypes := #[.double]
  staticTypes := #[.double, .double, .double, .double, .double, .double, .int, .int, .int, .int, .int, (.object "java/lang/Class"), .long]
  resolved := Array.replicate 290 none
  statics := none }

def pool9 : Array CpInfo := pool [(1, .class_ 2), (0, u "java/lang/Math"), (1, .class_ 6), (1, u "java/lang/Object"), (0, u "<init>"), (0, u "()V"), (5, u "(D)D"), (83, .class_ 100), (1, u "java/lang/Math$RandomNumberGeneratorHolder"), (23, u "abs"), (47, u "negativeZeroFloatBits"), (0, u "J"), (2, u "negativeZeroDoubleBits"), (68, u "$assertionsDisabled"), (0, u "Z"), (91, u "twoToTheDoubleScaleDown"), (0, u "D"), (4, u "twoToTheDoubleScaleUp"), (9, u "E"), (3, u "PI"), (2, u "TAU"), (2, u "DEGREES_TO_RADIANS"), (0, u "RADIANS_TO_DEGREES")] 94

def k9m0 : Method := { name := "<init>", desc := "()V", sig := { parameters := [], returnType := none }, accessFlags := 2, code := none }
def k9c1 : Code := { maxStack := 4, maxLocals := 2, code := jdk_29_method_64_code, exceptionTable := #[], attributes := #[] }
def k9m1 : Method := { name := "abs", desc := "(D)D", sig := { parameters := [.double], returnType := some .double }, accessFlags := 9, code := some k9c1 }
/-- java/lang/Math -/
def k9 : Class := { plain "java/lang/Math" (some 0) with
  accessFlags := 49
  interfaces := #[]
  cf := some (fileOf pool9 1 #[.nestMembers #[98]] #[{ accessFlags := 2, nameIndex := 7, descriptorIndex := 8, attributes := #[] }, { accessFlags := 9, nameIndex := 124, descriptorIndex := 14, attributes := #[] }] 49 4 #[] #[{ accessFlags := 25, nameIndex := 354, descriptorIndex := 339, attributes := #[] }, { accessFlags := 25, nameIndex := 358, descriptorIndex := 339, attributes := #[] }, { accessFlags := 25, nameIndex := 361, descriptorIndex := 339, attributes := #[] }, { accessFlags := 26, nameIndex := 364, descriptorIndex := 339, attributes := #[] }, { accessFlags := 26, nameIndex := 365, descriptorIndex := 339, attributes := #[] }, { accessFlags := 26, nameIndex := 172, descriptorIndex := 173, attributes := #[] }, { accessFlags := 26, nameIndex := 176, descriptorIndex := 173, attributes := #[] }, { accessFlags := 8, nameIndex := 344, descriptorIndex := 339, attributes := #[] }, { accessFlags := 8, nameIndex := 338, descriptorIndex := 339, attributes := #[] }, { accessFlags := 4120, nameIndex := 245, descriptorIndex := 246, attributes := #[] }])
  fields := #[{ name := "E", type := .double, accessFlags := 25, slot := 0, constantValue := 0 }, { name := "PI", type := .double, accessFlags := 25, slot := 1, constantValue := 0 }, { name := "TAU", type := .double, accessFlags := 25, slot := 2, constantValue := 0 }, { name := "DEGREES_TO_RADIANS", type := .double, accessFlags := 26, slot := 3, constantValue := 0 }, { name := "RADIANS_TO_DEGREES", type := .double, accessFlags := 26, slot := 4, constantValue := 0 }, { name := "negativeZeroFloatBits", type := .long, accessFlags := 26, slot := 5, constantValue := 0 }, { name := "negativeZeroDoubleBits", type := .long, accessFlags := 26, slot := 6, constantValue := 0 }, { name := "twoToTheDoubleScaleUp", type := .double, accessFlags := 8, slot := 7, constantValue := 0 }, { name := "twoToTheDoubleScaleDown", type := .double, accessFlags := 8, slot := 8, constantValue := 0 }, { name := "$assertionsDisabled", type := .boolean, accessFlags := 4120, slot := 9, constantValue := 0 }]
  methods := #[k9m0, k9m1]
  instanceTypes := #[]
  staticTypes := #[.double, .double, .double, .double, .double, .long, .long, .double, .double, .boolean]
  resolved := Array.replicate 460 none
  statics := none }

def pool10 : Array CpInfo := pool [(1, .class_ 2), (0, u "java/lang/Long"), (98, u "(J)I"), (133, .class_ 237), (1, u "java/lang/Long$LongCache"), (33, .class_ 272), (0, u "java/lang/Number"), (2, u "value"), (0, u "J"), (2, u "hashCode"), (81, u "TYPE"), (0, u "Ljava/lang/Class;"), (0, .class_ 364), (0, u "java/lang/Comparable"), (0, .class_ 366), (0, u "java/lang/constant/Constable"), (0, .class_ 368), (0, u "java/lang/constant/ConstantDesc"), (0, u "MIN_VALUE"), (1, u "MAX_VALUE"), (4, u "SIZE"), (0, u "I"), (1, u "BYTES"), (1, u "serialVersionUID")] 142

def k10c0 : Code := { maxStack := 5, maxLocals := 2, code := jdk_35_method_36_code, exceptionTable := #[], attributes := #[] }
def k10m0 : Method := { name := "hashCode", desc := "(J)I", sig := { parameters := [.long], returnType := some .int }, accessFlags := 9, code := some k10c0 }
/-- java/lang/Long -/
def k10 : Class := { plain "java/lang/Long" (some 4) with
  accessFlags := 49
  interfaces := #[5, 6, 7]
  cf := some (fileOf pool10 1 #[.nestMembers #[235]] #[{ accessFlags := 9, nameIndex := 279, descriptorIndex := 101, attributes := #[] }] 49 271 #[363, 365, 367] #[{ accessFlags := 25, nameIndex := 369, descriptorIndex := 276, attributes := #[] }, { accessFlags := 25, nameIndex := 371, descriptorIndex := 276, attributes := #[] }, { accessFlags := 25, nameIndex := 361, descriptorIndex := 362, attributes := #[] }, { accessFlags := 18, nameIndex := 275, descriptorIndex := 276, attributes := #[] }, { accessFlags := 25, nameIndex := 376, descriptorIndex := 377, attributes := #[] }, { accessFlags := 25, nameIndex := 379, descriptorIndex := 377, attributes := #[] }, { accessFlags := 26, nameIndex := 381, descriptorIndex := 276, attributes := #[] }])
  fields := #[{ name := "MIN_VALUE", type := .long, accessFlags := 25, slot := 0, constantValue := 0 }, { name := "MAX_VALUE", type := .long, accessFlags := 25, slot := 1, constantValue := 0 }, { name := "TYPE", type := (.object "java/lang/Class"), accessFlags := 25, slot := 2, constantValue := 0 }, { name := "value", type := .long, accessFlags := 18, slot := 0, constantValue := 0 }, { name := "SIZE", type := .int, accessFlags := 25, slot := 3, constantValue := 0 }, { name := "BYTES", type := .int, accessFlags := 25, slot := 4, constantValue := 0 }, { name := "serialVersionUID", type := .long, accessFlags := 26, slot := 5, constantValue := 0 }]
  methods := #[k10m0]
  instanceTypes := #[.long]
  staticTypes := #[.long, .long, (.object "java/lang/Class"), .int, .int, .long]
  resolved := Array.replicate 524 none
  statics := none }

def pool11 : Array CpInfo := pool [(1, u "java/lang/Cloneable"), (0, .class_ 1), (0, u "java/lang/Object"), (0, .class_ 3)] 3

/-- java/lang/Cloneable -/
def k11 : Class := { plain "java/lang/Cloneable" (some 0) with
  accessFlags := 1537
  interfaces := #[]
  cf := some (fileOf pool11 2 #[] #[] 1537 4 #[] #[])
  fields := #[]
  methods := #[]
  instanceTypes := #[]
  staticTypes := #[]
  resolved := Array.replicate 8 none
  statics := none }

/-- the primitive byte -/
def k12 : Class := { plain "byte" none with kind := .primitive 'B', accessFlags := 0x411 }
/-- [B -/
def k13 : Class := { plain "[B" (some 0) with kind := .array 12 .byte, interfaces := #[11, 3], accessFlags := 1041 }

/-- the primitive int -/
def k14 : Class := { plain "int" none with kind := .primitive 'I', accessFlags := 0x411 }
/-- [I -/
def k15 : Class := { plain "[I" (some 0) with kind := .array 14 .int, interfaces := #[11, 3], accessFlags := 1041 }

def heap : Heap := #[]
def classes : Array Class := #[k0, k1, k2, k3, k4, k5, k6, k7, k8, k9, k10, k11, k12, k13, k14, k15]
def interned : List (Array UInt16 × Addr) := []
def slotsUsed : Nat := 0
def theMethod : MethodId := ⟨1, 2⟩
def args0 : Array Value := #[.int 3, .int 2, .int 1, .int 7, .int 2]
def aboutOver (below : List Frame) : State where
  vm := { classes := classes, interned := interned.toArray }
  heap := heap
  slotsUsed := slotsUsed
  threads := #[{ frames := .invoking theMethod args0 :: below }]
def below0 : List Frame := [.native { method := ⟨0, 0⟩, args := #[] }]
def about1 : State := aboutOver below0
def p0 : Program := .bare "" "" ""
def e0 : Env := launch0.env 0 0 0
theorem w_frames : about1.frames = Frame.invoking theMethod args0 :: below0 := rfl
set_option maxRecDepth 65536 in
theorem w_args : argsFit about1.vm theMethod args0 = true := by decide +kernel
set_option maxRecDepth 65536 in
theorem w_heap : heapFits about1 = true := by decide +kernel
set_option maxRecDepth 65536 in
theorem w_runnable : about1.curStatus? = some .runnable := by decide +kernel
set_option maxRecDepth 65536 in
theorem w_alone : about1.alone = true := by decide +kernel
set_option maxRecDepth 65536 in
theorem w_named : about1.methodNamed? x = some theMethod := by decide +kernel
set_option maxRecDepth 65536 in
theorem w_hears : about1.hears theMethod below0 = true := by decide +kernel
set_option maxRecDepth 65536 in
theorem w_ripe : about1.ripe theMethod args0 below0 = true := by decide +kernel
theorem w_running : about1.status = .running := rfl
set_option maxRecDepth 65536 in
theorem w_room : about1.hasRoom e0.platform room_1 = true :=
  launch0.hasRoom_least _ room_1 (by decide +kernel) (by decide +kernel) (by decide +kernel) (by decide +kernel) (by decide +kernel) (by decide +kernel)
theorem allAtoms_all (ts : List Jvm.Cond) (a : Array Jvm.Value) (st : Jvm.State) : (allAtoms ts).before a st = ts.all (fun c => c.before a st) := by
  induction ts with
  | nil => rfl
  | cons c t ih =>
    show (Jvm.Cond.and c (allAtoms t)).before a st = _
    rw [Jvm.Cond.before_and, ih, List.all_cons]
def words1 : List Jvm.Cond := Jvm.Cond.code x code maxLocals ret :: tables_1
/-- a 'code' word, met by the world's own term for the bytes: nothing is compared byte by byte -/
theorem code_word {y : MethodName} {bytes : ByteArray} {mx : Nat} {rt : Option FieldType} {a : Array Value} {s : State} {m : MethodId} {meth : Method} {c : Code} (h1 : s.methodNamed? y = some m) (h2 : s.vm.method? m = some meth) (h3 : meth.code = some c) (h4 : c.code = bytes)
    (h5 : (c.maxLocals == mx && c.exceptionTable.isEmpty && decide (c.maxStack ≤ mostOperands) && decide (meth.sig.returnType = rt) && !meth.locks && decide (parseMethodDescriptor y.desc = some meth.sig)) = true) : (Jvm.Cond.code y bytes mx rt).before a s = true := by
  simp only [Bool.and_eq_true, beq_iff_eq, Bool.not_eq_true', decide_eq_true_eq] at h5
  obtain ⟨⟨⟨⟨⟨g1, g2⟩, g3⟩, g4⟩, g5⟩, g6⟩ := h5
  simp [Cond.before, Cond.holds, Cond.value, h1, h2, h3, h4, g1, g2, g3, g4, g5, g6]
def isCode : Jvm.Cond → Bool
  | .code _ _ _ _ => true
  | _ => false
theorem all_split {L : List Jvm.Cond} {P : Jvm.Cond → Bool} (h1 : L.all (fun c => isCode c || P c) = true) (h2 : ∀ c ∈ L.filter isCode, P c = true) : L.all P = true := by
  refine List.all_eq_true.mpr fun c hc => ?_
  have h := List.all_eq_true.mp h1 c hc
  rcases Bool.eq_false_or_eq_true (isCode c) with hi | hi
  · exact h2 c (List.mem_filter.mpr ⟨hc, hi⟩)
  · simpa [hi] using h
set_option maxRecDepth 65536 in
theorem w_c0 : (Jvm.Cond.code x code maxLocals ret).before args0 about1 = true := code_word (m := ⟨1, 2⟩) (meth := k1m2) (c := k1c2) (by decide +kernel) rfl rfl rfl (by decide +kernel)
set_option maxRecDepth 65536 in
theorem w_c1 : (Jvm.Cond.code ({ cls := "com/example/hoja/hoja/model/Box", name := "<init>", desc := "(DDDD)V" } : Jvm.MethodName) prog_26_method_1_code (9 : Nat) (Option.none : Option Jvm.ClassFile.FieldType)).before args0 about1 = true := code_word (m := ⟨2, 0⟩) (meth := k2m0) (c := k2c0) (by decide +kernel) rfl rfl rfl (by decide +kernel)
set_option maxRecDepth 65536 in
theorem w_c2 : (Jvm.Cond.code ({ cls := "com/example/hoja/hoja/model/Box", name := "<init>", desc := "(DDDDDD)V" } : Jvm.MethodName) prog_26_method_3_code (13 : Nat) (Option.none : Option Jvm.ClassFile.FieldType)).before args0 about1 = true := code_word (m := ⟨2, 1⟩) (meth := k2m1) (c := k2c1) (by decide +kernel) rfl rfl rfl (by decide +kernel)
set_option maxRecDepth 65536 in
theorem w_c3 : (Jvm.Cond.code ({ cls := "java/lang/Object", name := "<init>", desc := "()V" } : Jvm.MethodName) object_method_1_code (1 : Nat) (Option.none : Option Jvm.ClassFile.FieldType)).before args0 about1 = true := code_word (m := ⟨0, 0⟩) (meth := k0m0) (c := k0c0) (by decide +kernel) rfl rfl rfl (by decide +kernel)
set_option maxRecDepth 65536 in
theorem w_c4 : (Jvm.Cond.code ({ cls := "java/lang/Double", name := "isFinite", desc := "(D)Z" } : Jvm.MethodName) jdk_117_method_8_code (2 : Nat) (Option.some Jvm.ClassFile.FieldType.boolean)).before args0 about1 = true := code_word (m := ⟨8, 1⟩) (meth := k8m1) (c := k8c1) (by decide +kernel) rfl rfl rfl (by decide +kernel)
set_option maxRecDepth 65536 in
theorem w_c5 : (Jvm.Cond.code ({ cls := "java/lang/Math", name := "abs", desc := "(D)D" } : Jvm.MethodName) jdk_29_method_64_code (2 : Nat) (Option.some Jvm.ClassFile.FieldType.double)).before args0 about1 = true := code_word (m := ⟨9, 1⟩) (meth := k9m1) (c := k9c1) (by decide +kernel) rfl rfl rfl (by decide +kernel)
set_option maxRecDepth 65536 in
theorem w_c6 : (Jvm.Cond.code ({ cls := "com/example/hoja/hoja/model/BoxHashCodePinLaw", name := "d", desc := "(IZ)D" } : Jvm.MethodName) method_2_code (2 : Nat) (Option.some Jvm.ClassFile.FieldType.double)).before args0 about1 = true := code_word (m := ⟨1, 1⟩) (meth := k1m1) (c := k1c1) (by decide +kernel) rfl rfl rfl (by decide +kernel)
set_option maxRecDepth 65536 in
theorem w_c7 : (Jvm.Cond.code ({ cls := "com/example/hoja/hoja/model/Box", name := "equals", desc := "(Ljava/lang/Object;)Z" } : Jvm.MethodName) prog_26_method_16_code (3 : Nat) (Option.some Jvm.ClassFile.FieldType.boolean)).before args0 about1 = true := code_word (m := ⟨2, 2⟩) (meth := k2m2) (c := k2c2) (by decide +kernel) rfl rfl rfl (by decide +kernel)
set_option maxRecDepth 65536 in
theorem w_c8 : (Jvm.Cond.code ({ cls := "com/example/hoja/hoja/model/Box", name := "hashCode", desc := "()I" } : Jvm.MethodName) prog_26_method_17_code (2 : Nat) (Option.some Jvm.ClassFile.FieldType.int)).before args0 about1 = true := code_word (m := ⟨2, 3⟩) (meth := k2m3) (c := k2c3) (by decide +kernel) rfl rfl rfl (by decide +kernel)
set_option maxRecDepth 65536 in
theorem w_c9 : (Jvm.Cond.code ({ cls := "java/lang/Double", name := "hashCode", desc := "(D)I" } : Jvm.MethodName) jdk_117_method_21_code (2 : Nat) (Option.some Jvm.ClassFile.FieldType.int)).before args0 about1 = true := code_word (m := ⟨8, 2⟩) (meth := k8m2) (c := k8c2) (by decide +kernel) rfl rfl rfl (by decide +kernel)
set_option maxRecDepth 65536 in
theorem w_c10 : (Jvm.Cond.code ({ cls := "java/lang/Double", name := "doubleToLongBits", desc := "(D)J" } : Jvm.MethodName) jdk_117_method_23_code (2 : Nat) (Option.some Jvm.ClassFile.FieldType.long)).before args0 about1 = true := code_word (m := ⟨8, 3⟩) (meth := k8m3) (c := k8c3) (by decide +kernel) rfl rfl rfl (by decide +kernel)
set_option maxRecDepth 65536 in
theorem w_c11 : (Jvm.Cond.code ({ cls := "java/lang/Double", name := "isNaN", desc := "(D)Z" } : Jvm.MethodName) jdk_117_method_6_code (2 : Nat) (Option.some Jvm.ClassFile.FieldType.boolean)).before args0 about1 = true := code_word (m := ⟨8, 0⟩) (meth := k8m0) (c := k8c0) (by decide +kernel) rfl rfl rfl (by decide +kernel)
set_option maxRecDepth 65536 in
theorem w_c12 : (Jvm.Cond.code ({ cls := "java/lang/Long", name := "hashCode", desc := "(J)I" } : Jvm.MethodName) jdk_35_method_36_code (2 : Nat) (Option.some Jvm.ClassFile.FieldType.int)).before args0 about1 = true := code_word (m := ⟨10, 0⟩) (meth := k10m0) (c := k10c0) (by decide +kernel) rfl rfl rfl (by decide +kernel)
def codes1 : List Jvm.Cond := [Jvm.Cond.code x code maxLocals ret, Jvm.Cond.code ({ cls := "com/example/hoja/hoja/model/Box", name := "<init>", desc := "(DDDD)V" } : Jvm.MethodName) prog_26_method_1_code (9 : Nat) (Option.none : Option Jvm.ClassFile.FieldType), Jvm.Cond.code ({ cls := "com/example/hoja/hoja/model/Box", name := "<init>", desc := "(DDDDDD)V" } : Jvm.MethodName) prog_26_method_3_code (13 : Nat) (Option.none : Option Jvm.ClassFile.FieldType), Jvm.Cond.code ({ cls := "java/lang/Object", name := "<init>", desc := "()V" } : Jvm.MethodName) object_method_1_code (1 : Nat) (Option.none : Option Jvm.ClassFile.FieldType), Jvm.Cond.code ({ cls := "java/lang/Double", name := "isFinite", desc := "(D)Z" } : Jvm.MethodName) jdk_117_method_8_code (2 : Nat) (Option.some Jvm.ClassFile.FieldType.boolean), Jvm.Cond.code ({ cls := "java/lang/Math", name := "abs", desc := "(D)D" } : Jvm.MethodName) jdk_29_method_64_code (2 : Nat) (Option.some Jvm.ClassFile.FieldType.double), Jvm.Cond.code ({ cls := "com/example/hoja/hoja/model/BoxHashCodePinLaw", name := "d", desc := "(IZ)D" } : Jvm.MethodName) method_2_code (2 : Nat) (Option.some Jvm.ClassFile.FieldType.double), Jvm.Cond.code ({ cls := "com/example/hoja/hoja/model/Box", name := "equals", desc := "(Ljava/lang/Object;)Z" } : Jvm.MethodName) prog_26_method_16_code (3 : Nat) (Option.some Jvm.ClassFile.FieldType.boolean), Jvm.Cond.code ({ cls := "com/example/hoja/hoja/model/Box", name := "hashCode", desc := "()I" } : Jvm.MethodName) prog_26_method_17_code (2 : Nat) (Option.some Jvm.ClassFile.FieldType.int), Jvm.Cond.code ({ cls := "java/lang/Double", name := "hashCode", desc := "(D)I" } : Jvm.MethodName) jdk_117_method_21_code (2 : Nat) (Option.some Jvm.ClassFile.FieldType.int), Jvm.Cond.code ({ cls := "java/lang/Double", name := "doubleToLongBits", desc := "(D)J" } : Jvm.MethodName) jdk_117_method_23_code (2 : Nat) (Option.some Jvm.ClassFile.FieldType.long), Jvm.Cond.code ({ cls := "java/lang/Double", name := "isNaN", desc := "(D)Z" } : Jvm.MethodName) jdk_117_method_6_code (2 : Nat) (Option.some Jvm.ClassFile.FieldType.boolean), Jvm.Cond.code ({ cls := "java/lang/Long", name := "hashCode", desc := "(J)I" } : Jvm.MethodName) jdk_35_method_36_code (2 : Nat) (Option.some Jvm.ClassFile.FieldType.int)]
set_option maxRecDepth 65536 in
theorem codes_eq : words1.filter isCode = codes1 := rfl
theorem w_codes : ∀ c ∈ words1.filter isCode, c.before args0 about1 = true := by
  rw [codes_eq]
  intro c hc
  simp only [codes1, List.mem_cons, List.not_mem_nil, or_false] at hc
  rcases hc with rfl | rfl | rfl | rfl | rfl | rfl | rfl | rfl | rfl | rfl | rfl | rfl | rfl
  · exact w_c0
  · exact w_c1
  · exact w_c2
  · exact w_c3
  · exact w_c4
  · exact w_c5
  · exact w_c6
  · exact w_c7
  · exact w_c8
  · exact w_c9
  · exact w_c10
  · exact w_c11
  · exact w_c12
set_option maxRecDepth 65536 in
theorem w_t1 : (words1.take 24).all (fun c => isCode c || c.before args0 about1) = true := by decide +kernel
set_option maxRecDepth 65536 in
theorem w_t2 : ((words1.drop 24).take 24).all (fun c => isCode c || c.before args0 about1) = true := by decide +kernel
set_option maxRecDepth 65536 in
theorem w_t3 : ((words1.drop 24).drop 24).all (fun c => isCode c || c.before args0 about1) = true := by decide +kernel
theorem w_tables : (allAtoms (Jvm.Cond.code x code maxLocals ret :: tables_1)).before args0 about1 = true := by
  rw [allAtoms_all]
  show words1.all (fun c => c.before args0 about1) = true
  refine all_split ?_ w_codes
  rw [← List.take_append_drop 24 words1, List.all_append, w_t1, ← List.take_append_drop 24 (words1.drop 24), List.all_append, w_t2, w_t3]
  rfl
set_option maxRecDepth 65536 in
theorem w_case : (Jvm.Cond.and given_1 narrow_1).before args0 about1 = true := by decide +kernel
theorem w_applies : (headSpec (Jvm.Cond.code x code maxLocals ret :: tables_1) room_1).applies x e0.platform about1 = true :=
  (Spec.applies_iff w_frames).mpr ⟨w_running, w_runnable, w_alone, w_named, w_hears, w_ripe, w_room, w_tables⟩
theorem atStart : AtStart classFile x code maxLocals ret World_1 tables_1 room_1 Calls_1 rest_1 Pre_1 launch0 p0 e0 about1 theMethod args0 below0 :=
  ⟨lists_1, trivial, launch0.admits_env _ _ _, launch0.least_env, fairChoices_fair.cas, fairChoices_fair.clock, w_frames, w_args, w_heap, w_applies, trivial, trivial, w_case⟩
end start1
theorem witness_1 : WitnessClaimed_1 := ⟨start1.p0, start1.e0, start1.about1, start1.theMethod, start1.args0, start1.below0, start1.atStart⟩
end Jvm.Pilot.@@N@@
