import JvmDerived
import JvmDerived.Pilot.@@N@@Statement
import JvmDerived.Pilot.@@N@@Code
set_option linter.unusedVariables false
set_option linter.unusedSimpArgs false
namespace Jvm.OwnFp
open Jvm.FP.Core Op
/-! own: exact values. `Dyf f i k d`: the datum d is finite and worth i / 2^k. -/
def Dyf (f : Fmt) (i : Int) (k : Nat) (d : Datum) : Prop := (∃ s c q, d = .fin s c q) ∧ zval f d * 2 ^ k = i * 2 ^ (-f.qmin).toNat
theorem pw_pos (n : Nat) : (0 : Int) < 2 ^ n := Int.pow_pos (by decide)
theorem pw_cast (n : Nat) : ((2 ^ n : Nat) : Int) = 2 ^ n := by simp
theorem signed_abs (i : Int) : signed (decide (i < 0)) i.natAbs = i := by
  unfold signed
  by_cases h : i < 0 <;> simp [h] <;> omega
theorem signed_mulI (s : Bool) (c k : Nat) : signed s (c * 2 ^ k) = signed s c * 2 ^ k := by
  rw [signed_mul, pw_cast]
theorem vex {f : Fmt} (hf : Good f) {i : Int} {k : Nat} (hi : i.natAbs < 2 ^ f.p) (hk : (k : Int) ≤ -f.qmin) (hq : 0 ≤ f.qmax) :
    ∃ s c q, FP.Core.fits f (.fin s c q) ∧ zval f (.fin s c q) * 2 ^ k = i * 2 ^ (-f.qmin).toNat := by
  obtain ⟨c', q', h, hu⟩ := round_exact hf (decide (i < 0)) (c := i.natAbs) (q := -(k : Int)) hi (by omega) (by omega)
  refine ⟨_, c', q', h ▸ round_fits hf _, ?_⟩
  show signed (decide (i < 0)) (inUnits c' q' f.qmin) * 2 ^ k = _
  rw [hu]
  unfold inUnits
  rw [signed_mulI, signed_abs, Int.mul_assoc, ← Int.pow_add, show (-(k : Int) - f.qmin).toNat + k = (-f.qmin).toNat by omega]
theorem dyf_of_zval {f : Fmt} (hf : Good f) {s : Bool} {A B : Nat} {e : Int} {s' : Bool} {c' : Nat} {q' : Int} (hV : FP.Core.fits f (.fin s' c' q'))
    (hz : zval f (roundRatio f s A B e) = zval f (.fin s' c' q')) : ∃ s₀ c₀ q₀, roundRatio f s A B e = .fin s₀ c₀ q₀ := by
  rcases roundRatio_cases f s A B e with ⟨c, q, h⟩ | h
  · exact ⟨s, c, q, h⟩
  · exfalso
    rw [h] at hz
    have h1 := zmag_lt_top hf hV
    have h2 := congrArg Int.natAbs hz
    unfold zval at h2
    rw [natAbs_signed, natAbs_signed] at h2
    have h3 : zmag f (.inf s) = f.tails * 2 ^ (f.exps - 2) := rfl
    have h4 : zmag f (.fin s' c' q') = inUnits c' q' f.qmin := rfl
    omega
/-- an exact result that the format holds is not rounded -/
theorem rnd {f : Fmt} (hf : Good f) (hq : 0 ≤ f.qmax) {s : Bool} {c : Nat} {q e0 : Int} (h0 : e0 ≤ f.qmin) (h0e : e0 ≤ q) {i : Int} {k : Nat} (hi : i.natAbs < 2 ^ f.p) (hk : (k : Int) ≤ -f.qmin)
    (h : signed s (inUnits c q e0) * 2 ^ k = i * 2 ^ (-f.qmin).toNat * 2 ^ (f.qmin - e0).toNat) : Dyf f i k (round f (.fin s c q)) := by
  obtain ⟨s', c', q', hV, hv⟩ := vex hf hi hk hq
  have hn : Datum.fin s' c' q' ≠ .nan := nofun
  have he : zval f (.fin s' c' q') * ((2 ^ (f.qmin - e0).toNat : Nat) : Int) = signed s (inUnits c q e0) := by
    refine Int.eq_of_mul_eq_mul_right (Int.ne_of_gt (pw_pos k)) ?_
    rw [h, ← hv, pw_cast]; ac_rfl
  have hz : zval f (round f (.fin s c q)) = zval f (.fin s' c' q') :=
    Int.le_antisymm (zval_round_le hf hV hn h0 h0e (Int.le_of_eq he.symm)) (zval_round_ge hf hV hn h0 h0e (Int.le_of_eq he))
  exact ⟨dyf_of_zval hf hV hz, by rw [hz]; exact hv⟩
theorem Dyf.fit {f : Fmt} {i : Int} {k : Nat} {d : Datum} (h : Dyf f i k d) : ∃ s c q, d = .fin s c q := h.1
theorem Dyf.up {f : Fmt} {i : Int} {k : Nat} {d : Datum} (h : Dyf f i k d) (l : Nat) : Dyf f (i * 2 ^ l) (k + l) d :=
  ⟨h.1, by rw [Int.pow_add, ← Int.mul_assoc, h.2]; ac_rfl⟩
theorem Dyf.to {f : Fmt} {i j : Int} {k l : Nat} {d : Datum} (h : Dyf f i k d) (e : i * 2 ^ l = j * 2 ^ k) : Dyf f j l d := by
  refine ⟨h.1, Int.eq_of_mul_eq_mul_right (Int.ne_of_gt (pw_pos k)) ?_⟩
  calc zval f d * 2 ^ l * 2 ^ k = (zval f d * 2 ^ k) * 2 ^ l := by ac_rfl
    _ = (i * 2 ^ l) * 2 ^ (-f.qmin).toNat := by rw [h.2]; ac_rfl
    _ = j * 2 ^ (-f.qmin).toNat * 2 ^ k := by rw [e]; ac_rfl
theorem Dyf.sum {f : Fmt} (hf : Good f) (hq : 0 ≤ f.qmax) {i j : Int} {k : Nat} {x y : Datum} (fx : FP.Core.fits f x) (fy : FP.Core.fits f y) (hx : Dyf f i k x) (hy : Dyf f j k y) (hi : (i + j).natAbs < 2 ^ f.p) (hk : (k : Int) ≤ -f.qmin) :
    Dyf f (i + j) k (round f (exactSum x y)) := by
  obtain ⟨⟨s, c, q, rfl⟩, hx⟩ := hx
  obtain ⟨⟨t, d, r, rfl⟩, hy⟩ := hy
  obtain ⟨sg, n, e, he, hle, hu⟩ := sum_units fx fy
  rw [he]
  refine rnd hf hq (Int.le_refl _) hle hi hk ?_
  rw [hu, Int.add_mul, hx, hy, Int.add_mul, Int.sub_self]
  simp
theorem Dyf.neg {f : Fmt} {i : Int} {k : Nat} {x : Datum} (hx : Dyf f i k x) : Dyf f (-i) k (negate x) := by
  obtain ⟨⟨s, c, q, rfl⟩, hx⟩ := hx
  refine ⟨⟨_, _, _, rfl⟩, ?_⟩
  rw [zval_negate, Int.neg_mul, hx, Int.neg_mul]
theorem Dyf.prod {f : Fmt} (hf : Good f) (hq : 0 ≤ f.qmax) {i j : Int} {k l : Nat} {x y : Datum} (fx : FP.Core.fits f x) (fy : FP.Core.fits f y) (hx : Dyf f i k x) (hy : Dyf f j l y) (hi : (i * j).natAbs < 2 ^ f.p) (hk : ((k + l : Nat) : Int) ≤ -f.qmin) :
    Dyf f (i * j) (k + l) (round f (exactProduct x y)) := by
  obtain ⟨⟨s, c, q, rfl⟩, hx⟩ := hx
  obtain ⟨⟨t, d, r, rfl⟩, hy⟩ := hy
  obtain ⟨he, hle, hu⟩ := product_units fx fy
  rw [he]
  have hn := qmin_neg hf
  refine rnd hf hq (e0 := 2 * f.qmin) (by omega) hle hi hk ?_
  rw [hu, signed_xor, show (f.qmin - 2 * f.qmin).toNat = (-f.qmin).toNat by omega, Int.pow_add]
  calc zval f (.fin s c q) * zval f (.fin t d r) * (2 ^ k * 2 ^ l) = (zval f (.fin s c q) * 2 ^ k) * (zval f (.fin t d r) * 2 ^ l) := by ac_rfl
    _ = _ := by rw [hx, hy]; ac_rfl
theorem natAbs_pow (n : Nat) : ((2 : Int) ^ n).natAbs = 2 ^ n := by rw [Int.natAbs_pow]; rfl
theorem natAbs_zval (f : Fmt) (d : Datum) : (zval f d).natAbs = zmag f d := natAbs_signed _ _
/-- an exact quotient that the format holds is not rounded -/
theorem Dyf.quot {f : Fmt} (hf : Good f) (hq : 0 ≤ f.qmax) {i j n : Int} {k l m : Nat} {x y : Datum} (fx : FP.Core.fits f x) (fy : FP.Core.fits f y) (hx : Dyf f i k x) (hy : Dyf f j l y) (hj : j ≠ 0) (hi : n.natAbs < 2 ^ f.p) (hm : (m : Int) ≤ -f.qmin)
    (e : i * 2 ^ l * 2 ^ m = n * j * 2 ^ k) : Dyf f n m (quotient f x y) := by
  obtain ⟨⟨s, c, q, rfl⟩, hx⟩ := hx
  obtain ⟨⟨t, d, r, rfl⟩, hy⟩ := hy
  obtain ⟨s', c', q', hV, hv⟩ := vex hf hi hm hq
  have hn : Datum.fin s' c' q' ≠ .nan := nofun
  have hqm := qmin_neg hf
  have fx1 := fx.2.1
  have fy1 := fy.2.1
  -- the signed equation
  have hz : zval f (.fin s c q) * 2 ^ (-f.qmin).toNat = zval f (.fin s' c' q') * zval f (.fin t d r) := by
    refine Int.eq_of_mul_eq_mul_right (Int.ne_of_gt (Int.mul_pos (Int.mul_pos (pw_pos k) (pw_pos l)) (pw_pos m))) ?_
    calc zval f (.fin s c q) * 2 ^ (-f.qmin).toNat * (2 ^ k * 2 ^ l * 2 ^ m) = (zval f (.fin s c q) * 2 ^ k) * (2 ^ l * 2 ^ m) * 2 ^ (-f.qmin).toNat := by ac_rfl
      _ = (i * 2 ^ l * 2 ^ m) * 2 ^ (-f.qmin).toNat * 2 ^ (-f.qmin).toNat := by rw [hx]; ac_rfl
      _ = (n * 2 ^ (-f.qmin).toNat) * (j * 2 ^ (-f.qmin).toNat) * 2 ^ k := by rw [e]; ac_rfl
      _ = (zval f (.fin s' c' q') * 2 ^ m) * (zval f (.fin t d r) * 2 ^ l) * 2 ^ k := by rw [hv, hy]
      _ = _ := by ac_rfl
  have hzb : zval f (.fin t d r) ≠ 0 := by
    intro h0
    rw [h0, Int.zero_mul] at hy
    rcases Int.mul_eq_zero.mp hy.symm with h | h
    · exact hj h
    · exact absurd h (Int.ne_of_gt (pw_pos _))
  have hd : d ≠ 0 := by
    rintro rfl
    apply hzb
    show signed t (inUnits 0 r f.qmin) = 0
    unfold inUnits; rw [Nat.zero_mul, signed_zero]
  have hmag : zmag f (.fin s c q) * 2 ^ (-f.qmin).toNat = zmag f (.fin s' c' q') * zmag f (.fin t d r) := by
    have h2 := congrArg Int.natAbs hz
    rw [Int.natAbs_mul, Int.natAbs_mul, natAbs_pow, natAbs_zval, natAbs_zval, natAbs_zval] at h2
    exact h2
  have hun : inUnits c (q - r) (2 * f.qmin - r) = zmag f (.fin s' c' q') * 2 ^ (f.qmin - (2 * f.qmin - r)).toNat * d := by
    have a1 : inUnits c (q - r) (2 * f.qmin - r) = zmag f (.fin s c q) * 2 ^ (-f.qmin).toNat := by
      show c * 2 ^ _ = c * 2 ^ _ * 2 ^ _
      rw [Nat.mul_assoc, ← Nat.pow_add, show (q - r - (2 * f.qmin - r)).toNat = (q - f.qmin).toNat + (-f.qmin).toNat by omega]
    rw [a1, hmag, show (f.qmin - (2 * f.qmin - r)).toNat = (r - f.qmin).toNat by omega]
    show _ * (d * 2 ^ _) = _
    ac_rfl
  have hqt : quotient f (.fin s c q) (.fin t d r) = roundRatio f (s != t) c d (q - r) := by
    show (if d = 0 then _ else _) = _
    rw [if_neg hd]
  have hm2 : zmag f (roundRatio f (s != t) c d (q - r)) = zmag f (.fin s' c' q') :=
    Nat.le_antisymm (zmag_roundRatio_le hf (e0 := 2 * f.qmin - r) (Nat.pos_of_ne_zero hd) hV hn (by omega) (by omega) (Nat.le_of_eq hun))
      (zmag_roundRatio_ge hf (e0 := 2 * f.qmin - r) (Nat.pos_of_ne_zero hd) hV (by omega) (by omega) (Nat.le_of_eq hun.symm))
  have hsg : signed (s != t) (zmag f (.fin s' c' q')) = zval f (.fin s' c' q') := by
    have p0 : zmag f (.fin s c q) = inUnits c q f.qmin := rfl
    have hS : zval f (.fin s c q) * 2 ^ (-f.qmin).toNat * zval f (.fin t d r) = zval f (.fin s' c' q') * (zval f (.fin t d r) * zval f (.fin t d r)) := by rw [hz]; ac_rfl
    by_cases h0 : zmag f (.fin s' c' q') = 0
    · unfold zval; rw [h0, signed_zero, signed_zero]
    · have hbb : 0 < zval f (.fin t d r) * zval f (.fin t d r) := by
        rcases Int.lt_or_gt_of_ne hzb with h | h
        · exact Int.mul_pos_of_neg_of_neg h h
        · exact Int.mul_pos h h
      have hst : zval f (.fin s c q) * zval f (.fin t d r) = signed (s != t) (zmag f (.fin s c q) * zmag f (.fin t d r)) := by
        rw [signed_xor]; rfl
      have e1 : zval f (.fin s' c' q') * (zval f (.fin t d r) * zval f (.fin t d r)) = signed (s != t) (zmag f (.fin s c q) * zmag f (.fin t d r)) * 2 ^ (-f.qmin).toNat := by
        rw [← hS, ← hst]; ac_rfl
      have e2 : signed (s != t) (zmag f (.fin s c q) * zmag f (.fin t d r)) * 2 ^ (-f.qmin).toNat = signed (s != t) (zmag f (.fin s' c' q')) * (zval f (.fin t d r) * zval f (.fin t d r)) := by
        rw [← signed_mulI, show zmag f (.fin s c q) * zmag f (.fin t d r) * 2 ^ (-f.qmin).toNat = zmag f (.fin s' c' q') * (zmag f (.fin t d r) * zmag f (.fin t d r)) by rw [Nat.mul_right_comm, hmag]; ac_rfl, signed_mul]
        congr 1
        unfold zval
        rw [Int.natCast_mul]
        cases (sgn (.fin t d r)) <;> simp [signed, Int.neg_mul_neg]
      exact Int.eq_of_mul_eq_mul_right (Int.ne_of_gt hbb) (e2.symm.trans e1.symm)
  have hzz : zval f (roundRatio f (s != t) c d (q - r)) = zval f (.fin s' c' q') := by
    rw [← hsg]
    show signed (sgn (roundRatio f (s != t) c d (q - r))) (zmag f (roundRatio f (s != t) c d (q - r))) = _
    rw [sgn_roundRatio, hm2]
  rw [hqt]
  exact ⟨dyf_of_zval hf hV hzz, by rw [hzz]; exact hv⟩
theorem Dyf.ofInt {f : Fmt} (hf : Good f) (hq : 0 ≤ f.qmax) {i : Int} (hi : i.natAbs < 2 ^ f.p) : Dyf f i 0 (round f (FP.Core.ofInt i)) := by
  have hn := qmin_neg hf
  refine rnd hf hq (Int.le_refl _) (by omega) hi (by omega) ?_
  unfold inUnits
  rw [signed_mulI, signed_abs, Int.sub_self]
  simp
theorem Dyf.order {f : Fmt} (hf : Good f) {i j : Int} {k : Nat} {x y : Datum} (fx : FP.Core.fits f x) (fy : FP.Core.fits f y) (hx : Dyf f i k x) (hy : Dyf f j k y) : order x y = some (compare i j) := by
  obtain ⟨⟨s, c, q, rfl⟩, hx⟩ := hx
  obtain ⟨⟨t, d, r, rfl⟩, hy⟩ := hy
  rw [order_zval hf fx fy nofun nofun, ← compare_mul_pos _ _ _ (pw_pos k), hx, hy, compare_mul_pos _ _ _ (pw_pos _)]
/-! doubles -/
def Dy (i : Int) (k : Nat) (a : UInt64) : Prop := Dyf b64 i k (val64 a)
theorem qm64 : (0 : Int) ≤ b64.qmax := by decide
theorem Dy.fin {i : Int} {k : Nat} {a : UInt64} (h : Dy i k a) : DFin a := h.1
theorem Dy.nn {i : Int} {k : Nat} {a : UInt64} (h : Dy i k a) : Jvm.Free.Fl.NoNaN64 a := (Jvm.Free.Fl.fin64_core.mpr h.1).noNaN
theorem Dy.to {i j : Int} {k l : Nat} {a : UInt64} (h : Dy i k a) (e : i * 2 ^ l = j * 2 ^ k) : Dy j l a := Dyf.to h e
theorem Dy.up {i : Int} {k : Nat} {a : UInt64} (h : Dy i k a) (l : Nat) : Dy (i * 2 ^ l) (k + l) a := Dyf.up h l
theorem Dy.add {i j : Int} {k : Nat} {a b : UInt64} (ha : Dy i k a) (hb : Dy j k b) (hi : (i + j).natAbs < 9007199254740992) (hk : k ≤ 1074) : Dy (i + j) k (FP.dadd a b) := by
  show Dyf b64 _ _ (val64 (dadd a b))
  rw [val64_dadd]
  exact Dyf.sum good_b64 qm64 (val64_fits a) (val64_fits b) ha hb hi (by rw [qmin_b64]; omega)
theorem Dy.sub {i j : Int} {k : Nat} {a b : UInt64} (ha : Dy i k a) (hb : Dy j k b) (hi : (i - j).natAbs < 9007199254740992) (hk : k ≤ 1074) : Dy (i - j) k (FP.dsub a b) := by
  show Dyf b64 _ _ (val64 (dsub a b))
  rw [val64_dsub]
  exact Dyf.sum good_b64 qm64 (val64_fits a) (negate_fits (val64_fits b)) ha hb.neg hi (by rw [qmin_b64]; omega)
theorem Dy.mul {i j : Int} {k l : Nat} {a b : UInt64} (ha : Dy i k a) (hb : Dy j l b) (hi : (i * j).natAbs < 9007199254740992) (hk : k + l ≤ 1074) : Dy (i * j) (k + l) (FP.dmul a b) := by
  show Dyf b64 _ _ (val64 (dmul a b))
  rw [val64_dmul]
  exact Dyf.prod good_b64 qm64 (val64_fits a) (val64_fits b) ha hb hi (by rw [qmin_b64]; omega)
theorem Dy.div {i j n : Int} {k l m : Nat} {a b : UInt64} (ha : Dy i k a) (hb : Dy j l b) (hj : j ≠ 0) (hi : n.natAbs < 9007199254740992) (hk : m ≤ 1074) (e : i * 2 ^ l * 2 ^ m = n * j * 2 ^ k) : Dy n m (FP.ddiv a b) := by
  show Dyf b64 _ _ (val64 (ddiv a b))
  rw [val64_ddiv]
  exact Dyf.quot good_b64 qm64 (val64_fits a) (val64_fits b) ha hb hj hi (by rw [qmin_b64]; omega) e
theorem Dy.neg {i : Int} {k : Nat} {a : UInt64} (ha : Dy i k a) : Dy (-i) k (FP.dneg a) := by
  show Dyf b64 _ _ (val64 (FP.dneg a))
  rw [Jvm.FP.val64_dneg]
  exact Dyf.neg ha
theorem Dy.i2d (x : Int32) : Dy x.toInt 0 (FP.i2d x) := by
  show Dyf b64 _ _ (val64 (FP.Core.i2d x))
  rw [val64_i2d]
  exact Dyf.ofInt good_b64 qm64 (by have := int32_abs x; show _ < 2 ^ 53; omega)
theorem Dy.l2d {x : Int64} (h : x.toInt.natAbs < 9007199254740992) : Dy x.toInt 0 (FP.l2d x) := by
  show Dyf b64 _ _ (val64 (FP.Core.l2d x))
  rw [val64_l2d]
  exact Dyf.ofInt good_b64 qm64 h
theorem Dy.cmp {i j : Int} {k : Nat} {a b : UInt64} (ha : Dy i k a) (hb : Dy j k b) : FP.dcmp a b = some (compare i j) :=
  Dyf.order good_b64 (val64_fits a) (val64_fits b) ha hb
theorem Dy.cmp_eq {i j : Int} {k : Nat} {a b : UInt64} (ha : Dy i k a) (hb : Dy j k b) (e : i = j) (o : ClassFile.CmpOp) : cmpValue (FP.dcmp a b) o = 0 := by
  rw [ha.cmp hb, e, compare_self_int]; rfl
theorem Dy.cmp_lt {i j : Int} {k : Nat} {a b : UInt64} (ha : Dy i k a) (hb : Dy j k b) (e : i < j) (o : ClassFile.CmpOp) : cmpValue (FP.dcmp a b) o = -1 := by
  rw [ha.cmp hb, show compare i j = .lt by rw [compare_ite, if_pos e]]; rfl
theorem Dy.cmp_gt {i j : Int} {k : Nat} {a b : UInt64} (ha : Dy i k a) (hb : Dy j k b) (e : j < i) (o : ClassFile.CmpOp) : cmpValue (FP.dcmp a b) o = 1 := by
  rw [ha.cmp hb, show compare i j = .gt by rw [compare_ite, if_neg (by omega), if_neg (by omega)]]; rfl
theorem dy_of {i : Int} {k : Nat} {a : UInt64} {s : Bool} {c : Nat} {q : Int} (h : val64 a = .fin s c q) (e : zval b64 (.fin s c q) * 2 ^ k = i * 2 ^ 1074) : Dy i k a :=
  ⟨⟨s, c, q, h⟩, by rw [h, e]; rfl⟩
theorem dy0 (k : Nat) : Dy 0 k (0 : UInt64) := dy_of (s := false) (c := 0) (q := -1074) (by decide +kernel) (by
  rw [show zval b64 (.fin false 0 (-1074)) = 0 from rfl, Int.zero_mul, Int.zero_mul])
theorem dy1 (k : Nat) : Dy (2 ^ k) k (4607182418800017408 : UInt64) := dy_of (s := false) (c := 2 ^ 52) (q := -52) (by decide +kernel) (by
  rw [show zval b64 (.fin false (2 ^ 52) (-52)) = 2 ^ 1074 by decide +kernel, Int.mul_comm])
theorem Dy.ge {i j : Int} {k : Nat} {a b : UInt64} (ha : Dy i k a) (hb : Dy j k b) (e : j ≤ i) (o : ClassFile.CmpOp) : ¬ (cmpValue (FP.dcmp a b) o < (0 : Int32)) := by
  rcases Int.lt_or_eq_of_le e with h | h
  · rw [ha.cmp_gt hb h]; decide
  · rw [ha.cmp_eq hb h.symm]; decide
theorem Dy.le {i j : Int} {k : Nat} {a b : UInt64} (ha : Dy i k a) (hb : Dy j k b) (e : i ≤ j) (o : ClassFile.CmpOp) : ¬ ((0 : Int32) < cmpValue (FP.dcmp a b) o) := by
  rcases Int.lt_or_eq_of_le e with h | h
  · rw [ha.cmp_lt hb h]; decide
  · rw [ha.cmp_eq hb h]; decide
theorem Dy.lt_inf {i : Int} {k : Nat} {a : UInt64} (ha : Dy i k a) (o : ClassFile.CmpOp) : cmpValue (FP.dcmp a (9218868437227405312 : UInt64)) o < (0 : Int32) := by
  rw [Jvm.RoadKit.dcmp_pinf (Jvm.Free.Fl.fin64_core.mpr ha.1)]; decide
theorem isfin {a : UInt64} (h : DFin a) : ¬ ((0 : Int32) < cmpValue (FP.dcmp (a &&& 0x7fffffffffffffff) (9218868437227405311 : UInt64)) .g) := by
  have hn : dIsNaN a = false := (notNaN_iff a).mpr (by obtain ⟨s, c, q, e⟩ := h; rw [e]; exact nofun)
  rcases (le_max hn).mpr h with e | e <;> rw [show FP.dcmp (a &&& 0x7fffffffffffffff) (9218868437227405311 : UInt64) = _ from e] <;> decide
theorem since0 (s : State) : s.Since s.vm 0 := ⟨State.Warmed39.refl s, fun j p h1 h2 => by
  rw [Array.getElem?_eq_none h1] at h2; cases h2⟩
theorem i2d_nz {v : Int32} (h : v ≠ 0) : ¬ DZero (FP.i2d v) := fun q => i2d_ne_zero h ((zero_bits2 _).mp q)
theorem nn_of {x : UInt64} (h : dIsNaN x = false) : Jvm.Free.Fl.NoNaN64 x := Jvm.Free.Fl.noNaN64_no.mpr h
theorem no_of {x : UInt64} (h : Jvm.Free.Fl.NoNaN64 x) : dIsNaN x = false := Jvm.Free.Fl.noNaN64_no.mp h
theorem no_fin {x : UInt64} (h : DFin x) : dIsNaN x = false := (notNaN_iff x).mpr (by obtain ⟨s, c, q, e⟩ := h; rw [e]; exact nofun)
theorem nn_div {a : UInt64} {v : Int32} (ha : dIsNaN a = false) (h : v ≠ 0) : Jvm.Free.Fl.NoNaN64 (FP.ddiv a (FP.i2d v)) := nn_of (ddiv_out ha (i2d_fin v) (i2d_nz h))
theorem fin_div (a : Int32) {v : Int32} (h : v ≠ 0) : DFin (FP.ddiv (FP.i2d a) (FP.i2d v)) := by
  have h1 := i2d_mag a
  have h2 := i2d_big (v := v) (fun q => h (Int32.toInt_inj.mp q))
  exact fin_of_lt (ddiv_mag h1 h2.1 h2.2 (by decide) (by decide)) (by decide)
end Jvm.OwnFp
namespace Jvm.Pilot.@@N@@
open Jvm Jvm.ClassFile Sem Op Lib Jvm.Free Jvm.Stand Jvm.LawKit Jvm.RoadKit Bundle Jvm.Pilot.@@N@@.Jvm.D
open Jvm.OwnFp
def own_dom : List (Int32 × Int32) → Int32 → Int32
  | [], b => b
  | (p, q) :: t, b => if q < p then 0 else own_dom t (b ||| (if p < q then 1 else 0))
theorem own_gt {p q : Int32} {o : CmpOp} : (0 : Int32) < cmpValue (FP.dcmp (FP.i2d p) (FP.i2d q)) o ↔ q < p := by
  rw [Int32.lt_iff_toInt_lt (x := q)]
  constructor
  · intro h
    rcases Int.lt_or_le q.toInt p.toInt with g | g
    · exact g
    · exact absurd h (Dy.le (Dy.i2d p) (Dy.i2d q) g o)
  · intro h; rw [Dy.cmp_gt (Dy.i2d p) (Dy.i2d q) h]; decide
theorem own_lt {p q : Int32} {o : CmpOp} : cmpValue (FP.dcmp (FP.i2d p) (FP.i2d q)) o < (0 : Int32) ↔ p < q := by
  rw [Int32.lt_iff_toInt_lt (x := p)]
  constructor
  · intro h
    rcases Int.lt_or_le p.toInt q.toInt with g | g
    · exact g
    · exact absurd h (Dy.ge (Dy.i2d p) (Dy.i2d q) g o)
  · intro h; rw [Dy.cmp_lt (Dy.i2d p) (Dy.i2d q) h]; decide
theorem own_tri (a b : Int32) : (a < b ∧ ¬ b < a) ∨ (¬ a < b ∧ b < a) ∨ (¬ a < b ∧ ¬ b < a) := by
  simp only [Int32.lt_iff_toInt_lt]; omega
theorem own_n (x n : Int32) (h : n = (x &&& (3 : Int32))) : n = 0 ∨ n = 1 ∨ n = 2 ∨ n = 3 := by
  have m := c_and x 3 (by decide)
  rw [← h, show (3 : Int32).toInt = 3 by decide] at m
  have e : n = Int32.ofInt n.toInt := (Int32.ofInt_toInt n).symm
  have : n.toInt = 0 ∨ n.toInt = 1 ∨ n.toInt = 2 ∨ n.toInt = 3 := by omega
  rcases this with q | q | q | q <;> rw [q] at e <;> simp [e] <;> decide
theorem ef_1_IIII (m : MethodId) (x0 : Int32) (x1 : Int32) (x2 : Int32) (x3 : Int32) : entryFrame m #[(.int x0), (.int x1), (.int x2), (.int x3)] 4 = mkF m 0 #[.val (.int x0), .val (.int x1), .val (.int x2), .val (.int x3)] [] := by first | (simp [entryFrame, mkF, argsToLocals, Value.category]; done) | rfl
theorem d1_0 : decode method_3_code 0 = .ok (.iload_n 0, 1) := by decide +kernel
theorem d1_1 : decode method_3_code 1 = .ok (.ifCond .ne 7, 3) := by decide +kernel
theorem d1_4 : decode method_3_code 4 = .ok (.iconst 0, 1) := by decide +kernel
theorem d1_5 : decode method_3_code 5 = .ok (.newarray .double, 2) := by decide +kernel
theorem d1_7 : decode method_3_code 7 = .ok (.areturn, 1) := by decide +kernel
def Q_vec0 (Z : State) (p0 : Int32) (p1 : Int32) (p2 : Int32) (h0 : Heap) (n0 : Nat) (v : Option Value) (h : Heap) (L : List Loc) : Prop := ∃ (b : Addr) (k : ClassId), v = some (.ref b) ∧ Fr n0 L ∧ b = h0.size ∧ Keep h0 h [] ∧ Arv Z h b k .double (0 : Int32) [] (.double (0 : UInt64))
theorem pn_com_2fexample_2ffrontweave_2ffrontweave_2fselection_2fFrontsDominatesPinLaw : plainName "com/example/frontweave/frontweave/selection/FrontsDominatesPinLaw" = true := by first | (simp [plainName, overriddenIn]; done) | decide +kernel
set_option maxRecDepth 65536 in
set_option maxHeartbeats 40000000 in
theorem vec0 (l : Launch) (Z : State) (a0 : Array Value) (hw : ∀ d ∈ tables_1, d.before a0 Z = true) (ws : List Jvm.Cond) (p0 : Int32) (p1 : Int32) (p2 : Int32) (h0 : Heap) (n0 : Nat) (Z0 : n0 ≤ h0.size) :
    MetFree l (⟨"com/example/frontweave/frontweave/selection/FrontsDominatesPinLaw", "vec", "(IIII)[D"⟩ : MethodName) (head1 (Jvm.Cond.code (⟨"com/example/frontweave/frontweave/selection/FrontsDominatesPinLaw", "vec", "(IIII)[D"⟩ : MethodName) method_3_code 4 (some (.array .double)) :: ws) ({ frames := 0, cells := 1, slots := 0, locals := 0 } : Room)) (fun a U => a = #[(.int (0 : Int32)), (.int p0), (.int p1), (.int p2)] ∧ Z.Warmed39 U.vm ∧ U.heap = h0) (fun _ _ _ _ _ => True) (fun _ U o U' => ∃ v L, o = .returned v ∧ Q_vec0 Z p0 p1 p2 h0 n0 v U'.heap L ∧ FrameEnd U o U' L ({ frames := 0, cells := 1, slots := 0, locals := 0 } : Room).cells ({ frames := 0, cells := 1, slots := 0, locals := 0 } : Room).slots) := by
  refine MetFree.of_bodySF (plainFor_of_name pn_com_2fexample_2ffrontweave_2ffrontweave_2fselection_2fFrontsDominatesPinLaw) hisR ?_
  intro p e s m args below meth c s₁ Bd hml0 hP hK
  obtain ⟨rfl, hZ, hh⟩ := hP
  have hx := Bd.exec
  have hby := Bd.bytes
  have hml : c.maxLocals = 4 := hml0
  have hown : s.vm.findClass "com/example/frontweave/frontweave/selection/FrontsDominatesPinLaw" = some m.cls := findClass_of_methodNamed Bd.named
  have hnm := (name_of_methodNamed Bd.named Bd.method).1
  have X0 : Stand p l e ({ frames := 0, cells := 1, slots := 0, locals := 0 } : Room) s m #[(.int (0 : Int32)), (.int p0), (.int p1), (.int p2)] below meth c s₁ [] 0 0 := Stand.of_body Bd
  have e0 : s₁.heap = h0 := by rw [← hh, Bd.state]; rfl
  have N0 := Fr.nil n0
  have k0 : ∀ t, Steps p.tables e below (s₁.setTop (mkF m 0 #[.val (.int (0 : Int32)), .val (.int p0), .val (.int p1), .val (.int p2)] [])) t → Steps p.tables e below (s₁.setTop (entryFrame m #[(.int (0 : Int32)), (.int p0), (.int p1), (.int p2)] 4)) t := fun t k => castTop (ef_1_IIII m (0 : Int32) p0 p1 p2) k
  have K0 : Keep h0 h0 [] := Keep.refl h0 []
  have k101 : ∀ t, Steps p.tables e below (s₁.setTop (mkF m 5 #[.val (.int (0 : Int32)), .val (.int p0), .val (.int p1), .val (.int p2)] [(.int (0 : Int32))])) t → Steps p.tables e below (s₁.setTop (entryFrame m #[(.int (0 : Int32)), (.int p0), (.int p1), (.int p2)] 4)) t := fun t k => k0 t (by
    show Steps p.tables e below (s₁.setTop (mkF m 0 #[.val (.int (0 : Int32)), .val (.int p0), .val (.int p1), .val (.int p2)] [])) _
    refine XS.iloadN X0.here hx rfl (hb hby d1_0) rfl ?_
    show Steps p.tables e below (s₁.setTop (mkF m 1 #[.val (.int (0 : Int32)), .val (.int p0), .val (.int p1), .val (.int p2)] [(.int (0 : Int32))])) _
    refine XS.ifNo X0.here hx rfl (hb hby d1_1) rfl ((if0 _ _).trans (teq (by decide)).2) ?_
    show Steps p.tables e below (s₁.setTop (mkF m 4 #[.val (.int (0 : Int32)), .val (.int p0), .val (.int p1), .val (.int p2)] [])) _
    refine XS.iconst X0.here hx rfl (hb hby d1_4) ?_
    exact k)
  obtain ⟨T102, h102, k102, X102, e102, E102, A102, st102⟩ := newP X0 hx hZ (hw _ (List.mem_of_getElem? (i := 4) rfl)) e0 (g := (mkF m 5 #[.val (.int (0 : Int32)), .val (.int p0), .val (.int p1), .val (.int p2)] [(.int (0 : Int32))])) rfl (hb hby d1_5) rfl (by decide) (cap := 0) (by decide) (by decide) (by decide) (by decide)
  obtain ⟨b102, g102⟩ : ∃ z, z = h0.size := ⟨_, rfl⟩
  rw [← g102] at A102 st102
  have g103 : n0 ≤ b102 := Nat.le_trans Z0 (Nat.le_of_eq g102.symm)
  have z104 : h0.size ≤ b102 := Nat.le_trans K0.1 (Nat.le_of_eq g102.symm)
  have Z105 : n0 ≤ h102.size := Nat.le_trans Z0 E102.1
  have K106 := K0.ext E102
  have V107 : Arv Z h102 b102 k102 .double (0 : Int32) [] (.double (0 : UInt64)) := (Arv.new A102 (by decide)).pad (pad_rep [] (.double (0 : UInt64)) 0)
  have k108 : ∀ t, Steps p.tables e below (T102.setTop (mkF m 7 #[.val (.int (0 : Int32)), .val (.int p0), .val (.int p1), .val (.int p2)] [(.ref b102)])) t → Steps p.tables e below (s₁.setTop (entryFrame m #[(.int (0 : Int32)), (.int p0), (.int p1), (.int p2)] 4)) t := fun t k => k101 t (st102 t k)
  obtain ⟨fs, hr, hrun, hended, hW, hsame⟩ := X102.leave (v := some (.ref b102)) (fun h => by rw [Bd.returns] at h; cases h)
  refine ⟨_, _, k108 _ (retOut X102 hx (t := (.array .double)) Bd.returns rfl (Or.inr (Or.inr (Or.inr (Or.inr ⟨rfl, rfl, rfl⟩)))) (hb hby d1_7) hr), hrun, hended, _, _, rfl, ?_, ⟨_, rfl⟩, hW, hsame.mono (by decide) (by decide)⟩
  show Q_vec0 Z p0 p1 p2 h0 n0 _ T102.heap _
  rw [e102]
  exact ⟨b102, k102, rfl, N0, g102, K106, V107⟩
theorem d1_8 : decode method_3_code 8 = .ok (.iload_n 0, 1) := by decide +kernel
theorem d1_9 : decode method_3_code 9 = .ok (.iconst 1, 1) := by decide +kernel
theorem d1_10 : decode method_3_code 10 = .ok (.if_icmp .ne 12, 3) := by decide +kernel
theorem d1_13 : decode method_3_code 13 = .ok (.iconst 1, 1) := by decide +kernel
theorem d1_14 : decode method_3_code 14 = .ok (.newarray .double, 2) := by decide +kernel
theorem d1_16 : decode method_3_code 16 = .ok (.dup, 1) := by decide +kernel
theorem d1_17 : decode method_3_code 17 = .ok (.iconst 0, 1) := by decide +kernel
theorem d1_18 : decode method_3_code 18 = .ok (.iload_n 1, 1) := by decide +kernel
theorem d1_19 : decode method_3_code 19 = .ok (.i2d, 1) := by decide +kernel
theorem d1_20 : decode method_3_code 20 = .ok (.dastore, 1) := by decide +kernel
theorem d1_21 : decode method_3_code 21 = .ok (.areturn, 1) := by decide +kernel
def Q_vec1 (Z : State) (p0 : Int32) (p1 : Int32) (p2 : Int32) (h0 : Heap) (n0 : Nat) (v : Option Value) (h : Heap) (L : List Loc) : Prop := ∃ (b : Addr) (k : ClassId), v = some (.ref b) ∧ Fr n0 L ∧ b = h0.size ∧ Keep h0 h [] ∧ Arv Z h b k .double (1 : Int32) [(.double (FP.i2d p0))] (.double (0 : UInt64))
set_option maxRecDepth 65536 in
set_option maxHeartbeats 40000000 in
theorem vec1 (l : Launch) (Z : State) (a0 : Array Value) (hw : ∀ d ∈ tables_1, d.before a0 Z = true) (ws : List Jvm.Cond) (p0 : Int32) (p1 : Int32) (p2 : Int32) (h0 : Heap) (n0 : Nat) (Z0 : n0 ≤ h0.size) :
    MetFree l (⟨"com/example/frontweave/frontweave/selection/FrontsDominatesPinLaw", "vec", "(IIII)[D"⟩ : MethodName) (head1 (Jvm.Cond.code (⟨"com/example/frontweave/frontweave/selection/FrontsDominatesPinLaw", "vec", "(IIII)[D"⟩ : MethodName) method_3_code 4 (some (.array .double)) :: ws) ({ frames := 0, cells := 1, slots := 1, locals := 0 } : Room)) (fun a U => a = #[(.int (1 : Int32)), (.int p0), (.int p1), (.int p2)] ∧ Z.Warmed39 U.vm ∧ U.heap = h0) (fun _ _ _ _ _ => True) (fun _ U o U' => ∃ v L, o = .returned v ∧ Q_vec1 Z p0 p1 p2 h0 n0 v U'.heap L ∧ FrameEnd U o U' L ({ frames := 0, cells := 1, slots := 1, locals := 0 } : Room).cells ({ frames := 0, cells := 1, slots := 1, locals := 0 } : Room).slots) := by
  refine MetFree.of_bodySF (plainFor_of_name pn_com_2fexample_2ffrontweave_2ffrontweave_2fselection_2fFrontsDominatesPinLaw) hisR ?_
  intro p e s m args below meth c s₁ Bd hml0 hP hK
  obtain ⟨rfl, hZ, hh⟩ := hP
  have hx := Bd.exec
  have hby := Bd.bytes
  have hml : c.maxLocals = 4 := hml0
  have hown : s.vm.findClass "com/example/frontweave/frontweave/selection/FrontsDominatesPinLaw" = some m.cls := findClass_of_methodNamed Bd.named
  have hnm := (name_of_methodNamed Bd.named Bd.method).1
  have X0 : Stand p l e ({ frames := 0, cells := 1, slots := 1, locals := 0 } : Room) s m #[(.int (1 : Int32)), (.int p0), (.int p1), (.int p2)] below meth c s₁ [] 0 0 := Stand.of_body Bd
  have e0 : s₁.heap = h0 := by rw [← hh, Bd.state]; rfl
  have N0 := Fr.nil n0
  have k0 : ∀ t, Steps p.tables e below (s₁.setTop (mkF m 0 #[.val (.int (1 : Int32)), .val (.int p0), .val (.int p1), .val (.int p2)] [])) t → Steps p.tables e below (s₁.setTop (entryFrame m #[(.int (1 : Int32)), (.int p0), (.int p1), (.int p2)] 4)) t := fun t k => castTop (ef_1_IIII m (1 : Int32) p0 p1 p2) k
  have K0 : Keep h0 h0 [] := Keep.refl h0 []
  have k101 : ∀ t, Steps p.tables e below (s₁.setTop (mkF m 14 #[.val (.int (1 : Int32)), .val (.int p0), .val (.int p1), .val (.int p2)] [(.int (1 : Int32))])) t → Steps p.tables e below (s₁.setTop (entryFrame m #[(.int (1 : Int32)), (.int p0), (.int p1), (.int p2)] 4)) t := fun t k => k0 t (by
    show Steps p.tables e below (s₁.setTop (mkF m 0 #[.val (.int (1 : Int32)), .val (.int p0), .val (.int p1), .val (.int p2)] [])) _
    refine XS.iloadN X0.here hx rfl (hb hby d1_0) rfl ?_
    show Steps p.tables e below (s₁.setTop (mkF m 1 #[.val (.int (1 : Int32)), .val (.int p0), .val (.int p1), .val (.int p2)] [(.int (1 : Int32))])) _
    refine XS.ifYes X0.here hx rfl (pc0 := 1) (pc' := 8) rfl (hb hby d1_1) rfl ((if0 _ _).trans (feq (by decide)).2) (by decide) (by decide) ?_
    show Steps p.tables e below (s₁.setTop (mkF m 8 #[.val (.int (1 : Int32)), .val (.int p0), .val (.int p1), .val (.int p2)] [])) _
    refine XS.iloadN X0.here hx rfl (hb hby d1_8) rfl ?_
    show Steps p.tables e below (s₁.setTop (mkF m 9 #[.val (.int (1 : Int32)), .val (.int p0), .val (.int p1), .val (.int p2)] [(.int (1 : Int32))])) _
    refine XS.iconst X0.here hx rfl (hb hby d1_9) ?_
    show Steps p.tables e below (s₁.setTop (mkF m 10 #[.val (.int (1 : Int32)), .val (.int p0), .val (.int p1), .val (.int p2)] [(.int (1 : Int32)), (.int (1 : Int32))])) _
    refine XS.icmpNo X0.here hx rfl (hb hby d1_10) rfl (teq (by decide)).2 ?_
    show Steps p.tables e below (s₁.setTop (mkF m 13 #[.val (.int (1 : Int32)), .val (.int p0), .val (.int p1), .val (.int p2)] [])) _
    refine XS.iconst X0.here hx rfl (hb hby d1_13) ?_
    exact k)
  obtain ⟨T102, h102, k102, X102, e102, E102, A102, st102⟩ := newP X0 hx hZ (hw _ (List.mem_of_getElem? (i := 4) rfl)) e0 (g := (mkF m 14 #[.val (.int (1 : Int32)), .val (.int p0), .val (.int p1), .val (.int p2)] [(.int (1 : Int32))])) rfl (hb hby d1_14) rfl (by decide) (cap := 1) (by decide) (by decide) (by decide) (by decide)
  obtain ⟨b102, g102⟩ : ∃ z, z = h0.size := ⟨_, rfl⟩
  rw [← g102] at A102 st102
  have g103 : n0 ≤ b102 := Nat.le_trans Z0 (Nat.le_of_eq g102.symm)
  have z104 : h0.size ≤ b102 := Nat.le_trans K0.1 (Nat.le_of_eq g102.symm)
  have Z105 : n0 ≤ h102.size := Nat.le_trans Z0 E102.1
  have K106 := K0.ext E102
  have V107 : Arv Z h102 b102 k102 .double (1 : Int32) [(.double (0 : UInt64))] (.double (0 : UInt64)) := (Arv.new A102 (by decide)).pad (pad_rep [] (.double (0 : UInt64)) 1)
  have k108 : ∀ t, Steps p.tables e below (T102.setTop (mkF m 16 #[.val (.int (1 : Int32)), .val (.int p0), .val (.int p1), .val (.int p2)] [(.ref b102)])) t → Steps p.tables e below (s₁.setTop (entryFrame m #[(.int (1 : Int32)), (.int p0), (.int p1), (.int p2)] 4)) t := fun t k => k101 t (st102 t k)
  have k109 : ∀ t, Steps p.tables e below (T102.setTop (mkF m 20 #[.val (.int (1 : Int32)), .val (.int p0), .val (.int p1), .val (.int p2)] [(.double (FP.i2d p0)), (.int (0 : Int32)), (.ref b102), (.ref b102)])) t → Steps p.tables e below (s₁.setTop (entryFrame m #[(.int (1 : Int32)), (.int p0), (.int p1), (.int p2)] 4)) t := fun t k => k108 t (by
    show Steps p.tables e below (T102.setTop (mkF m 16 #[.val (.int (1 : Int32)), .val (.int p0), .val (.int p1), .val (.int p2)] [(.ref b102)])) _
    refine XS.dup X102.here hx rfl (hb hby d1_16) rfl rfl ?_
    show Steps p.tables e below (T102.setTop (mkF m 17 #[.val (.int (1 : Int32)), .val (.int p0), .val (.int p1), .val (.int p2)] [(.ref b102), (.ref b102)])) _
    refine XS.iconst X102.here hx rfl (hb hby d1_17) ?_
    show Steps p.tables e below (T102.setTop (mkF m 18 #[.val (.int (1 : Int32)), .val (.int p0), .val (.int p1), .val (.int p2)] [(.int (0 : Int32)), (.ref b102), (.ref b102)])) _
    refine XS.iloadN X102.here hx rfl (hb hby d1_18) rfl ?_
    show Steps p.tables e below (T102.setTop (mkF m 19 #[.val (.int (1 : Int32)), .val (.int p0), .val (.int p1), .val (.int p2)] [(.int p0), (.int (0 : Int32)), (.ref b102), (.ref b102)])) _
    refine XS.i2dS X102.here hx rfl (hb hby d1_19) rfl rfl ?_
    exact k)
  obtain ⟨c110, Ar110, Aq110, As110, An110, Ah110, Ag110⟩ := id V107
  have hin110 : ¬ ((0 : Int32) < 0 ∨ c110.slots.size ≤ ((0 : Int32)).toNatClampNeg) := inb_of As110 ⟨by decide, by decide⟩
  obtain ⟨T110, h110, X110, e110, W110, st110⟩ := stD X102 hx hZ e102 Ar110 (j := (0 : Int32)) hin110 (g := (mkF m 20 #[.val (.int (1 : Int32)), .val (.int p0), .val (.int p1), .val (.int p2)] [(.double (FP.i2d p0)), (.int (0 : Int32)), (.ref b102), (.ref b102)])) rfl rfl (hb hby d1_20)
  have V111 := Arv.set Ar110 Aq110 As110 An110 Ah110 Ag110 rfl W110 0 rfl (Nat.le_of_ble_eq_true rfl)
  have Z112 : n0 ≤ h110.size := Nat.le_trans Z105 (Nat.le_of_eq W110.size.symm)
  have N113 := Fr.snoc X110 N0 g103
  have K114 := K106.wr W110 (Or.inr z104)
  have k115 : ∀ t, Steps p.tables e below (T110.setTop (mkF m 21 #[.val (.int (1 : Int32)), .val (.int p0), .val (.int p1), .val (.int p2)] [(.ref b102)])) t → Steps p.tables e below (s₁.setTop (entryFrame m #[(.int (1 : Int32)), (.int p0), (.int p1), (.int p2)] 4)) t := fun t k => k109 t (st110 t k)
  obtain ⟨fs, hr, hrun, hended, hW, hsame⟩ := X110.leave (v := some (.ref b102)) (fun h => by rw [Bd.returns] at h; cases h)
  refine ⟨_, _, k115 _ (retOut X110 hx (t := (.array .double)) Bd.returns rfl (Or.inr (Or.inr (Or.inr (Or.inr ⟨rfl, rfl, rfl⟩)))) (hb hby d1_21) hr), hrun, hended, _, _, rfl, ?_, ⟨_, rfl⟩, hW, hsame.mono (by decide) (by decide)⟩
  show Q_vec1 Z p0 p1 p2 h0 n0 _ T110.heap _
  rw [e110]
  exact ⟨b102, k102, rfl, N113, g102, K114, V111⟩
theorem d1_22 : decode method_3_code 22 = .ok (.iload_n 0, 1) := by decide +kernel
theorem d1_23 : decode method_3_code 23 = .ok (.iconst 2, 1) := by decide +kernel
theorem d1_24 : decode method_3_code 24 = .ok (.if_icmp .ne 17, 3) := by decide +kernel
theorem d1_27 : decode method_3_code 27 = .ok (.iconst 2, 1) := by decide +kernel
theorem d1_28 : decode method_3_code 28 = .ok (.newarray .double, 2) := by decide +kernel
theorem d1_30 : decode method_3_code 30 = .ok (.dup, 1) := by decide +kernel
theorem d1_31 : decode method_3_code 31 = .ok (.iconst 0, 1) := by decide +kernel
theorem d1_32 : decode method_3_code 32 = .ok (.iload_n 1, 1) := by decide +kernel
theorem d1_33 : decode method_3_code 33 = .ok (.i2d, 1) := by decide +kernel
theorem d1_34 : decode method_3_code 34 = .ok (.dastore, 1) := by decide +kernel
theorem d1_35 : decode method_3_code 35 = .ok (.dup, 1) := by decide +kernel
theorem d1_36 : decode method_3_code 36 = .ok (.iconst 1, 1) := by decide +kernel
theorem d1_37 : decode method_3_code 37 = .ok (.iload_n 2, 1) := by decide +kernel
theorem d1_38 : decode method_3_code 38 = .ok (.i2d, 1) := by decide +kernel
theorem d1_39 : decode method_3_code 39 = .ok (.dastore, 1) := by decide +kernel
theorem d1_40 : decode method_3_code 40 = .ok (.areturn, 1) := by decide +kernel
def Q_vec2 (Z : State) (p0 : Int32) (p1 : Int32) (p2 : Int32) (h0 : Heap) (n0 : Nat) (v : Option Value) (h : Heap) (L : List Loc) : Prop := ∃ (b : Addr) (k : ClassId), v = some (.ref b) ∧ Fr n0 L ∧ b = h0.size ∧ Keep h0 h [] ∧ Arv Z h b k .double (2 : Int32) [(.double (FP.i2d p0)), (.double (FP.i2d p1))] (.double (0 : UInt64))
set_option maxRecDepth 65536 in
set_option maxHeartbeats 40000000 in
theorem vec2 (l : Launch) (Z : State) (a0 : Array Value) (hw : ∀ d ∈ tables_1, d.before a0 Z = true) (ws : List Jvm.Cond) (p0 : Int32) (p1 : Int32) (p2 : Int32) (h0 : Heap) (n0 : Nat) (Z0 : n0 ≤ h0.size) :
    MetFree l (⟨"com/example/frontweave/frontweave/selection/FrontsDominatesPinLaw", "vec", "(IIII)[D"⟩ : MethodName) (head1 (Jvm.Cond.code (⟨"com/example/frontweave/frontweave/selection/FrontsDominatesPinLaw", "vec", "(IIII)[D"⟩ : MethodName) method_3_code 4 (some (.array .double)) :: ws) ({ frames := 0, cells := 1, slots := 2, locals := 0 } : Room)) (fun a U => a = #[(.int (2 : Int32)), (.int p0), (.int p1), (.int p2)] ∧ Z.Warmed39 U.vm ∧ U.heap = h0) (fun _ _ _ _ _ => True) (fun _ U o U' => ∃ v L, o = .returned v ∧ Q_vec2 Z p0 p1 p2 h0 n0 v U'.heap L ∧ FrameEnd U o U' L ({ frames := 0, cells := 1, slots := 2, locals := 0 } : Room).cells ({ frames := 0, cells := 1, slots := 2, locals := 0 } : Room).slots) := by
  refine MetFree.of_bodySF (plainFor_of_name pn_com_2fexample_2ffrontweave_2ffrontweave_2fselection_2fFrontsDominatesPinLaw) hisR ?_
  intro p e s m args below meth c s₁ Bd hml0 hP hK
  obtain ⟨rfl, hZ, hh⟩ := hP
  have hx := Bd.exec
  have hby := Bd.bytes
  have hml : c.maxLocals = 4 := hml0
  have hown : s.vm.findClass "com/example/frontweave/frontweave/selection/FrontsDominatesPinLaw" = some m.cls := findClass_of_methodNamed Bd.named
  have hnm := (name_of_methodNamed Bd.named Bd.method).1
  have X0 : Stand p l e ({ frames := 0, cells := 1, slots := 2, locals := 0 } : Room) s m #[(.int (2 : Int32)), (.int p0), (.int p1), (.int p2)] below meth c s₁ [] 0 0 := Stand.of_body Bd
  have e0 : s₁.heap = h0 := by rw [← hh, Bd.state]; rfl
  have N0 := Fr.nil n0
  have k0 : ∀ t, Steps p.tables e below (s₁.setTop (mkF m 0 #[.val (.int (2 : Int32)), .val (.int p0), .val (.int p1), .val (.int p2)] [])) t → Steps p.tables e below (s₁.setTop (entryFrame m #[(.int (2 : Int32)), (.int p0), (.int p1), (.int p2)] 4)) t := fun t k => castTop (ef_1_IIII m (2 : Int32) p0 p1 p2) k
  have K0 : Keep h0 h0 [] := Keep.refl h0 []
  have k101 : ∀ t, Steps p.tables e below (s₁.setTop (mkF m 28 #[.val (.int (2 : Int32)), .val (.int p0), .val (.int p1), .val (.int p2)] [(.int (2 : Int32))])) t → Steps p.tables e below (s₁.setTop (entryFrame m #[(.int (2 : Int32)), (.int p0), (.int p1), (.int p2)] 4)) t := fun t k => k0 t (by
    show Steps p.tables e below (s₁.setTop (mkF m 0 #[.val (.int (2 : Int32)), .val (.int p0), .val (.int p1), .val (.int p2)] [])) _
    refine XS.iloadN X0.here hx rfl (hb hby d1_0) rfl ?_
    show Steps p.tables e below (s₁.setTop (mkF m 1 #[.val (.int (2 : Int32)), .val (.int p0), .val (.int p1), .val (.int p2)] [(.int (2 : Int32))])) _
    refine XS.ifYes X0.here hx rfl (pc0 := 1) (pc' := 8) rfl (hb hby d1_1) rfl ((if0 _ _).trans (feq (by decide)).2) (by decide) (by decide) ?_
    show Steps p.tables e below (s₁.setTop (mkF m 8 #[.val (.int (2 : Int32)), .val (.int p0), .val (.int p1), .val (.int p2)] [])) _
    refine XS.iloadN X0.here hx rfl (hb hby d1_8) rfl ?_
    show Steps p.tables e below (s₁.setTop (mkF m 9 #[.val (.int (2 : Int32)), .val (.int p0), .val (.int p1), .val (.int p2)] [(.int (2 : Int32))])) _
    refine XS.iconst X0.here hx rfl (hb hby d1_9) ?_
    show Steps p.tables e below (s₁.setTop (mkF m 10 #[.val (.int (2 : Int32)), .val (.int p0), .val (.int p1), .val (.int p2)] [(.int (1 : Int32)), (.int (2 : Int32))])) _
    refine XS.icmpYes X0.here hx rfl (pc0 := 10) (pc' := 22) rfl (hb hby d1_10) rfl (feq (by decide)).2 (by decide) (by decide) ?_
    show Steps p.tables e below (s₁.setTop (mkF m 22 #[.val (.int (2 : Int32)), .val (.int p0), .val (.int p1), .val (.int p2)] [])) _
    refine XS.iloadN X0.here hx rfl (hb hby d1_22) rfl ?_
    show Steps p.tables e below (s₁.setTop (mkF m 23 #[.val (.int (2 : Int32)), .val (.int p0), .val (.int p1), .val (.int p2)] [(.int (2 : Int32))])) _
    refine XS.iconst X0.here hx rfl (hb hby d1_23) ?_
    show Steps p.tables e below (s₁.setTop (mkF m 24 #[.val (.int (2 : Int32)), .val (.int p0), .val (.int p1), .val (.int p2)] [(.int (2 : Int32)), (.int (2 : Int32))])) _
    refine XS.icmpNo X0.here hx rfl (hb hby d1_24) rfl (teq (by decide)).2 ?_
    show Steps p.tables e below (s₁.setTop (mkF m 27 #[.val (.int (2 : Int32)), .val (.int p0), .val (.int p1), .val (.int p2)] [])) _
    refine XS.iconst X0.here hx rfl (hb hby d1_27) ?_
    exact k)
  obtain ⟨T102, h102, k102, X102, e102, E102, A102, st102⟩ := newP X0 hx hZ (hw _ (List.mem_of_getElem? (i := 4) rfl)) e0 (g := (mkF m 28 #[.val (.int (2 : Int32)), .val (.int p0), .val (.int p1), .val (.int p2)] [(.int (2 : Int32))])) rfl (hb hby d1_28) rfl (by decide) (cap := 2) (by decide) (by decide) (by decide) (by decide)
  obtain ⟨b102, g102⟩ : ∃ z, z = h0.size := ⟨_, rfl⟩
  rw [← g102] at A102 st102
  have g103 : n0 ≤ b102 := Nat.le_trans Z0 (Nat.le_of_eq g102.symm)
  have z104 : h0.size ≤ b102 := Nat.le_trans K0.1 (Nat.le_of_eq g102.symm)
  have Z105 : n0 ≤ h102.size := Nat.le_trans Z0 E102.1
  have K106 := K0.ext E102
  have V107 : Arv Z h102 b102 k102 .double (2 : Int32) [(.double (0 : UInt64)), (.double (0 : UInt64))] (.double (0 : UInt64)) := (Arv.new A102 (by decide)).pad (pad_rep [] (.double (0 : UInt64)) 2)
  have k108 : ∀ t, Steps p.tables e below (T102.setTop (mkF m 30 #[.val (.int (2 : Int32)), .val (.int p0), .val (.int p1), .val (.int p2)] [(.ref b102)])) t → Steps p.tables e below (s₁.setTop (entryFrame m #[(.int (2 : Int32)), (.int p0), (.int p1), (.int p2)] 4)) t := fun t k => k101 t (st102 t k)
  have k109 : ∀ t, Steps p.tables e below (T102.setTop (mkF m 34 #[.val (.int (2 : Int32)), .val (.int p0), .val (.int p1), .val (.int p2)] [(.double (FP.i2d p0)), (.int (0 : Int32)), (.ref b102), (.ref b102)])) t → Steps p.tables e below (s₁.setTop (entryFrame m #[(.int (2 : Int32)), (.int p0), (.int p1), (.int p2)] 4)) t := fun t k => k108 t (by
    show Steps p.tables e below (T102.setTop (mkF m 30 #[.val (.int (2 : Int32)), .val (.int p0), .val (.int p1), .val (.int p2)] [(.ref b102)])) _
    refine XS.dup X102.here hx rfl (hb hby d1_30) rfl rfl ?_
    show Steps p.tables e below (T102.setTop (mkF m 31 #[.val (.int (2 : Int32)), .val (.int p0), .val (.int p1), .val (.int p2)] [(.ref b102), (.ref b102)])) _
    refine XS.iconst X102.here hx rfl (hb hby d1_31) ?_
    show Steps p.tables e below (T102.setTop (mkF m 32 #[.val (.int (2 : Int32)), .val (.int p0), .val (.int p1), .val (.int p2)] [(.int (0 : Int32)), (.ref b102), (.ref b102)])) _
    refine XS.iloadN X102.here hx rfl (hb hby d1_32) rfl ?_
    show Steps p.tables e below (T102.setTop (mkF m 33 #[.val (.int (2 : Int32)), .val (.int p0), .val (.int p1), .val (.int p2)] [(.int p0), (.int (0 : Int32)), (.ref b102), (.ref b102)])) _
    refine XS.i2dS X102.here hx rfl (hb hby d1_33) rfl rfl ?_
    exact k)
  obtain ⟨c110, Ar110, Aq110, As110, An110, Ah110, Ag110⟩ := id V107
  have hin110 : ¬ ((0 : Int32) < 0 ∨ c110.slots.size ≤ ((0 : Int32)).toNatClampNeg) := inb_of As110 ⟨by decide, by decide⟩
  obtain ⟨T110, h110, X110, e110, W110, st110⟩ := stD X102 hx hZ e102 Ar110 (j := (0 : Int32)) hin110 (g := (mkF m 34 #[.val (.int (2 : Int32)), .val (.int p0), .val (.int p1), .val (.int p2)] [(.double (FP.i2d p0)), (.int (0 : Int32)), (.ref b102), (.ref b102)])) rfl rfl (hb hby d1_34)
  have V111 := Arv.set Ar110 Aq110 As110 An110 Ah110 Ag110 rfl W110 0 rfl (Nat.le_of_ble_eq_true rfl)
  have Z112 : n0 ≤ h110.size := Nat.le_trans Z105 (Nat.le_of_eq W110.size.symm)
  have N113 := Fr.snoc X110 N0 g103
  have K114 := K106.wr W110 (Or.inr z104)
  have k115 : ∀ t, Steps p.tables e below (T110.setTop (mkF m 35 #[.val (.int (2 : Int32)), .val (.int p0), .val (.int p1), .val (.int p2)] [(.ref b102)])) t → Steps p.tables e below (s₁.setTop (entryFrame m #[(.int (2 : Int32)), (.int p0), (.int p1), (.int p2)] 4)) t := fun t k => k109 t (st110 t k)
  have k116 : ∀ t, Steps p.tables e below (T110.setTop (mkF m 39 #[.val (.int (2 : Int32)), .val (.int p0), .val (.int p1), .val (.int p2)] [(.double (FP.i2d p1)), (.int (1 : Int32)), (.ref b102), (.ref b102)])) t → Steps p.tables e below (s₁.setTop (entryFrame m #[(.int (2 : Int32)), (.int p0), (.int p1), (.int p2)] 4)) t := fun t k => k115 t (by
    show Steps p.tables e below (T110.setTop (mkF m 35 #[.val (.int (2 : Int32)), .val (.int p0), .val (.int p1), .val (.int p2)] [(.ref b102)])) _
    refine XS.dup X110.here hx rfl (hb hby d1_35) rfl rfl ?_
    show Steps p.tables e below (T110.setTop (mkF m 36 #[.val (.int (2 : Int32)), .val (.int p0), .val (.int p1), .val (.int p2)] [(.ref b102), (.ref b102)])) _
    refine XS.iconst X110.here hx rfl (hb hby d1_36) ?_
    show Steps p.tables e below (T110.setTop (mkF m 37 #[.val (.int (2 : Int32)), .val (.int p0), .val (.int p1), .val (.int p2)] [(.int (1 : Int32)), (.ref b102), (.ref b102)])) _
    refine XS.iloadN X110.here hx rfl (hb hby d1_37) rfl ?_
    show Steps p.tables e below (T110.setTop (mkF m 38 #[.val (.int (2 : Int32)), .val (.int p0), .val (.int p1), .val (.int p2)] [(.int p1), (.int (1 : Int32)), (.ref b102), (.ref b102)])) _
    refine XS.i2dS X110.here hx rfl (hb hby d1_38) rfl rfl ?_
    exact k)
  obtain ⟨c117, Ar117, Aq117, As117, An117, Ah117, Ag117⟩ := id V111
  have hin117 : ¬ ((1 : Int32) < 0 ∨ c117.slots.size ≤ ((1 : Int32)).toNatClampNeg) := inb_of As117 ⟨by decide, by decide⟩
  obtain ⟨T117, h117, X117, e117, W117, st117⟩ := stD X110 hx hZ e110 Ar117 (j := (1 : Int32)) hin117 (g := (mkF m 39 #[.val (.int (2 : Int32)), .val (.int p0), .val (.int p1), .val (.int p2)] [(.double (FP.i2d p1)), (.int (1 : Int32)), (.ref b102), (.ref b102)])) rfl rfl (hb hby d1_39)
  have V118 := Arv.set Ar117 Aq117 As117 An117 Ah117 Ag117 rfl W117 1 rfl (Nat.le_of_ble_eq_true rfl)
  have Z119 : n0 ≤ h117.size := Nat.le_trans Z112 (Nat.le_of_eq W117.size.symm)
  have N120 := Fr.snoc X117 N113 g103
  have K121 := K114.wr W117 (Or.inr z104)
  have k122 : ∀ t, Steps p.tables e below (T117.setTop (mkF m 40 #[.val (.int (2 : Int32)), .val (.int p0), .val (.int p1), .val (.int p2)] [(.ref b102)])) t → Steps p.tables e below (s₁.setTop (entryFrame m #[(.int (2 : Int32)), (.int p0), (.int p1), (.int p2)] 4)) t := fun t k => k116 t (st117 t k)
  obtain ⟨fs, hr, hrun, hended, hW, hsame⟩ := X117.leave (v := some (.ref b102)) (fun h => by rw [Bd.returns] at h; cases h)
  refine ⟨_, _, k122 _ (retOut X117 hx (t := (.array .double)) Bd.returns rfl (Or.inr (Or.inr (Or.inr (Or.inr ⟨rfl, rfl, rfl⟩)))) (hb hby d1_40) hr), hrun, hended, _, _, rfl, ?_, ⟨_, rfl⟩, hW, hsame.mono (by decide) (by decide)⟩
  show Q_vec2 Z p0 p1 p2 h0 n0 _ T117.heap _
  rw [e117]
  exact ⟨b102, k102, rfl, N120, g102, K121, V118⟩
theorem d1_41 : decode method_3_code 41 = .ok (.iconst 3, 1) := by decide +kernel
theorem d1_42 : decode method_3_code 42 = .ok (.newarray .double, 2) := by decide +kernel
theorem d1_44 : decode method_3_code 44 = .ok (.dup, 1) := by decide +kernel
theorem d1_45 : decode method_3_code 45 = .ok (.iconst 0, 1) := by decide +kernel
theorem d1_46 : decode method_3_code 46 = .ok (.iload_n 1, 1) := by decide +kernel
theorem d1_47 : decode method_3_code 47 = .ok (.i2d, 1) := by decide +kernel
theorem d1_48 : decode method_3_code 48 = .ok (.dastore, 1) := by decide +kernel
theorem d1_49 : decode method_3_code 49 = .ok (.dup, 1) := by decide +kernel
theorem d1_50 : decode method_3_code 50 = .ok (.iconst 1, 1) := by decide +kernel
theorem d1_51 : decode method_3_code 51 = .ok (.iload_n 2, 1) := by decide +kernel
theorem d1_52 : decode method_3_code 52 = .ok (.i2d, 1) := by decide +kernel
theorem d1_53 : decode method_3_code 53 = .ok (.dastore, 1) := by decide +kernel
theorem d1_54 : decode method_3_code 54 = .ok (.dup, 1) := by decide +kernel
theorem d1_55 : decode method_3_code 55 = .ok (.iconst 2, 1) := by decide +kernel
theorem d1_56 : decode method_3_code 56 = .ok (.iload_n 3, 1) := by decide +kernel
theorem d1_57 : decode method_3_code 57 = .ok (.i2d, 1) := by decide +kernel
theorem d1_58 : decode method_3_code 58 = .ok (.dastore, 1) := by decide +kernel
theorem d1_59 : decode method_3_code 59 = .ok (.areturn, 1) := by decide +kernel
def Q_vec3 (Z : State) (p0 : Int32) (p1 : Int32) (p2 : Int32) (h0 : Heap) (n0 : Nat) (v : Option Value) (h : Heap) (L : List Loc) : Prop := ∃ (b : Addr) (k : ClassId), v = some (.ref b) ∧ Fr n0 L ∧ b = h0.size ∧ Keep h0 h [] ∧ Arv Z h b k .double (3 : Int32) [(.double (FP.i2d p0)), (.double (FP.i2d p1)), (.double (FP.i2d p2))] (.double (0 : UInt64))
set_option maxRecDepth 65536 in
set_option maxHeartbeats 40000000 in
theorem vec3 (l : Launch) (Z : State) (a0 : Array Value) (hw : ∀ d ∈ tables_1, d.before a0 Z = true) (ws : List Jvm.Cond) (p0 : Int32) (p1 : Int32) (p2 : Int32) (h0 : Heap) (n0 : Nat) (Z0 : n0 ≤ h0.size) :
    MetFree l (⟨"com/example/frontweave/frontweave/selection/FrontsDominatesPinLaw", "vec", "(IIII)[D"⟩ : MethodName) (head1 (Jvm.Cond.code (⟨"com/example/frontweave/frontweave/selection/FrontsDominatesPinLaw", "vec", "(IIII)[D"⟩ : MethodName) method_3_code 4 (some (.array .double)) :: ws) ({ frames := 0, cells := 1, slots := 3, locals := 0 } : Room)) (fun a U => a = #[(.int (3 : Int32)), (.int p0), (.int p1), (.int p2)] ∧ Z.Warmed39 U.vm ∧ U.heap = h0) (fun _ _ _ _ _ => True) (fun _ U o U' => ∃ v L, o = .returned v ∧ Q_vec3 Z p0 p1 p2 h0 n0 v U'.heap L ∧ FrameEnd U o U' L ({ frames := 0, cells := 1, slots := 3, locals := 0 } : Room).cells ({ frames := 0, cells := 1, slots := 3, locals := 0 } : Room).slots) := by
  refine MetFree.of_bodySF (plainFor_of_name pn_com_2fexample_2ffrontweave_2ffrontweave_2fselection_2fFrontsDominatesPinLaw) hisR ?_
  intro p e s m args below meth c s₁ Bd hml0 hP hK
  obtain ⟨rfl, hZ, hh⟩ := hP
  have hx := Bd.exec
  have hby := Bd.bytes
  have hml : c.maxLocals = 4 := hml0
  have hown : s.vm.findClass "com/example/frontweave/frontweave/selection/FrontsDominatesPinLaw" = some m.cls := findClass_of_methodNamed Bd.named
  have hnm := (name_of_methodNamed Bd.named Bd.method).1
  have X0 : Stand p l e ({ frames := 0, cells := 1, slots := 3, locals := 0 } : Room) s m #[(.int (3 : Int32)), (.int p0), (.int p1), (.int p2)] below meth c s₁ [] 0 0 := Stand.of_body Bd
  have e0 : s₁.heap = h0 := by rw [← hh, Bd.state]; rfl
  have N0 := Fr.nil n0
  have k0 : ∀ t, Steps p.tables e below (s₁.setTop (mkF m 0 #[.val (.int (3 : Int32)), .val (.int p0), .val (.int p1), .val (.int p2)] [])) t → Steps p.tables e below (s₁.setTop (entryFrame m #[(.int (3 : Int32)), (.int p0), (.int p1), (.int p2)] 4)) t := fun t k => castTop (ef_1_IIII m (3 : Int32) p0 p1 p2) k
  have K0 : Keep h0 h0 [] := Keep.refl h0 []
  have k101 : ∀ t, Steps p.tables e below (s₁.setTop (mkF m 42 #[.val (.int (3 : Int32)), .val (.int p0), .val (.int p1), .val (.int p2)] [(.int (3 : Int32))])) t → Steps p.tables e below (s₁.setTop (entryFrame m #[(.int (3 : Int32)), (.int p0), (.int p1), (.int p2)] 4)) t := fun t k => k0 t (by
    show Steps p.tables e below (s₁.setTop (mkF m 0 #[.val (.int (3 : Int32)), .val (.int p0), .val (.int p1), .val (.int p2)] [])) _
    refine XS.iloadN X0.here hx rfl (hb hby d1_0) rfl ?_
    show Steps p.tables e below (s₁.setTop (mkF m 1 #[.val (.int (3 : Int32)), .val (.int p0), .val (.int p1), .val (.int p2)] [(.int (3 : Int32))])) _
    refine XS.ifYes X0.here hx rfl (pc0 := 1) (pc' := 8) rfl (hb hby d1_1) rfl ((if0 _ _).trans (feq (by decide)).2) (by decide) (by decide) ?_
    show Steps p.tables e below (s₁.setTop (mkF m 8 #[.val (.int (3 : Int32)), .val (.int p0), .val (.int p1), .val (.int p2)] [])) _
    refine XS.iloadN X0.here hx rfl (hb hby d1_8) rfl ?_
    show Steps p.tables e below (s₁.setTop (mkF m 9 #[.val (.int (3 : Int32)), .val (.int p0), .val (.int p1), .val (.int p2)] [(.int (3 : Int32))])) _
    refine XS.iconst X0.here hx rfl (hb hby d1_9) ?_
    show Steps p.tables e below (s₁.setTop (mkF m 10 #[.val (.int (3 : Int32)), .val (.int p0), .val (.int p1), .val (.int p2)] [(.int (1 : Int32)), (.int (3 : Int32))])) _
    refine XS.icmpYes X0.here hx rfl (pc0 := 10) (pc' := 22) rfl (hb hby d1_10) rfl (feq (by decide)).2 (by decide) (by decide) ?_
    show Steps p.tables e below (s₁.setTop (mkF m 22 #[.val (.int (3 : Int32)), .val (.int p0), .val (.int p1), .val (.int p2)] [])) _
    refine XS.iloadN X0.here hx rfl (hb hby d1_22) rfl ?_
    show Steps p.tables e below (s₁.setTop (mkF m 23 #[.val (.int (3 : Int32)), .val (.int p0), .val (.int p1), .val (.int p2)] [(.int (3 : Int32))])) _
    refine XS.iconst X0.here hx rfl (hb hby d1_23) ?_
    show Steps p.tables e below (s₁.setTop (mkF m 24 #[.val (.int (3 : Int32)), .val (.int p0), .val (.int p1), .val (.int p2)] [(.int (2 : Int32)), (.int (3 : Int32))])) _
    refine XS.icmpYes X0.here hx rfl (pc0 := 24) (pc' := 41) rfl (hb hby d1_24) rfl (feq (by decide)).2 (by decide) (by decide) ?_
    show Steps p.tables e below (s₁.setTop (mkF m 41 #[.val (.int (3 : Int32)), .val (.int p0), .val (.int p1), .val (.int p2)] [])) _
    refine XS.iconst X0.here hx rfl (hb hby d1_41) ?_
    exact k)
  obtain ⟨T102, h102, k102, X102, e102, E102, A102, st102⟩ := newP X0 hx hZ (hw _ (List.mem_of_getElem? (i := 4) rfl)) e0 (g := (mkF m 42 #[.val (.int (3 : Int32)), .val (.int p0), .val (.int p1), .val (.int p2)] [(.int (3 : Int32))])) rfl (hb hby d1_42) rfl (by decide) (cap := 3) (by decide) (by decide) (by decide) (by decide)
  obtain ⟨b102, g102⟩ : ∃ z, z = h0.size := ⟨_, rfl⟩
  rw [← g102] at A102 st102
  have g103 : n0 ≤ b102 := Nat.le_trans Z0 (Nat.le_of_eq g102.symm)
  have z104 : h0.size ≤ b102 := Nat.le_trans K0.1 (Nat.le_of_eq g102.symm)
  have Z105 : n0 ≤ h102.size := Nat.le_trans Z0 E102.1
  have K106 := K0.ext E102
  have V107 : Arv Z h102 b102 k102 .double (3 : Int32) [(.double (0 : UInt64)), (.double (0 : UInt64)), (.double (0 : UInt64))] (.double (0 : UInt64)) := (Arv.new A102 (by decide)).pad (pad_rep [] (.double (0 : UInt64)) 3)
  have k108 : ∀ t, Steps p.tables e below (T102.setTop (mkF m 44 #[.val (.int (3 : Int32)), .val (.int p0), .val (.int p1), .val (.int p2)] [(.ref b102)])) t → Steps p.tables e below (s₁.setTop (entryFrame m #[(.int (3 : Int32)), (.int p0), (.int p1), (.int p2)] 4)) t := fun t k => k101 t (st102 t k)
  have k109 : ∀ t, Steps p.tables e below (T102.setTop (mkF m 48 #[.val (.int (3 : Int32)), .val (.int p0), .val (.int p1), .val (.int p2)] [(.double (FP.i2d p0)), (.int (0 : Int32)), (.ref b102), (.ref b102)])) t → Steps p.tables e below (s₁.setTop (entryFrame m #[(.int (3 : Int32)), (.int p0), (.int p1), (.int p2)] 4)) t := fun t k => k108 t (by
    show Steps p.tables e below (T102.setTop (mkF m 44 #[.val (.int (3 : Int32)), .val (.int p0), .val (.int p1), .val (.int p2)] [(.ref b102)])) _
    refine XS.dup X102.here hx rfl (hb hby d1_44) rfl rfl ?_
    show Steps p.tables e below (T102.setTop (mkF m 45 #[.val (.int (3 : Int32)), .val (.int p0), .val (.int p1), .val (.int p2)] [(.ref b102), (.ref b102)])) _
    refine XS.iconst X102.here hx rfl (hb hby d1_45) ?_
    show Steps p.tables e below (T102.setTop (mkF m 46 #[.val (.int (3 : Int32)), .val (.int p0), .val (.int p1), .val (.int p2)] [(.int (0 : Int32)), (.ref b102), (.ref b102)])) _
    refine XS.iloadN X102.here hx rfl (hb hby d1_46) rfl ?_
    show Steps p.tables e below (T102.setTop (mkF m 47 #[.val (.int (3 : Int32)), .val (.int p0), .val (.int p1), .val (.int p2)] [(.int p0), (.int (0 : Int32)), (.ref b102), (.ref b102)])) _
    refine XS.i2dS X102.here hx rfl (hb hby d1_47) rfl rfl ?_
    exact k)
  obtain ⟨c110, Ar110, Aq110, As110, An110, Ah110, Ag110⟩ := id V107
  have hin110 : ¬ ((0 : Int32) < 0 ∨ c110.slots.size ≤ ((0 : Int32)).toNatClampNeg) := inb_of As110 ⟨by decide, by decide⟩
  obtain ⟨T110, h110, X110, e110, W110, st110⟩ := stD X102 hx hZ e102 Ar110 (j := (0 : Int32)) hin110 (g := (mkF m 48 #[.val (.int (3 : Int32)), .val (.int p0), .val (.int p1), .val (.int p2)] [(.double (FP.i2d p0)), (.int (0 : Int32)), (.ref b102), (.ref b102)])) rfl rfl (hb hby d1_48)
  have V111 := Arv.set Ar110 Aq110 As110 An110 Ah110 Ag110 rfl W110 0 rfl (Nat.le_of_ble_eq_true rfl)
  have Z112 : n0 ≤ h110.size := Nat.le_trans Z105 (Nat.le_of_eq W110.size.symm)
  have N113 := Fr.snoc X110 N0 g103
  have K114 := K106.wr W110 (Or.inr z104)
  have k115 : ∀ t, Steps p.tables e below (T110.setTop (mkF m 49 #[.val (.int (3 : Int32)), .val (.int p0), .val (.int p1), .val (.int p2)] [(.ref b102)])) t → Steps p.tables e below (s₁.setTop (entryFrame m #[(.int (3 : Int32)), (.int p0), (.int p1), (.int p2)] 4)) t := fun t k => k109 t (st110 t k)
  have k116 : ∀ t, Steps p.tables e below (T110.setTop (mkF m 53 #[.val (.int (3 : Int32)), .val (.int p0), .val (.int p1), .val (.int p2)] [(.double (FP.i2d p1)), (.int (1 : Int32)), (.ref b102), (.ref b102)])) t → Steps p.tables e below (s₁.setTop (entryFrame m #[(.int (3 : Int32)), (.int p0), (.int p1), (.int p2)] 4)) t := fun t k => k115 t (by
    show Steps p.tables e below (T110.setTop (mkF m 49 #[.val (.int (3 : Int32)), .val (.int p0), .val (.int p1), .val (.int p2)] [(.ref b102)])) _
    refine XS.dup X110.here hx rfl (hb hby d1_49) rfl rfl ?_
    show Steps p.tables e below (T110.setTop (mkF m 50 #[.val (.int (3 : Int32)), .val (.int p0), .val (.int p1), .val (.int p2)] [(.ref b102), (.ref b102)])) _
    refine XS.iconst X110.here hx rfl (hb hby d1_50) ?_
    show Steps p.tables e below (T110.setTop (mkF m 51 #[.val (.int (3 : Int32)), .val (.int p0), .val (.int p1), .val (.int p2)] [(.int (1 : Int32)), (.ref b102), (.ref b102)])) _
    refine XS.iloadN X110.here hx rfl (hb hby d1_51) rfl ?_
    show Steps p.tables e below (T110.setTop (mkF m 52 #[.val (.int (3 : Int32)), .val (.int p0), .val (.int p1), .val (.int p2)] [(.int p1), (.int (1 : Int32)), (.ref b102), (.ref b102)])) _
    refine XS.i2dS X110.here hx rfl (hb hby d1_52) rfl rfl ?_
    exact k)
  obtain ⟨c117, Ar117, Aq117, As117, An117, Ah117, Ag117⟩ := id V111
  have hin117 : ¬ ((1 : Int32) < 0 ∨ c117.slots.size ≤ ((1 : Int32)).toNatClampNeg) := inb_of As117 ⟨by decide, by decide⟩
  obtain ⟨T117, h117, X117, e117, W117, st117⟩ := stD X110 hx hZ e110 Ar117 (j := (1 : Int32)) hin117 (g := (mkF m 53 #[.val (.int (3 : Int32)), .val (.int p0), .val (.int p1), .val (.int p2)] [(.double (FP.i2d p1)), (.int (1 : Int32)), (.ref b102), (.ref b102)])) rfl rfl (hb hby d1_53)
  have V118 := Arv.set Ar117 Aq117 As117 An117 Ah117 Ag117 rfl W117 1 rfl (Nat.le_of_ble_eq_true rfl)
  have Z119 : n0 ≤ h117.size := Nat.le_trans Z112 (Nat.le_of_eq W117.size.symm)
  have N120 := Fr.snoc X117 N113 g103
  have K121 := K114.wr W117 (Or.inr z104)
  have k122 : ∀ t, Steps p.tables e below (T117.setTop (mkF m 54 #[.val (.int (3 : Int32)), .val (.int p0), .val (.int p1), .val (.int p2)] [(.ref b102)])) t → Steps p.tables e below (s₁.setTop (entryFrame m #[(.int (3 : Int32)), (.int p0), (.int p1), (.int p2)] 4)) t := fun t k => k116 t (st117 t k)
  have k123 : ∀ t, Steps p.tables e below (T117.setTop (mkF m 58 #[.val (.int (3 : Int32)), .val (.int p0), .val (.int p1), .val (.int p2)] [(.double (FP.i2d p2)), (.int (2 : Int32)), (.ref b102), (.ref b102)])) t → Steps p.tables e below (s₁.setTop (entryFrame m #[(.int (3 : Int32)), (.int p0), (.int p1), (.int p2)] 4)) t := fun t k => k122 t (by
    show Steps p.tables e below (T117.setTop (mkF m 54 #[.val (.int (3 : Int32)), .val (.int p0), .val (.int p1), .val (.int p2)] [(.ref b102)])) _
    refine XS.dup X117.here hx rfl (hb hby d1_54) rfl rfl ?_
    show Steps p.tables e below (T117.setTop (mkF m 55 #[.val (.int (3 : Int32)), .val (.int p0), .val (.int p1), .val (.int p2)] [(.ref b102), (.ref b102)])) _
    refine XS.iconst X117.here hx rfl (hb hby d1_55) ?_
    show Steps p.tables e below (T117.setTop (mkF m 56 #[.val (.int (3 : Int32)), .val (.int p0), .val (.int p1), .val (.int p2)] [(.int (2 : Int32)), (.ref b102), (.ref b102)])) _
    refine XS.iloadN X117.here hx rfl (hb hby d1_56) rfl ?_
    show Steps p.tables e below (T117.setTop (mkF m 57 #[.val (.int (3 : Int32)), .val (.int p0), .val (.int p1), .val (.int p2)] [(.int p2), (.int (2 : Int32)), (.ref b102), (.ref b102)])) _
    refine XS.i2dS X117.here hx rfl (hb hby d1_57) rfl rfl ?_
    exact k)
  obtain ⟨c124, Ar124, Aq124, As124, An124, Ah124, Ag124⟩ := id V118
  have hin124 : ¬ ((2 : Int32) < 0 ∨ c124.slots.size ≤ ((2 : Int32)).toNatClampNeg) := inb_of As124 ⟨by decide, by decide⟩
  obtain ⟨T124, h124, X124, e124, W124, st124⟩ := stD X117 hx hZ e117 Ar124 (j := (2 : Int32)) hin124 (g := (mkF m 58 #[.val (.int (3 : Int32)), .val (.int p0), .val (.int p1), .val (.int p2)] [(.double (FP.i2d p2)), (.int (2 : Int32)), (.ref b102), (.ref b102)])) rfl rfl (hb hby d1_58)
  have V125 := Arv.set Ar124 Aq124 As124 An124 Ah124 Ag124 rfl W124 2 rfl (Nat.le_of_ble_eq_true rfl)
  have Z126 : n0 ≤ h124.size := Nat.le_trans Z119 (Nat.le_of_eq W124.size.symm)
  have N127 := Fr.snoc X124 N120 g103
  have K128 := K121.wr W124 (Or.inr z104)
  have k129 : ∀ t, Steps p.tables e below (T124.setTop (mkF m 59 #[.val (.int (3 : Int32)), .val (.int p0), .val (.int p1), .val (.int p2)] [(.ref b102)])) t → Steps p.tables e below (s₁.setTop (entryFrame m #[(.int (3 : Int32)), (.int p0), (.int p1), (.int p2)] 4)) t := fun t k => k123 t (st124 t k)
  obtain ⟨fs, hr, hrun, hended, hW, hsame⟩ := X124.leave (v := some (.ref b102)) (fun h => by rw [Bd.returns] at h; cases h)
  refine ⟨_, _, k129 _ (retOut X124 hx (t := (.array .double)) Bd.returns rfl (Or.inr (Or.inr (Or.inr (Or.inr ⟨rfl, rfl, rfl⟩)))) (hb hby d1_59) hr), hrun, hended, _, _, rfl, ?_, ⟨_, rfl⟩, hW, hsame.mono (by decide) (by decide)⟩
  show Q_vec3 Z p0 p1 p2 h0 n0 _ T124.heap _
  rw [e124]
  exact ⟨b102, k102, rfl, N127, g102, K128, V125⟩
theorem ef_2_RR (m : MethodId) (x0 : Addr) (x1 : Addr) : entryFrame m #[(.ref x0), (.ref x1)] 4 = mkF m 0 #[.val (.ref x0), .val (.ref x1), .unset, .unset] [] := by first | (simp [entryFrame, mkF, argsToLocals, Value.category]; done) | rfl
theorem d2_0 : decode prog_59_method_2_code 0 = .ok (.iconst 0, 1) := by decide +kernel
theorem d2_1 : decode prog_59_method_2_code 1 = .ok (.istore_n 2, 1) := by decide +kernel
theorem d2_2 : decode prog_59_method_2_code 2 = .ok (.iconst 0, 1) := by decide +kernel
theorem d2_3 : decode prog_59_method_2_code 3 = .ok (.istore_n 3, 1) := by decide +kernel
theorem d2_4 : decode prog_59_method_2_code 4 = .ok (.iload_n 3, 1) := by decide +kernel
theorem d2_5 : decode prog_59_method_2_code 5 = .ok (.aload_n 0, 1) := by decide +kernel
theorem d2_6 : decode prog_59_method_2_code 6 = .ok (.arraylength, 1) := by decide +kernel
theorem d2_7 : decode prog_59_method_2_code 7 = .ok (.if_icmp .ge 39, 3) := by decide +kernel
theorem d2_46 : decode prog_59_method_2_code 46 = .ok (.iload_n 2, 1) := by decide +kernel
theorem d2_47 : decode prog_59_method_2_code 47 = .ok (.ireturn, 1) := by decide +kernel
def Q_dom0 (Z : State) (a1 : Addr) (a2 : Addr) (k1 : ClassId) (k2 : ClassId) (h0 : Heap) (n0 : Nat) (v : Option Value) (h : Heap) (L : List Loc) : Prop := v = some (.int (own_dom [] 0)) ∧ Fr n0 L ∧ h = h0
theorem pn_com_2fexample_2ffrontweave_2ffrontweave_2fselection_2fFronts : plainName "com/example/frontweave/frontweave/selection/Fronts" = true := by first | (simp [plainName, overriddenIn]; done) | decide +kernel
set_option maxRecDepth 65536 in
set_option maxHeartbeats 40000000 in
theorem dom0 (l : Launch) (Z : State) (a0 : Array Value) (hw : ∀ d ∈ tables_1, d.before a0 Z = true) (ws : List Jvm.Cond) (a1 : Addr) (a2 : Addr) (k1 : ClassId) (k2 : ClassId) (h0 : Heap) (n0 : Nat) (Z0 : n0 ≤ h0.size) (V1 : Arv Z h0 a1 k1 .double (0 : Int32) [] (.double (0 : UInt64))) (V2 : Arv Z h0 a2 k2 .double (0 : Int32) [] (.double (0 : UInt64))) :
    MetFree l (⟨"com/example/frontweave/frontweave/selection/Fronts", "dominates", "([D[D)Z"⟩ : MethodName) (head1 (Jvm.Cond.code (⟨"com/example/frontweave/frontweave/selection/Fronts", "dominates", "([D[D)Z"⟩ : MethodName) prog_59_method_2_code 4 (some .boolean) :: ws) ({ frames := 0, cells := 0, slots := 0, locals := 0 } : Room)) (fun a U => a = #[(.ref a1), (.ref a2)] ∧ Z.Warmed39 U.vm ∧ U.heap = h0) (fun _ _ _ _ _ => True) (fun _ U o U' => ∃ v L, o = .returned v ∧ Q_dom0 Z a1 a2 k1 k2 h0 n0 v U'.heap L ∧ FrameEnd U o U' L ({ frames := 0, cells := 0, slots := 0, locals := 0 } : Room).cells ({ frames := 0, cells := 0, slots := 0, locals := 0 } : Room).slots) := by
  refine MetFree.of_bodySF (plainFor_of_name pn_com_2fexample_2ffrontweave_2ffrontweave_2fselection_2fFronts) hisR ?_
  intro p e s m args below meth c s₁ Bd hml0 hP hK
  obtain ⟨rfl, hZ, hh⟩ := hP
  have hx := Bd.exec
  have hby := Bd.bytes
  have hml : c.maxLocals = 4 := hml0
  have hown : s.vm.findClass "com/example/frontweave/frontweave/selection/Fronts" = some m.cls := findClass_of_methodNamed Bd.named
  have hnm := (name_of_methodNamed Bd.named Bd.method).1
  have X0 : Stand p l e ({ frames := 0, cells := 0, slots := 0, locals := 0 } : Room) s m #[(.ref a1), (.ref a2)] below meth c s₁ [] 0 0 := Stand.of_body Bd
  have e0 : s₁.heap = h0 := by rw [← hh, Bd.state]; rfl
  have N0 := Fr.nil n0
  have k0 : ∀ t, Steps p.tables e below (s₁.setTop (mkF m 0 #[.val (.ref a1), .val (.ref a2), .unset, .unset] [])) t → Steps p.tables e below (s₁.setTop (entryFrame m #[(.ref a1), (.ref a2)] 4)) t := fun t k => castTop (ef_2_RR m a1 a2) k
  have k101 : ∀ t, Steps p.tables e below (s₁.setTop (mkF m 6 #[.val (.ref a1), .val (.ref a2), .val (.int (0 : Int32)), .val (.int (0 : Int32))] [(.ref a1), (.int (0 : Int32))])) t → Steps p.tables e below (s₁.setTop (entryFrame m #[(.ref a1), (.ref a2)] 4)) t := fun t k => k0 t (by
    show Steps p.tables e below (s₁.setTop (mkF m 0 #[.val (.ref a1), .val (.ref a2), .unset, .unset] [])) _
    refine XS.iconst X0.here hx rfl (hb hby d2_0) ?_
    show Steps p.tables e below (s₁.setTop (mkF m 1 #[.val (.ref a1), .val (.ref a2), .unset, .unset] [(.int (0 : Int32))])) _
    refine XS.istoreN X0.here hx rfl (hb hby d2_1) rfl (l' := #[.val (.ref a1), .val (.ref a2), .val (.int (0 : Int32)), .unset]) rfl ?_
    show Steps p.tables e below (s₁.setTop (mkF m 2 #[.val (.ref a1), .val (.ref a2), .val (.int (0 : Int32)), .unset] [])) _
    refine XS.iconst X0.here hx rfl (hb hby d2_2) ?_
    show Steps p.tables e below (s₁.setTop (mkF m 3 #[.val (.ref a1), .val (.ref a2), .val (.int (0 : Int32)), .unset] [(.int (0 : Int32))])) _
    refine XS.istoreN X0.here hx rfl (hb hby d2_3) rfl (l' := #[.val (.ref a1), .val (.ref a2), .val (.int (0 : Int32)), .val (.int (0 : Int32))]) rfl ?_
    show Steps p.tables e below (s₁.setTop (mkF m 4 #[.val (.ref a1), .val (.ref a2), .val (.int (0 : Int32)), .val (.int (0 : Int32))] [])) _
    refine XS.iloadN X0.here hx rfl (hb hby d2_4) rfl ?_
    show Steps p.tables e below (s₁.setTop (mkF m 5 #[.val (.ref a1), .val (.ref a2), .val (.int (0 : Int32)), .val (.int (0 : Int32))] [(.int (0 : Int32))])) _
    refine XS.aloadN X0.here hx rfl (hb hby d2_5) rfl rfl ?_
    exact k)
  obtain ⟨c102, Ar102, -, As102, An102, -, -⟩ := id V1
  have k103 : ∀ t, Steps p.tables e below (s₁.setTop (mkF m 47 #[.val (.ref a1), .val (.ref a2), .val (.int (0 : Int32)), .val (.int (0 : Int32))] [(.int (0 : Int32))])) t → Steps p.tables e below (s₁.setTop (entryFrame m #[(.ref a1), (.ref a2)] 4)) t := fun t k => k101 t (by
    show Steps p.tables e below (s₁.setTop (mkF m 6 #[.val (.ref a1), .val (.ref a2), .val (.int (0 : Int32)), .val (.int (0 : Int32))] [(.ref a1), (.int (0 : Int32))])) _
    refine X0.arraylength hx (by rw [e0]; exact Ar102.1) (State.isArrayOf_alike hZ.alike Ar102.2.1) (g := (mkF m 6 #[.val (.ref a1), .val (.ref a2), .val (.int (0 : Int32)), .val (.int (0 : Int32))] [(.ref a1), (.int (0 : Int32))])) rfl rfl (hb hby d2_6) _ ?_
    rw [len_of As102 An102]
    show Steps p.tables e below (s₁.setTop (mkF m 7 #[.val (.ref a1), .val (.ref a2), .val (.int (0 : Int32)), .val (.int (0 : Int32))] [(.int (0 : Int32)), (.int (0 : Int32))])) _
    refine XS.icmpYes X0.here hx rfl (pc0 := 7) (pc' := 46) rfl (hb hby d2_7) rfl (flt (by decide)).2.1 (by decide) (by decide) ?_
    show Steps p.tables e below (s₁.setTop (mkF m 46 #[.val (.ref a1), .val (.ref a2), .val (.int (0 : Int32)), .val (.int (0 : Int32))] [])) _
    refine XS.iloadN X0.here hx rfl (hb hby d2_46) rfl ?_
    exact k)
  obtain ⟨fs, hr, hrun, hended, hW, hsame⟩ := X0.leave (v := some (.int (0 : Int32))) (fun h => by rw [Bd.returns] at h; cases h)
  refine ⟨_, _, k103 _ (retOut X0 hx (t := .boolean) Bd.returns rfl (Or.inl ⟨rfl, Or.inr (Or.inl rfl), _, rfl⟩) (hb hby d2_47) hr), hrun, hended, _, _, rfl, ?_, ⟨_, rfl⟩, hW, hsame.mono (by decide) (by decide)⟩
  show Q_dom0 Z a1 a2 k1 k2 h0 n0 _ s₁.heap _
  rw [e0]
  exact ⟨by simp [own_dom], N0, rfl⟩
theorem d2_10 : decode prog_59_method_2_code 10 = .ok (.aload_n 0, 1) := by decide +kernel
theorem d2_11 : decode prog_59_method_2_code 11 = .ok (.iload_n 3, 1) := by decide +kernel
theorem d2_12 : decode prog_59_method_2_code 12 = .ok (.daload, 1) := by decide +kernel
theorem d2_13 : decode prog_59_method_2_code 13 = .ok (.aload_n 1, 1) := by decide +kernel
theorem d2_14 : decode prog_59_method_2_code 14 = .ok (.iload_n 3, 1) := by decide +kernel
theorem d2_15 : decode prog_59_method_2_code 15 = .ok (.daload, 1) := by decide +kernel
theorem d2_16 : decode prog_59_method_2_code 16 = .ok (.dcmp .l, 1) := by decide +kernel
theorem d2_17 : decode prog_59_method_2_code 17 = .ok (.ifCond .le 5, 3) := by decide +kernel
theorem d2_20 : decode prog_59_method_2_code 20 = .ok (.iconst 0, 1) := by decide +kernel
theorem d2_21 : decode prog_59_method_2_code 21 = .ok (.ireturn, 1) := by decide +kernel
theorem d2_22 : decode prog_59_method_2_code 22 = .ok (.iload_n 2, 1) := by decide +kernel
theorem d2_23 : decode prog_59_method_2_code 23 = .ok (.aload_n 0, 1) := by decide +kernel
theorem d2_24 : decode prog_59_method_2_code 24 = .ok (.iload_n 3, 1) := by decide +kernel
theorem d2_25 : decode prog_59_method_2_code 25 = .ok (.daload, 1) := by decide +kernel
theorem d2_26 : decode prog_59_method_2_code 26 = .ok (.aload_n 1, 1) := by decide +kernel
theorem d2_27 : decode prog_59_method_2_code 27 = .ok (.iload_n 3, 1) := by decide +kernel
theorem d2_28 : decode prog_59_method_2_code 28 = .ok (.daload, 1) := by decide +kernel
theorem d2_29 : decode prog_59_method_2_code 29 = .ok (.dcmp .g, 1) := by decide +kernel
theorem d2_30 : decode prog_59_method_2_code 30 = .ok (.ifCond .ge 7, 3) := by decide +kernel
theorem d2_33 : decode prog_59_method_2_code 33 = .ok (.iconst 1, 1) := by decide +kernel
theorem d2_34 : decode prog_59_method_2_code 34 = .ok (.goto 4, 3) := by decide +kernel
theorem d2_38 : decode prog_59_method_2_code 38 = .ok (.ior, 1) := by decide +kernel
theorem d2_39 : decode prog_59_method_2_code 39 = .ok (.istore_n 2, 1) := by decide +kernel
theorem d2_40 : decode prog_59_method_2_code 40 = .ok (.iinc 3 1, 3) := by decide +kernel
theorem d2_43 : decode prog_59_method_2_code 43 = .ok (.goto (-39), 3) := by decide +kernel
theorem d2_37 : decode prog_59_method_2_code 37 = .ok (.iconst 0, 1) := by decide +kernel
def Q_dom1 (Z : State) (a1 : Addr) (a2 : Addr) (k1 : ClassId) (k2 : ClassId) (p0 : Int32) (q0 : Int32) (h0 : Heap) (n0 : Nat) (v : Option Value) (h : Heap) (L : List Loc) : Prop := v = some (.int (own_dom [(p0, q0)] 0)) ∧ Fr n0 L ∧ h = h0
set_option maxRecDepth 65536 in
set_option maxHeartbeats 40000000 in
theorem dom1 (l : Launch) (Z : State) (a0 : Array Value) (hw : ∀ d ∈ tables_1, d.before a0 Z = true) (ws : List Jvm.Cond) (a1 : Addr) (a2 : Addr) (k1 : ClassId) (k2 : ClassId) (p0 : Int32) (q0 : Int32) (h0 : Heap) (n0 : Nat) (Z0 : n0 ≤ h0.size) (V1 : Arv Z h0 a1 k1 .double (1 : Int32) [(.double (FP.i2d p0))] (.double (0 : UInt64))) (V2 : Arv Z h0 a2 k2 .double (1 : Int32) [(.double (FP.i2d q0))] (.double (0 : UInt64))) :
    MetFree l (⟨"com/example/frontweave/frontweave/selection/Fronts", "dominates", "([D[D)Z"⟩ : MethodName) (head1 (Jvm.Cond.code (⟨"com/example/frontweave/frontweave/selection/Fronts", "dominates", "([D[D)Z"⟩ : MethodName) prog_59_method_2_code 4 (some .boolean) :: ws) ({ frames := 0, cells := 0, slots := 0, locals := 0 } : Room)) (fun a U => a = #[(.ref a1), (.ref a2)] ∧ Z.Warmed39 U.vm ∧ U.heap = h0) (fun _ _ _ _ _ => True) (fun _ U o U' => ∃ v L, o = .returned v ∧ Q_dom1 Z a1 a2 k1 k2 p0 q0 h0 n0 v U'.heap L ∧ FrameEnd U o U' L ({ frames := 0, cells := 0, slots := 0, locals := 0 } : Room).cells ({ frames := 0, cells := 0, slots := 0, locals := 0 } : Room).slots) := by
  refine MetFree.of_bodySF (plainFor_of_name pn_com_2fexample_2ffrontweave_2ffrontweave_2fselection_2fFronts) hisR ?_
  intro p e s m args below meth c s₁ Bd hml0 hP hK
  obtain ⟨rfl, hZ, hh⟩ := hP
  have hx := Bd.exec
  have hby := Bd.bytes
  have hml : c.maxLocals = 4 := hml0
  have hown : s.vm.findClass "com/example/frontweave/frontweave/selection/Fronts" = some m.cls := findClass_of_methodNamed Bd.named
  have hnm := (name_of_methodNamed Bd.named Bd.method).1
  have X0 : Stand p l e ({ frames := 0, cells := 0, slots := 0, locals := 0 } : Room) s m #[(.ref a1), (.ref a2)] below meth c s₁ [] 0 0 := Stand.of_body Bd
  have e0 : s₁.heap = h0 := by rw [← hh, Bd.state]; rfl
  have N0 := Fr.nil n0
  have k0 : ∀ t, Steps p.tables e below (s₁.setTop (mkF m 0 #[.val (.ref a1), .val (.ref a2), .unset, .unset] [])) t → Steps p.tables e below (s₁.setTop (entryFrame m #[(.ref a1), (.ref a2)] 4)) t := fun t k => castTop (ef_2_RR m a1 a2) k
  have k101 : ∀ t, Steps p.tables e below (s₁.setTop (mkF m 6 #[.val (.ref a1), .val (.ref a2), .val (.int (0 : Int32)), .val (.int (0 : Int32))] [(.ref a1), (.int (0 : Int32))])) t → Steps p.tables e below (s₁.setTop (entryFrame m #[(.ref a1), (.ref a2)] 4)) t := fun t k => k0 t (by
    show Steps p.tables e below (s₁.setTop (mkF m 0 #[.val (.ref a1), .val (.ref a2), .unset, .unset] [])) _
    refine XS.iconst X0.here hx rfl (hb hby d2_0) ?_
    show Steps p.tables e below (s₁.setTop (mkF m 1 #[.val (.ref a1), .val (.ref a2), .unset, .unset] [(.int (0 : Int32))])) _
    refine XS.istoreN X0.here hx rfl (hb hby d2_1) rfl (l' := #[.val (.ref a1), .val (.ref a2), .val (.int (0 : Int32)), .unset]) rfl ?_
    show Steps p.tables e below (s₁.setTop (mkF m 2 #[.val (.ref a1), .val (.ref a2), .val (.int (0 : Int32)), .unset] [])) _
    refine XS.iconst X0.here hx rfl (hb hby d2_2) ?_
    show Steps p.tables e below (s₁.setTop (mkF m 3 #[.val (.ref a1), .val (.ref a2), .val (.int (0 : Int32)), .unset] [(.int (0 : Int32))])) _
    refine XS.istoreN X0.here hx rfl (hb hby d2_3) rfl (l' := #[.val (.ref a1), .val (.ref a2), .val (.int (0 : Int32)), .val (.int (0 : Int32))]) rfl ?_
    show Steps p.tables e below (s₁.setTop (mkF m 4 #[.val (.ref a1), .val (.ref a2), .val (.int (0 : Int32)), .val (.int (0 : Int32))] [])) _
    refine XS.iloadN X0.here hx rfl (hb hby d2_4) rfl ?_
    show Steps p.tables e below (s₁.setTop (mkF m 5 #[.val (.ref a1), .val (.ref a2), .val (.int (0 : Int32)), .val (.int (0 : Int32))] [(.int (0 : Int32))])) _
    refine XS.aloadN X0.here hx rfl (hb hby d2_5) rfl rfl ?_
    exact k)
  obtain ⟨c102, Ar102, -, As102, An102, -, -⟩ := id V1
  have k103 : ∀ t, Steps p.tables e below (s₁.setTop (mkF m 12 #[.val (.ref a1), .val (.ref a2), .val (.int (0 : Int32)), .val (.int (0 : Int32))] [(.int (0 : Int32)), (.ref a1)])) t → Steps p.tables e below (s₁.setTop (entryFrame m #[(.ref a1), (.ref a2)] 4)) t := fun t k => k101 t (by
    show Steps p.tables e below (s₁.setTop (mkF m 6 #[.val (.ref a1), .val (.ref a2), .val (.int (0 : Int32)), .val (.int (0 : Int32))] [(.ref a1), (.int (0 : Int32))])) _
    refine X0.arraylength hx (by rw [e0]; exact Ar102.1) (State.isArrayOf_alike hZ.alike Ar102.2.1) (g := (mkF m 6 #[.val (.ref a1), .val (.ref a2), .val (.int (0 : Int32)), .val (.int (0 : Int32))] [(.ref a1), (.int (0 : Int32))])) rfl rfl (hb hby d2_6) _ ?_
    rw [len_of As102 An102]
    show Steps p.tables e below (s₁.setTop (mkF m 7 #[.val (.ref a1), .val (.ref a2), .val (.int (0 : Int32)), .val (.int (0 : Int32))] [(.int (1 : Int32)), (.int (0 : Int32))])) _
    refine XS.icmpNo X0.here hx rfl (hb hby d2_7) rfl (tlt (by decide)).2.1 ?_
    show Steps p.tables e below (s₁.setTop (mkF m 10 #[.val (.ref a1), .val (.ref a2), .val (.int (0 : Int32)), .val (.int (0 : Int32))] [])) _
    refine XS.aloadN X0.here hx rfl (hb hby d2_10) rfl rfl ?_
    show Steps p.tables e below (s₁.setTop (mkF m 11 #[.val (.ref a1), .val (.ref a2), .val (.int (0 : Int32)), .val (.int (0 : Int32))] [(.ref a1)])) _
    refine XS.iloadN X0.here hx rfl (hb hby d2_11) rfl ?_
    exact k)
  obtain ⟨c104, Ar104, -, As104, An104, Ah104, -⟩ := id V1
  have hin104 : ¬ ((0 : Int32) < 0 ∨ c104.slots.size ≤ ((0 : Int32)).toNatClampNeg) := inb_of As104 ⟨by decide, by decide⟩
  have hat104 : c104.slots[((0 : Int32)).toNatClampNeg]? = some (.double (FP.i2d p0)) := Has.at Ah104 hin104 rfl
  have k105 : ∀ t, Steps p.tables e below (s₁.setTop (mkF m 15 #[.val (.ref a1), .val (.ref a2), .val (.int (0 : Int32)), .val (.int (0 : Int32))] [(.int (0 : Int32)), (.ref a2), (.double (FP.i2d p0))])) t → Steps p.tables e below (s₁.setTop (entryFrame m #[(.ref a1), (.ref a2)] 4)) t := fun t k => k103 t (by
    show Steps p.tables e below (s₁.setTop (mkF m 12 #[.val (.ref a1), .val (.ref a2), .val (.int (0 : Int32)), .val (.int (0 : Int32))] [(.int (0 : Int32)), (.ref a1)])) _
    refine X0.daload hx (j := (0 : Int32)) (v := (.double (FP.i2d p0))) (by rw [e0]; exact Ar104.1) (State.isArrayOf_alike hZ.alike Ar104.2.1) Ar104.2.2 hin104 hat104 (g := (mkF m 12 #[.val (.ref a1), .val (.ref a2), .val (.int (0 : Int32)), .val (.int (0 : Int32))] [(.int (0 : Int32)), (.ref a1)])) rfl rfl (hb hby d2_12) _ ?_
    show Steps p.tables e below (s₁.setTop (mkF m 13 #[.val (.ref a1), .val (.ref a2), .val (.int (0 : Int32)), .val (.int (0 : Int32))] [(.double (FP.i2d p0))])) _
    refine XS.aloadN X0.here hx rfl (hb hby d2_13) rfl rfl ?_
    show Steps p.tables e below (s₁.setTop (mkF m 14 #[.val (.ref a1), .val (.ref a2), .val (.int (0 : Int32)), .val (.int (0 : Int32))] [(.ref a2), (.double (FP.i2d p0))])) _
    refine XS.iloadN X0.here hx rfl (hb hby d2_14) rfl ?_
    exact k)
  obtain ⟨c106, Ar106, -, As106, An106, Ah106, -⟩ := id V2
  have hin106 : ¬ ((0 : Int32) < 0 ∨ c106.slots.size ≤ ((0 : Int32)).toNatClampNeg) := inb_of As106 ⟨by decide, by decide⟩
  have hat106 : c106.slots[((0 : Int32)).toNatClampNeg]? = some (.double (FP.i2d q0)) := Has.at Ah106 hin106 rfl
  have k107 : ∀ t, Steps p.tables e below (s₁.setTop (mkF m 17 #[.val (.ref a1), .val (.ref a2), .val (.int (0 : Int32)), .val (.int (0 : Int32))] [(.int (cmpValue (FP.dcmp (FP.i2d p0) (FP.i2d q0)) .l))])) t → Steps p.tables e below (s₁.setTop (entryFrame m #[(.ref a1), (.ref a2)] 4)) t := fun t k => k105 t (by
    show Steps p.tables e below (s₁.setTop (mkF m 15 #[.val (.ref a1), .val (.ref a2), .val (.int (0 : Int32)), .val (.int (0 : Int32))] [(.int (0 : Int32)), (.ref a2), (.double (FP.i2d p0))])) _
    refine X0.daload hx (j := (0 : Int32)) (v := (.double (FP.i2d q0))) (by rw [e0]; exact Ar106.1) (State.isArrayOf_alike hZ.alike Ar106.2.1) Ar106.2.2 hin106 hat106 (g := (mkF m 15 #[.val (.ref a1), .val (.ref a2), .val (.int (0 : Int32)), .val (.int (0 : Int32))] [(.int (0 : Int32)), (.ref a2), (.double (FP.i2d p0))])) rfl rfl (hb hby d2_15) _ ?_
    show Steps p.tables e below (s₁.setTop (mkF m 16 #[.val (.ref a1), .val (.ref a2), .val (.int (0 : Int32)), .val (.int (0 : Int32))] [(.double (FP.i2d q0)), (.double (FP.i2d p0))])) _
    refine XS.dcmpS X0.here hx rfl (hb hby d2_16) rfl rfl ?_
    exact k)
  by_cases c0 : q0 < p0
  · have k108 : ∀ t, Steps p.tables e below (s₁.setTop (mkF m 21 #[.val (.ref a1), .val (.ref a2), .val (.int (0 : Int32)), .val (.int (0 : Int32))] [(.int (0 : Int32))])) t → Steps p.tables e below (s₁.setTop (entryFrame m #[(.ref a1), (.ref a2)] 4)) t := fun t k => k107 t (by
      show Steps p.tables e below (s₁.setTop (mkF m 17 #[.val (.ref a1), .val (.ref a2), .val (.int (0 : Int32)), .val (.int (0 : Int32))] [(.int (cmpValue (FP.dcmp (FP.i2d p0) (FP.i2d q0)) .l))])) _
      refine XS.ifNo X0.here hx rfl (hb hby d2_17) rfl ((if0 _ _).trans (tlt (own_gt.mpr c0)).2.2.2) ?_
      show Steps p.tables e below (s₁.setTop (mkF m 20 #[.val (.ref a1), .val (.ref a2), .val (.int (0 : Int32)), .val (.int (0 : Int32))] [])) _
      refine XS.iconst X0.here hx rfl (hb hby d2_20) ?_
      exact k)
    obtain ⟨fs, hr, hrun, hended, hW, hsame⟩ := X0.leave (v := some (.int (0 : Int32))) (fun h => by rw [Bd.returns] at h; cases h)
    refine ⟨_, _, k108 _ (retOut X0 hx (t := .boolean) Bd.returns rfl (Or.inl ⟨rfl, Or.inr (Or.inl rfl), _, rfl⟩) (hb hby d2_21) hr), hrun, hended, _, _, rfl, ?_, ⟨_, rfl⟩, hW, hsame.mono (by decide) (by decide)⟩
    show Q_dom1 Z a1 a2 k1 k2 p0 q0 h0 n0 _ s₁.heap _
    rw [e0]
    exact ⟨by simp [own_dom, c0], N0, rfl⟩
  · have k109 : ∀ t, Steps p.tables e below (s₁.setTop (mkF m 25 #[.val (.ref a1), .val (.ref a2), .val (.int (0 : Int32)), .val (.int (0 : Int32))] [(.int (0 : Int32)), (.ref a1), (.int (0 : Int32))])) t → Steps p.tables e below (s₁.setTop (entryFrame m #[(.ref a1), (.ref a2)] 4)) t := fun t k => k107 t (by
      show Steps p.tables e below (s₁.setTop (mkF m 17 #[.val (.ref a1), .val (.ref a2), .val (.int (0 : Int32)), .val (.int (0 : Int32))] [(.int (cmpValue (FP.dcmp (FP.i2d p0) (FP.i2d q0)) .l))])) _
      refine XS.ifYes X0.here hx rfl (pc0 := 17) (pc' := 22) rfl (hb hby d2_17) rfl ((if0 _ _).trans (flt (fun h => c0 (own_gt.mp h))).2.2.2) (by decide) (by decide) ?_
      show Steps p.tables e below (s₁.setTop (mkF m 22 #[.val (.ref a1), .val (.ref a2), .val (.int (0 : Int32)), .val (.int (0 : Int32))] [])) _
      refine XS.iloadN X0.here hx rfl (hb hby d2_22) rfl ?_
      show Steps p.tables e below (s₁.setTop (mkF m 23 #[.val (.ref a1), .val (.ref a2), .val (.int (0 : Int32)), .val (.int (0 : Int32))] [(.int (0 : Int32))])) _
      refine XS.aloadN X0.here hx rfl (hb hby d2_23) rfl rfl ?_
      show Steps p.tables e below (s₁.setTop (mkF m 24 #[.val (.ref a1), .val (.ref a2), .val (.int (0 : Int32)), .val (.int (0 : Int32))] [(.ref a1), (.int (0 : Int32))])) _
      refine XS.iloadN X0.here hx rfl (hb hby d2_24) rfl ?_
      exact k)
    obtain ⟨c110, Ar110, -, As110, An110, Ah110, -⟩ := id V1
    have hin110 : ¬ ((0 : Int32) < 0 ∨ c110.slots.size ≤ ((0 : Int32)).toNatClampNeg) := inb_of As110 ⟨by decide, by decide⟩
    have hat110 : c110.slots[((0 : Int32)).toNatClampNeg]? = some (.double (FP.i2d p0)) := Has.at Ah110 hin110 rfl
    have k111 : ∀ t, Steps p.tables e below (s₁.setTop (mkF m 28 #[.val (.ref a1), .val (.ref a2), .val (.int (0 : Int32)), .val (.int (0 : Int32))] [(.int (0 : Int32)), (.ref a2), (.double (FP.i2d p0)), (.int (0 : Int32))])) t → Steps p.tables e below (s₁.setTop (entryFrame m #[(.ref a1), (.ref a2)] 4)) t := fun t k => k109 t (by
      show Steps p.tables e below (s₁.setTop (mkF m 25 #[.val (.ref a1), .val (.ref a2), .val (.int (0 : Int32)), .val (.int (0 : Int32))] [(.int (0 : Int32)), (.ref a1), (.int (0 : Int32))])) _
      refine X0.daload hx (j := (0 : Int32)) (v := (.double (FP.i2d p0))) (by rw [e0]; exact Ar110.1) (State.isArrayOf_alike hZ.alike Ar110.2.1) Ar110.2.2 hin110 hat110 (g := (mkF m 25 #[.val (.ref a1), .val (.ref a2), .val (.int (0 : Int32)), .val (.int (0 : Int32))] [(.int (0 : Int32)), (.ref a1), (.int (0 : Int32))])) rfl rfl (hb hby d2_25) _ ?_
      show Steps p.tables e below (s₁.setTop (mkF m 26 #[.val (.ref a1), .val (.ref a2), .val (.int (0 : Int32)), .val (.int (0 : Int32))] [(.double (FP.i2d p0)), (.int (0 : Int32))])) _
      refine XS.aloadN X0.here hx rfl (hb hby d2_26) rfl rfl ?_
      show Steps p.tables e below (s₁.setTop (mkF m 27 #[.val (.ref a1), .val (.ref a2), .val (.int (0 : Int32)), .val (.int (0 : Int32))] [(.ref a2), (.double (FP.i2d p0)), (.int (0 : Int32))])) _
      refine XS.iloadN X0.here hx rfl (hb hby d2_27) rfl ?_
      exact k)
    obtain ⟨c112, Ar112, -, As112, An112, Ah112, -⟩ := id V2
    have hin112 : ¬ ((0 : Int32) < 0 ∨ c112.slots.size ≤ ((0 : Int32)).toNatClampNeg) := inb_of As112 ⟨by decide, by decide⟩
    have hat112 : c112.slots[((0 : Int32)).toNatClampNeg]? = some (.double (FP.i2d q0)) := Has.at Ah112 hin112 rfl
    have k113 : ∀ t, Steps p.tables e below (s₁.setTop (mkF m 30 #[.val (.ref a1), .val (.ref a2), .val (.int (0 : Int32)), .val (.int (0 : Int32))] [(.int (cmpValue (FP.dcmp (FP.i2d p0) (FP.i2d q0)) .g)), (.int (0 : Int32))])) t → Steps p.tables e below (s₁.setTop (entryFrame m #[(.ref a1), (.ref a2)] 4)) t := fun t k => k111 t (by
      show Steps p.tables e below (s₁.setTop (mkF m 28 #[.val (.ref a1), .val (.ref a2), .val (.int (0 : Int32)), .val (.int (0 : Int32))] [(.int (0 : Int32)), (.ref a2), (.double (FP.i2d p0)), (.int (0 : Int32))])) _
      refine X0.daload hx (j := (0 : Int32)) (v := (.double (FP.i2d q0))) (by rw [e0]; exact Ar112.1) (State.isArrayOf_alike hZ.alike Ar112.2.1) Ar112.2.2 hin112 hat112 (g := (mkF m 28 #[.val (.ref a1), .val (.ref a2), .val (.int (0 : Int32)), .val (.int (0 : Int32))] [(.int (0 : Int32)), (.ref a2), (.double (FP.i2d p0)), (.int (0 : Int32))])) rfl rfl (hb hby d2_28) _ ?_
      show Steps p.tables e below (s₁.setTop (mkF m 29 #[.val (.ref a1), .val (.ref a2), .val (.int (0 : Int32)), .val (.int (0 : Int32))] [(.double (FP.i2d q0)), (.double (FP.i2d p0)), (.int (0 : Int32))])) _
      refine XS.dcmpS X0.here hx rfl (hb hby d2_29) rfl rfl ?_
      exact k)
    by_cases d0 : p0 < q0
    · have k114 : ∀ t, Steps p.tables e below (s₁.setTop (mkF m 6 #[.val (.ref a1), .val (.ref a2), .val (.int (1 : Int32)), .val (.int (1 : Int32))] [(.ref a1), (.int (1 : Int32))])) t → Steps p.tables e below (s₁.setTop (entryFrame m #[(.ref a1), (.ref a2)] 4)) t := fun t k => k113 t (by
        show Steps p.tables e below (s₁.setTop (mkF m 30 #[.val (.ref a1), .val (.ref a2), .val (.int (0 : Int32)), .val (.int (0 : Int32))] [(.int (cmpValue (FP.dcmp (FP.i2d p0) (FP.i2d q0)) .g)), (.int (0 : Int32))])) _
        refine XS.ifNo X0.here hx rfl (hb hby d2_30) rfl ((if0 _ _).trans (tlt (own_lt.mpr d0)).2.1) ?_
        show Steps p.tables e below (s₁.setTop (mkF m 33 #[.val (.ref a1), .val (.ref a2), .val (.int (0 : Int32)), .val (.int (0 : Int32))] [(.int (0 : Int32))])) _
        refine XS.iconst X0.here hx rfl (hb hby d2_33) ?_
        show Steps p.tables e below (s₁.setTop (mkF m 34 #[.val (.ref a1), .val (.ref a2), .val (.int (0 : Int32)), .val (.int (0 : Int32))] [(.int (1 : Int32)), (.int (0 : Int32))])) _
        refine XS.goto X0.here hx rfl (pc0 := 34) (pc' := 38) rfl (hb hby d2_34) (by decide) (by decide) ?_
        show Steps p.tables e below (s₁.setTop (mkF m 38 #[.val (.ref a1), .val (.ref a2), .val (.int (0 : Int32)), .val (.int (0 : Int32))] [(.int (1 : Int32)), (.int (0 : Int32))])) _
        refine XS.ior X0.here hx rfl (hb hby d2_38) rfl ?_
        show Steps p.tables e below (s₁.setTop (mkF m 39 #[.val (.ref a1), .val (.ref a2), .val (.int (0 : Int32)), .val (.int (0 : Int32))] [(.int ((0 : Int32) ||| (1 : Int32)))])) _
        refine castTop (g' := (mkF m 39 #[.val (.ref a1), .val (.ref a2), .val (.int (0 : Int32)), .val (.int (0 : Int32))] [(.int (1 : Int32))])) (by rw [show ((0 : Int32) ||| (1 : Int32)) = (1 : Int32) by decide]) ?_
        show Steps p.tables e below (s₁.setTop (mkF m 39 #[.val (.ref a1), .val (.ref a2), .val (.int (0 : Int32)), .val (.int (0 : Int32))] [(.int (1 : Int32))])) _
        refine XS.istoreN X0.here hx rfl (hb hby d2_39) rfl (l' := #[.val (.ref a1), .val (.ref a2), .val (.int (1 : Int32)), .val (.int (0 : Int32))]) rfl ?_
        show Steps p.tables e below (s₁.setTop (mkF m 40 #[.val (.ref a1), .val (.ref a2), .val (.int (1 : Int32)), .val (.int (0 : Int32))] [])) _
        refine XS.iinc X0.here hx rfl (hb hby d2_40) rfl (l' := #[.val (.ref a1), .val (.ref a2), .val (.int (1 : Int32)), .val (.int (1 : Int32))]) rfl ?_
        show Steps p.tables e below (s₁.setTop (mkF m 43 #[.val (.ref a1), .val (.ref a2), .val (.int (1 : Int32)), .val (.int (1 : Int32))] [])) _
        refine XS.goto X0.here hx rfl (pc0 := 43) (pc' := 4) rfl (hb hby d2_43) (by decide) (by decide) ?_
        show Steps p.tables e below (s₁.setTop (mkF m 4 #[.val (.ref a1), .val (.ref a2), .val (.int (1 : Int32)), .val (.int (1 : Int32))] [])) _
        refine XS.iloadN X0.here hx rfl (hb hby d2_4) rfl ?_
        show Steps p.tables e below (s₁.setTop (mkF m 5 #[.val (.ref a1), .val (.ref a2), .val (.int (1 : Int32)), .val (.int (1 : Int32))] [(.int (1 : Int32))])) _
        refine XS.aloadN X0.here hx rfl (hb hby d2_5) rfl rfl ?_
        exact k)
      obtain ⟨c115, Ar115, -, As115, An115, -, -⟩ := id V1
      have k116 : ∀ t, Steps p.tables e below (s₁.setTop (mkF m 47 #[.val (.ref a1), .val (.ref a2), .val (.int (1 : Int32)), .val (.int (1 : Int32))] [(.int (1 : Int32))])) t → Steps p.tables e below (s₁.setTop (entryFrame m #[(.ref a1), (.ref a2)] 4)) t := fun t k => k114 t (by
        show Steps p.tables e below (s₁.setTop (mkF m 6 #[.val (.ref a1), .val (.ref a2), .val (.int (1 : Int32)), .val (.int (1 : Int32))] [(.ref a1), (.int (1 : Int32))])) _
        refine X0.arraylength hx (by rw [e0]; exact Ar115.1) (State.isArrayOf_alike hZ.alike Ar115.2.1) (g := (mkF m 6 #[.val (.ref a1), .val (.ref a2), .val (.int (1 : Int32)), .val (.int (1 : Int32))] [(.ref a1), (.int (1 : Int32))])) rfl rfl (hb hby d2_6) _ ?_
        rw [len_of As115 An115]
        show Steps p.tables e below (s₁.setTop (mkF m 7 #[.val (.ref a1), .val (.ref a2), .val (.int (1 : Int32)), .val (.int (1 : Int32))] [(.int (1 : Int32)), (.int (1 : Int32))])) _
        refine XS.icmpYes X0.here hx rfl (pc0 := 7) (pc' := 46) rfl (hb hby d2_7) rfl (flt (by decide)).2.1 (by decide) (by decide) ?_
        show Steps p.tables e below (s₁.setTop (mkF m 46 #[.val (.ref a1), .val (.ref a2), .val (.int (1 : Int32)), .val (.int (1 : Int32))] [])) _
        refine XS.iloadN X0.here hx rfl (hb hby d2_46) rfl ?_
        exact k)
      obtain ⟨fs, hr, hrun, hended, hW, hsame⟩ := X0.leave (v := some (.int (1 : Int32))) (fun h => by rw [Bd.returns] at h; cases h)
      refine ⟨_, _, k116 _ (retOut X0 hx (t := .boolean) Bd.returns rfl (Or.inl ⟨rfl, Or.inr (Or.inl rfl), _, rfl⟩) (hb hby d2_47) hr), hrun, hended, _, _, rfl, ?_, ⟨_, rfl⟩, hW, hsame.mono (by decide) (by decide)⟩
      show Q_dom1 Z a1 a2 k1 k2 p0 q0 h0 n0 _ s₁.heap _
      rw [e0]
      exact ⟨by simp [own_dom, c0, d0], N0, rfl⟩
    · have k117 : ∀ t, Steps p.tables e below (s₁.setTop (mkF m 6 #[.val (.ref a1), .val (.ref a2), .val (.int (0 : Int32)), .val (.int (1 : Int32))] [(.ref a1), (.int (1 : Int32))])) t → Steps p.tables e below (s₁.setTop (entryFrame m #[(.ref a1), (.ref a2)] 4)) t := fun t k => k113 t (by
        show Steps p.tables e below (s₁.setTop (mkF m 30 #[.val (.ref a1), .val (.ref a2), .val (.int (0 : Int32)), .val (.int (0 : Int32))] [(.int (cmpValue (FP.dcmp (FP.i2d p0) (FP.i2d q0)) .g)), (.int (0 : Int32))])) _
        refine XS.ifYes X0.here hx rfl (pc0 := 30) (pc' := 37) rfl (hb hby d2_30) rfl ((if0 _ _).trans (flt (fun h => d0 (own_lt.mp h))).2.1) (by decide) (by decide) ?_
        show Steps p.tables e below (s₁.setTop (mkF m 37 #[.val (.ref a1), .val (.ref a2), .val (.int (0 : Int32)), .val (.int (0 : Int32))] [(.int (0 : Int32))])) _
        refine XS.iconst X0.here hx rfl (hb hby d2_37) ?_
        show Steps p.tables e below (s₁.setTop (mkF m 38 #[.val (.ref a1), .val (.ref a2), .val (.int (0 : Int32)), .val (.int (0 : Int32))] [(.int (0 : Int32)), (.int (0 : Int32))])) _
        refine XS.ior X0.here hx rfl (hb hby d2_38) rfl ?_
        show Steps p.tables e below (s₁.setTop (mkF m 39 #[.val (.ref a1), .val (.ref a2), .val (.int (0 : Int32)), .val (.int (0 : Int32))] [(.int ((0 : Int32) ||| (0 : Int32)))])) _
        refine castTop (g' := (mkF m 39 #[.val (.ref a1), .val (.ref a2), .val (.int (0 : Int32)), .val (.int (0 : Int32))] [(.int (0 : Int32))])) (by rw [show ((0 : Int32) ||| (0 : Int32)) = (0 : Int32) by decide]) ?_
        show Steps p.tables e below (s₁.setTop (mkF m 39 #[.val (.ref a1), .val (.ref a2), .val (.int (0 : Int32)), .val (.int (0 : Int32))] [(.int (0 : Int32))])) _
        refine XS.istoreN X0.here hx rfl (hb hby d2_39) rfl (l' := #[.val (.ref a1), .val (.ref a2), .val (.int (0 : Int32)), .val (.int (0 : Int32))]) rfl ?_
        show Steps p.tables e below (s₁.setTop (mkF m 40 #[.val (.ref a1), .val (.ref a2), .val (.int (0 : Int32)), .val (.int (0 : Int32))] [])) _
        refine XS.iinc X0.here hx rfl (hb hby d2_40) rfl (l' := #[.val (.ref a1), .val (.ref a2), .val (.int (0 : Int32)), .val (.int (1 : Int32))]) rfl ?_
        show Steps p.tables e below (s₁.setTop (mkF m 43 #[.val (.ref a1), .val (.ref a2), .val (.int (0 : Int32)), .val (.int (1 : Int32))] [])) _
        refine XS.goto X0.here hx rfl (pc0 := 43) (pc' := 4) rfl (hb hby d2_43) (by decide) (by decide) ?_
        show Steps p.tables e below (s₁.setTop (mkF m 4 #[.val (.ref a1), .val (.ref a2), .val (.int (0 : Int32)), .val (.int (1 : Int32))] [])) _
        refine XS.iloadN X0.here hx rfl (hb hby d2_4) rfl ?_
        show Steps p.tables e below (s₁.setTop (mkF m 5 #[.val (.ref a1), .val (.ref a2), .val (.int (0 : Int32)), .val (.int (1 : Int32))] [(.int (1 : Int32))])) _
        refine XS.aloadN X0.here hx rfl (hb hby d2_5) rfl rfl ?_
        exact k)
      obtain ⟨c118, Ar118, -, As118, An118, -, -⟩ := id V1
      have k119 : ∀ t, Steps p.tables e below (s₁.setTop (mkF m 47 #[.val (.ref a1), .val (.ref a2), .val (.int (0 : Int32)), .val (.int (1 : Int32))] [(.int (0 : Int32))])) t → Steps p.tables e below (s₁.setTop (entryFrame m #[(.ref a1), (.ref a2)] 4)) t := fun t k => k117 t (by
        show Steps p.tables e below (s₁.setTop (mkF m 6 #[.val (.ref a1), .val (.ref a2), .val (.int (0 : Int32)), .val (.int (1 : Int32))] [(.ref a1), (.int (1 : Int32))])) _
        refine X0.arraylength hx (by rw [e0]; exact Ar118.1) (State.isArrayOf_alike hZ.alike Ar118.2.1) (g := (mkF m 6 #[.val (.ref a1), .val (.ref a2), .val (.int (0 : Int32)), .val (.int (1 : Int32))] [(.ref a1), (.int (1 : Int32))])) rfl rfl (hb hby d2_6) _ ?_
        rw [len_of As118 An118]
        show Steps p.tables e below (s₁.setTop (mkF m 7 #[.val (.ref a1), .val (.ref a2), .val (.int (0 : Int32)), .val (.int (1 : Int32))] [(.int (1 : Int32)), (.int (1 : Int32))])) _
        refine XS.icmpYes X0.here hx rfl (pc0 := 7) (pc' := 46) rfl (hb hby d2_7) rfl (flt (by decide)).2.1 (by decide) (by decide) ?_
        show Steps p.tables e below (s₁.setTop (mkF m 46 #[.val (.ref a1), .val (.ref a2), .val (.int (0 : Int32)), .val (.int (1 : Int32))] [])) _
        refine XS.iloadN X0.here hx rfl (hb hby d2_46) rfl ?_
        exact k)
      obtain ⟨fs, hr, hrun, hended, hW, hsame⟩ := X0.leave (v := some (.int (0 : Int32))) (fun h => by rw [Bd.returns] at h; cases h)
      refine ⟨_, _, k119 _ (retOut X0 hx (t := .boolean) Bd.returns rfl (Or.inl ⟨rfl, Or.inr (Or.inl rfl), _, rfl⟩) (hb hby d2_47) hr), hrun, hended, _, _, rfl, ?_, ⟨_, rfl⟩, hW, hsame.mono (by decide) (by decide)⟩
      show Q_dom1 Z a1 a2 k1 k2 p0 q0 h0 n0 _ s₁.heap _
      rw [e0]
      exact ⟨by simp [own_dom, c0, d0], N0, rfl⟩
def Q_dom2 (Z : State) (a1 : Addr) (a2 : Addr) (k1 : ClassId) (k2 : ClassId) (p0 : Int32) (p1 : Int32) (q0 : Int32) (q1 : Int32) (h0 : Heap) (n0 : Nat) (v : Option Value) (h : Heap) (L : List Loc) : Prop := v = some (.int (own_dom [(p0, q0), (p1, q1)] 0)) ∧ Fr n0 L ∧ h = h0
set_option maxRecDepth 65536 in
set_option maxHeartbeats 40000000 in
theorem dom2 (l : Launch) (Z : State) (a0 : Array Value) (hw : ∀ d ∈ tables_1, d.before a0 Z = true) (ws : List Jvm.Cond) (a1 : Addr) (a2 : Addr) (k1 : ClassId) (k2 : ClassId) (p0 : Int32) (p1 : Int32) (q0 : Int32) (q1 : Int32) (h0 : Heap) (n0 : Nat) (Z0 : n0 ≤ h0.size) (V1 : Arv Z h0 a1 k1 .double (2 : Int32) [(.double (FP.i2d p0)), (.double (FP.i2d p1))] (.double (0 : UInt64))) (V2 : Arv Z h0 a2 k2 .double (2 : Int32) [(.double (FP.i2d q0)), (.double (FP.i2d q1))] (.double (0 : UInt64))) :
    MetFree l (⟨"com/example/frontweave/frontweave/selection/Fronts", "dominates", "([D[D)Z"⟩ : MethodName) (head1 (Jvm.Cond.code (⟨"com/example/frontweave/frontweave/selection/Fronts", "dominates", "([D[D)Z"⟩ : MethodName) prog_59_method_2_code 4 (some .boolean) :: ws) ({ frames := 0, cells := 0, slots := 0, locals := 0 } : Room)) (fun a U => a = #[(.ref a1), (.ref a2)] ∧ Z.Warmed39 U.vm ∧ U.heap = h0) (fun _ _ _ _ _ => True) (fun _ U o U' => ∃ v L, o = .returned v ∧ Q_dom2 Z a1 a2 k1 k2 p0 p1 q0 q1 h0 n0 v U'.heap L ∧ FrameEnd U o U' L ({ frames := 0, cells := 0, slots := 0, locals := 0 } : Room).cells ({ frames := 0, cells := 0, slots := 0, locals := 0 } : Room).slots) := by
  refine MetFree.of_bodySF (plainFor_of_name pn_com_2fexample_2ffrontweave_2ffrontweave_2fselection_2fFronts) hisR ?_
  intro p e s m args below meth c s₁ Bd hml0 hP hK
  obtain ⟨rfl, hZ, hh⟩ := hP
  have hx := Bd.exec
  have hby := Bd.bytes
  have hml : c.maxLocals = 4 := hml0
  have hown : s.vm.findClass "com/example/frontweave/frontweave/selection/Fronts" = some m.cls := findClass_of_methodNamed Bd.named
  have hnm := (name_of_methodNamed Bd.named Bd.method).1
  have X0 : Stand p l e ({ frames := 0, cells := 0, slots := 0, locals := 0 } : Room) s m #[(.ref a1), (.ref a2)] below meth c s₁ [] 0 0 := Stand.of_body Bd
  have e0 : s₁.heap = h0 := by rw [← hh, Bd.state]; rfl
  have N0 := Fr.nil n0
  have k0 : ∀ t, Steps p.tables e below (s₁.setTop (mkF m 0 #[.val (.ref a1), .val (.ref a2), .unset, .unset] [])) t → Steps p.tables e below (s₁.setTop (entryFrame m #[(.ref a1), (.ref a2)] 4)) t := fun t k => castTop (ef_2_RR m a1 a2) k
  have k101 : ∀ t, Steps p.tables e below (s₁.setTop (mkF m 6 #[.val (.ref a1), .val (.ref a2), .val (.int (0 : Int32)), .val (.int (0 : Int32))] [(.ref a1), (.int (0 : Int32))])) t → Steps p.tables e below (s₁.setTop (entryFrame m #[(.ref a1), (.ref a2)] 4)) t := fun t k => k0 t (by
    show Steps p.tables e below (s₁.setTop (mkF m 0 #[.val (.ref a1), .val (.ref a2), .unset, .unset] [])) _
    refine XS.iconst X0.here hx rfl (hb hby d2_0) ?_
    show Steps p.tables e below (s₁.setTop (mkF m 1 #[.val (.ref a1), .val (.ref a2), .unset, .unset] [(.int (0 : Int32))])) _
    refine XS.istoreN X0.here hx rfl (hb hby d2_1) rfl (l' := #[.val (.ref a1), .val (.ref a2), .val (.int (0 : Int32)), .unset]) rfl ?_
    show Steps p.tables e below (s₁.setTop (mkF m 2 #[.val (.ref a1), .val (.ref a2), .val (.int (0 : Int32)), .unset] [])) _
    refine XS.iconst X0.here hx rfl (hb hby d2_2) ?_
    show Steps p.tables e below (s₁.setTop (mkF m 3 #[.val (.ref a1), .val (.ref a2), .val (.int (0 : Int32)), .unset] [(.int (0 : Int32))])) _
    refine XS.istoreN X0.here hx rfl (hb hby d2_3) rfl (l' := #[.val (.ref a1), .val (.ref a2), .val (.int (0 : Int32)), .val (.int (0 : Int32))]) rfl ?_
    show Steps p.tables e below (s₁.setTop (mkF m 4 #[.val (.ref a1), .val (.ref a2), .val (.int (0 : Int32)), .val (.int (0 : Int32))] [])) _
    refine XS.iloadN X0.here hx rfl (hb hby d2_4) rfl ?_
    show Steps p.tables e below (s₁.setTop (mkF m 5 #[.val (.ref a1), .val (.ref a2), .val (.int (0 : Int32)), .val (.int (0 : Int32))] [(.int (0 : Int32))])) _
    refine XS.aloadN X0.here hx rfl (hb hby d2_5) rfl rfl ?_
    exact k)
  obtain ⟨c102, Ar102, -, As102, An102, -, -⟩ := id V1
  have k103 : ∀ t, Steps p.tables e below (s₁.setTop (mkF m 12 #[.val (.ref a1), .val (.ref a2), .val (.int (0 : Int32)), .val (.int (0 : Int32))] [(.int (0 : Int32)), (.ref a1)])) t → Steps p.tables e below (s₁.setTop (entryFrame m #[(.ref a1), (.ref a2)] 4)) t := fun t k => k101 t (by
    show Steps p.tables e below (s₁.setTop (mkF m 6 #[.val (.ref a1), .val (.ref a2), .val (.int (0 : Int32)), .val (.int (0 : Int32))] [(.ref a1), (.int (0 : Int32))])) _
    refine X0.arraylength hx (by rw [e0]; exact Ar102.1) (State.isArrayOf_alike hZ.alike Ar102.2.1) (g := (mkF m 6 #[.val (.ref a1), .val (.ref a2), .val (.int (0 : Int32)), .val (.int (0 : Int32))] [(.ref a1), (.int (0 : Int32))])) rfl rfl (hb hby d2_6) _ ?_
    rw [len_of As102 An102]
    show Steps p.tables e below (s₁.setTop (mkF m 7 #[.val (.ref a1), .val (.ref a2), .val (.int (0 : Int32)), .val (.int (0 : Int32))] [(.int (2 : Int32)), (.int (0 : Int32))])) _
    refine XS.icmpNo X0.here hx rfl (hb hby d2_7) rfl (tlt (by decide)).2.1 ?_
    show Steps p.tables e below (s₁.setTop (mkF m 10 #[.val (.ref a1), .val (.ref a2), .val (.int (0 : Int32)), .val (.int (0 : Int32))] [])) _
    refine XS.aloadN X0.here hx rfl (hb hby d2_10) rfl rfl ?_
    show Steps p.tables e below (s₁.setTop (mkF m 11 #[.val (.ref a1), .val (.ref a2), .val (.int (0 : Int32)), .val (.int (0 : Int32))] [(.ref a1)])) _
    refine XS.iloadN X0.here hx rfl (hb hby d2_11) rfl ?_
    exact k)
  obtain ⟨c104, Ar104, -, As104, An104, Ah104, -⟩ := id V1
  have hin104 : ¬ ((0 : Int32) < 0 ∨ c104.slots.size ≤ ((0 : Int32)).toNatClampNeg) := inb_of As104 ⟨by decide, by decide⟩
  have hat104 : c104.slots[((0 : Int32)).toNatClampNeg]? = some (.double (FP.i2d p0)) := Has.at Ah104 hin104 rfl
  have k105 : ∀ t, Steps p.tables e below (s₁.setTop (mkF m 15 #[.val (.ref a1), .val (.ref a2), .val (.int (0 : Int32)), .val (.int (0 : Int32))] [(.int (0 : Int32)), (.ref a2), (.double (FP.i2d p0))])) t → Steps p.tables e below (s₁.setTop (entryFrame m #[(.ref a1), (.ref a2)] 4)) t := fun t k => k103 t (by
    show Steps p.tables e below (s₁.setTop (mkF m 12 #[.val (.ref a1), .val (.ref a2), .val (.int (0 : Int32)), .val (.int (0 : Int32))] [(.int (0 : Int32)), (.ref a1)])) _
    refine X0.daload hx (j := (0 : Int32)) (v := (.double (FP.i2d p0))) (by rw [e0]; exact Ar104.1) (State.isArrayOf_alike hZ.alike Ar104.2.1) Ar104.2.2 hin104 hat104 (g := (mkF m 12 #[.val (.ref a1), .val (.ref a2), .val (.int (0 : Int32)), .val (.int (0 : Int32))] [(.int (0 : Int32)), (.ref a1)])) rfl rfl (hb hby d2_12) _ ?_
    show Steps p.tables e below (s₁.setTop (mkF m 13 #[.val (.ref a1), .val (.ref a2), .val (.int (0 : Int32)), .val (.int (0 : Int32))] [(.double (FP.i2d p0))])) _
    refine XS.aloadN X0.here hx rfl (hb hby d2_13) rfl rfl ?_
    show Steps p.tables e below (s₁.setTop (mkF m 14 #[.val (.ref a1), .val (.ref a2), .val (.int (0 : Int32)), .val (.int (0 : Int32))] [(.ref a2), (.double (FP.i2d p0))])) _
    refine XS.iloadN X0.here hx rfl (hb hby d2_14) rfl ?_
    exact k)
  obtain ⟨c106, Ar106, -, As106, An106, Ah106, -⟩ := id V2
  have hin106 : ¬ ((0 : Int32) < 0 ∨ c106.slots.size ≤ ((0 : Int32)).toNatClampNeg) := inb_of As106 ⟨by decide, by decide⟩
  have hat106 : c106.slots[((0 : Int32)).toNatClampNeg]? = some (.double (FP.i2d q0)) := Has.at Ah106 hin106 rfl
  have k107 : ∀ t, Steps p.tables e below (s₁.setTop (mkF m 17 #[.val (.ref a1), .val (.ref a2), .val (.int (0 : Int32)), .val (.int (0 : Int32))] [(.int (cmpValue (FP.dcmp (FP.i2d p0) (FP.i2d q0)) .l))])) t → Steps p.tables e below (s₁.setTop (entryFrame m #[(.ref a1), (.ref a2)] 4)) t := fun t k => k105 t (by
    show Steps p.tables e below (s₁.setTop (mkF m 15 #[.val (.ref a1), .val (.ref a2), .val (.int (0 : Int32)), .val (.int (0 : Int32))] [(.int (0 : Int32)), (.ref a2), (.double (FP.i2d p0))])) _
    refine X0.daload hx (j := (0 : Int32)) (v := (.double (FP.i2d q0))) (by rw [e0]; exact Ar106.1) (State.isArrayOf_alike hZ.alike Ar106.2.1) Ar106.2.2 hin106 hat106 (g := (mkF m 15 #[.val (.ref a1), .val (.ref a2), .val (.int (0 : Int32)), .val (.int (0 : Int32))] [(.int (0 : Int32)), (.ref a2), (.double (FP.i2d p0))])) rfl rfl (hb hby d2_15) _ ?_
    show Steps p.tables e below (s₁.setTop (mkF m 16 #[.val (.ref a1), .val (.ref a2), .val (.int (0 : Int32)), .val (.int (0 : Int32))] [(.double (FP.i2d q0)), (.double (FP.i2d p0))])) _
    refine XS.dcmpS X0.here hx rfl (hb hby d2_16) rfl rfl ?_
    exact k)
  by_cases c0 : q0 < p0
  · have k108 : ∀ t, Steps p.tables e below (s₁.setTop (mkF m 21 #[.val (.ref a1), .val (.ref a2), .val (.int (0 : Int32)), .val (.int (0 : Int32))] [(.int (0 : Int32))])) t → Steps p.tables e below (s₁.setTop (entryFrame m #[(.ref a1), (.ref a2)] 4)) t := fun t k => k107 t (by
      show Steps p.tables e below (s₁.setTop (mkF m 17 #[.val (.ref a1), .val (.ref a2), .val (.int (0 : Int32)), .val (.int (0 : Int32))] [(.int (cmpValue (FP.dcmp (FP.i2d p0) (FP.i2d q0)) .l))])) _
      refine XS.ifNo X0.here hx rfl (hb hby d2_17) rfl ((if0 _ _).trans (tlt (own_gt.mpr c0)).2.2.2) ?_
      show Steps p.tables e below (s₁.setTop (mkF m 20 #[.val (.ref a1), .val (.ref a2), .val (.int (0 : Int32)), .val (.int (0 : Int32))] [])) _
      refine XS.iconst X0.here hx rfl (hb hby d2_20) ?_
      exact k)
    obtain ⟨fs, hr, hrun, hended, hW, hsame⟩ := X0.leave (v := some (.int (0 : Int32))) (fun h => by rw [Bd.returns] at h; cases h)
    refine ⟨_, _, k108 _ (retOut X0 hx (t := .boolean) Bd.returns rfl (Or.inl ⟨rfl, Or.inr (Or.inl rfl), _, rfl⟩) (hb hby d2_21) hr), hrun, hended, _, _, rfl, ?_, ⟨_, rfl⟩, hW, hsame.mono (by decide) (by decide)⟩
    show Q_dom2 Z a1 a2 k1 k2 p0 p1 q0 q1 h0 n0 _ s₁.heap _
    rw [e0]
    exact ⟨by simp [own_dom, c0], N0, rfl⟩
  · have k109 : ∀ t, Steps p.tables e below (s₁.setTop (mkF m 25 #[.val (.ref a1), .val (.ref a2), .val (.int (0 : Int32)), .val (.int (0 : Int32))] [(.int (0 : Int32)), (.ref a1), (.int (0 : Int32))])) t → Steps p.tables e below (s₁.setTop (entryFrame m #[(.ref a1), (.ref a2)] 4)) t := fun t k => k107 t (by
      show Steps p.tables e below (s₁.setTop (mkF m 17 #[.val (.ref a1), .val (.ref a2), .val (.int (0 : Int32)), .val (.int (0 : Int32))] [(.int (cmpValue (FP.dcmp (FP.i2d p0) (FP.i2d q0)) .l))])) _
      refine XS.ifYes X0.here hx rfl (pc0 := 17) (pc' := 22) rfl (hb hby d2_17) rfl ((if0 _ _).trans (flt (fun h => c0 (own_gt.mp h))).2.2.2) (by decide) (by decide) ?_
      show Steps p.tables e below (s₁.setTop (mkF m 22 #[.val (.ref a1), .val (.ref a2), .val (.int (0 : Int32)), .val (.int (0 : Int32))] [])) _
      refine XS.iloadN X0.here hx rfl (hb hby d2_22) rfl ?_
      show Steps p.tables e below (s₁.setTop (mkF m 23 #[.val (.ref a1), .val (.ref a2), .val (.int (0 : Int32)), .val (.int (0 : Int32))] [(.int (0 : Int32))])) _
      refine XS.aloadN X0.here hx rfl (hb hby d2_23) rfl rfl ?_
      show Steps p.tables e below (s₁.setTop (mkF m 24 #[.val (.ref a1), .val (.ref a2), .val (.int (0 : Int32)), .val (.int (0 : Int32))] [(.ref a1), (.int (0 : Int32))])) _
      refine XS.iloadN X0.here hx rfl (hb hby d2_24) rfl ?_
      exact k)
    obtain ⟨c110, Ar110, -, As110, An110, Ah110, -⟩ := id V1
    have hin110 : ¬ ((0 : Int32) < 0 ∨ c110.slots.size ≤ ((0 : Int32)).toNatClampNeg) := inb_of As110 ⟨by decide, by decide⟩
    have hat110 : c110.slots[((0 : Int32)).toNatClampNeg]? = some (.double (FP.i2d p0)) := Has.at Ah110 hin110 rfl
    have k111 : ∀ t, Steps p.tables e below (s₁.setTop (mkF m 28 #[.val (.ref a1), .val (.ref a2), .val (.int (0 : Int32)), .val (.int (0 : Int32))] [(.int (0 : Int32)), (.ref a2), (.double (FP.i2d p0)), (.int (0 : Int32))])) t → Steps p.tables e below (s₁.setTop (entryFrame m #[(.ref a1), (.ref a2)] 4)) t := fun t k => k109 t (by
      show Steps p.tables e below (s₁.setTop (mkF m 25 #[.val (.ref a1), .val (.ref a2), .val (.int (0 : Int32)), .val (.int (0 : Int32))] [(.int (0 : Int32)), (.ref a1), (.int (0 : Int32))])) _
      refine X0.daload hx (j := (0 : Int32)) (v := (.double (FP.i2d p0))) (by rw [e0]; exact Ar110.1) (State.isArrayOf_alike hZ.alike Ar110.2.1) Ar110.2.2 hin110 hat110 (g := (mkF m 25 #[.val (.ref a1), .val (.ref a2), .val (.int (0 : Int32)), .val (.int (0 : Int32))] [(.int (0 : Int32)), (.ref a1), (.int (0 : Int32))])) rfl rfl (hb hby d2_25) _ ?_
      show Steps p.tables e below (s₁.setTop (mkF m 26 #[.val (.ref a1), .val (.ref a2), .val (.int (0 : Int32)), .val (.int (0 : Int32))] [(.double (FP.i2d p0)), (.int (0 : Int32))])) _
      refine XS.aloadN X0.here hx rfl (hb hby d2_26) rfl rfl ?_
      show Steps p.tables e below (s₁.setTop (mkF m 27 #[.val (.ref a1), .val (.ref a2), .val (.int (0 : Int32)), .val (.int (0 : Int32))] [(.ref a2), (.double (FP.i2d p0)), (.int (0 : Int32))])) _
      refine XS.iloadN X0.here hx rfl (hb hby d2_27) rfl ?_
      exact k)
    obtain ⟨c112, Ar112, -, As112, An112, Ah112, -⟩ := id V2
    have hin112 : ¬ ((0 : Int32) < 0 ∨ c112.slots.size ≤ ((0 : Int32)).toNatClampNeg) := inb_of As112 ⟨by decide, by decide⟩
    have hat112 : c112.slots[((0 : Int32)).toNatClampNeg]? = some (.double (FP.i2d q0)) := Has.at Ah112 hin112 rfl
    have k113 : ∀ t, Steps p.tables e below (s₁.setTop (mkF m 30 #[.val (.ref a1), .val (.ref a2), .val (.int (0 : Int32)), .val (.int (0 : Int32))] [(.int (cmpValue (FP.dcmp (FP.i2d p0) (FP.i2d q0)) .g)), (.int (0 : Int32))])) t → Steps p.tables e below (s₁.setTop (entryFrame m #[(.ref a1), (.ref a2)] 4)) t := fun t k => k111 t (by
      show Steps p.tables e below (s₁.setTop (mkF m 28 #[.val (.ref a1), .val (.ref a2), .val (.int (0 : Int32)), .val (.int (0 : Int32))] [(.int (0 : Int32)), (.ref a2), (.double (FP.i2d p0)), (.int (0 : Int32))])) _
      refine X0.daload hx (j := (0 : Int32)) (v := (.double (FP.i2d q0))) (by rw [e0]; exact Ar112.1) (State.isArrayOf_alike hZ.alike Ar112.2.1) Ar112.2.2 hin112 hat112 (g := (mkF m 28 #[.val (.ref a1), .val (.ref a2), .val (.int (0 : Int32)), .val (.int (0 : Int32))] [(.int (0 : Int32)), (.ref a2), (.double (FP.i2d p0)), (.int (0 : Int32))])) rfl rfl (hb hby d2_28) _ ?_
      show Steps p.tables e below (s₁.setTop (mkF m 29 #[.val (.ref a1), .val (.ref a2), .val (.int (0 : Int32)), .val (.int (0 : Int32))] [(.double (FP.i2d q0)), (.double (FP.i2d p0)), (.int (0 : Int32))])) _
      refine XS.dcmpS X0.here hx rfl (hb hby d2_29) rfl rfl ?_
      exact k)
    by_cases d0 : p0 < q0
    · have k114 : ∀ t, Steps p.tables e below (s₁.setTop (mkF m 6 #[.val (.ref a1), .val (.ref a2), .val (.int (1 : Int32)), .val (.int (1 : Int32))] [(.ref a1), (.int (1 : Int32))])) t → Steps p.tables e below (s₁.setTop (entryFrame m #[(.ref a1), (.ref a2)] 4)) t := fun t k => k113 t (by
        show Steps p.tables e below (s₁.setTop (mkF m 30 #[.val (.ref a1), .val (.ref a2), .val (.int (0 : Int32)), .val (.int (0 : Int32))] [(.int (cmpValue (FP.dcmp (FP.i2d p0) (FP.i2d q0)) .g)), (.int (0 : Int32))])) _
        refine XS.ifNo X0.here hx rfl (hb hby d2_30) rfl ((if0 _ _).trans (tlt (own_lt.mpr d0)).2.1) ?_
        show Steps p.tables e below (s₁.setTop (mkF m 33 #[.val (.ref a1), .val (.ref a2), .val (.int (0 : Int32)), .val (.int (0 : Int32))] [(.int (0 : Int32))])) _
        refine XS.iconst X0.here hx rfl (hb hby d2_33) ?_
        show Steps p.tables e below (s₁.setTop (mkF m 34 #[.val (.ref a1), .val (.ref a2), .val (.int (0 : Int32)), .val (.int (0 : Int32))] [(.int (1 : Int32)), (.int (0 : Int32))])) _
        refine XS.goto X0.here hx rfl (pc0 := 34) (pc' := 38) rfl (hb hby d2_34) (by decide) (by decide) ?_
        show Steps p.tables e below (s₁.setTop (mkF m 38 #[.val (.ref a1), .val (.ref a2), .val (.int (0 : Int32)), .val (.int (0 : Int32))] [(.int (1 : Int32)), (.int (0 : Int32))])) _
        refine XS.ior X0.here hx rfl (hb hby d2_38) rfl ?_
        show Steps p.tables e below (s₁.setTop (mkF m 39 #[.val (.ref a1), .val (.ref a2), .val (.int (0 : Int32)), .val (.int (0 : Int32))] [(.int ((0 : Int32) ||| (1 : Int32)))])) _
        refine castTop (g' := (mkF m 39 #[.val (.ref a1), .val (.ref a2), .val (.int (0 : Int32)), .val (.int (0 : Int32))] [(.int (1 : Int32))])) (by rw [show ((0 : Int32) ||| (1 : Int32)) = (1 : Int32) by decide]) ?_
        show Steps p.tables e below (s₁.setTop (mkF m 39 #[.val (.ref a1), .val (.ref a2), .val (.int (0 : Int32)), .val (.int (0 : Int32))] [(.int (1 : Int32))])) _
        refine XS.istoreN X0.here hx rfl (hb hby d2_39) rfl (l' := #[.val (.ref a1), .val (.ref a2), .val (.int (1 : Int32)), .val (.int (0 : Int32))]) rfl ?_
        show Steps p.tables e below (s₁.setTop (mkF m 40 #[.val (.ref a1), .val (.ref a2), .val (.int (1 : Int32)), .val (.int (0 : Int32))] [])) _
        refine XS.iinc X0.here hx rfl (hb hby d2_40) rfl (l' := #[.val (.ref a1), .val (.ref a2), .val (.int (1 : Int32)), .val (.int (1 : Int32))]) rfl ?_
        show Steps p.tables e below (s₁.setTop (mkF m 43 #[.val (.ref a1), .val (.ref a2), .val (.int (1 : Int32)), .val (.int (1 : Int32))] [])) _
        refine XS.goto X0.here hx rfl (pc0 := 43) (pc' := 4) rfl (hb hby d2_43) (by decide) (by decide) ?_
        show Steps p.tables e below (s₁.setTop (mkF m 4 #[.val (.ref a1), .val (.ref a2), .val (.int (1 : Int32)), .val (.int (1 : Int32))] [])) _
        refine XS.iloadN X0.here hx rfl (hb hby d2_4) rfl ?_
        show Steps p.tables e below (s₁.setTop (mkF m 5 #[.val (.ref a1), .val (.ref a2), .val (.int (1 : Int32)), .val (.int (1 : Int32))] [(.int (1 : Int32))])) _
        refine XS.aloadN X0.here hx rfl (hb hby d2_5) rfl rfl ?_
        exact k)
      obtain ⟨c115, Ar115, -, As115, An115, -, -⟩ := id V1
      have k116 : ∀ t, Steps p.tables e below (s₁.setTop (mkF m 12 #[.val (.ref a1), .val (.ref a2), .val (.int (1 : Int32)), .val (.int (1 : Int32))] [(.int (1 : Int32)), (.ref a1)])) t → Steps p.tables e below (s₁.setTop (entryFrame m #[(.ref a1), (.ref a2)] 4)) t := fun t k => k114 t (by
        show Steps p.tables e below (s₁.setTop (mkF m 6 #[.val (.ref a1), .val (.ref a2), .val (.int (1 : Int32)), .val (.int (1 : Int32))] [(.ref a1), (.int (1 : Int32))])) _
        refine X0.arraylength hx (by rw [e0]; exact Ar115.1) (State.isArrayOf_alike hZ.alike Ar115.2.1) (g := (mkF m 6 #[.val (.ref a1), .val (.ref a2), .val (.int (1 : Int32)), .val (.int (1 : Int32))] [(.ref a1), (.int (1 : Int32))])) rfl rfl (hb hby d2_6) _ ?_
        rw [len_of As115 An115]
        show Steps p.tables e below (s₁.setTop (mkF m 7 #[.val (.ref a1), .val (.ref a2), .val (.int (1 : Int32)), .val (.int (1 : Int32))] [(.int (2 : Int32)), (.int (1 : Int32))])) _
        refine XS.icmpNo X0.here hx rfl (hb hby d2_7) rfl (tlt (by decide)).2.1 ?_
        show Steps p.tables e below (s₁.setTop (mkF m 10 #[.val (.ref a1), .val (.ref a2), .val (.int (1 : Int32)), .val (.int (1 : Int32))] [])) _
        refine XS.aloadN X0.here hx rfl (hb hby d2_10) rfl rfl ?_
        show Steps p.tables e below (s₁.setTop (mkF m 11 #[.val (.ref a1), .val (.ref a2), .val (.int (1 : Int32)), .val (.int (1 : Int32))] [(.ref a1)])) _
        refine XS.iloadN X0.here hx rfl (hb hby d2_11) rfl ?_
        exact k)
      obtain ⟨c117, Ar117, -, As117, An117, Ah117, -⟩ := id V1
      have hin117 : ¬ ((1 : Int32) < 0 ∨ c117.slots.size ≤ ((1 : Int32)).toNatClampNeg) := inb_of As117 ⟨by decide, by decide⟩
      have hat117 : c117.slots[((1 : Int32)).toNatClampNeg]? = some (.double (FP.i2d p1)) := Has.at Ah117 hin117 rfl
      have k118 : ∀ t, Steps p.tables e below (s₁.setTop (mkF m 15 #[.val (.ref a1), .val (.ref a2), .val (.int (1 : Int32)), .val (.int (1 : Int32))] [(.int (1 : Int32)), (.ref a2), (.double (FP.i2d p1))])) t → Steps p.tables e below (s₁.setTop (entryFrame m #[(.ref a1), (.ref a2)] 4)) t := fun t k => k116 t (by
        show Steps p.tables e below (s₁.setTop (mkF m 12 #[.val (.ref a1), .val (.ref a2), .val (.int (1 : Int32)), .val (.int (1 : Int32))] [(.int (1 : Int32)), (.ref a1)])) _
        refine X0.daload hx (j := (1 : Int32)) (v := (.double (FP.i2d p1))) (by rw [e0]; exact Ar117.1) (State.isArrayOf_alike hZ.alike Ar117.2.1) Ar117.2.2 hin117 hat117 (g := (mkF m 12 #[.val (.ref a1), .val (.ref a2), .val (.int (1 : Int32)), .val (.int (1 : Int32))] [(.int (1 : Int32)), (.ref a1)])) rfl rfl (hb hby d2_12) _ ?_
        show Steps p.tables e below (s₁.setTop (mkF m 13 #[.val (.ref a1), .val (.ref a2), .val (.int (1 : Int32)), .val (.int (1 : Int32))] [(.double (FP.i2d p1))])) _
        refine XS.aloadN X0.here hx rfl (hb hby d2_13) rfl rfl ?_
        show Steps p.tables e below (s₁.setTop (mkF m 14 #[.val (.ref a1), .val (.ref a2), .val (.int (1 : Int32)), .val (.int (1 : Int32))] [(.ref a2), (.double (FP.i2d p1))])) _
        refine XS.iloadN X0.here hx rfl (hb hby d2_14) rfl ?_
        exact k)
      obtain ⟨c119, Ar119, -, As119, An119, Ah119, -⟩ := id V2
      have hin119 : ¬ ((1 : Int32) < 0 ∨ c119.slots.size ≤ ((1 : Int32)).toNatClampNeg) := inb_of As119 ⟨by decide, by decide⟩
      have hat119 : c119.slots[((1 : Int32)).toNatClampNeg]? = some (.double (FP.i2d q1)) := Has.at Ah119 hin119 rfl
      have k120 : ∀ t, Steps p.tables e below (s₁.setTop (mkF m 17 #[.val (.ref a1), .val (.ref a2), .val (.int (1 : Int32)), .val (.int (1 : Int32))] [(.int (cmpValue (FP.dcmp (FP.i2d p1) (FP.i2d q1)) .l))])) t → Steps p.tables e below (s₁.setTop (entryFrame m #[(.ref a1), (.ref a2)] 4)) t := fun t k => k118 t (by
        show Steps p.tables e below (s₁.setTop (mkF m 15 #[.val (.ref a1), .val (.ref a2), .val (.int (1 : Int32)), .val (.int (1 : Int32))] [(.int (1 : Int32)), (.ref a2), (.double (FP.i2d p1))])) _
        refine X0.daload hx (j := (1 : Int32)) (v := (.double (FP.i2d q1))) (by rw [e0]; exact Ar119.1) (State.isArrayOf_alike hZ.alike Ar119.2.1) Ar119.2.2 hin119 hat119 (g := (mkF m 15 #[.val (.ref a1), .val (.ref a2), .val (.int (1 : Int32)), .val (.int (1 : Int32))] [(.int (1 : Int32)), (.ref a2), (.double (FP.i2d p1))])) rfl rfl (hb hby d2_15) _ ?_
        show Steps p.tables e below (s₁.setTop (mkF m 16 #[.val (.ref a1), .val (.ref a2), .val (.int (1 : Int32)), .val (.int (1 : Int32))] [(.double (FP.i2d q1)), (.double (FP.i2d p1))])) _
        refine XS.dcmpS X0.here hx rfl (hb hby d2_16) rfl rfl ?_
        exact k)
      by_cases c1 : q1 < p1
      · have k121 : ∀ t, Steps p.tables e below (s₁.setTop (mkF m 21 #[.val (.ref a1), .val (.ref a2), .val (.int (1 : Int32)), .val (.int (1 : Int32))] [(.int (0 : Int32))])) t → Steps p.tables e below (s₁.setTop (entryFrame m #[(.ref a1), (.ref a2)] 4)) t := fun t k => k120 t (by
          show Steps p.tables e below (s₁.setTop (mkF m 17 #[.val (.ref a1), .val (.ref a2), .val (.int (1 : Int32)), .val (.int (1 : Int32))] [(.int (cmpValue (FP.dcmp (FP.i2d p1) (FP.i2d q1)) .l))])) _
          refine XS.ifNo X0.here hx rfl (hb hby d2_17) rfl ((if0 _ _).trans (tlt (own_gt.mpr c1)).2.2.2) ?_
          show Steps p.tables e below (s₁.setTop (mkF m 20 #[.val (.ref a1), .val (.ref a2), .val (.int (1 : Int32)), .val (.int (1 : Int32))] [])) _
          refine XS.iconst X0.here hx rfl (hb hby d2_20) ?_
          exact k)
        obtain ⟨fs, hr, hrun, hended, hW, hsame⟩ := X0.leave (v := some (.int (0 : Int32))) (fun h => by rw [Bd.returns] at h; cases h)
        refine ⟨_, _, k121 _ (retOut X0 hx (t := .boolean) Bd.returns rfl (Or.inl ⟨rfl, Or.inr (Or.inl rfl), _, rfl⟩) (hb hby d2_21) hr), hrun, hended, _, _, rfl, ?_, ⟨_, rfl⟩, hW, hsame.mono (by decide) (by decide)⟩
        show Q_dom2 Z a1 a2 k1 k2 p0 p1 q0 q1 h0 n0 _ s₁.heap _
        rw [e0]
        exact ⟨by simp [own_dom, c0, d0, c1], N0, rfl⟩
      · have k122 : ∀ t, Steps p.tables e below (s₁.setTop (mkF m 25 #[.val (.ref a1), .val (.ref a2), .val (.int (1 : Int32)), .val (.int (1 : Int32))] [(.int (1 : Int32)), (.ref a1), (.int (1 : Int32))])) t → Steps p.tables e below (s₁.setTop (entryFrame m #[(.ref a1), (.ref a2)] 4)) t := fun t k => k120 t (by
          show Steps p.tables e below (s₁.setTop (mkF m 17 #[.val (.ref a1), .val (.ref a2), .val (.int (1 : Int32)), .val (.int (1 : Int32))] [(.int (cmpValue (FP.dcmp (FP.i2d p1) (FP.i2d q1)) .l))])) _
          refine XS.ifYes X0.here hx rfl (pc0 := 17) (pc' := 22) rfl (hb hby d2_17) rfl ((if0 _ _).trans (flt (fun h => c1 (own_gt.mp h))).2.2.2) (by decide) (by decide) ?_
          show Steps p.tables e below (s₁.setTop (mkF m 22 #[.val (.ref a1), .val (.ref a2), .val (.int (1 : Int32)), .val (.int (1 : Int32))] [])) _
          refine XS.iloadN X0.here hx rfl (hb hby d2_22) rfl ?_
          show Steps p.tables e below (s₁.setTop (mkF m 23 #[.val (.ref a1), .val (.ref a2), .val (.int (1 : Int32)), .val (.int (1 : Int32))] [(.int (1 : Int32))])) _
          refine XS.aloadN X0.here hx rfl (hb hby d2_23) rfl rfl ?_
          show Steps p.tables e below (s₁.setTop (mkF m 24 #[.val (.ref a1), .val (.ref a2), .val (.int (1 : Int32)), .val (.int (1 : Int32))] [(.ref a1), (.int (1 : Int32))])) _
          refine XS.iloadN X0.here hx rfl (hb hby d2_24) rfl ?_
          exact k)
        obtain ⟨c123, Ar123, -, As123, An123, Ah123, -⟩ := id V1
        have hin123 : ¬ ((1 : Int32) < 0 ∨ c123.slots.size ≤ ((1 : Int32)).toNatClampNeg) := inb_of As123 ⟨by decide, by decide⟩
        have hat123 : c123.slots[((1 : Int32)).toNatClampNeg]? = some (.double (FP.i2d p1)) := Has.at Ah123 hin123 rfl
        have k124 : ∀ t, Steps p.tables e below (s₁.setTop (mkF m 28 #[.val (.ref a1), .val (.ref a2), .val (.int (1 : Int32)), .val (.int (1 : Int32))] [(.int (1 : Int32)), (.ref a2), (.double (FP.i2d p1)), (.int (1 : Int32))])) t → Steps p.tables e below (s₁.setTop (entryFrame m #[(.ref a1), (.ref a2)] 4)) t := fun t k => k122 t (by
          show Steps p.tables e below (s₁.setTop (mkF m 25 #[.val (.ref a1), .val (.ref a2), .val (.int (1 : Int32)), .val (.int (1 : Int32))] [(.int (1 : Int32)), (.ref a1), (.int (1 : Int32))])) _
          refine X0.daload hx (j := (1 : Int32)) (v := (.double (FP.i2d p1))) (by rw [e0]; exact Ar123.1) (State.isArrayOf_alike hZ.alike Ar123.2.1) Ar123.2.2 hin123 hat123 (g := (mkF m 25 #[.val (.ref a1), .val (.ref a2), .val (.int (1 : Int32)), .val (.int (1 : Int32))] [(.int (1 : Int32)), (.ref a1), (.int (1 : Int32))])) rfl rfl (hb hby d2_25) _ ?_
          show Steps p.tables e below (s₁.setTop (mkF m 26 #[.val (.ref a1), .val (.ref a2), .val (.int (1 : Int32)), .val (.int (1 : Int32))] [(.double (FP.i2d p1)), (.int (1 : Int32))])) _
          refine XS.aloadN X0.here hx rfl (hb hby d2_26) rfl rfl ?_
          show Steps p.tables e below (s₁.setTop (mkF m 27 #[.val (.ref a1), .val (.ref a2), .val (.int (1 : Int32)), .val (.int (1 : Int32))] [(.ref a2), (.double (FP.i2d p1)), (.int (1 : Int32))])) _
          refine XS.iloadN X0.here hx rfl (hb hby d2_27) rfl ?_
          exact k)
        obtain ⟨c125, Ar125, -, As125, An125, Ah125, -⟩ := id V2
        have hin125 : ¬ ((1 : Int32) < 0 ∨ c125.slots.size ≤ ((1 : Int32)).toNatClampNeg) := inb_of As125 ⟨by decide, by decide⟩
        have hat125 : c125.slots[((1 : Int32)).toNatClampNeg]? = some (.double (FP.i2d q1)) := Has.at Ah125 hin125 rfl
        have k126 : ∀ t, Steps p.tables e below (s₁.setTop (mkF m 30 #[.val (.ref a1), .val (.ref a2), .val (.int (1 : Int32)), .val (.int (1 : Int32))] [(.int (cmpValue (FP.dcmp (FP.i2d p1) (FP.i2d q1)) .g)), (.int (1 : Int32))])) t → Steps p.tables e below (s₁.setTop (entryFrame m #[(.ref a1), (.ref a2)] 4)) t := fun t k => k124 t (by
          show Steps p.tables e below (s₁.setTop (mkF m 28 #[.val (.ref a1), .val (.ref a2), .val (.int (1 : Int32)), .val (.int (1 : Int32))] [(.int (1 : Int32)), (.ref a2), (.double (FP.i2d p1)), (.int (1 : Int32))])) _
          refine X0.daload hx (j := (1 : Int32)) (v := (.double (FP.i2d q1))) (by rw [e0]; exact Ar125.1) (State.isArrayOf_alike hZ.alike Ar125.2.1) Ar125.2.2 hin125 hat125 (g := (mkF m 28 #[.val (.ref a1), .val (.ref a2), .val (.int (1 : Int32)), .val (.int (1 : Int32))] [(.int (1 : Int32)), (.ref a2), (.double (FP.i2d p1)), (.int (1 : Int32))])) rfl rfl (hb hby d2_28) _ ?_
          show Steps p.tables e below (s₁.setTop (mkF m 29 #[.val (.ref a1), .val (.ref a2), .val (.int (1 : Int32)), .val (.int (1 : Int32))] [(.double (FP.i2d q1)), (.double (FP.i2d p1)), (.int (1 : Int32))])) _
          refine XS.dcmpS X0.here hx rfl (hb hby d2_29) rfl rfl ?_
          exact k)
        by_cases d1 : p1 < q1
        · have k127 : ∀ t, Steps p.tables e below (s₁.setTop (mkF m 6 #[.val (.ref a1), .val (.ref a2), .val (.int (1 : Int32)), .val (.int (2 : Int32))] [(.ref a1), (.int (2 : Int32))])) t → Steps p.tables e below (s₁.setTop (entryFrame m #[(.ref a1), (.ref a2)] 4)) t := fun t k => k126 t (by
            show Steps p.tables e below (s₁.setTop (mkF m 30 #[.val (.ref a1), .val (.ref a2), .val (.int (1 : Int32)), .val (.int (1 : Int32))] [(.int (cmpValue (FP.dcmp (FP.i2d p1) (FP.i2d q1)) .g)), (.int (1 : Int32))])) _
            refine XS.ifNo X0.here hx rfl (hb hby d2_30) rfl ((if0 _ _).trans (tlt (own_lt.mpr d1)).2.1) ?_
            show Steps p.tables e below (s₁.setTop (mkF m 33 #[.val (.ref a1), .val (.ref a2), .val (.int (1 : Int32)), .val (.int (1 : Int32))] [(.int (1 : Int32))])) _
            refine XS.iconst X0.here hx rfl (hb hby d2_33) ?_
            show Steps p.tables e below (s₁.setTop (mkF m 34 #[.val (.ref a1), .val (.ref a2), .val (.int (1 : Int32)), .val (.int (1 : Int32))] [(.int (1 : Int32)), (.int (1 : Int32))])) _
            refine XS.goto X0.here hx rfl (pc0 := 34) (pc' := 38) rfl (hb hby d2_34) (by decide) (by decide) ?_
            show Steps p.tables e below (s₁.setTop (mkF m 38 #[.val (.ref a1), .val (.ref a2), .val (.int (1 : Int32)), .val (.int (1 : Int32))] [(.int (1 : Int32)), (.int (1 : Int32))])) _
            refine XS.ior X0.here hx rfl (hb hby d2_38) rfl ?_
            show Steps p.tables e below (s₁.setTop (mkF m 39 #[.val (.ref a1), .val (.ref a2), .val (.int (1 : Int32)), .val (.int (1 : Int32))] [(.int ((1 : Int32) ||| (1 : Int32)))])) _
            refine castTop (g' := (mkF m 39 #[.val (.ref a1), .val (.ref a2), .val (.int (1 : Int32)), .val (.int (1 : Int32))] [(.int (1 : Int32))])) (by rw [show ((1 : Int32) ||| (1 : Int32)) = (1 : Int32) by decide]) ?_
            show Steps p.tables e below (s₁.setTop (mkF m 39 #[.val (.ref a1), .val (.ref a2), .val (.int (1 : Int32)), .val (.int (1 : Int32))] [(.int (1 : Int32))])) _
            refine XS.istoreN X0.here hx rfl (hb hby d2_39) rfl (l' := #[.val (.ref a1), .val (.ref a2), .val (.int (1 : Int32)), .val (.int (1 : Int32))]) rfl ?_
            show Steps p.tables e below (s₁.setTop (mkF m 40 #[.val (.ref a1), .val (.ref a2), .val (.int (1 : Int32)), .val (.int (1 : Int32))] [])) _
            refine XS.iinc X0.here hx rfl (hb hby d2_40) rfl (l' := #[.val (.ref a1), .val (.ref a2), .val (.int (1 : Int32)), .val (.int (2 : Int32))]) rfl ?_
            show Steps p.tables e below (s₁.setTop (mkF m 43 #[.val (.ref a1), .val (.ref a2), .val (.int (1 : Int32)), .val (.int (2 : Int32))] [])) _
            refine XS.goto X0.here hx rfl (pc0 := 43) (pc' := 4) rfl (hb hby d2_43) (by decide) (by decide) ?_
            show Steps p.tables e below (s₁.setTop (mkF m 4 #[.val (.ref a1), .val (.ref a2), .val (.int (1 : Int32)), .val (.int (2 : Int32))] [])) _
            refine XS.iloadN X0.here hx rfl (hb hby d2_4) rfl ?_
            show Steps p.tables e below (s₁.setTop (mkF m 5 #[.val (.ref a1), .val (.ref a2), .val (.int (1 : Int32)), .val (.int (2 : Int32))] [(.int (2 : Int32))])) _
            refine XS.aloadN X0.here hx rfl (hb hby d2_5) rfl rfl ?_
            exact k)
          obtain ⟨c128, Ar128, -, As128, An128, -, -⟩ := id V1
          have k129 : ∀ t, Steps p.tables e below (s₁.setTop (mkF m 47 #[.val (.ref a1), .val (.ref a2), .val (.int (1 : Int32)), .val (.int (2 : Int32))] [(.int (1 : Int32))])) t → Steps p.tables e below (s₁.setTop (entryFrame m #[(.ref a1), (.ref a2)] 4)) t := fun t k => k127 t (by
            show Steps p.tables e below (s₁.setTop (mkF m 6 #[.val (.ref a1), .val (.ref a2), .val (.int (1 : Int32)), .val (.int (2 : Int32))] [(.ref a1), (.int (2 : Int32))])) _
            refine X0.arraylength hx (by rw [e0]; exact Ar128.1) (State.isArrayOf_alike hZ.alike Ar128.2.1) (g := (mkF m 6 #[.val (.ref a1), .val (.ref a2), .val (.int (1 : Int32)), .val (.int (2 : Int32))] [(.ref a1), (.int (2 : Int32))])) rfl rfl (hb hby d2_6) _ ?_
            rw [len_of As128 An128]
            show Steps p.tables e below (s₁.setTop (mkF m 7 #[.val (.ref a1), .val (.ref a2), .val (.int (1 : Int32)), .val (.int (2 : Int32))] [(.int (2 : Int32)), (.int (2 : Int32))])) _
            refine XS.icmpYes X0.here hx rfl (pc0 := 7) (pc' := 46) rfl (hb hby d2_7) rfl (flt (by decide)).2.1 (by decide) (by decide) ?_
            show Steps p.tables e below (s₁.setTop (mkF m 46 #[.val (.ref a1), .val (.ref a2), .val (.int (1 : Int32)), .val (.int (2 : Int32))] [])) _
            refine XS.iloadN X0.here hx rfl (hb hby d2_46) rfl ?_
            exact k)
          obtain ⟨fs, hr, hrun, hended, hW, hsame⟩ := X0.leave (v := some (.int (1 : Int32))) (fun h => by rw [Bd.returns] at h; cases h)
          refine ⟨_, _, k129 _ (retOut X0 hx (t := .boolean) Bd.returns rfl (Or.inl ⟨rfl, Or.inr (Or.inl rfl), _, rfl⟩) (hb hby d2_47) hr), hrun, hended, _, _, rfl, ?_, ⟨_, rfl⟩, hW, hsame.mono (by decide) (by decide)⟩
          show Q_dom2 Z a1 a2 k1 k2 p0 p1 q0 q1 h0 n0 _ s₁.heap _
          rw [e0]
          exact ⟨by simp [own_dom, c0, d0, c1, d1], N0, rfl⟩
        · have k130 : ∀ t, Steps p.tables e below (s₁.setTop (mkF m 6 #[.val (.ref a1), .val (.ref a2), .val (.int (1 : Int32)), .val (.int (2 : Int32))] [(.ref a1), (.int (2 : Int32))])) t → Steps p.tables e below (s₁.setTop (entryFrame m #[(.ref a1), (.ref a2)] 4)) t := fun t k => k126 t (by
            show Steps p.tables e below (s₁.setTop (mkF m 30 #[.val (.ref a1), .val (.ref a2), .val (.int (1 : Int32)), .val (.int (1 : Int32))] [(.int (cmpValue (FP.dcmp (FP.i2d p1) (FP.i2d q1)) .g)), (.int (1 : Int32))])) _
            refine XS.ifYes X0.here hx rfl (pc0 := 30) (pc' := 37) rfl (hb hby d2_30) rfl ((if0 _ _).trans (flt (fun h => d1 (own_lt.mp h))).2.1) (by decide) (by decide) ?_
            show Steps p.tables e below (s₁.setTop (mkF m 37 #[.val (.ref a1), .val (.ref a2), .val (.int (1 : Int32)), .val (.int (1 : Int32))] [(.int (1 : Int32))])) _
            refine XS.iconst X0.here hx rfl (hb hby d2_37) ?_
            show Steps p.tables e below (s₁.setTop (mkF m 38 #[.val (.ref a1), .val (.ref a2), .val (.int (1 : Int32)), .val (.int (1 : Int32))] [(.int (0 : Int32)), (.int (1 : Int32))])) _
            refine XS.ior X0.here hx rfl (hb hby d2_38) rfl ?_
            show Steps p.tables e below (s₁.setTop (mkF m 39 #[.val (.ref a1), .val (.ref a2), .val (.int (1 : Int32)), .val (.int (1 : Int32))] [(.int ((1 : Int32) ||| (0 : Int32)))])) _
            refine castTop (g' := (mkF m 39 #[.val (.ref a1), .val (.ref a2), .val (.int (1 : Int32)), .val (.int (1 : Int32))] [(.int (1 : Int32))])) (by rw [show ((1 : Int32) ||| (0 : Int32)) = (1 : Int32) by decide]) ?_
            show Steps p.tables e below (s₁.setTop (mkF m 39 #[.val (.ref a1), .val (.ref a2), .val (.int (1 : Int32)), .val (.int (1 : Int32))] [(.int (1 : Int32))])) _
            refine XS.istoreN X0.here hx rfl (hb hby d2_39) rfl (l' := #[.val (.ref a1), .val (.ref a2), .val (.int (1 : Int32)), .val (.int (1 : Int32))]) rfl ?_
            show Steps p.tables e below (s₁.setTop (mkF m 40 #[.val (.ref a1), .val (.ref a2), .val (.int (1 : Int32)), .val (.int (1 : Int32))] [])) _
            refine XS.iinc X0.here hx rfl (hb hby d2_40) rfl (l' := #[.val (.ref a1), .val (.ref a2), .val (.int (1 : Int32)), .val (.int (2 : Int32))]) rfl ?_
            show Steps p.tables e below (s₁.setTop (mkF m 43 #[.val (.ref a1), .val (.ref a2), .val (.int (1 : Int32)), .val (.int (2 : Int32))] [])) _
            refine XS.goto X0.here hx rfl (pc0 := 43) (pc' := 4) rfl (hb hby d2_43) (by decide) (by decide) ?_
            show Steps p.tables e below (s₁.setTop (mkF m 4 #[.val (.ref a1), .val (.ref a2), .val (.int (1 : Int32)), .val (.int (2 : Int32))] [])) _
            refine XS.iloadN X0.here hx rfl (hb hby d2_4) rfl ?_
            show Steps p.tables e below (s₁.setTop (mkF m 5 #[.val (.ref a1), .val (.ref a2), .val (.int (1 : Int32)), .val (.int (2 : Int32))] [(.int (2 : Int32))])) _
            refine XS.aloadN X0.here hx rfl (hb hby d2_5) rfl rfl ?_
            exact k)
          obtain ⟨c131, Ar131, -, As131, An131, -, -⟩ := id V1
          have k132 : ∀ t, Steps p.tables e below (s₁.setTop (mkF m 47 #[.val (.ref a1), .val (.ref a2), .val (.int (1 : Int32)), .val (.int (2 : Int32))] [(.int (1 : Int32))])) t → Steps p.tables e below (s₁.setTop (entryFrame m #[(.ref a1), (.ref a2)] 4)) t := fun t k => k130 t (by
            show Steps p.tables e below (s₁.setTop (mkF m 6 #[.val (.ref a1), .val (.ref a2), .val (.int (1 : Int32)), .val (.int (2 : Int32))] [(.ref a1), (.int (2 : Int32))])) _
            refine X0.arraylength hx (by rw [e0]; exact Ar131.1) (State.isArrayOf_alike hZ.alike Ar131.2.1) (g := (mkF m 6 #[.val (.ref a1), .val (.ref a2), .val (.int (1 : Int32)), .val (.int (2 : Int32))] [(.ref a1), (.int (2 : Int32))])) rfl rfl (hb hby d2_6) _ ?_
            rw [len_of As131 An131]
            show Steps p.tables e below (s₁.setTop (mkF m 7 #[.val (.ref a1), .val (.ref a2), .val (.int (1 : Int32)), .val (.int (2 : Int32))] [(.int (2 : Int32)), (.int (2 : Int32))])) _
            refine XS.icmpYes X0.here hx rfl (pc0 := 7) (pc' := 46) rfl (hb hby d2_7) rfl (flt (by decide)).2.1 (by decide) (by decide) ?_
            show Steps p.tables e below (s₁.setTop (mkF m 46 #[.val (.ref a1), .val (.ref a2), .val (.int (1 : Int32)), .val (.int (2 : Int32))] [])) _
            refine XS.iloadN X0.here hx rfl (hb hby d2_46) rfl ?_
            exact k)
          obtain ⟨fs, hr, hrun, hended, hW, hsame⟩ := X0.leave (v := some (.int (1 : Int32))) (fun h => by rw [Bd.returns] at h; cases h)
          refine ⟨_, _, k132 _ (retOut X0 hx (t := .boolean) Bd.returns rfl (Or.inl ⟨rfl, Or.inr (Or.inl rfl), _, rfl⟩) (hb hby d2_47) hr), hrun, hended, _, _, rfl, ?_, ⟨_, rfl⟩, hW, hsame.mono (by decide) (by decide)⟩
          show Q_dom2 Z a1 a2 k1 k2 p0 p1 q0 q1 h0 n0 _ s₁.heap _
          rw [e0]
          exact ⟨by simp [own_dom, c0, d0, c1, d1], N0, rfl⟩
    · have k133 : ∀ t, Steps p.tables e below (s₁.setTop (mkF m 6 #[.val (.ref a1), .val (.ref a2), .val (.int (0 : Int32)), .val (.int (1 : Int32))] [(.ref a1), (.int (1 : Int32))])) t → Steps p.tables e below (s₁.setTop (entryFrame m #[(.ref a1), (.ref a2)] 4)) t := fun t k => k113 t (by
        show Steps p.tables e below (s₁.setTop (mkF m 30 #[.val (.ref a1), .val (.ref a2), .val (.int (0 : Int32)), .val (.int (0 : Int32))] [(.int (cmpValue (FP.dcmp (FP.i2d p0) (FP.i2d q0)) .g)), (.int (0 : Int32))])) _
        refine XS.ifYes X0.here hx rfl (pc0 := 30) (pc' := 37) rfl (hb hby d2_30) rfl ((if0 _ _).trans (flt (fun h => d0 (own_lt.mp h))).2.1) (by decide) (by decide) ?_
        show Steps p.tables e below (s₁.setTop (mkF m 37 #[.val (.ref a1), .val (.ref a2), .val (.int (0 : Int32)), .val (.int (0 : Int32))] [(.int (0 : Int32))])) _
        refine XS.iconst X0.here hx rfl (hb hby d2_37) ?_
        show Steps p.tables e below (s₁.setTop (mkF m 38 #[.val (.ref a1), .val (.ref a2), .val (.int (0 : Int32)), .val (.int (0 : Int32))] [(.int (0 : Int32)), (.int (0 : Int32))])) _
        refine XS.ior X0.here hx rfl (hb hby d2_38) rfl ?_
        show Steps p.tables e below (s₁.setTop (mkF m 39 #[.val (.ref a1), .val (.ref a2), .val (.int (0 : Int32)), .val (.int (0 : Int32))] [(.int ((0 : Int32) ||| (0 : Int32)))])) _
        refine castTop (g' := (mkF m 39 #[.val (.ref a1), .val (.ref a2), .val (.int (0 : Int32)), .val (.int (0 : Int32))] [(.int (0 : Int32))])) (by rw [show ((0 : Int32) ||| (0 : Int32)) = (0 : Int32) by decide]) ?_
        show Steps p.tables e below (s₁.setTop (mkF m 39 #[.val (.ref a1), .val (.ref a2), .val (.int (0 : Int32)), .val (.int (0 : Int32))] [(.int (0 : Int32))])) _
        refine XS.istoreN X0.here hx rfl (hb hby d2_39) rfl (l' := #[.val (.ref a1), .val (.ref a2), .val (.int (0 : Int32)), .val (.int (0 : Int32))]) rfl ?_
        show Steps p.tables e below (s₁.setTop (mkF m 40 #[.val (.ref a1), .val (.ref a2), .val (.int (0 : Int32)), .val (.int (0 : Int32))] [])) _
        refine XS.iinc X0.here hx rfl (hb hby d2_40) rfl (l' := #[.val (.ref a1), .val (.ref a2), .val (.int (0 : Int32)), .val (.int (1 : Int32))]) rfl ?_
        show Steps p.tables e below (s₁.setTop (mkF m 43 #[.val (.ref a1), .val (.ref a2), .val (.int (0 : Int32)), .val (.int (1 : Int32))] [])) _
        refine XS.goto X0.here hx rfl (pc0 := 43) (pc' := 4) rfl (hb hby d2_43) (by decide) (by decide) ?_
        show Steps p.tables e below (s₁.setTop (mkF m 4 #[.val (.ref a1), .val (.ref a2), .val (.int (0 : Int32)), .val (.int (1 : Int32))] [])) _
        refine XS.iloadN X0.here hx rfl (hb hby d2_4) rfl ?_
        show Steps p.tables e below (s₁.setTop (mkF m 5 #[.val (.ref a1), .val (.ref a2), .val (.int (0 : Int32)), .val (.int (1 : Int32))] [(.int (1 : Int32))])) _
        refine XS.aloadN X0.here hx rfl (hb hby d2_5) rfl rfl ?_
        exact k)
      obtain ⟨c134, Ar134, -, As134, An134, -, -⟩ := id V1
      have k135 : ∀ t, Steps p.tables e below (s₁.setTop (mkF m 12 #[.val (.ref a1), .val (.ref a2), .val (.int (0 : Int32)), .val (.int (1 : Int32))] [(.int (1 : Int32)), (.ref a1)])) t → Steps p.tables e below (s₁.setTop (entryFrame m #[(.ref a1), (.ref a2)] 4)) t := fun t k => k133 t (by
        show Steps p.tables e below (s₁.setTop (mkF m 6 #[.val (.ref a1), .val (.ref a2), .val (.int (0 : Int32)), .val (.int (1 : Int32))] [(.ref a1), (.int (1 : Int32))])) _
        refine X0.arraylength hx (by rw [e0]; exact Ar134.1) (State.isArrayOf_alike hZ.alike Ar134.2.1) (g := (mkF m 6 #[.val (.ref a1), .val (.ref a2), .val (.int (0 : Int32)), .val (.int (1 : Int32))] [(.ref a1), (.int (1 : Int32))])) rfl rfl (hb hby d2_6) _ ?_
        rw [len_of As134 An134]
        show Steps p.tables e below (s₁.setTop (mkF m 7 #[.val (.ref a1), .val (.ref a2), .val (.int (0 : Int32)), .val (.int (1 : Int32))] [(.int (2 : Int32)), (.int (1 : Int32))])) _
        refine XS.icmpNo X0.here hx rfl (hb hby d2_7) rfl (tlt (by decide)).2.1 ?_
        show Steps p.tables e below (s₁.setTop (mkF m 10 #[.val (.ref a1), .val (.ref a2), .val (.int (0 : Int32)), .val (.int (1 : Int32))] [])) _
        refine XS.aloadN X0.here hx rfl (hb hby d2_10) rfl rfl ?_
        show Steps p.tables e below (s₁.setTop (mkF m 11 #[.val (.ref a1), .val (.ref a2), .val (.int (0 : Int32)), .val (.int (1 : Int32))] [(.ref a1)])) _
        refine XS.iloadN X0.here hx rfl (hb hby d2_11) rfl ?_
        exact k)
      obtain ⟨c136, Ar136, -, As136, An136, Ah136, -⟩ := id V1
      have hin136 : ¬ ((1 : Int32) < 0 ∨ c136.slots.size ≤ ((1 : Int32)).toNatClampNeg) := inb_of As136 ⟨by decide, by decide⟩
      have hat136 : c136.slots[((1 : Int32)).toNatClampNeg]? = some (.double (FP.i2d p1)) := Has.at Ah136 hin136 rfl
      have k137 : ∀ t, Steps p.tables e below (s₁.setTop (mkF m 15 #[.val (.ref a1), .val (.ref a2), .val (.int (0 : Int32)), .val (.int (1 : Int32))] [(.int (1 : Int32)), (.ref a2), (.double (FP.i2d p1))])) t → Steps p.tables e below (s₁.setTop (entryFrame m #[(.ref a1), (.ref a2)] 4)) t := fun t k => k135 t (by
        show Steps p.tables e below (s₁.setTop (mkF m 12 #[.val (.ref a1), .val (.ref a2), .val (.int (0 : Int32)), .val (.int (1 : Int32))] [(.int (1 : Int32)), (.ref a1)])) _
        refine X0.daload hx (j := (1 : Int32)) (v := (.double (FP.i2d p1))) (by rw [e0]; exact Ar136.1) (State.isArrayOf_alike hZ.alike Ar136.2.1) Ar136.2.2 hin136 hat136 (g := (mkF m 12 #[.val (.ref a1), .val (.ref a2), .val (.int (0 : Int32)), .val (.int (1 : Int32))] [(.int (1 : Int32)), (.ref a1)])) rfl rfl (hb hby d2_12) _ ?_
        show Steps p.tables e below (s₁.setTop (mkF m 13 #[.val (.ref a1), .val (.ref a2), .val (.int (0 : Int32)), .val (.int (1 : Int32))] [(.double (FP.i2d p1))])) _
        refine XS.aloadN X0.here hx rfl (hb hby d2_13) rfl rfl ?_
        show Steps p.tables e below (s₁.setTop (mkF m 14 #[.val (.ref a1), .val (.ref a2), .val (.int (0 : Int32)), .val (.int (1 : Int32))] [(.ref a2), (.double (FP.i2d p1))])) _
        refine XS.iloadN X0.here hx rfl (hb hby d2_14) rfl ?_
        exact k)
      obtain ⟨c138, Ar138, -, As138, An138, Ah138, -⟩ := id V2
      have hin138 : ¬ ((1 : Int32) < 0 ∨ c138.slots.size ≤ ((1 : Int32)).toNatClampNeg) := inb_of As138 ⟨by decide, by decide⟩
      have hat138 : c138.slots[((1 : Int32)).toNatClampNeg]? = some (.double (FP.i2d q1)) := Has.at Ah138 hin138 rfl
      have k139 : ∀ t, Steps p.tables e below (s₁.setTop (mkF m 17 #[.val (.ref a1), .val (.ref a2), .val (.int (0 : Int32)), .val (.int (1 : Int32))] [(.int (cmpValue (FP.dcmp (FP.i2d p1) (FP.i2d q1)) .l))])) t → Steps p.tables e below (s₁.setTop (entryFrame m #[(.ref a1), (.ref a2)] 4)) t := fun t k => k137 t (by
        show Steps p.tables e below (s₁.setTop (mkF m 15 #[.val (.ref a1), .val (.ref a2), .val (.int (0 : Int32)), .val (.int (1 : Int32))] [(.int (1 : Int32)), (.ref a2), (.double (FP.i2d p1))])) _
        refine X0.daload hx (j := (1 : Int32)) (v := (.double (FP.i2d q1))) (by rw [e0]; exact Ar138.1) (State.isArrayOf_alike hZ.alike Ar138.2.1) Ar138.2.2 hin138 hat138 (g := (mkF m 15 #[.val (.ref a1), .val (.ref a2), .val (.int (0 : Int32)), .val (.int (1 : Int32))] [(.int (1 : Int32)), (.ref a2), (.double (FP.i2d p1))])) rfl rfl (hb hby d2_15) _ ?_
        show Steps p.tables e below (s₁.setTop (mkF m 16 #[.val (.ref a1), .val (.ref a2), .val (.int (0 : Int32)), .val (.int (1 : Int32))] [(.double (FP.i2d q1)), (.double (FP.i2d p1))])) _
        refine XS.dcmpS X0.here hx rfl (hb hby d2_16) rfl rfl ?_
        exact k)
      by_cases c1 : q1 < p1
      · have k140 : ∀ t, Steps p.tables e below (s₁.setTop (mkF m 21 #[.val (.ref a1), .val (.ref a2), .val (.int (0 : Int32)), .val (.int (1 : Int32))] [(.int (0 : Int32))])) t → Steps p.tables e below (s₁.setTop (entryFrame m #[(.ref a1), (.ref a2)] 4)) t := fun t k => k139 t (by
          show Steps p.tables e below (s₁.setTop (mkF m 17 #[.val (.ref a1), .val (.ref a2), .val (.int (0 : Int32)), .val (.int (1 : Int32))] [(.int (cmpValue (FP.dcmp (FP.i2d p1) (FP.i2d q1)) .l))])) _
          refine XS.ifNo X0.here hx rfl (hb hby d2_17) rfl ((if0 _ _).trans (tlt (own_gt.mpr c1)).2.2.2) ?_
          show Steps p.tables e below (s₁.setTop (mkF m 20 #[.val (.ref a1), .val (.ref a2), .val (.int (0 : Int32)), .val (.int (1 : Int32))] [])) _
          refine XS.iconst X0.here hx rfl (hb hby d2_20) ?_
          exact k)
        obtain ⟨fs, hr, hrun, hended, hW, hsame⟩ := X0.leave (v := some (.int (0 : Int32))) (fun h => by rw [Bd.returns] at h; cases h)
        refine ⟨_, _, k140 _ (retOut X0 hx (t := .boolean) Bd.returns rfl (Or.inl ⟨rfl, Or.inr (Or.inl rfl), _, rfl⟩) (hb hby d2_21) hr), hrun, hended, _, _, rfl, ?_, ⟨_, rfl⟩, hW, hsame.mono (by decide) (by decide)⟩
        show Q_dom2 Z a1 a2 k1 k2 p0 p1 q0 q1 h0 n0 _ s₁.heap _
        rw [e0]
        exact ⟨by simp [own_dom, c0, d0, c1], N0, rfl⟩
      · have k141 : ∀ t, Steps p.tables e below (s₁.setTop (mkF m 25 #[.val (.ref a1), .val (.ref a2), .val (.int (0 : Int32)), .val (.int (1 : Int32))] [(.int (1 : Int32)), (.ref a1), (.int (0 : Int32))])) t → Steps p.tables e below (s₁.setTop (entryFrame m #[(.ref a1), (.ref a2)] 4)) t := fun t k => k139 t (by
          show Steps p.tables e below (s₁.setTop (mkF m 17 #[.val (.ref a1), .val (.ref a2), .val (.int (0 : Int32)), .val (.int (1 : Int32))] [(.int (cmpValue (FP.dcmp (FP.i2d p1) (FP.i2d q1)) .l))])) _
          refine XS.ifYes X0.here hx rfl (pc0 := 17) (pc' := 22) rfl (hb hby d2_17) rfl ((if0 _ _).trans (flt (fun h => c1 (own_gt.mp h))).2.2.2) (by decide) (by decide) ?_
          show Steps p.tables e below (s₁.setTop (mkF m 22 #[.val (.ref a1), .val (.ref a2), .val (.int (0 : Int32)), .val (.int (1 : Int32))] [])) _
          refine XS.iloadN X0.here hx rfl (hb hby d2_22) rfl ?_
          show Steps p.tables e below (s₁.setTop (mkF m 23 #[.val (.ref a1), .val (.ref a2), .val (.int (0 : Int32)), .val (.int (1 : Int32))] [(.int (0 : Int32))])) _
          refine XS.aloadN X0.here hx rfl (hb hby d2_23) rfl rfl ?_
          show Steps p.tables e below (s₁.setTop (mkF m 24 #[.val (.ref a1), .val (.ref a2), .val (.int (0 : Int32)), .val (.int (1 : Int32))] [(.ref a1), (.int (0 : Int32))])) _
          refine XS.iloadN X0.here hx rfl (hb hby d2_24) rfl ?_
          exact k)
        obtain ⟨c142, Ar142, -, As142, An142, Ah142, -⟩ := id V1
        have hin142 : ¬ ((1 : Int32) < 0 ∨ c142.slots.size ≤ ((1 : Int32)).toNatClampNeg) := inb_of As142 ⟨by decide, by decide⟩
        have hat142 : c142.slots[((1 : Int32)).toNatClampNeg]? = some (.double (FP.i2d p1)) := Has.at Ah142 hin142 rfl
        have k143 : ∀ t, Steps p.tables e below (s₁.setTop (mkF m 28 #[.val (.ref a1), .val (.ref a2), .val (.int (0 : Int32)), .val (.int (1 : Int32))] [(.int (1 : Int32)), (.ref a2), (.double (FP.i2d p1)), (.int (0 : Int32))])) t → Steps p.tables e below (s₁.setTop (entryFrame m #[(.ref a1), (.ref a2)] 4)) t := fun t k => k141 t (by
          show Steps p.tables e below (s₁.setTop (mkF m 25 #[.val (.ref a1), .val (.ref a2), .val (.int (0 : Int32)), .val (.int (1 : Int32))] [(.int (1 : Int32)), (.ref a1), (.int (0 : Int32))])) _
          refine X0.daload hx (j := (1 : Int32)) (v := (.double (FP.i2d p1))) (by rw [e0]; exact Ar142.1) (State.isArrayOf_alike hZ.alike Ar142.2.1) Ar142.2.2 hin142 hat142 (g := (mkF m 25 #[.val (.ref a1), .val (.ref a2), .val (.int (0 : Int32)), .val (.int (1 : Int32))] [(.int (1 : Int32)), (.ref a1), (.int (0 : Int32))])) rfl rfl (hb hby d2_25) _ ?_
          show Steps p.tables e below (s₁.setTop (mkF m 26 #[.val (.ref a1), .val (.ref a2), .val (.int (0 : Int32)), .val (.int (1 : Int32))] [(.double (FP.i2d p1)), (.int (0 : Int32))])) _
          refine XS.aloadN X0.here hx rfl (hb hby d2_26) rfl rfl ?_
          show Steps p.tables e below (s₁.setTop (mkF m 27 #[.val (.ref a1), .val (.ref a2), .val (.int (0 : Int32)), .val (.int (1 : Int32))] [(.ref a2), (.double (FP.i2d p1)), (.int (0 : Int32))])) _
          refine XS.iloadN X0.here hx rfl (hb hby d2_27) rfl ?_
          exact k)
        obtain ⟨c144, Ar144, -, As144, An144, Ah144, -⟩ := id V2
        have hin144 : ¬ ((1 : Int32) < 0 ∨ c144.slots.size ≤ ((1 : Int32)).toNatClampNeg) := inb_of As144 ⟨by decide, by decide⟩
        have hat144 : c144.slots[((1 : Int32)).toNatClampNeg]? = some (.double (FP.i2d q1)) := Has.at Ah144 hin144 rfl
        have k145 : ∀ t, Steps p.tables e below (s₁.setTop (mkF m 30 #[.val (.ref a1), .val (.ref a2), .val (.int (0 : Int32)), .val (.int (1 : Int32))] [(.int (cmpValue (FP.dcmp (FP.i2d p1) (FP.i2d q1)) .g)), (.int (0 : Int32))])) t → Steps p.tables e below (s₁.setTop (entryFrame m #[(.ref a1), (.ref a2)] 4)) t := fun t k => k143 t (by
          show Steps p.tables e below (s₁.setTop (mkF m 28 #[.val (.ref a1), .val (.ref a2), .val (.int (0 : Int32)), .val (.int (1 : Int32))] [(.int (1 : Int32)), (.ref a2), (.double (FP.i2d p1)), (.int (0 : Int32))])) _
          refine X0.daload hx (j := (1 : Int32)) (v := (.double (FP.i2d q1))) (by rw [e0]; exact Ar144.1) (State.isArrayOf_alike hZ.alike Ar144.2.1) Ar144.2.2 hin144 hat144 (g := (mkF m 28 #[.val (.ref a1), .val (.ref a2), .val (.int (0 : Int32)), .val (.int (1 : Int32))] [(.int (1 : Int32)), (.ref a2), (.double (FP.i2d p1)), (.int (0 : Int32))])) rfl rfl (hb hby d2_28) _ ?_
          show Steps p.tables e below (s₁.setTop (mkF m 29 #[.val (.ref a1), .val (.ref a2), .val (.int (0 : Int32)), .val (.int (1 : Int32))] [(.double (FP.i2d q1)), (.double (FP.i2d p1)), (.int (0 : Int32))])) _
          refine XS.dcmpS X0.here hx rfl (hb hby d2_29) rfl rfl ?_
          exact k)
        by_cases d1 : p1 < q1
        · have k146 : ∀ t, Steps p.tables e below (s₁.setTop (mkF m 6 #[.val (.ref a1), .val (.ref a2), .val (.int (1 : Int32)), .val (.int (2 : Int32))] [(.ref a1), (.int (2 : Int32))])) t → Steps p.tables e below (s₁.setTop (entryFrame m #[(.ref a1), (.ref a2)] 4)) t := fun t k => k145 t (by
            show Steps p.tables e below (s₁.setTop (mkF m 30 #[.val (.ref a1), .val (.ref a2), .val (.int (0 : Int32)), .val (.int (1 : Int32))] [(.int (cmpValue (FP.dcmp (FP.i2d p1) (FP.i2d q1)) .g)), (.int (0 : Int32))])) _
            refine XS.ifNo X0.here hx rfl (hb hby d2_30) rfl ((if0 _ _).trans (tlt (own_lt.mpr d1)).2.1) ?_
            show Steps p.tables e below (s₁.setTop (mkF m 33 #[.val (.ref a1), .val (.ref a2), .val (.int (0 : Int32)), .val (.int (1 : Int32))] [(.int (0 : Int32))])) _
            refine XS.iconst X0.here hx rfl (hb hby d2_33) ?_
            show Steps p.tables e below (s₁.setTop (mkF m 34 #[.val (.ref a1), .val (.ref a2), .val (.int (0 : Int32)), .val (.int (1 : Int32))] [(.int (1 : Int32)), (.int (0 : Int32))])) _
            refine XS.goto X0.here hx rfl (pc0 := 34) (pc' := 38) rfl (hb hby d2_34) (by decide) (by decide) ?_
            show Steps p.tables e below (s₁.setTop (mkF m 38 #[.val (.ref a1), .val (.ref a2), .val (.int (0 : Int32)), .val (.int (1 : Int32))] [(.int (1 : Int32)), (.int (0 : Int32))])) _
            refine XS.ior X0.here hx rfl (hb hby d2_38) rfl ?_
            show Steps p.tables e below (s₁.setTop (mkF m 39 #[.val (.ref a1), .val (.ref a2), .val (.int (0 : Int32)), .val (.int (1 : Int32))] [(.int ((0 : Int32) ||| (1 : Int32)))])) _
            refine castTop (g' := (mkF m 39 #[.val (.ref a1), .val (.ref a2), .val (.int (0 : Int32)), .val (.int (1 : Int32))] [(.int (1 : Int32))])) (by rw [show ((0 : Int32) ||| (1 : Int32)) = (1 : Int32) by decide]) ?_
            show Steps p.tables e below (s₁.setTop (mkF m 39 #[.val (.ref a1), .val (.ref a2), .val (.int (0 : Int32)), .val (.int (1 : Int32))] [(.int (1 : Int32))])) _
            refine XS.istoreN X0.here hx rfl (hb hby d2_39) rfl (l' := #[.val (.ref a1), .val (.ref a2), .val (.int (1 : Int32)), .val (.int (1 : Int32))]) rfl ?_
            show Steps p.tables e below (s₁.setTop (mkF m 40 #[.val (.ref a1), .val (.ref a2), .val (.int (1 : Int32)), .val (.int (1 : Int32))] [])) _
            refine XS.iinc X0.here hx rfl (hb hby d2_40) rfl (l' := #[.val (.ref a1), .val (.ref a2), .val (.int (1 : Int32)), .val (.int (2 : Int32))]) rfl ?_
            show Steps p.tables e below (s₁.setTop (mkF m 43 #[.val (.ref a1), .val (.ref a2), .val (.int (1 : Int32)), .val (.int (2 : Int32))] [])) _
            refine XS.goto X0.here hx rfl (pc0 := 43) (pc' := 4) rfl (hb hby d2_43) (by decide) (by decide) ?_
            show Steps p.tables e below (s₁.setTop (mkF m 4 #[.val (.ref a1), .val (.ref a2), .val (.int (1 : Int32)), .val (.int (2 : Int32))] [])) _
            refine XS.iloadN X0.here hx rfl (hb hby d2_4) rfl ?_
            show Steps p.tables e below (s₁.setTop (mkF m 5 #[.val (.ref a1), .val (.ref a2), .val (.int (1 : Int32)), .val (.int (2 : Int32))] [(.int (2 : Int32))])) _
            refine XS.aloadN X0.here hx rfl (hb hby d2_5) rfl rfl ?_
            exact k)
          obtain ⟨c147, Ar147, -, As147, An147, -, -⟩ := id V1
          have k148 : ∀ t, Steps p.tables e below (s₁.setTop (mkF m 47 #[.val (.ref a1), .val (.ref a2), .val (.int (1 : Int32)), .val (.int (2 : Int32))] [(.int (1 : Int32))])) t → Steps p.tables e below (s₁.setTop (entryFrame m #[(.ref a1), (.ref a2)] 4)) t := fun t k => k146 t (by
            show Steps p.tables e below (s₁.setTop (mkF m 6 #[.val (.ref a1), .val (.ref a2), .val (.int (1 : Int32)), .val (.int (2 : Int32))] [(.ref a1), (.int (2 : Int32))])) _
            refine X0.arraylength hx (by rw [e0]; exact Ar147.1) (State.isArrayOf_alike hZ.alike Ar147.2.1) (g := (mkF m 6 #[.val (.ref a1), .val (.ref a2), .val (.int (1 : Int32)), .val (.int (2 : Int32))] [(.ref a1), (.int (2 : Int32))])) rfl rfl (hb hby d2_6) _ ?_
            rw [len_of As147 An147]
            show Steps p.tables e below (s₁.setTop (mkF m 7 #[.val (.ref a1), .val (.ref a2), .val (.int (1 : Int32)), .val (.int (2 : Int32))] [(.int (2 : Int32)), (.int (2 : Int32))])) _
            refine XS.icmpYes X0.here hx rfl (pc0 := 7) (pc' := 46) rfl (hb hby d2_7) rfl (flt (by decide)).2.1 (by decide) (by decide) ?_
            show Steps p.tables e below (s₁.setTop (mkF m 46 #[.val (.ref a1), .val (.ref a2), .val (.int (1 : Int32)), .val (.int (2 : Int32))] [])) _
            refine XS.iloadN X0.here hx rfl (hb hby d2_46) rfl ?_
            exact k)
          obtain ⟨fs, hr, hrun, hended, hW, hsame⟩ := X0.leave (v := some (.int (1 : Int32))) (fun h => by rw [Bd.returns] at h; cases h)
          refine ⟨_, _, k148 _ (retOut X0 hx (t := .boolean) Bd.returns rfl (Or.inl ⟨rfl, Or.inr (Or.inl rfl), _, rfl⟩) (hb hby d2_47) hr), hrun, hended, _, _, rfl, ?_, ⟨_, rfl⟩, hW, hsame.mono (by decide) (by decide)⟩
          show Q_dom2 Z a1 a2 k1 k2 p0 p1 q0 q1 h0 n0 _ s₁.heap _
          rw [e0]
          exact ⟨by simp [own_dom, c0, d0, c1, d1], N0, rfl⟩
        · have k149 : ∀ t, Steps p.tables e below (s₁.setTop (mkF m 6 #[.val (.ref a1), .val (.ref a2), .val (.int (0 : Int32)), .val (.int (2 : Int32))] [(.ref a1), (.int (2 : Int32))])) t → Steps p.tables e below (s₁.setTop (entryFrame m #[(.ref a1), (.ref a2)] 4)) t := fun t k => k145 t (by
            show Steps p.tables e below (s₁.setTop (mkF m 30 #[.val (.ref a1), .val (.ref a2), .val (.int (0 : Int32)), .val (.int (1 : Int32))] [(.int (cmpValue (FP.dcmp (FP.i2d p1) (FP.i2d q1)) .g)), (.int (0 : Int32))])) _
            refine XS.ifYes X0.here hx rfl (pc0 := 30) (pc' := 37) rfl (hb hby d2_30) rfl ((if0 _ _).trans (flt (fun h => d1 (own_lt.mp h))).2.1) (by decide) (by decide) ?_
            show Steps p.tables e below (s₁.setTop (mkF m 37 #[.val (.ref a1), .val (.ref a2), .val (.int (0 : Int32)), .val (.int (1 : Int32))] [(.int (0 : Int32))])) _
            refine XS.iconst X0.here hx rfl (hb hby d2_37) ?_
            show Steps p.tables e below (s₁.setTop (mkF m 38 #[.val (.ref a1), .val (.ref a2), .val (.int (0 : Int32)), .val (.int (1 : Int32))] [(.int (0 : Int32)), (.int (0 : Int32))])) _
            refine XS.ior X0.here hx rfl (hb hby d2_38) rfl ?_
            show Steps p.tables e below (s₁.setTop (mkF m 39 #[.val (.ref a1), .val (.ref a2), .val (.int (0 : Int32)), .val (.int (1 : Int32))] [(.int ((0 : Int32) ||| (0 : Int32)))])) _
            refine castTop (g' := (mkF m 39 #[.val (.ref a1), .val (.ref a2), .val (.int (0 : Int32)), .val (.int (1 : Int32))] [(.int (0 : Int32))])) (by rw [show ((0 : Int32) ||| (0 : Int32)) = (0 : Int32) by decide]) ?_
            show Steps p.tables e below (s₁.setTop (mkF m 39 #[.val (.ref a1), .val (.ref a2), .val (.int (0 : Int32)), .val (.int (1 : Int32))] [(.int (0 : Int32))])) _
            refine XS.istoreN X0.here hx rfl (hb hby d2_39) rfl (l' := #[.val (.ref a1), .val (.ref a2), .val (.int (0 : Int32)), .val (.int (1 : Int32))]) rfl ?_
            show Steps p.tables e below (s₁.setTop (mkF m 40 #[.val (.ref a1), .val (.ref a2), .val (.int (0 : Int32)), .val (.int (1 : Int32))] [])) _
            refine XS.iinc X0.here hx rfl (hb hby d2_40) rfl (l' := #[.val (.ref a1), .val (.ref a2), .val (.int (0 : Int32)), .val (.int (2 : Int32))]) rfl ?_
            show Steps p.tables e below (s₁.setTop (mkF m 43 #[.val (.ref a1), .val (.ref a2), .val (.int (0 : Int32)), .val (.int (2 : Int32))] [])) _
            refine XS.goto X0.here hx rfl (pc0 := 43) (pc' := 4) rfl (hb hby d2_43) (by decide) (by decide) ?_
            show Steps p.tables e below (s₁.setTop (mkF m 4 #[.val (.ref a1), .val (.ref a2), .val (.int (0 : Int32)), .val (.int (2 : Int32))] [])) _
            refine XS.iloadN X0.here hx rfl (hb hby d2_4) rfl ?_
            show Steps p.tables e below (s₁.setTop (mkF m 5 #[.val (.ref a1), .val (.ref a2), .val (.int (0 : Int32)), .val (.int (2 : Int32))] [(.int (2 : Int32))])) _
            refine XS.aloadN X0.here hx rfl (hb hby d2_5) rfl rfl ?_
            exact k)
          obtain ⟨c150, Ar150, -, As150, An150, -, -⟩ := id V1
          have k151 : ∀ t, Steps p.tables e below (s₁.setTop (mkF m 47 #[.val (.ref a1), .val (.ref a2), .val (.int (0 : Int32)), .val (.int (2 : Int32))] [(.int (0 : Int32))])) t → Steps p.tables e below (s₁.setTop (entryFrame m #[(.ref a1), (.ref a2)] 4)) t := fun t k => k149 t (by
            show Steps p.tables e below (s₁.setTop (mkF m 6 #[.val (.ref a1), .val (.ref a2), .val (.int (0 : Int32)), .val (.int (2 : Int32))] [(.ref a1), (.int (2 : Int32))])) _
            refine X0.arraylength hx (by rw [e0]; exact Ar150.1) (State.isArrayOf_alike hZ.alike Ar150.2.1) (g := (mkF m 6 #[.val (.ref a1), .val (.ref a2), .val (.int (0 : Int32)), .val (.int (2 : Int32))] [(.ref a1), (.int (2 : Int32))])) rfl rfl (hb hby d2_6) _ ?_
            rw [len_of As150 An150]
            show Steps p.tables e below (s₁.setTop (mkF m 7 #[.val (.ref a1), .val (.ref a2), .val (.int (0 : Int32)), .val (.int (2 : Int32))] [(.int (2 : Int32)), (.int (2 : Int32))])) _
            refine XS.icmpYes X0.here hx rfl (pc0 := 7) (pc' := 46) rfl (hb hby d2_7) rfl (flt (by decide)).2.1 (by decide) (by decide) ?_
            show Steps p.tables e below (s₁.setTop (mkF m 46 #[.val (.ref a1), .val (.ref a2), .val (.int (0 : Int32)), .val (.int (2 : Int32))] [])) _
            refine XS.iloadN X0.here hx rfl (hb hby d2_46) rfl ?_
            exact k)
          obtain ⟨fs, hr, hrun, hended, hW, hsame⟩ := X0.leave (v := some (.int (0 : Int32))) (fun h => by rw [Bd.returns] at h; cases h)
          refine ⟨_, _, k151 _ (retOut X0 hx (t := .boolean) Bd.returns rfl (Or.inl ⟨rfl, Or.inr (Or.inl rfl), _, rfl⟩) (hb hby d2_47) hr), hrun, hended, _, _, rfl, ?_, ⟨_, rfl⟩, hW, hsame.mono (by decide) (by decide)⟩
          show Q_dom2 Z a1 a2 k1 k2 p0 p1 q0 q1 h0 n0 _ s₁.heap _
          rw [e0]
          exact ⟨by simp [own_dom, c0, d0, c1, d1], N0, rfl⟩
def Q_dom3 (Z : State) (a1 : Addr) (a2 : Addr) (k1 : ClassId) (k2 : ClassId) (p0 : Int32) (p1 : Int32) (p2 : Int32) (q0 : Int32) (q1 : Int32) (q2 : Int32) (h0 : Heap) (n0 : Nat) (v : Option Value) (h : Heap) (L : List Loc) : Prop := v = some (.int (own_dom [(p0, q0), (p1, q1), (p2, q2)] 0)) ∧ Fr n0 L ∧ h = h0
set_option maxRecDepth 65536 in
set_option maxHeartbeats 40000000 in
theorem dom3 (l : Launch) (Z : State) (a0 : Array Value) (hw : ∀ d ∈ tables_1, d.before a0 Z = true) (ws : List Jvm.Cond) (a1 : Addr) (a2 : Addr) (k1 : ClassId) (k2 : ClassId) (p0 : Int32) (p1 : Int32) (p2 : Int32) (q0 : Int32) (q1 : Int32) (q2 : Int32) (h0 : Heap) (n0 : Nat) (Z0 : n0 ≤ h0.size) (V1 : Arv Z h0 a1 k1 .double (3 : Int32) [(.double (FP.i2d p0)), (.double (FP.i2d p1)), (.double (FP.i2d p2))] (.double (0 : UInt64))) (V2 : Arv Z h0 a2 k2 .double (3 : Int32) [(.double (FP.i2d q0)), (.double (FP.i2d q1)), (.double (FP.i2d q2))] (.double (0 : UInt64))) :
    MetFree l (⟨"com/example/frontweave/frontweave/selection/Fronts", "dominates", "([D[D)Z"⟩ : MethodName) (head1 (Jvm.Cond.code (⟨"com/example/frontweave/frontweave/selection/Fronts", "dominates", "([D[D)Z"⟩ : MethodName) prog_59_method_2_code 4 (some .boolean) :: ws) ({ frames := 0, cells := 0, slots := 0, locals := 0 } : Room)) (fun a U => a = #[(.ref a1), (.ref a2)] ∧ Z.Warmed39 U.vm ∧ U.heap = h0) (fun _ _ _ _ _ => True) (fun _ U o U' => ∃ v L, o = .returned v ∧ Q_dom3 Z a1 a2 k1 k2 p0 p1 p2 q0 q1 q2 h0 n0 v U'.heap L ∧ FrameEnd U o U' L ({ frames := 0, cells := 0, slots := 0, locals := 0 } : Room).cells ({ frames := 0, cells := 0, slots := 0, locals := 0 } : Room).slots) := by
  refine MetFree.of_bodySF (plainFor_of_name pn_com_2fexample_2ffrontweave_2ffrontweave_2fselection_2fFronts) hisR ?_
  intro p e s m args below meth c s₁ Bd hml0 hP hK
  obtain ⟨rfl, hZ, hh⟩ := hP
  have hx := Bd.exec
  have hby := Bd.bytes
  have hml : c.maxLocals = 4 := hml0
  have hown : s.vm.findClass "com/example/frontweave/frontweave/selection/Fronts" = some m.cls := findClass_of_methodNamed Bd.named
  have hnm := (name_of_methodNamed Bd.named Bd.method).1
  have X0 : Stand p l e ({ frames := 0, cells := 0, slots := 0, locals := 0 } : Room) s m #[(.ref a1), (.ref a2)] below meth c s₁ [] 0 0 := Stand.of_body Bd
  have e0 : s₁.heap = h0 := by rw [← hh, Bd.state]; rfl
  have N0 := Fr.nil n0
  have k0 : ∀ t, Steps p.tables e below (s₁.setTop (mkF m 0 #[.val (.ref a1), .val (.ref a2), .unset, .unset] [])) t → Steps p.tables e below (s₁.setTop (entryFrame m #[(.ref a1), (.ref a2)] 4)) t := fun t k => castTop (ef_2_RR m a1 a2) k
  have k101 : ∀ t, Steps p.tables e below (s₁.setTop (mkF m 6 #[.val (.ref a1), .val (.ref a2), .val (.int (0 : Int32)), .val (.int (0 : Int32))] [(.ref a1), (.int (0 : Int32))])) t → Steps p.tables e below (s₁.setTop (entryFrame m #[(.ref a1), (.ref a2)] 4)) t := fun t k => k0 t (by
    show Steps p.tables e below (s₁.setTop (mkF m 0 #[.val (.ref a1), .val (.ref a2), .unset, .unset] [])) _
    refine XS.iconst X0.here hx rfl (hb hby d2_0) ?_
    show Steps p.tables e below (s₁.setTop (mkF m 1 #[.val (.ref a1), .val (.ref a2), .unset, .unset] [(.int (0 : Int32))])) _
    refine XS.istoreN X0.here hx rfl (hb hby d2_1) rfl (l' := #[.val (.ref a1), .val (.ref a2), .val (.int (0 : Int32)), .unset]) rfl ?_
    show Steps p.tables e below (s₁.setTop (mkF m 2 #[.val (.ref a1), .val (.ref a2), .val (.int (0 : Int32)), .unset] [])) _
    refine XS.iconst X0.here hx rfl (hb hby d2_2) ?_
    show Steps p.tables e below (s₁.setTop (mkF m 3 #[.val (.ref a1), .val (.ref a2), .val (.int (0 : Int32)), .unset] [(.int (0 : Int32))])) _
    refine XS.istoreN X0.here hx rfl (hb hby d2_3) rfl (l' := #[.val (.ref a1), .val (.ref a2), .val (.int (0 : Int32)), .val (.int (0 : Int32))]) rfl ?_
    show Steps p.tables e below (s₁.setTop (mkF m 4 #[.val (.ref a1), .val (.ref a2), .val (.int (0 : Int32)), .val (.int (0 : Int32))] [])) _
    refine XS.iloadN X0.here hx rfl (hb hby d2_4) rfl ?_
    show Steps p.tables e below (s₁.setTop (mkF m 5 #[.val (.ref a1), .val (.ref a2), .val (.int (0 : Int32)), .val (.int (0 : Int32))] [(.int (0 : Int32))])) _
    refine XS.aloadN X0.here hx rfl (hb hby d2_5) rfl rfl ?_
    exact k)
  obtain ⟨c102, Ar102, -, As102, An102, -, -⟩ := id V1
  have k103 : ∀ t, Steps p.tables e below (s₁.setTop (mkF m 12 #[.val (.ref a1), .val (.ref a2), .val (.int (0 : Int32)), .val (.int (0 : Int32))] [(.int (0 : Int32)), (.ref a1)])) t → Steps p.tables e below (s₁.setTop (entryFrame m #[(.ref a1), (.ref a2)] 4)) t := fun t k => k101 t (by
    show Steps p.tables e below (s₁.setTop (mkF m 6 #[.val (.ref a1), .val (.ref a2), .val (.int (0 : Int32)), .val (.int (0 : Int32))] [(.ref a1), (.int (0 : Int32))])) _
    refine X0.arraylength hx (by rw [e0]; exact Ar102.1) (State.isArrayOf_alike hZ.alike Ar102.2.1) (g := (mkF m 6 #[.val (.ref a1), .val (.ref a2), .val (.int (0 : Int32)), .val (.int (0 : Int32))] [(.ref a1), (.int (0 : Int32))])) rfl rfl (hb hby d2_6) _ ?_
    rw [len_of As102 An102]
    show Steps p.tables e below (s₁.setTop (mkF m 7 #[.val (.ref a1), .val (.ref a2), .val (.int (0 : Int32)), .val (.int (0 : Int32))] [(.int (3 : Int32)), (.int (0 : Int32))])) _
    refine XS.icmpNo X0.here hx rfl (hb hby d2_7) rfl (tlt (by decide)).2.1 ?_
    show Steps p.tables e below (s₁.setTop (mkF m 10 #[.val (.ref a1), .val (.ref a2), .val (.int (0 : Int32)), .val (.int (0 : Int32))] [])) _
    refine XS.aloadN X0.here hx rfl (hb hby d2_10) rfl rfl ?_
    show Steps p.tables e below (s₁.setTop (mkF m 11 #[.val (.ref a1), .val (.ref a2), .val (.int (0 : Int32)), .val (.int (0 : Int32))] [(.ref a1)])) _
    refine XS.iloadN X0.here hx rfl (hb hby d2_11) rfl ?_
    exact k)
  obtain ⟨c104, Ar104, -, As104, An104, Ah104, -⟩ := id V1
  have hin104 : ¬ ((0 : Int32) < 0 ∨ c104.slots.size ≤ ((0 : Int32)).toNatClampNeg) := inb_of As104 ⟨by decide, by decide⟩
  have hat104 : c104.slots[((0 : Int32)).toNatClampNeg]? = some (.double (FP.i2d p0)) := Has.at Ah104 hin104 rfl
  have k105 : ∀ t, Steps p.tables e below (s₁.setTop (mkF m 15 #[.val (.ref a1), .val (.ref a2), .val (.int (0 : Int32)), .val (.int (0 : Int32))] [(.int (0 : Int32)), (.ref a2), (.double (FP.i2d p0))])) t → Steps p.tables e below (s₁.setTop (entryFrame m #[(.ref a1), (.ref a2)] 4)) t := fun t k => k103 t (by
    show Steps p.tables e below (s₁.setTop (mkF m 12 #[.val (.ref a1), .val (.ref a2), .val (.int (0 : Int32)), .val (.int (0 : Int32))] [(.int (0 : Int32)), (.ref a1)])) _
    refine X0.daload hx (j := (0 : Int32)) (v := (.double (FP.i2d p0))) (by rw [e0]; exact Ar104.1) (State.isArrayOf_alike hZ.alike Ar104.2.1) Ar104.2.2 hin104 hat104 (g := (mkF m 12 #[.val (.ref a1), .val (.ref a2), .val (.int (0 : Int32)), .val (.int (0 : Int32))] [(.int (0 : Int32)), (.ref a1)])) rfl rfl (hb hby d2_12) _ ?_
    show Steps p.tables e below (s₁.setTop (mkF m 13 #[.val (.ref a1), .val (.ref a2), .val (.int (0 : Int32)), .val (.int (0 : Int32))] [(.double (FP.i2d p0))])) _
    refine XS.aloadN X0.here hx rfl (hb hby d2_13) rfl rfl ?_
    show Steps p.tables e below (s₁.setTop (mkF m 14 #[.val (.ref a1), .val (.ref a2), .val (.int (0 : Int32)), .val (.int (0 : Int32))] [(.ref a2), (.double (FP.i2d p0))])) _
    refine XS.iloadN X0.here hx rfl (hb hby d2_14) rfl ?_
    exact k)
  obtain ⟨c106, Ar106, -, As106, An106, Ah106, -⟩ := id V2
  have hin106 : ¬ ((0 : Int32) < 0 ∨ c106.slots.size ≤ ((0 : Int32)).toNatClampNeg) := inb_of As106 ⟨by decide, by decide⟩
  have hat106 : c106.slots[((0 : Int32)).toNatClampNeg]? = some (.double (FP.i2d q0)) := Has.at Ah106 hin106 rfl
  have k107 : ∀ t, Steps p.tables e below (s₁.setTop (mkF m 17 #[.val (.ref a1), .val (.ref a2), .val (.int (0 : Int32)), .val (.int (0 : Int32))] [(.int (cmpValue (FP.dcmp (FP.i2d p0) (FP.i2d q0)) .l))])) t → Steps p.tables e below (s₁.setTop (entryFrame m #[(.ref a1), (.ref a2)] 4)) t := fun t k => k105 t (by
    show Steps p.tables e below (s₁.setTop (mkF m 15 #[.val (.ref a1), .val (.ref a2), .val (.int (0 : Int32)), .val (.int (0 : Int32))] [(.int (0 : Int32)), (.ref a2), (.double (FP.i2d p0))])) _
    refine X0.daload hx (j := (0 : Int32)) (v := (.double (FP.i2d q0))) (by rw [e0]; exact Ar106.1) (State.isArrayOf_alike hZ.alike Ar106.2.1) Ar106.2.2 hin106 hat106 (g := (mkF m 15 #[.val (.ref a1), .val (.ref a2), .val (.int (0 : Int32)), .val (.int (0 : Int32))] [(.int (0 : Int32)), (.ref a2), (.double (FP.i2d p0))])) rfl rfl (hb hby d2_15) _ ?_
    show Steps p.tables e below (s₁.setTop (mkF m 16 #[.val (.ref a1), .val (.ref a2), .val (.int (0 : Int32)), .val (.int (0 : Int32))] [(.double (FP.i2d q0)), (.double (FP.i2d p0))])) _
    refine XS.dcmpS X0.here hx rfl (hb hby d2_16) rfl rfl ?_
    exact k)
  by_cases c0 : q0 < p0
  · have k108 : ∀ t, Steps p.tables e below (s₁.setTop (mkF m 21 #[.val (.ref a1), .val (.ref a2), .val (.int (0 : Int32)), .val (.int (0 : Int32))] [(.int (0 : Int32))])) t → Steps p.tables e below (s₁.setTop (entryFrame m #[(.ref a1), (.ref a2)] 4)) t := fun t k => k107 t (by
      show Steps p.tables e below (s₁.setTop (mkF m 17 #[.val (.ref a1), .val (.ref a2), .val (.int (0 : Int32)), .val (.int (0 : Int32))] [(.int (cmpValue (FP.dcmp (FP.i2d p0) (FP.i2d q0)) .l))])) _
      refine XS.ifNo X0.here hx rfl (hb hby d2_17) rfl ((if0 _ _).trans (tlt (own_gt.mpr c0)).2.2.2) ?_
      show Steps p.tables e below (s₁.setTop (mkF m 20 #[.val (.ref a1), .val (.ref a2), .val (.int (0 : Int32)), .val (.int (0 : Int32))] [])) _
      refine XS.iconst X0.here hx rfl (hb hby d2_20) ?_
      exact k)
    obtain ⟨fs, hr, hrun, hended, hW, hsame⟩ := X0.leave (v := some (.int (0 : Int32))) (fun h => by rw [Bd.returns] at h; cases h)
    refine ⟨_, _, k108 _ (retOut X0 hx (t := .boolean) Bd.returns rfl (Or.inl ⟨rfl, Or.inr (Or.inl rfl), _, rfl⟩) (hb hby d2_21) hr), hrun, hended, _, _, rfl, ?_, ⟨_, rfl⟩, hW, hsame.mono (by decide) (by decide)⟩
    show Q_dom3 Z a1 a2 k1 k2 p0 p1 p2 q0 q1 q2 h0 n0 _ s₁.heap _
    rw [e0]
    exact ⟨by simp [own_dom, c0], N0, rfl⟩
  · have k109 : ∀ t, Steps p.tables e below (s₁.setTop (mkF m 25 #[.val (.ref a1), .val (.ref a2), .val (.int (0 : Int32)), .val (.int (0 : Int32))] [(.int (0 : Int32)), (.ref a1), (.int (0 : Int32))])) t → Steps p.tables e below (s₁.setTop (entryFrame m #[(.ref a1), (.ref a2)] 4)) t := fun t k => k107 t (by
      show Steps p.tables e below (s₁.setTop (mkF m 17 #[.val (.ref a1), .val (.ref a2), .val (.int (0 : Int32)), .val (.int (0 : Int32))] [(.int (cmpValue (FP.dcmp (FP.i2d p0) (FP.i2d q0)) .l))])) _
      refine XS.ifYes X0.here hx rfl (pc0 := 17) (pc' := 22) rfl (hb hby d2_17) rfl ((if0 _ _).trans (flt (fun h => c0 (own_gt.mp h))).2.2.2) (by decide) (by decide) ?_
      show Steps p.tables e below (s₁.setTop (mkF m 22 #[.val (.ref a1), .val (.ref a2), .val (.int (0 : Int32)), .val (.int (0 : Int32))] [])) _
      refine XS.iloadN X0.here hx rfl (hb hby d2_22) rfl ?_
      show Steps p.tables e below (s₁.setTop (mkF m 23 #[.val (.ref a1), .val (.ref a2), .val (.int (0 : Int32)), .val (.int (0 : Int32))] [(.int (0 : Int32))])) _
      refine XS.aloadN X0.here hx rfl (hb hby d2_23) rfl rfl ?_
      show Steps p.tables e below (s₁.setTop (mkF m 24 #[.val (.ref a1), .val (.ref a2), .val (.int (0 : Int32)), .val (.int (0 : Int32))] [(.ref a1), (.int (0 : Int32))])) _
      refine XS.iloadN X0.here hx rfl (hb hby d2_24) rfl ?_
      exact k)
    obtain ⟨c110, Ar110, -, As110, An110, Ah110, -⟩ := id V1
    have hin110 : ¬ ((0 : Int32) < 0 ∨ c110.slots.size ≤ ((0 : Int32)).toNatClampNeg) := inb_of As110 ⟨by decide, by decide⟩
    have hat110 : c110.slots[((0 : Int32)).toNatClampNeg]? = some (.double (FP.i2d p0)) := Has.at Ah110 hin110 rfl
    have k111 : ∀ t, Steps p.tables e below (s₁.setTop (mkF m 28 #[.val (.ref a1), .val (.ref a2), .val (.int (0 : Int32)), .val (.int (0 : Int32))] [(.int (0 : Int32)), (.ref a2), (.double (FP.i2d p0)), (.int (0 : Int32))])) t → Steps p.tables e below (s₁.setTop (entryFrame m #[(.ref a1), (.ref a2)] 4)) t := fun t k => k109 t (by
      show Steps p.tables e below (s₁.setTop (mkF m 25 #[.val (.ref a1), .val (.ref a2), .val (.int (0 : Int32)), .val (.int (0 : Int32))] [(.int (0 : Int32)), (.ref a1), (.int (0 : Int32))])) _
      refine X0.daload hx (j := (0 : Int32)) (v := (.double (FP.i2d p0))) (by rw [e0]; exact Ar110.1) (State.isArrayOf_alike hZ.alike Ar110.2.1) Ar110.2.2 hin110 hat110 (g := (mkF m 25 #[.val (.ref a1), .val (.ref a2), .val (.int (0 : Int32)), .val (.int (0 : Int32))] [(.int (0 : Int32)), (.ref a1), (.int (0 : Int32))])) rfl rfl (hb hby d2_25) _ ?_
      show Steps p.tables e below (s₁.setTop (mkF m 26 #[.val (.ref a1), .val (.ref a2), .val (.int (0 : Int32)), .val (.int (0 : Int32))] [(.double (FP.i2d p0)), (.int (0 : Int32))])) _
      refine XS.aloadN X0.here hx rfl (hb hby d2_26) rfl rfl ?_
      show Steps p.tables e below (s₁.setTop (mkF m 27 #[.val (.ref a1), .val (.ref a2), .val (.int (0 : Int32)), .val (.int (0 : Int32))] [(.ref a2), (.double (FP.i2d p0)), (.int (0 : Int32))])) _
      refine XS.iloadN X0.here hx rfl (hb hby d2_27) rfl ?_
      exact k)
    obtain ⟨c112, Ar112, -, As112, An112, Ah112, -⟩ := id V2
    have hin112 : ¬ ((0 : Int32) < 0 ∨ c112.slots.size ≤ ((0 : Int32)).toNatClampNeg) := inb_of As112 ⟨by decide, by decide⟩
    have hat112 : c112.slots[((0 : Int32)).toNatClampNeg]? = some (.double (FP.i2d q0)) := Has.at Ah112 hin112 rfl
    have k113 : ∀ t, Steps p.tables e below (s₁.setTop (mkF m 30 #[.val (.ref a1), .val (.ref a2), .val (.int (0 : Int32)), .val (.int (0 : Int32))] [(.int (cmpValue (FP.dcmp (FP.i2d p0) (FP.i2d q0)) .g)), (.int (0 : Int32))])) t → Steps p.tables e below (s₁.setTop (entryFrame m #[(.ref a1), (.ref a2)] 4)) t := fun t k => k111 t (by
      show Steps p.tables e below (s₁.setTop (mkF m 28 #[.val (.ref a1), .val (.ref a2), .val (.int (0 : Int32)), .val (.int (0 : Int32))] [(.int (0 : Int32)), (.ref a2), (.double (FP.i2d p0)), (.int (0 : Int32))])) _
      refine X0.daload hx (j := (0 : Int32)) (v := (.double (FP.i2d q0))) (by rw [e0]; exact Ar112.1) (State.isArrayOf_alike hZ.alike Ar112.2.1) Ar112.2.2 hin112 hat112 (g := (mkF m 28 #[.val (.ref a1), .val (.ref a2), .val (.int (0 : Int32)), .val (.int (0 : Int32))] [(.int (0 : Int32)), (.ref a2), (.double (FP.i2d p0)), (.int (0 : Int32))])) rfl rfl (hb hby d2_28) _ ?_
      show Steps p.tables e below (s₁.setTop (mkF m 29 #[.val (.ref a1), .val (.ref a2), .val (.int (0 : Int32)), .val (.int (0 : Int32))] [(.double (FP.i2d q0)), (.double (FP.i2d p0)), (.int (0 : Int32))])) _
      refine XS.dcmpS X0.here hx rfl (hb hby d2_29) rfl rfl ?_
      exact k)
    by_cases d0 : p0 < q0
    · have k114 : ∀ t, Steps p.tables e below (s₁.setTop (mkF m 6 #[.val (.ref a1), .val (.ref a2), .val (.int (1 : Int32)), .val (.int (1 : Int32))] [(.ref a1), (.int (1 : Int32))])) t → Steps p.tables e below (s₁.setTop (entryFrame m #[(.ref a1), (.ref a2)] 4)) t := fun t k => k113 t (by
        show Steps p.tables e below (s₁.setTop (mkF m 30 #[.val (.ref a1), .val (.ref a2), .val (.int (0 : Int32)), .val (.int (0 : Int32))] [(.int (cmpValue (FP.dcmp (FP.i2d p0) (FP.i2d q0)) .g)), (.int (0 : Int32))])) _
        refine XS.ifNo X0.here hx rfl (hb hby d2_30) rfl ((if0 _ _).trans (tlt (own_lt.mpr d0)).2.1) ?_
        show Steps p.tables e below (s₁.setTop (mkF m 33 #[.val (.ref a1), .val (.ref a2), .val (.int (0 : Int32)), .val (.int (0 : Int32))] [(.int (0 : Int32))])) _
        refine XS.iconst X0.here hx rfl (hb hby d2_33) ?_
        show Steps p.tables e below (s₁.setTop (mkF m 34 #[.val (.ref a1), .val (.ref a2), .val (.int (0 : Int32)), .val (.int (0 : Int32))] [(.int (1 : Int32)), (.int (0 : Int32))])) _
        refine XS.goto X0.here hx rfl (pc0 := 34) (pc' := 38) rfl (hb hby d2_34) (by decide) (by decide) ?_
        show Steps p.tables e below (s₁.setTop (mkF m 38 #[.val (.ref a1), .val (.ref a2), .val (.int (0 : Int32)), .val (.int (0 : Int32))] [(.int (1 : Int32)), (.int (0 : Int32))])) _
        refine XS.ior X0.here hx rfl (hb hby d2_38) rfl ?_
        show Steps p.tables e below (s₁.setTop (mkF m 39 #[.val (.ref a1), .val (.ref a2), .val (.int (0 : Int32)), .val (.int (0 : Int32))] [(.int ((0 : Int32) ||| (1 : Int32)))])) _
        refine castTop (g' := (mkF m 39 #[.val (.ref a1), .val (.ref a2), .val (.int (0 : Int32)), .val (.int (0 : Int32))] [(.int (1 : Int32))])) (by rw [show ((0 : Int32) ||| (1 : Int32)) = (1 : Int32) by decide]) ?_
        show Steps p.tables e below (s₁.setTop (mkF m 39 #[.val (.ref a1), .val (.ref a2), .val (.int (0 : Int32)), .val (.int (0 : Int32))] [(.int (1 : Int32))])) _
        refine XS.istoreN X0.here hx rfl (hb hby d2_39) rfl (l' := #[.val (.ref a1), .val (.ref a2), .val (.int (1 : Int32)), .val (.int (0 : Int32))]) rfl ?_
        show Steps p.tables e below (s₁.setTop (mkF m 40 #[.val (.ref a1), .val (.ref a2), .val (.int (1 : Int32)), .val (.int (0 : Int32))] [])) _
        refine XS.iinc X0.here hx rfl (hb hby d2_40) rfl (l' := #[.val (.ref a1), .val (.ref a2), .val (.int (1 : Int32)), .val (.int (1 : Int32))]) rfl ?_
        show Steps p.tables e below (s₁.setTop (mkF m 43 #[.val (.ref a1), .val (.ref a2), .val (.int (1 : Int32)), .val (.int (1 : Int32))] [])) _
        refine XS.goto X0.here hx rfl (pc0 := 43) (pc' := 4) rfl (hb hby d2_43) (by decide) (by decide) ?_
        show Steps p.tables e below (s₁.setTop (mkF m 4 #[.val (.ref a1), .val (.ref a2), .val (.int (1 : Int32)), .val (.int (1 : Int32))] [])) _
        refine XS.iloadN X0.here hx rfl (hb hby d2_4) rfl ?_
        show Steps p.tables e below (s₁.setTop (mkF m 5 #[.val (.ref a1), .val (.ref a2), .val (.int (1 : Int32)), .val (.int (1 : Int32))] [(.int (1 : Int32))])) _
        refine XS.aloadN X0.here hx rfl (hb hby d2_5) rfl rfl ?_
        exact k)
      obtain ⟨c115, Ar115, -, As115, An115, -, -⟩ := id V1
      have k116 : ∀ t, Steps p.tables e below (s₁.setTop (mkF m 12 #[.val (.ref a1), .val (.ref a2), .val (.int (1 : Int32)), .val (.int (1 : Int32))] [(.int (1 : Int32)), (.ref a1)])) t → Steps p.tables e below (s₁.setTop (entryFrame m #[(.ref a1), (.ref a2)] 4)) t := fun t k => k114 t (by
        show Steps p.tables e below (s₁.setTop (mkF m 6 #[.val (.ref a1), .val (.ref a2), .val (.int (1 : Int32)), .val (.int (1 : Int32))] [(.ref a1), (.int (1 : Int32))])) _
        refine X0.arraylength hx (by rw [e0]; exact Ar115.1) (State.isArrayOf_alike hZ.alike Ar115.2.1) (g := (mkF m 6 #[.val (.ref a1), .val (.ref a2), .val (.int (1 : Int32)), .val (.int (1 : Int32))] [(.ref a1), (.int (1 : Int32))])) rfl rfl (hb hby d2_6) _ ?_
        rw [len_of As115 An115]
        show Steps p.tables e below (s₁.setTop (mkF m 7 #[.val (.ref a1), .val (.ref a2), .val (.int (1 : Int32)), .val (.int (1 : Int32))] [(.int (3 : Int32)), (.int (1 : Int32))])) _
        refine XS.icmpNo X0.here hx rfl (hb hby d2_7) rfl (tlt (by decide)).2.1 ?_
        show Steps p.tables e below (s₁.setTop (mkF m 10 #[.val (.ref a1), .val (.ref a2), .val (.int (1 : Int32)), .val (.int (1 : Int32))] [])) _
        refine XS.aloadN X0.here hx rfl (hb hby d2_10) rfl rfl ?_
        show Steps p.tables e below (s₁.setTop (mkF m 11 #[.val (.ref a1), .val (.ref a2), .val (.int (1 : Int32)), .val (.int (1 : Int32))] [(.ref a1)])) _
        refine XS.iloadN X0.here hx rfl (hb hby d2_11) rfl ?_
        exact k)
      obtain ⟨c117, Ar117, -, As117, An117, Ah117, -⟩ := id V1
      have hin117 : ¬ ((1 : Int32) < 0 ∨ c117.slots.size ≤ ((1 : Int32)).toNatClampNeg) := inb_of As117 ⟨by decide, by decide⟩
      have hat117 : c117.slots[((1 : Int32)).toNatClampNeg]? = some (.double (FP.i2d p1)) := Has.at Ah117 hin117 rfl
      have k118 : ∀ t, Steps p.tables e below (s₁.setTop (mkF m 15 #[.val (.ref a1), .val (.ref a2), .val (.int (1 : Int32)), .val (.int (1 : Int32))] [(.int (1 : Int32)), (.ref a2), (.double (FP.i2d p1))])) t → Steps p.tables e below (s₁.setTop (entryFrame m #[(.ref a1), (.ref a2)] 4)) t := fun t k => k116 t (by
        show Steps p.tables e below (s₁.setTop (mkF m 12 #[.val (.ref a1), .val (.ref a2), .val (.int (1 : Int32)), .val (.int (1 : Int32))] [(.int (1 : Int32)), (.ref a1)])) _
        refine X0.daload hx (j := (1 : Int32)) (v := (.double (FP.i2d p1))) (by rw [e0]; exact Ar117.1) (State.isArrayOf_alike hZ.alike Ar117.2.1) Ar117.2.2 hin117 hat117 (g := (mkF m 12 #[.val (.ref a1), .val (.ref a2), .val (.int (1 : Int32)), .val (.int (1 : Int32))] [(.int (1 : Int32)), (.ref a1)])) rfl rfl (hb hby d2_12) _ ?_
        show Steps p.tables e below (s₁.setTop (mkF m 13 #[.val (.ref a1), .val (.ref a2), .val (.int (1 : Int32)), .val (.int (1 : Int32))] [(.double (FP.i2d p1))])) _
        refine XS.aloadN X0.here hx rfl (hb hby d2_13) rfl rfl ?_
        show Steps p.tables e below (s₁.setTop (mkF m 14 #[.val (.ref a1), .val (.ref a2), .val (.int (1 : Int32)), .val (.int (1 : Int32))] [(.ref a2), (.double (FP.i2d p1))])) _
        refine XS.iloadN X0.here hx rfl (hb hby d2_14) rfl ?_
        exact k)
      obtain ⟨c119, Ar119, -, As119, An119, Ah119, -⟩ := id V2
      have hin119 : ¬ ((1 : Int32) < 0 ∨ c119.slots.size ≤ ((1 : Int32)).toNatClampNeg) := inb_of As119 ⟨by decide, by decide⟩
      have hat119 : c119.slots[((1 : Int32)).toNatClampNeg]? = some (.double (FP.i2d q1)) := Has.at Ah119 hin119 rfl
      have k120 : ∀ t, Steps p.tables e below (s₁.setTop (mkF m 17 #[.val (.ref a1), .val (.ref a2), .val (.int (1 : Int32)), .val (.int (1 : Int32))] [(.int (cmpValue (FP.dcmp (FP.i2d p1) (FP.i2d q1)) .l))])) t → Steps p.tables e below (s₁.setTop (entryFrame m #[(.ref a1), (.ref a2)] 4)) t := fun t k => k118 t (by
        show Steps p.tables e below (s₁.setTop (mkF m 15 #[.val (.ref a1), .val (.ref a2), .val (.int (1 : Int32)), .val (.int (1 : Int32))] [(.int (1 : Int32)), (.ref a2), (.double (FP.i2d p1))])) _
        refine X0.daload hx (j := (1 : Int32)) (v := (.double (FP.i2d q1))) (by rw [e0]; exact Ar119.1) (State.isArrayOf_alike hZ.alike Ar119.2.1) Ar119.2.2 hin119 hat119 (g := (mkF m 15 #[.val (.ref a1), .val (.ref a2), .val (.int (1 : Int32)), .val (.int (1 : Int32))] [(.int (1 : Int32)), (.ref a2), (.double (FP.i2d p1))])) rfl rfl (hb hby d2_15) _ ?_
        show Steps p.tables e below (s₁.setTop (mkF m 16 #[.val (.ref a1), .val (.ref a2), .val (.int (1 : Int32)), .val (.int (1 : Int32))] [(.double (FP.i2d q1)), (.double (FP.i2d p1))])) _
        refine XS.dcmpS X0.here hx rfl (hb hby d2_16) rfl rfl ?_
        exact k)
      by_cases c1 : q1 < p1
      · have k121 : ∀ t, Steps p.tables e below (s₁.setTop (mkF m 21 #[.val (.ref a1), .val (.ref a2), .val (.int (1 : Int32)), .val (.int (1 : Int32))] [(.int (0 : Int32))])) t → Steps p.tables e below (s₁.setTop (entryFrame m #[(.ref a1), (.ref a2)] 4)) t := fun t k => k120 t (by
          show Steps p.tables e below (s₁.setTop (mkF m 17 #[.val (.ref a1), .val (.ref a2), .val (.int (1 : Int32)), .val (.int (1 : Int32))] [(.int (cmpValue (FP.dcmp (FP.i2d p1) (FP.i2d q1)) .l))])) _
          refine XS.ifNo X0.here hx rfl (hb hby d2_17) rfl ((if0 _ _).trans (tlt (own_gt.mpr c1)).2.2.2) ?_
          show Steps p.tables e below (s₁.setTop (mkF m 20 #[.val (.ref a1), .val (.ref a2), .val (.int (1 : Int32)), .val (.int (1 : Int32))] [])) _
          refine XS.iconst X0.here hx rfl (hb hby d2_20) ?_
          exact k)
        obtain ⟨fs, hr, hrun, hended, hW, hsame⟩ := X0.leave (v := some (.int (0 : Int32))) (fun h => by rw [Bd.returns] at h; cases h)
        refine ⟨_, _, k121 _ (retOut X0 hx (t := .boolean) Bd.returns rfl (Or.inl ⟨rfl, Or.inr (Or.inl rfl), _, rfl⟩) (hb hby d2_21) hr), hrun, hended, _, _, rfl, ?_, ⟨_, rfl⟩, hW, hsame.mono (by decide) (by decide)⟩
        show Q_dom3 Z a1 a2 k1 k2 p0 p1 p2 q0 q1 q2 h0 n0 _ s₁.heap _
        rw [e0]
        exact ⟨by simp [own_dom, c0, d0, c1], N0, rfl⟩
      · have k122 : ∀ t, Steps p.tables e below (s₁.setTop (mkF m 25 #[.val (.ref a1), .val (.ref a2), .val (.int (1 : Int32)), .val (.int (1 : Int32))] [(.int (1 : Int32)), (.ref a1), (.int (1 : Int32))])) t → Steps p.tables e below (s₁.setTop (entryFrame m #[(.ref a1), (.ref a2)] 4)) t := fun t k => k120 t (by
          show Steps p.tables e below (s₁.setTop (mkF m 17 #[.val (.ref a1), .val (.ref a2), .val (.int (1 : Int32)), .val (.int (1 : Int32))] [(.int (cmpValue (FP.dcmp (FP.i2d p1) (FP.i2d q1)) .l))])) _
          refine XS.ifYes X0.here hx rfl (pc0 := 17) (pc' := 22) rfl (hb hby d2_17) rfl ((if0 _ _).trans (flt (fun h => c1 (own_gt.mp h))).2.2.2) (by decide) (by decide) ?_
          show Steps p.tables e below (s₁.setTop (mkF m 22 #[.val (.ref a1), .val (.ref a2), .val (.int (1 : Int32)), .val (.int (1 : Int32))] [])) _
          refine XS.iloadN X0.here hx rfl (hb hby d2_22) rfl ?_
          show Steps p.tables e below (s₁.setTop (mkF m 23 #[.val (.ref a1), .val (.ref a2), .val (.int (1 : Int32)), .val (.int (1 : Int32))] [(.int (1 : Int32))])) _
          refine XS.aloadN X0.here hx rfl (hb hby d2_23) rfl rfl ?_
          show Steps p.tables e below (s₁.setTop (mkF m 24 #[.val (.ref a1), .val (.ref a2), .val (.int (1 : Int32)), .val (.int (1 : Int32))] [(.ref a1), (.int (1 : Int32))])) _
          refine XS.iloadN X0.here hx rfl (hb hby d2_24) rfl ?_
          exact k)
        obtain ⟨c123, Ar123, -, As123, An123, Ah123, -⟩ := id V1
        have hin123 : ¬ ((1 : Int32) < 0 ∨ c123.slots.size ≤ ((1 : Int32)).toNatClampNeg) := inb_of As123 ⟨by decide, by decide⟩
        have hat123 : c123.slots[((1 : Int32)).toNatClampNeg]? = some (.double (FP.i2d p1)) := Has.at Ah123 hin123 rfl
        have k124 : ∀ t, Steps p.tables e below (s₁.setTop (mkF m 28 #[.val (.ref a1), .val (.ref a2), .val (.int (1 : Int32)), .val (.int (1 : Int32))] [(.int (1 : Int32)), (.ref a2), (.double (FP.i2d p1)), (.int (1 : Int32))])) t → Steps p.tables e below (s₁.setTop (entryFrame m #[(.ref a1), (.ref a2)] 4)) t := fun t k => k122 t (by
          show Steps p.tables e below (s₁.setTop (mkF m 25 #[.val (.ref a1), .val (.ref a2), .val (.int (1 : Int32)), .val (.int (1 : Int32))] [(.int (1 : Int32)), (.ref a1), (.int (1 : Int32))])) _
          refine X0.daload hx (j := (1 : Int32)) (v := (.double (FP.i2d p1))) (by rw [e0]; exact Ar123.1) (State.isArrayOf_alike hZ.alike Ar123.2.1) Ar123.2.2 hin123 hat123 (g := (mkF m 25 #[.val (.ref a1), .val (.ref a2), .val (.int (1 : Int32)), .val (.int (1 : Int32))] [(.int (1 : Int32)), (.ref a1), (.int (1 : Int32))])) rfl rfl (hb hby d2_25) _ ?_
          show Steps p.tables e below (s₁.setTop (mkF m 26 #[.val (.ref a1), .val (.ref a2), .val (.int (1 : Int32)), .val (.int (1 : Int32))] [(.double (FP.i2d p1)), (.int (1 : Int32))])) _
          refine XS.aloadN X0.here hx rfl (hb hby d2_26) rfl rfl ?_
          show Steps p.tables e below (s₁.setTop (mkF m 27 #[.val (.ref a1), .val (.ref a2), .val (.int (1 : Int32)), .val (.int (1 : Int32))] [(.ref a2), (.double (FP.i2d p1)), (.int (1 : Int32))])) _
          refine XS.iloadN X0.here hx rfl (hb hby d2_27) rfl ?_
          exact k)
        obtain ⟨c125, Ar125, -, As125, An125, Ah125, -⟩ := id V2
        have hin125 : ¬ ((1 : Int32) < 0 ∨ c125.slots.size ≤ ((1 : Int32)).toNatClampNeg) := inb_of As125 ⟨by decide, by decide⟩
        have hat125 : c125.slots[((1 : Int32)).toNatClampNeg]? = some (.double (FP.i2d q1)) := Has.at Ah125 hin125 rfl
        have k126 : ∀ t, Steps p.tables e below (s₁.setTop (mkF m 30 #[.val (.ref a1), .val (.ref a2), .val (.int (1 : Int32)), .val (.int (1 : Int32))] [(.int (cmpValue (FP.dcmp (FP.i2d p1) (FP.i2d q1)) .g)), (.int (1 : Int32))])) t → Steps p.tables e below (s₁.setTop (entryFrame m #[(.ref a1), (.ref a2)] 4)) t := fun t k => k124 t (by
          show Steps p.tables e below (s₁.setTop (mkF m 28 #[.val (.ref a1), .val (.ref a2), .val (.int (1 : Int32)), .val (.int (1 : Int32))] [(.int (1 : Int32)), (.ref a2), (.double (FP.i2d p1)), (.int (1 : Int32))])) _
          refine X0.daload hx (j := (1 : Int32)) (v := (.double (FP.i2d q1))) (by rw [e0]; exact Ar125.1) (State.isArrayOf_alike hZ.alike Ar125.2.1) Ar125.2.2 hin125 hat125 (g := (mkF m 28 #[.val (.ref a1), .val (.ref a2), .val (.int (1 : Int32)), .val (.int (1 : Int32))] [(.int (1 : Int32)), (.ref a2), (.double (FP.i2d p1)), (.int (1 : Int32))])) rfl rfl (hb hby d2_28) _ ?_
          show Steps p.tables e below (s₁.setTop (mkF m 29 #[.val (.ref a1), .val (.ref a2), .val (.int (1 : Int32)), .val (.int (1 : Int32))] [(.double (FP.i2d q1)), (.double (FP.i2d p1)), (.int (1 : Int32))])) _
          refine XS.dcmpS X0.here hx rfl (hb hby d2_29) rfl rfl ?_
          exact k)
        by_cases d1 : p1 < q1
        · have k127 : ∀ t, Steps p.tables e below (s₁.setTop (mkF m 6 #[.val (.ref a1), .val (.ref a2), .val (.int (1 : Int32)), .val (.int (2 : Int32))] [(.ref a1), (.int (2 : Int32))])) t → Steps p.tables e below (s₁.setTop (entryFrame m #[(.ref a1), (.ref a2)] 4)) t := fun t k => k126 t (by
            show Steps p.tables e below (s₁.setTop (mkF m 30 #[.val (.ref a1), .val (.ref a2), .val (.int (1 : Int32)), .val (.int (1 : Int32))] [(.int (cmpValue (FP.dcmp (FP.i2d p1) (FP.i2d q1)) .g)), (.int (1 : Int32))])) _
            refine XS.ifNo X0.here hx rfl (hb hby d2_30) rfl ((if0 _ _).trans (tlt (own_lt.mpr d1)).2.1) ?_
            show Steps p.tables e below (s₁.setTop (mkF m 33 #[.val (.ref a1), .val (.ref a2), .val (.int (1 : Int32)), .val (.int (1 : Int32))] [(.int (1 : Int32))])) _
            refine XS.iconst X0.here hx rfl (hb hby d2_33) ?_
            show Steps p.tables e below (s₁.setTop (mkF m 34 #[.val (.ref a1), .val (.ref a2), .val (.int (1 : Int32)), .val (.int (1 : Int32))] [(.int (1 : Int32)), (.int (1 : Int32))])) _
            refine XS.goto X0.here hx rfl (pc0 := 34) (pc' := 38) rfl (hb hby d2_34) (by decide) (by decide) ?_
            show Steps p.tables e below (s₁.setTop (mkF m 38 #[.val (.ref a1), .val (.ref a2), .val (.int (1 : Int32)), .val (.int (1 : Int32))] [(.int (1 : Int32)), (.int (1 : Int32))])) _
            refine XS.ior X0.here hx rfl (hb hby d2_38) rfl ?_
            show Steps p.tables e below (s₁.setTop (mkF m 39 #[.val (.ref a1), .val (.ref a2), .val (.int (1 : Int32)), .val (.int (1 : Int32))] [(.int ((1 : Int32) ||| (1 : Int32)))])) _
            refine castTop (g' := (mkF m 39 #[.val (.ref a1), .val (.ref a2), .val (.int (1 : Int32)), .val (.int (1 : Int32))] [(.int (1 : Int32))])) (by rw [show ((1 : Int32) ||| (1 : Int32)) = (1 : Int32) by decide]) ?_
            show Steps p.tables e below (s₁.setTop (mkF m 39 #[.val (.ref a1), .val (.ref a2), .val (.int (1 : Int32)), .val (.int (1 : Int32))] [(.int (1 : Int32))])) _
            refine XS.istoreN X0.here hx rfl (hb hby d2_39) rfl (l' := #[.val (.ref a1), .val (.ref a2), .val (.int (1 : Int32)), .val (.int (1 : Int32))]) rfl ?_
            show Steps p.tables e below (s₁.setTop (mkF m 40 #[.val (.ref a1), .val (.ref a2), .val (.int (1 : Int32)), .val (.int (1 : Int32))] [])) _
            refine XS.iinc X0.here hx rfl (hb hby d2_40) rfl (l' := #[.val (.ref a1), .val (.ref a2), .val (.int (1 : Int32)), .val (.int (2 : Int32))]) rfl ?_
            show Steps p.tables e below (s₁.setTop (mkF m 43 #[.val (.ref a1), .val (.ref a2), .val (.int (1 : Int32)), .val (.int (2 : Int32))] [])) _
            refine XS.goto X0.here hx rfl (pc0 := 43) (pc' := 4) rfl (hb hby d2_43) (by decide) (by decide) ?_
            show Steps p.tables e below (s₁.setTop (mkF m 4 #[.val (.ref a1), .val (.ref a2), .val (.int (1 : Int32)), .val (.int (2 : Int32))] [])) _
            refine XS.iloadN X0.here hx rfl (hb hby d2_4) rfl ?_
            show Steps p.tables e below (s₁.setTop (mkF m 5 #[.val (.ref a1), .val (.ref a2), .val (.int (1 : Int32)), .val (.int (2 : Int32))] [(.int (2 : Int32))])) _
            refine XS.aloadN X0.here hx rfl (hb hby d2_5) rfl rfl ?_
            exact k)
          obtain ⟨c128, Ar128, -, As128, An128, -, -⟩ := id V1
          have k129 : ∀ t, Steps p.tables e below (s₁.setTop (mkF m 12 #[.val (.ref a1), .val (.ref a2), .val (.int (1 : Int32)), .val (.int (2 : Int32))] [(.int (2 : Int32)), (.ref a1)])) t → Steps p.tables e below (s₁.setTop (entryFrame m #[(.ref a1), (.ref a2)] 4)) t := fun t k => k127 t (by
            show Steps p.tables e below (s₁.setTop (mkF m 6 #[.val (.ref a1), .val (.ref a2), .val (.int (1 : Int32)), .val (.int (2 : Int32))] [(.ref a1), (.int (2 : Int32))])) _
            refine X0.arraylength hx (by rw [e0]; exact Ar128.1) (State.isArrayOf_alike hZ.alike Ar128.2.1) (g := (mkF m 6 #[.val (.ref a1), .val (.ref a2), .val (.int (1 : Int32)), .val (.int (2 : Int32))] [(.ref a1), (.int (2 : Int32))])) rfl rfl (hb hby d2_6) _ ?_
            rw [len_of As128 An128]
            show Steps p.tables e below (s₁.setTop (mkF m 7 #[.val (.ref a1), .val (.ref a2), .val (.int (1 : Int32)), .val (.int (2 : Int32))] [(.int (3 : Int32)), (.int (2 : Int32))])) _
            refine XS.icmpNo X0.here hx rfl (hb hby d2_7) rfl (tlt (by decide)).2.1 ?_
            show Steps p.tables e below (s₁.setTop (mkF m 10 #[.val (.ref a1), .val (.ref a2), .val (.int (1 : Int32)), .val (.int (2 : Int32))] [])) _
            refine XS.aloadN X0.here hx rfl (hb hby d2_10) rfl rfl ?_
            show Steps p.tables e below (s₁.setTop (mkF m 11 #[.val (.ref a1), .val (.ref a2), .val (.int (1 : Int32)), .val (.int (2 : Int32))] [(.ref a1)])) _
            refine XS.iloadN X0.here hx rfl (hb hby d2_11) rfl ?_
            exact k)
          obtain ⟨c130, Ar130, -, As130, An130, Ah130, -⟩ := id V1
          have hin130 : ¬ ((2 : Int32) < 0 ∨ c130.slots.size ≤ ((2 : Int32)).toNatClampNeg) := inb_of As130 ⟨by decide, by decide⟩
          have hat130 : c130.slots[((2 : Int32)).toNatClampNeg]? = some (.double (FP.i2d p2)) := Has.at Ah130 hin130 rfl
          have k131 : ∀ t, Steps p.tables e below (s₁.setTop (mkF m 15 #[.val (.ref a1), .val (.ref a2), .val (.int (1 : Int32)), .val (.int (2 : Int32))] [(.int (2 : Int32)), (.ref a2), (.double (FP.i2d p2))])) t → Steps p.tables e below (s₁.setTop (entryFrame m #[(.ref a1), (.ref a2)] 4)) t := fun t k => k129 t (by
            show Steps p.tables e below (s₁.setTop (mkF m 12 #[.val (.ref a1), .val (.ref a2), .val (.int (1 : Int32)), .val (.int (2 : Int32))] [(.int (2 : Int32)), (.ref a1)])) _
            refine X0.daload hx (j := (2 : Int32)) (v := (.double (FP.i2d p2))) (by rw [e0]; exact Ar130.1) (State.isArrayOf_alike hZ.alike Ar130.2.1) Ar130.2.2 hin130 hat130 (g := (mkF m 12 #[.val (.ref a1), .val (.ref a2), .val (.int (1 : Int32)), .val (.int (2 : Int32))] [(.int (2 : Int32)), (.ref a1)])) rfl rfl (hb hby d2_12) _ ?_
            show Steps p.tables e below (s₁.setTop (mkF m 13 #[.val (.ref a1), .val (.ref a2), .val (.int (1 : Int32)), .val (.int (2 : Int32))] [(.double (FP.i2d p2))])) _
            refine XS.aloadN X0.here hx rfl (hb hby d2_13) rfl rfl ?_
            show Steps p.tables e below (s₁.setTop (mkF m 14 #[.val (.ref a1), .val (.ref a2), .val (.int (1 : Int32)), .val (.int (2 : Int32))] [(.ref a2), (.double (FP.i2d p2))])) _
            refine XS.iloadN X0.here hx rfl (hb hby d2_14) rfl ?_
            exact k)
          obtain ⟨c132, Ar132, -, As132, An132, Ah132, -⟩ := id V2
          have hin132 : ¬ ((2 : Int32) < 0 ∨ c132.slots.size ≤ ((2 : Int32)).toNatClampNeg) := inb_of As132 ⟨by decide, by decide⟩
          have hat132 : c132.slots[((2 : Int32)).toNatClampNeg]? = some (.double (FP.i2d q2)) := Has.at Ah132 hin132 rfl
          have k133 : ∀ t, Steps p.tables e below (s₁.setTop (mkF m 17 #[.val (.ref a1), .val (.ref a2), .val (.int (1 : Int32)), .val (.int (2 : Int32))] [(.int (cmpValue (FP.dcmp (FP.i2d p2) (FP.i2d q2)) .l))])) t → Steps p.tables e below (s₁.setTop (entryFrame m #[(.ref a1), (.ref a2)] 4)) t := fun t k => k131 t (by
            show Steps p.tables e below (s₁.setTop (mkF m 15 #[.val (.ref a1), .val (.ref a2), .val (.int (1 : Int32)), .val (.int (2 : Int32))] [(.int (2 : Int32)), (.ref a2), (.double (FP.i2d p2))])) _
            refine X0.daload hx (j := (2 : Int32)) (v := (.double (FP.i2d q2))) (by rw [e0]; exact Ar132.1) (State.isArrayOf_alike hZ.alike Ar132.2.1) Ar132.2.2 hin132 hat132 (g := (mkF m 15 #[.val (.ref a1), .val (.ref a2), .val (.int (1 : Int32)), .val (.int (2 : Int32))] [(.int (2 : Int32)), (.ref a2), (.double (FP.i2d p2))])) rfl rfl (hb hby d2_15) _ ?_
            show Steps p.tables e below (s₁.setTop (mkF m 16 #[.val (.ref a1), .val (.ref a2), .val (.int (1 : Int32)), .val (.int (2 : Int32))] [(.double (FP.i2d q2)), (.double (FP.i2d p2))])) _
            refine XS.dcmpS X0.here hx rfl (hb hby d2_16) rfl rfl ?_
            exact k)
          by_cases c2 : q2 < p2
          · have k134 : ∀ t, Steps p.tables e below (s₁.setTop (mkF m 21 #[.val (.ref a1), .val (.ref a2), .val (.int (1 : Int32)), .val (.int (2 : Int32))] [(.int (0 : Int32))])) t → Steps p.tables e below (s₁.setTop (entryFrame m #[(.ref a1), (.ref a2)] 4)) t := fun t k => k133 t (by
              show Steps p.tables e below (s₁.setTop (mkF m 17 #[.val (.ref a1), .val (.ref a2), .val (.int (1 : Int32)), .val (.int (2 : Int32))] [(.int (cmpValue (FP.dcmp (FP.i2d p2) (FP.i2d q2)) .l))])) _
              refine XS.ifNo X0.here hx rfl (hb hby d2_17) rfl ((if0 _ _).trans (tlt (own_gt.mpr c2)).2.2.2) ?_
              show Steps p.tables e below (s₁.setTop (mkF m 20 #[.val (.ref a1), .val (.ref a2), .val (.int (1 : Int32)), .val (.int (2 : Int32))] [])) _
              refine XS.iconst X0.here hx rfl (hb hby d2_20) ?_
              exact k)
            obtain ⟨fs, hr, hrun, hended, hW, hsame⟩ := X0.leave (v := some (.int (0 : Int32))) (fun h => by rw [Bd.returns] at h; cases h)
            refine ⟨_, _, k134 _ (retOut X0 hx (t := .boolean) Bd.returns rfl (Or.inl ⟨rfl, Or.inr (Or.inl rfl), _, rfl⟩) (hb hby d2_21) hr), hrun, hended, _, _, rfl, ?_, ⟨_, rfl⟩, hW, hsame.mono (by decide) (by decide)⟩
            show Q_dom3 Z a1 a2 k1 k2 p0 p1 p2 q0 q1 q2 h0 n0 _ s₁.heap _
            rw [e0]
            exact ⟨by simp [own_dom, c0, d0, c1, d1, c2], N0, rfl⟩
          · have k135 : ∀ t, Steps p.tables e below (s₁.setTop (mkF m 25 #[.val (.ref a1), .val (.ref a2), .val (.int (1 : Int32)), .val (.int (2 : Int32))] [(.int (2 : Int32)), (.ref a1), (.int (1 : Int32))])) t → Steps p.tables e below (s₁.setTop (entryFrame m #[(.ref a1), (.ref a2)] 4)) t := fun t k => k133 t (by
              show Steps p.tables e below (s₁.setTop (mkF m 17 #[.val (.ref a1), .val (.ref a2), .val (.int (1 : Int32)), .val (.int (2 : Int32))] [(.int (cmpValue (FP.dcmp (FP.i2d p2) (FP.i2d q2)) .l))])) _
              refine XS.ifYes X0.here hx rfl (pc0 := 17) (pc' := 22) rfl (hb hby d2_17) rfl ((if0 _ _).trans (flt (fun h => c2 (own_gt.mp h))).2.2.2) (by decide) (by decide) ?_
              show Steps p.tables e below (s₁.setTop (mkF m 22 #[.val (.ref a1), .val (.ref a2), .val (.int (1 : Int32)), .val (.int (2 : Int32))] [])) _
              refine XS.iloadN X0.here hx rfl (hb hby d2_22) rfl ?_
              show Steps p.tables e below (s₁.setTop (mkF m 23 #[.val (.ref a1), .val (.ref a2), .val (.int (1 : Int32)), .val (.int (2 : Int32))] [(.int (1 : Int32))])) _
              refine XS.aloadN X0.here hx rfl (hb hby d2_23) rfl rfl ?_
              show Steps p.tables e below (s₁.setTop (mkF m 24 #[.val (.ref a1), .val (.ref a2), .val (.int (1 : Int32)), .val (.int (2 : Int32))] [(.ref a1), (.int (1 : Int32))])) _
              refine XS.iloadN X0.here hx rfl (hb hby d2_24) rfl ?_
              exact k)
            obtain ⟨c136, Ar136, -, As136, An136, Ah136, -⟩ := id V1
            have hin136 : ¬ ((2 : Int32) < 0 ∨ c136.slots.size ≤ ((2 : Int32)).toNatClampNeg) := inb_of As136 ⟨by decide, by decide⟩
            have hat136 : c136.slots[((2 : Int32)).toNatClampNeg]? = some (.double (FP.i2d p2)) := Has.at Ah136 hin136 rfl
            have k137 : ∀ t, Steps p.tables e below (s₁.setTop (mkF m 28 #[.val (.ref a1), .val (.ref a2), .val (.int (1 : Int32)), .val (.int (2 : Int32))] [(.int (2 : Int32)), (.ref a2), (.double (FP.i2d p2)), (.int (1 : Int32))])) t → Steps p.tables e below (s₁.setTop (entryFrame m #[(.ref a1), (.ref a2)] 4)) t := fun t k => k135 t (by
              show Steps p.tables e below (s₁.setTop (mkF m 25 #[.val (.ref a1), .val (.ref a2), .val (.int (1 : Int32)), .val (.int (2 : Int32))] [(.int (2 : Int32)), (.ref a1), (.int (1 : Int32))])) _
              refine X0.daload hx (j := (2 : Int32)) (v := (.double (FP.i2d p2))) (by rw [e0]; exact Ar136.1) (State.isArrayOf_alike hZ.alike Ar136.2.1) Ar136.2.2 hin136 hat136 (g := (mkF m 25 #[.val (.ref a1), .val (.ref a2), .val (.int (1 : Int32)), .val (.int (2 : Int32))] [(.int (2 : Int32)), (.ref a1), (.int (1 : Int32))])) rfl rfl (hb hby d2_25) _ ?_
              show Steps p.tables e below (s₁.setTop (mkF m 26 #[.val (.ref a1), .val (.ref a2), .val (.int (1 : Int32)), .val (.int (2 : Int32))] [(.double (FP.i2d p2)), (.int (1 : Int32))])) _
              refine XS.aloadN X0.here hx rfl (hb hby d2_26) rfl rfl ?_
              show Steps p.tables e below (s₁.setTop (mkF m 27 #[.val (.ref a1), .val (.ref a2), .val (.int (1 : Int32)), .val (.int (2 : Int32))] [(.ref a2), (.double (FP.i2d p2)), (.int (1 : Int32))])) _
              refine XS.iloadN X0.here hx rfl (hb hby d2_27) rfl ?_
              exact k)
            obtain ⟨c138, Ar138, -, As138, An138, Ah138, -⟩ := id V2
            have hin138 : ¬ ((2 : Int32) < 0 ∨ c138.slots.size ≤ ((2 : Int32)).toNatClampNeg) := inb_of As138 ⟨by decide, by decide⟩
            have hat138 : c138.slots[((2 : Int32)).toNatClampNeg]? = some (.double (FP.i2d q2)) := Has.at Ah138 hin138 rfl
            have k139 : ∀ t, Steps p.tables e below (s₁.setTop (mkF m 30 #[.val (.ref a1), .val (.ref a2), .val (.int (1 : Int32)), .val (.int (2 : Int32))] [(.int (cmpValue (FP.dcmp (FP.i2d p2) (FP.i2d q2)) .g)), (.int (1 : Int32))])) t → Steps p.tables e below (s₁.setTop (entryFrame m #[(.ref a1), (.ref a2)] 4)) t := fun t k => k137 t (by
              show Steps p.tables e below (s₁.setTop (mkF m 28 #[.val (.ref a1), .val (.ref a2), .val (.int (1 : Int32)), .val (.int (2 : Int32))] [(.int (2 : Int32)), (.ref a2), (.double (FP.i2d p2)), (.int (1 : Int32))])) _
              refine X0.daload hx (j := (2 : Int32)) (v := (.double (FP.i2d q2))) (by rw [e0]; exact Ar138.1) (State.isArrayOf_alike hZ.alike Ar138.2.1) Ar138.2.2 hin138 hat138 (g := (mkF m 28 #[.val (.ref a1), .val (.ref a2), .val (.int (1 : Int32)), .val (.int (2 : Int32))] [(.int (2 : Int32)), (.ref a2), (.double (FP.i2d p2)), (.int (1 : Int32))])) rfl rfl (hb hby d2_28) _ ?_
              show Steps p.tables e below (s₁.setTop (mkF m 29 #[.val (.ref a1), .val (.ref a2), .val (.int (1 : Int32)), .val (.int (2 : Int32))] [(.double (FP.i2d q2)), (.double (FP.i2d p2)), (.int (1 : Int32))])) _
              refine XS.dcmpS X0.here hx rfl (hb hby d2_29) rfl rfl ?_
              exact k)
            by_cases d2 : p2 < q2
            · have k140 : ∀ t, Steps p.tables e below (s₁.setTop (mkF m 6 #[.val (.ref a1), .val (.ref a2), .val (.int (1 : Int32)), .val (.int (3 : Int32))] [(.ref a1), (.int (3 : Int32))])) t → Steps p.tables e below (s₁.setTop (entryFrame m #[(.ref a1), (.ref a2)] 4)) t := fun t k => k139 t (by
                show Steps p.tables e below (s₁.setTop (mkF m 30 #[.val (.ref a1), .val (.ref a2), .val (.int (1 : Int32)), .val (.int (2 : Int32))] [(.int (cmpValue (FP.dcmp (FP.i2d p2) (FP.i2d q2)) .g)), (.int (1 : Int32))])) _
                refine XS.ifNo X0.here hx rfl (hb hby d2_30) rfl ((if0 _ _).trans (tlt (own_lt.mpr d2)).2.1) ?_
                show Steps p.tables e below (s₁.setTop (mkF m 33 #[.val (.ref a1), .val (.ref a2), .val (.int (1 : Int32)), .val (.int (2 : Int32))] [(.int (1 : Int32))])) _
                refine XS.iconst X0.here hx rfl (hb hby d2_33) ?_
                show Steps p.tables e below (s₁.setTop (mkF m 34 #[.val (.ref a1), .val (.ref a2), .val (.int (1 : Int32)), .val (.int (2 : Int32))] [(.int (1 : Int32)), (.int (1 : Int32))])) _
                refine XS.goto X0.here hx rfl (pc0 := 34) (pc' := 38) rfl (hb hby d2_34) (by decide) (by decide) ?_
                show Steps p.tables e below (s₁.setTop (mkF m 38 #[.val (.ref a1), .val (.ref a2), .val (.int (1 : Int32)), .val (.int (2 : Int32))] [(.int (1 : Int32)), (.int (1 : Int32))])) _
                refine XS.ior X0.here hx rfl (hb hby d2_38) rfl ?_
                show Steps p.tables e below (s₁.setTop (mkF m 39 #[.val (.ref a1), .val (.ref a2), .val (.int (1 : Int32)), .val (.int (2 : Int32))] [(.int ((1 : Int32) ||| (1 : Int32)))])) _
                refine castTop (g' := (mkF m 39 #[.val (.ref a1), .val (.ref a2), .val (.int (1 : Int32)), .val (.int (2 : Int32))] [(.int (1 : Int32))])) (by rw [show ((1 : Int32) ||| (1 : Int32)) = (1 : Int32) by decide]) ?_
                show Steps p.tables e below (s₁.setTop (mkF m 39 #[.val (.ref a1), .val (.ref a2), .val (.int (1 : Int32)), .val (.int (2 : Int32))] [(.int (1 : Int32))])) _
                refine XS.istoreN X0.here hx rfl (hb hby d2_39) rfl (l' := #[.val (.ref a1), .val (.ref a2), .val (.int (1 : Int32)), .val (.int (2 : Int32))]) rfl ?_
                show Steps p.tables e below (s₁.setTop (mkF m 40 #[.val (.ref a1), .val (.ref a2), .val (.int (1 : Int32)), .val (.int (2 : Int32))] [])) _
                refine XS.iinc X0.here hx rfl (hb hby d2_40) rfl (l' := #[.val (.ref a1), .val (.ref a2), .val (.int (1 : Int32)), .val (.int (3 : Int32))]) rfl ?_
                show Steps p.tables e below (s₁.setTop (mkF m 43 #[.val (.ref a1), .val (.ref a2), .val (.int (1 : Int32)), .val (.int (3 : Int32))] [])) _
                refine XS.goto X0.here hx rfl (pc0 := 43) (pc' := 4) rfl (hb hby d2_43) (by decide) (by decide) ?_
                show Steps p.tables e below (s₁.setTop (mkF m 4 #[.val (.ref a1), .val (.ref a2), .val (.int (1 : Int32)), .val (.int (3 : Int32))] [])) _
                refine XS.iloadN X0.here hx rfl (hb hby d2_4) rfl ?_
                show Steps p.tables e below (s₁.setTop (mkF m 5 #[.val (.ref a1), .val (.ref a2), .val (.int (1 : Int32)), .val (.int (3 : Int32))] [(.int (3 : Int32))])) _
                refine XS.aloadN X0.here hx rfl (hb hby d2_5) rfl rfl ?_
                exact k)
              obtain ⟨c141, Ar141, -, As141, An141, -, -⟩ := id V1
              have k142 : ∀ t, Steps p.tables e below (s₁.setTop (mkF m 47 #[.val (.ref a1), .val (.ref a2), .val (.int (1 : Int32)), .val (.int (3 : Int32))] [(.int (1 : Int32))])) t → Steps p.tables e below (s₁.setTop (entryFrame m #[(.ref a1), (.ref a2)] 4)) t := fun t k => k140 t (by
                show Steps p.tables e below (s₁.setTop (mkF m 6 #[.val (.ref a1), .val (.ref a2), .val (.int (1 : Int32)), .val (.int (3 : Int32))] [(.ref a1), (.int (3 : Int32))])) _
                refine X0.arraylength hx (by rw [e0]; exact Ar141.1) (State.isArrayOf_alike hZ.alike Ar141.2.1) (g := (mkF m 6 #[.val (.ref a1), .val (.ref a2), .val (.int (1 : Int32)), .val (.int (3 : Int32))] [(.ref a1), (.int (3 : Int32))])) rfl rfl (hb hby d2_6) _ ?_
                rw [len_of As141 An141]
                show Steps p.tables e below (s₁.setTop (mkF m 7 #[.val (.ref a1), .val (.ref a2), .val (.int (1 : Int32)), .val (.int (3 : Int32))] [(.int (3 : Int32)), (.int (3 : Int32))])) _
                refine XS.icmpYes X0.here hx rfl (pc0 := 7) (pc' := 46) rfl (hb hby d2_7) rfl (flt (by decide)).2.1 (by decide) (by decide) ?_
                show Steps p.tables e below (s₁.setTop (mkF m 46 #[.val (.ref a1), .val (.ref a2), .val (.int (1 : Int32)), .val (.int (3 : Int32))] [])) _
                refine XS.iloadN X0.here hx rfl (hb hby d2_46) rfl ?_
                exact k)
              obtain ⟨fs, hr, hrun, hended, hW, hsame⟩ := X0.leave (v := some (.int (1 : Int32))) (fun h => by rw [Bd.returns] at h; cases h)
              refine ⟨_, _, k142 _ (retOut X0 hx (t := .boolean) Bd.returns rfl (Or.inl ⟨rfl, Or.inr (Or.inl rfl), _, rfl⟩) (hb hby d2_47) hr), hrun, hended, _, _, rfl, ?_, ⟨_, rfl⟩, hW, hsame.mono (by decide) (by decide)⟩
              show Q_dom3 Z a1 a2 k1 k2 p0 p1 p2 q0 q1 q2 h0 n0 _ s₁.heap _
              rw [e0]
              exact ⟨by simp [own_dom, c0, d0, c1, d1, c2, d2], N0, rfl⟩
            · have k143 : ∀ t, Steps p.tables e below (s₁.setTop (mkF m 6 #[.val (.ref a1), .val (.ref a2), .val (.int (1 : Int32)), .val (.int (3 : Int32))] [(.ref a1), (.int (3 : Int32))])) t → Steps p.tables e below (s₁.setTop (entryFrame m #[(.ref a1), (.ref a2)] 4)) t := fun t k => k139 t (by
                show Steps p.tables e below (s₁.setTop (mkF m 30 #[.val (.ref a1), .val (.ref a2), .val (.int (1 : Int32)), .val (.int (2 : Int32))] [(.int (cmpValue (FP.dcmp (FP.i2d p2) (FP.i2d q2)) .g)), (.int (1 : Int32))])) _
                refine XS.ifYes X0.here hx rfl (pc0 := 30) (pc' := 37) rfl (hb hby d2_30) rfl ((if0 _ _).trans (flt (fun h => d2 (own_lt.mp h))).2.1) (by decide) (by decide) ?_
                show Steps p.tables e below (s₁.setTop (mkF m 37 #[.val (.ref a1), .val (.ref a2), .val (.int (1 : Int32)), .val (.int (2 : Int32))] [(.int (1 : Int32))])) _
                refine XS.iconst X0.here hx rfl (hb hby d2_37) ?_
                show Steps p.tables e below (s₁.setTop (mkF m 38 #[.val (.ref a1), .val (.ref a2), .val (.int (1 : Int32)), .val (.int (2 : Int32))] [(.int (0 : Int32)), (.int (1 : Int32))])) _
                refine XS.ior X0.here hx rfl (hb hby d2_38) rfl ?_
                show Steps p.tables e below (s₁.setTop (mkF m 39 #[.val (.ref a1), .val (.ref a2), .val (.int (1 : Int32)), .val (.int (2 : Int32))] [(.int ((1 : Int32) ||| (0 : Int32)))])) _
                refine castTop (g' := (mkF m 39 #[.val (.ref a1), .val (.ref a2), .val (.int (1 : Int32)), .val (.int (2 : Int32))] [(.int (1 : Int32))])) (by rw [show ((1 : Int32) ||| (0 : Int32)) = (1 : Int32) by decide]) ?_
                show Steps p.tables e below (s₁.setTop (mkF m 39 #[.val (.ref a1), .val (.ref a2), .val (.int (1 : Int32)), .val (.int (2 : Int32))] [(.int (1 : Int32))])) _
                refine XS.istoreN X0.here hx rfl (hb hby d2_39) rfl (l' := #[.val (.ref a1), .val (.ref a2), .val (.int (1 : Int32)), .val (.int (2 : Int32))]) rfl ?_
                show Steps p.tables e below (s₁.setTop (mkF m 40 #[.val (.ref a1), .val (.ref a2), .val (.int (1 : Int32)), .val (.int (2 : Int32))] [])) _
                refine XS.iinc X0.here hx rfl (hb hby d2_40) rfl (l' := #[.val (.ref a1), .val (.ref a2), .val (.int (1 : Int32)), .val (.int (3 : Int32))]) rfl ?_
                show Steps p.tables e below (s₁.setTop (mkF m 43 #[.val (.ref a1), .val (.ref a2), .val (.int (1 : Int32)), .val (.int (3 : Int32))] [])) _
                refine XS.goto X0.here hx rfl (pc0 := 43) (pc' := 4) rfl (hb hby d2_43) (by decide) (by decide) ?_
                show Steps p.tables e below (s₁.setTop (mkF m 4 #[.val (.ref a1), .val (.ref a2), .val (.int (1 : Int32)), .val (.int (3 : Int32))] [])) _
                refine XS.iloadN X0.here hx rfl (hb hby d2_4) rfl ?_
                show Steps p.tables e below (s₁.setTop (mkF m 5 #[.val (.ref a1), .val (.ref a2), .val (.int (1 : Int32)), .val (.int (3 : Int32))] [(.int (3 : Int32))])) _
                refine XS.aloadN X0.here hx rfl (hb hby d2_5) rfl rfl ?_
                exact k)
              obtain ⟨c144, Ar144, -, As144, An144, -, -⟩ := id V1
              have k145 : ∀ t, Steps p.tables e below (s₁.setTop (mkF m 47 #[.val (.ref a1), .val (.ref a2), .val (.int (1 : Int32)), .val (.int (3 : Int32))] [(.int (1 : Int32))])) t → Steps p.tables e below (s₁.setTop (entryFrame m #[(.ref a1), (.ref a2)] 4)) t := fun t k => k143 t (by
                show Steps p.tables e below (s₁.setTop (mkF m 6 #[.val (.ref a1), .val (.ref a2), .val (.int (1 : Int32)), .val (.int (3 : Int32))] [(.ref a1), (.int (3 : Int32))])) _
                refine X0.arraylength hx (by rw [e0]; exact Ar144.1) (State.isArrayOf_alike hZ.alike Ar144.2.1) (g := (mkF m 6 #[.val (.ref a1), .val (.ref a2), .val (.int (1 : Int32)), .val (.int (3 : Int32))] [(.ref a1), (.int (3 : Int32))])) rfl rfl (hb hby d2_6) _ ?_
                rw [len_of As144 An144]
                show Steps p.tables e below (s₁.setTop (mkF m 7 #[.val (.ref a1), .val (.ref a2), .val (.int (1 : Int32)), .val (.int (3 : Int32))] [(.int (3 : Int32)), (.int (3 : Int32))])) _
                refine XS.icmpYes X0.here hx rfl (pc0 := 7) (pc' := 46) rfl (hb hby d2_7) rfl (flt (by decide)).2.1 (by decide) (by decide) ?_
                show Steps p.tables e below (s₁.setTop (mkF m 46 #[.val (.ref a1), .val (.ref a2), .val (.int (1 : Int32)), .val (.int (3 : Int32))] [])) _
                refine XS.iloadN X0.here hx rfl (hb hby d2_46) rfl ?_
                exact k)
              obtain ⟨fs, hr, hrun, hended, hW, hsame⟩ := X0.leave (v := some (.int (1 : Int32))) (fun h => by rw [Bd.returns] at h; cases h)
              refine ⟨_, _, k145 _ (retOut X0 hx (t := .boolean) Bd.returns rfl (Or.inl ⟨rfl, Or.inr (Or.inl rfl), _, rfl⟩) (hb hby d2_47) hr), hrun, hended, _, _, rfl, ?_, ⟨_, rfl⟩, hW, hsame.mono (by decide) (by decide)⟩
              show Q_dom3 Z a1 a2 k1 k2 p0 p1 p2 q0 q1 q2 h0 n0 _ s₁.heap _
              rw [e0]
              exact ⟨by simp [own_dom, c0, d0, c1, d1, c2, d2], N0, rfl⟩
        · have k146 : ∀ t, Steps p.tables e below (s₁.setTop (mkF m 6 #[.val (.ref a1), .val (.ref a2), .val (.int (1 : Int32)), .val (.int (2 : Int32))] [(.ref a1), (.int (2 : Int32))])) t → Steps p.tables e below (s₁.setTop (entryFrame m #[(.ref a1), (.ref a2)] 4)) t := fun t k => k126 t (by
            show Steps p.tables e below (s₁.setTop (mkF m 30 #[.val (.ref a1), .val (.ref a2), .val (.int (1 : Int32)), .val (.int (1 : Int32))] [(.int (cmpValue (FP.dcmp (FP.i2d p1) (FP.i2d q1)) .g)), (.int (1 : Int32))])) _
            refine XS.ifYes X0.here hx rfl (pc0 := 30) (pc' := 37) rfl (hb hby d2_30) rfl ((if0 _ _).trans (flt (fun h => d1 (own_lt.mp h))).2.1) (by decide) (by decide) ?_
            show Steps p.tables e below (s₁.setTop (mkF m 37 #[.val (.ref a1), .val (.ref a2), .val (.int (1 : Int32)), .val (.int (1 : Int32))] [(.int (1 : Int32))])) _
            refine XS.iconst X0.here hx rfl (hb hby d2_37) ?_
            show Steps p.tables e below (s₁.setTop (mkF m 38 #[.val (.ref a1), .val (.ref a2), .val (.int (1 : Int32)), .val (.int (1 : Int32))] [(.int (0 : Int32)), (.int (1 : Int32))])) _
            refine XS.ior X0.here hx rfl (hb hby d2_38) rfl ?_
            show Steps p.tables e below (s₁.setTop (mkF m 39 #[.val (.ref a1), .val (.ref a2), .val (.int (1 : Int32)), .val (.int (1 : Int32))] [(.int ((1 : Int32) ||| (0 : Int32)))])) _
            refine castTop (g' := (mkF m 39 #[.val (.ref a1), .val (.ref a2), .val (.int (1 : Int32)), .val (.int (1 : Int32))] [(.int (1 : Int32))])) (by rw [show ((1 : Int32) ||| (0 : Int32)) = (1 : Int32) by decide]) ?_
            show Steps p.tables e below (s₁.setTop (mkF m 39 #[.val (.ref a1), .val (.ref a2), .val (.int (1 : Int32)), .val (.int (1 : Int32))] [(.int (1 : Int32))])) _
            refine XS.istoreN X0.here hx rfl (hb hby d2_39) rfl (l' := #[.val (.ref a1), .val (.ref a2), .val (.int (1 : Int32)), .val (.int (1 : Int32))]) rfl ?_
            show Steps p.tables e below (s₁.setTop (mkF m 40 #[.val (.ref a1), .val (.ref a2), .val (.int (1 : Int32)), .val (.int (1 : Int32))] [])) _
            refine XS.iinc X0.here hx rfl (hb hby d2_40) rfl (l' := #[.val (.ref a1), .val (.ref a2), .val (.int (1 : Int32)), .val (.int (2 : Int32))]) rfl ?_
            show Steps p.tables e below (s₁.setTop (mkF m 43 #[.val (.ref a1), .val (.ref a2), .val (.int (1 : Int32)), .val (.int (2 : Int32))] [])) _
            refine XS.goto X0.here hx rfl (pc0 := 43) (pc' := 4) rfl (hb hby d2_43) (by decide) (by decide) ?_
            show Steps p.tables e below (s₁.setTop (mkF m 4 #[.val (.ref a1), .val (.ref a2), .val (.int (1 : Int32)), .val (.int (2 : Int32))] [])) _
            refine XS.iloadN X0.here hx rfl (hb hby d2_4) rfl ?_
            show Steps p.tables e below (s₁.setTop (mkF m 5 #[.val (.ref a1), .val (.ref a2), .val (.int (1 : Int32)), .val (.int (2 : Int32))] [(.int (2 : Int32))])) _
            refine XS.aloadN X0.here hx rfl (hb hby d2_5) rfl rfl ?_
            exact k)
          obtain ⟨c147, Ar147, -, As147, An147, -, -⟩ := id V1
          have k148 : ∀ t, Steps p.tables e below (s₁.setTop (mkF m 12 #[.val (.ref a1), .val (.ref a2), .val (.int (1 : Int32)), .val (.int (2 : Int32))] [(.int (2 : Int32)), (.ref a1)])) t → Steps p.tables e below (s₁.setTop (entryFrame m #[(.ref a1), (.ref a2)] 4)) t := fun t k => k146 t (by
            show Steps p.tables e below (s₁.setTop (mkF m 6 #[.val (.ref a1), .val (.ref a2), .val (.int (1 : Int32)), .val (.int (2 : Int32))] [(.ref a1), (.int (2 : Int32))])) _
            refine X0.arraylength hx (by rw [e0]; exact Ar147.1) (State.isArrayOf_alike hZ.alike Ar147.2.1) (g := (mkF m 6 #[.val (.ref a1), .val (.ref a2), .val (.int (1 : Int32)), .val (.int (2 : Int32))] [(.ref a1), (.int (2 : Int32))])) rfl rfl (hb hby d2_6) _ ?_
            rw [len_of As147 An147]
            show Steps p.tables e below (s₁.setTop (mkF m 7 #[.val (.ref a1), .val (.ref a2), .val (.int (1 : Int32)), .val (.int (2 : Int32))] [(.int (3 : Int32)), (.int (2 : Int32))])) _
            refine XS.icmpNo X0.here hx rfl (hb hby d2_7) rfl (tlt (by decide)).2.1 ?_
            show Steps p.tables e below (s₁.setTop (mkF m 10 #[.val (.ref a1), .val (.ref a2), .val (.int (1 : Int32)), .val (.int (2 : Int32))] [])) _
            refine XS.aloadN X0.here hx rfl (hb hby d2_10) rfl rfl ?_
            show Steps p.tables e below (s₁.setTop (mkF m 11 #[.val (.ref a1), .val (.ref a2), .val (.int (1 : Int32)), .val (.int (2 : Int32))] [(.ref a1)])) _
            refine XS.iloadN X0.here hx rfl (hb hby d2_11) rfl ?_
            exact k)
          obtain ⟨c149, Ar149, -, As149, An149, Ah149, -⟩ := id V1
          have hin149 : ¬ ((2 : Int32) < 0 ∨ c149.slots.size ≤ ((2 : Int32)).toNatClampNeg) := inb_of As149 ⟨by decide, by decide⟩
          have hat149 : c149.slots[((2 : Int32)).toNatClampNeg]? = some (.double (FP.i2d p2)) := Has.at Ah149 hin149 rfl
          have k150 : ∀ t, Steps p.tables e below (s₁.setTop (mkF m 15 #[.val (.ref a1), .val (.ref a2), .val (.int (1 : Int32)), .val (.int (2 : Int32))] [(.int (2 : Int32)), (.ref a2), (.double (FP.i2d p2))])) t → Steps p.tables e below (s₁.setTop (entryFrame m #[(.ref a1), (.ref a2)] 4)) t := fun t k => k148 t (by
            show Steps p.tables e below (s₁.setTop (mkF m 12 #[.val (.ref a1), .val (.ref a2), .val (.int (1 : Int32)), .val (.int (2 : Int32))] [(.int (2 : Int32)), (.ref a1)])) _
            refine X0.daload hx (j := (2 : Int32)) (v := (.double (FP.i2d p2))) (by rw [e0]; exact Ar149.1) (State.isArrayOf_alike hZ.alike Ar149.2.1) Ar149.2.2 hin149 hat149 (g := (mkF m 12 #[.val (.ref a1), .val (.ref a2), .val (.int (1 : Int32)), .val (.int (2 : Int32))] [(.int (2 : Int32)), (.ref a1)])) rfl rfl (hb hby d2_12) _ ?_
            show Steps p.tables e below (s₁.setTop (mkF m 13 #[.val (.ref a1), .val (.ref a2), .val (.int (1 : Int32)), .val (.int (2 : Int32))] [(.double (FP.i2d p2))])) _
            refine XS.aloadN X0.here hx rfl (hb hby d2_13) rfl rfl ?_
            show Steps p.tables e below (s₁.setTop (mkF m 14 #[.val (.ref a1), .val (.ref a2), .val (.int (1 : Int32)), .val (.int (2 : Int32))] [(.ref a2), (.double (FP.i2d p2))])) _
            refine XS.iloadN X0.here hx rfl (hb hby d2_14) rfl ?_
            exact k)
          obtain ⟨c151, Ar151, -, As151, An151, Ah151, -⟩ := id V2
          have hin151 : ¬ ((2 : Int32) < 0 ∨ c151.slots.size ≤ ((2 : Int32)).toNatClampNeg) := inb_of As151 ⟨by decide, by decide⟩
          have hat151 : c151.slots[((2 : Int32)).toNatClampNeg]? = some (.double (FP.i2d q2)) := Has.at Ah151 hin151 rfl
          have k152 : ∀ t, Steps p.tables e below (s₁.setTop (mkF m 17 #[.val (.ref a1), .val (.ref a2), .val (.int (1 : Int32)), .val (.int (2 : Int32))] [(.int (cmpValue (FP.dcmp (FP.i2d p2) (FP.i2d q2)) .l))])) t → Steps p.tables e below (s₁.setTop (entryFrame m #[(.ref a1), (.ref a2)] 4)) t := fun t k => k150 t (by
            show Steps p.tables e below (s₁.setTop (mkF m 15 #[.val (.ref a1), .val (.ref a2), .val (.int (1 : Int32)), .val (.int (2 : Int32))] [(.int (2 : Int32)), (.ref a2), (.double (FP.i2d p2))])) _
            refine X0.daload hx (j := (2 : Int32)) (v := (.double (FP.i2d q2))) (by rw [e0]; exact Ar151.1) (State.isArrayOf_alike hZ.alike Ar151.2.1) Ar151.2.2 hin151 hat151 (g := (mkF m 15 #[.val (.ref a1), .val (.ref a2), .val (.int (1 : Int32)), .val (.int (2 : Int32))] [(.int (2 : Int32)), (.ref a2), (.double (FP.i2d p2))])) rfl rfl (hb hby d2_15) _ ?_
            show Steps p.tables e below (s₁.setTop (mkF m 16 #[.val (.ref a1), .val (.ref a2), .val (.int (1 : Int32)), .val (.int (2 : Int32))] [(.double (FP.i2d q2)), (.double (FP.i2d p2))])) _
            refine XS.dcmpS X0.here hx rfl (hb hby d2_16) rfl rfl ?_
            exact k)
          by_cases c2 : q2 < p2
          · have k153 : ∀ t, Steps p.tables e below (s₁.setTop (mkF m 21 #[.val (.ref a1), .val (.ref a2), .val (.int (1 : Int32)), .val (.int (2 : Int32))] [(.int (0 : Int32))])) t → Steps p.tables e below (s₁.setTop (entryFrame m #[(.ref a1), (.ref a2)] 4)) t := fun t k => k152 t (by
              show Steps p.tables e below (s₁.setTop (mkF m 17 #[.val (.ref a1), .val (.ref a2), .val (.int (1 : Int32)), .val (.int (2 : Int32))] [(.int (cmpValue (FP.dcmp (FP.i2d p2) (FP.i2d q2)) .l))])) _
              refine XS.ifNo X0.here hx rfl (hb hby d2_17) rfl ((if0 _ _).trans (tlt (own_gt.mpr c2)).2.2.2) ?_
              show Steps p.tables e below (s₁.setTop (mkF m 20 #[.val (.ref a1), .val (.ref a2), .val (.int (1 : Int32)), .val (.int (2 : Int32))] [])) _
              refine XS.iconst X0.here hx rfl (hb hby d2_20) ?_
              exact k)
            obtain ⟨fs, hr, hrun, hended, hW, hsame⟩ := X0.leave (v := some (.int (0 : Int32))) (fun h => by rw [Bd.returns] at h; cases h)
            refine ⟨_, _, k153 _ (retOut X0 hx (t := .boolean) Bd.returns rfl (Or.inl ⟨rfl, Or.inr (Or.inl rfl), _, rfl⟩) (hb hby d2_21) hr), hrun, hended, _, _, rfl, ?_, ⟨_, rfl⟩, hW, hsame.mono (by decide) (by decide)⟩
            show Q_dom3 Z a1 a2 k1 k2 p0 p1 p2 q0 q1 q2 h0 n0 _ s₁.heap _
            rw [e0]
            exact ⟨by simp [own_dom, c0, d0, c1, d1, c2], N0, rfl⟩
          · have k154 : ∀ t, Steps p.tables e below (s₁.setTop (mkF m 25 #[.val (.ref a1), .val (.ref a2), .val (.int (1 : Int32)), .val (.int (2 : Int32))] [(.int (2 : Int32)), (.ref a1), (.int (1 : Int32))])) t → Steps p.tables e below (s₁.setTop (entryFrame m #[(.ref a1), (.ref a2)] 4)) t := fun t k => k152 t (by
              show Steps p.tables e below (s₁.setTop (mkF m 17 #[.val (.ref a1), .val (.ref a2), .val (.int (1 : Int32)), .val (.int (2 : Int32))] [(.int (cmpValue (FP.dcmp (FP.i2d p2) (FP.i2d q2)) .l))])) _
              refine XS.ifYes X0.here hx rfl (pc0 := 17) (pc' := 22) rfl (hb hby d2_17) rfl ((if0 _ _).trans (flt (fun h => c2 (own_gt.mp h))).2.2.2) (by decide) (by decide) ?_
              show Steps p.tables e below (s₁.setTop (mkF m 22 #[.val (.ref a1), .val (.ref a2), .val (.int (1 : Int32)), .val (.int (2 : Int32))] [])) _
              refine XS.iloadN X0.here hx rfl (hb hby d2_22) rfl ?_
              show Steps p.tables e below (s₁.setTop (mkF m 23 #[.val (.ref a1), .val (.ref a2), .val (.int (1 : Int32)), .val (.int (2 : Int32))] [(.int (1 : Int32))])) _
              refine XS.aloadN X0.here hx rfl (hb hby d2_23) rfl rfl ?_
              show Steps p.tables e below (s₁.setTop (mkF m 24 #[.val (.ref a1), .val (.ref a2), .val (.int (1 : Int32)), .val (.int (2 : Int32))] [(.ref a1), (.int (1 : Int32))])) _
              refine XS.iloadN X0.here hx rfl (hb hby d2_24) rfl ?_
              exact k)
            obtain ⟨c155, Ar155, -, As155, An155, Ah155, -⟩ := id V1
            have hin155 : ¬ ((2 : Int32) < 0 ∨ c155.slots.size ≤ ((2 : Int32)).toNatClampNeg) := inb_of As155 ⟨by decide, by decide⟩
            have hat155 : c155.slots[((2 : Int32)).toNatClampNeg]? = some (.double (FP.i2d p2)) := Has.at Ah155 hin155 rfl
            have k156 : ∀ t, Steps p.tables e below (s₁.setTop (mkF m 28 #[.val (.ref a1), .val (.ref a2), .val (.int (1 : Int32)), .val (.int (2 : Int32))] [(.int (2 : Int32)), (.ref a2), (.double (FP.i2d p2)), (.int (1 : Int32))])) t → Steps p.tables e below (s₁.setTop (entryFrame m #[(.ref a1), (.ref a2)] 4)) t := fun t k => k154 t (by
              show Steps p.tables e below (s₁.setTop (mkF m 25 #[.val (.ref a1), .val (.ref a2), .val (.int (1 : Int32)), .val (.int (2 : Int32))] [(.int (2 : Int32)), (.ref a1), (.int (1 : Int32))])) _
              refine X0.daload hx (j := (2 : Int32)) (v := (.double (FP.i2d p2))) (by rw [e0]; exact Ar155.1) (State.isArrayOf_alike hZ.alike Ar155.2.1) Ar155.2.2 hin155 hat155 (g := (mkF m 25 #[.val (.ref a1), .val (.ref a2), .val (.int (1 : Int32)), .val (.int (2 : Int32))] [(.int (2 : Int32)), (.ref a1), (.int (1 : Int32))])) rfl rfl (hb hby d2_25) _ ?_
              show Steps p.tables e below (s₁.setTop (mkF m 26 #[.val (.ref a1), .val (.ref a2), .val (.int (1 : Int32)), .val (.int (2 : Int32))] [(.double (FP.i2d p2)), (.int (1 : Int32))])) _
              refine XS.aloadN X0.here hx rfl (hb hby d2_26) rfl rfl ?_
              show Steps p.tables e below (s₁.setTop (mkF m 27 #[.val (.ref a1), .val (.ref a2), .val (.int (1 : Int32)), .val (.int (2 : Int32))] [(.ref a2), (.double (FP.i2d p2)), (.int (1 : Int32))])) _
              refine XS.iloadN X0.here hx rfl (hb hby d2_27) rfl ?_
              exact k)
            obtain ⟨c157, Ar157, -, As157, An157, Ah157, -⟩ := id V2
            have hin157 : ¬ ((2 : Int32) < 0 ∨ c157.slots.size ≤ ((2 : Int32)).toNatClampNeg) := inb_of As157 ⟨by decide, by decide⟩
            have hat157 : c157.slots[((2 : Int32)).toNatClampNeg]? = some (.double (FP.i2d q2)) := Has.at Ah157 hin157 rfl
            have k158 : ∀ t, Steps p.tables e below (s₁.setTop (mkF m 30 #[.val (.ref a1), .val (.ref a2), .val (.int (1 : Int32)), .val (.int (2 : Int32))] [(.int (cmpValue (FP.dcmp (FP.i2d p2) (FP.i2d q2)) .g)), (.int (1 : Int32))])) t → Steps p.tables e below (s₁.setTop (entryFrame m #[(.ref a1), (.ref a2)] 4)) t := fun t k => k156 t (by
              show Steps p.tables e below (s₁.setTop (mkF m 28 #[.val (.ref a1), .val (.ref a2), .val (.int (1 : Int32)), .val (.int (2 : Int32))] [(.int (2 : Int32)), (.ref a2), (.double (FP.i2d p2)), (.int (1 : Int32))])) _
              refine X0.daload hx (j := (2 : Int32)) (v := (.double (FP.i2d q2))) (by rw [e0]; exact Ar157.1) (State.isArrayOf_alike hZ.alike Ar157.2.1) Ar157.2.2 hin157 hat157 (g := (mkF m 28 #[.val (.ref a1), .val (.ref a2), .val (.int (1 : Int32)), .val (.int (2 : Int32))] [(.int (2 : Int32)), (.ref a2), (.double (FP.i2d p2)), (.int (1 : Int32))])) rfl rfl (hb hby d2_28) _ ?_
              show Steps p.tables e below (s₁.setTop (mkF m 29 #[.val (.ref a1), .val (.ref a2), .val (.int (1 : Int32)), .val (.int (2 : Int32))] [(.double (FP.i2d q2)), (.double (FP.i2d p2)), (.int (1 : Int32))])) _
              refine XS.dcmpS X0.here hx rfl (hb hby d2_29) rfl rfl ?_
              exact k)
            by_cases d2 : p2 < q2
            · have k159 : ∀ t, Steps p.tables e below (s₁.setTop (mkF m 6 #[.val (.ref a1), .val (.ref a2), .val (.int (1 : Int32)), .val (.int (3 : Int32))] [(.ref a1), (.int (3 : Int32))])) t → Steps p.tables e below (s₁.setTop (entryFrame m #[(.ref a1), (.ref a2)] 4)) t := fun t k => k158 t (by
                show Steps p.tables e below (s₁.setTop (mkF m 30 #[.val (.ref a1), .val (.ref a2), .val (.int (1 : Int32)), .val (.int (2 : Int32))] [(.int (cmpValue (FP.dcmp (FP.i2d p2) (FP.i2d q2)) .g)), (.int (1 : Int32))])) _
                refine XS.ifNo X0.here hx rfl (hb hby d2_30) rfl ((if0 _ _).trans (tlt (own_lt.mpr d2)).2.1) ?_
                show Steps p.tables e below (s₁.setTop (mkF m 33 #[.val (.ref a1), .val (.ref a2), .val (.int (1 : Int32)), .val (.int (2 : Int32))] [(.int (1 : Int32))])) _
                refine XS.iconst X0.here hx rfl (hb hby d2_33) ?_
                show Steps p.tables e below (s₁.setTop (mkF m 34 #[.val (.ref a1), .val (.ref a2), .val (.int (1 : Int32)), .val (.int (2 : Int32))] [(.int (1 : Int32)), (.int (1 : Int32))])) _
                refine XS.goto X0.here hx rfl (pc0 := 34) (pc' := 38) rfl (hb hby d2_34) (by decide) (by decide) ?_
                show Steps p.tables e below (s₁.setTop (mkF m 38 #[.val (.ref a1), .val (.ref a2), .val (.int (1 : Int32)), .val (.int (2 : Int32))] [(.int (1 : Int32)), (.int (1 : Int32))])) _
                refine XS.ior X0.here hx rfl (hb hby d2_38) rfl ?_
                show Steps p.tables e below (s₁.setTop (mkF m 39 #[.val (.ref a1), .val (.ref a2), .val (.int (1 : Int32)), .val (.int (2 : Int32))] [(.int ((1 : Int32) ||| (1 : Int32)))])) _
                refine castTop (g' := (mkF m 39 #[.val (.ref a1), .val (.ref a2), .val (.int (1 : Int32)), .val (.int (2 : Int32))] [(.int (1 : Int32))])) (by rw [show ((1 : Int32) ||| (1 : Int32)) = (1 : Int32) by decide]) ?_
                show Steps p.tables e below (s₁.setTop (mkF m 39 #[.val (.ref a1), .val (.ref a2), .val (.int (1 : Int32)), .val (.int (2 : Int32))] [(.int (1 : Int32))])) _
                refine XS.istoreN X0.here hx rfl (hb hby d2_39) rfl (l' := #[.val (.ref a1), .val (.ref a2), .val (.int (1 : Int32)), .val (.int (2 : Int32))]) rfl ?_
                show Steps p.tables e below (s₁.setTop (mkF m 40 #[.val (.ref a1), .val (.ref a2), .val (.int (1 : Int32)), .val (.int (2 : Int32))] [])) _
                refine XS.iinc X0.here hx rfl (hb hby d2_40) rfl (l' := #[.val (.ref a1), .val (.ref a2), .val (.int (1 : Int32)), .val (.int (3 : Int32))]) rfl ?_
                show Steps p.tables e below (s₁.setTop (mkF m 43 #[.val (.ref a1), .val (.ref a2), .val (.int (1 : Int32)), .val (.int (3 : Int32))] [])) _
                refine XS.goto X0.here hx rfl (pc0 := 43) (pc' := 4) rfl (hb hby d2_43) (by decide) (by decide) ?_
                show Steps p.tables e below (s₁.setTop (mkF m 4 #[.val (.ref a1), .val (.ref a2), .val (.int (1 : Int32)), .val (.int (3 : Int32))] [])) _
                refine XS.iloadN X0.here hx rfl (hb hby d2_4) rfl ?_
                show Steps p.tables e below (s₁.setTop (mkF m 5 #[.val (.ref a1), .val (.ref a2), .val (.int (1 : Int32)), .val (.int (3 : Int32))] [(.int (3 : Int32))])) _
                refine XS.aloadN X0.here hx rfl (hb hby d2_5) rfl rfl ?_
                exact k)
              obtain ⟨c160, Ar160, -, As160, An160, -, -⟩ := id V1
              have k161 : ∀ t, Steps p.tables e below (s₁.setTop (mkF m 47 #[.val (.ref a1), .val (.ref a2), .val (.int (1 : Int32)), .val (.int (3 : Int32))] [(.int (1 : Int32))])) t → Steps p.tables e below (s₁.setTop (entryFrame m #[(.ref a1), (.ref a2)] 4)) t := fun t k => k159 t (by
                show Steps p.tables e below (s₁.setTop (mkF m 6 #[.val (.ref a1), .val (.ref a2), .val (.int (1 : Int32)), .val (.int (3 : Int32))] [(.ref a1), (.int (3 : Int32))])) _
                refine X0.arraylength hx (by rw [e0]; exact Ar160.1) (State.isArrayOf_alike hZ.alike Ar160.2.1) (g := (mkF m 6 #[.val (.ref a1), .val (.ref a2), .val (.int (1 : Int32)), .val (.int (3 : Int32))] [(.ref a1), (.int (3 : Int32))])) rfl rfl (hb hby d2_6) _ ?_
                rw [len_of As160 An160]
                show Steps p.tables e below (s₁.setTop (mkF m 7 #[.val (.ref a1), .val (.ref a2), .val (.int (1 : Int32)), .val (.int (3 : Int32))] [(.int (3 : Int32)), (.int (3 : Int32))])) _
                refine XS.icmpYes X0.here hx rfl (pc0 := 7) (pc' := 46) rfl (hb hby d2_7) rfl (flt (by decide)).2.1 (by decide) (by decide) ?_
                show Steps p.tables e below (s₁.setTop (mkF m 46 #[.val (.ref a1), .val (.ref a2), .val (.int (1 : Int32)), .val (.int (3 : Int32))] [])) _
                refine XS.iloadN X0.here hx rfl (hb hby d2_46) rfl ?_
                exact k)
              obtain ⟨fs, hr, hrun, hended, hW, hsame⟩ := X0.leave (v := some (.int (1 : Int32))) (fun h => by rw [Bd.returns] at h; cases h)
              refine ⟨_, _, k161 _ (retOut X0 hx (t := .boolean) Bd.returns rfl (Or.inl ⟨rfl, Or.inr (Or.inl rfl), _, rfl⟩) (hb hby d2_47) hr), hrun, hended, _, _, rfl, ?_, ⟨_, rfl⟩, hW, hsame.mono (by decide) (by decide)⟩
              show Q_dom3 Z a1 a2 k1 k2 p0 p1 p2 q0 q1 q2 h0 n0 _ s₁.heap _
              rw [e0]
              exact ⟨by simp [own_dom, c0, d0, c1, d1, c2, d2], N0, rfl⟩
            · have k162 : ∀ t, Steps p.tables e below (s₁.setTop (mkF m 6 #[.val (.ref a1), .val (.ref a2), .val (.int (1 : Int32)), .val (.int (3 : Int32))] [(.ref a1), (.int (3 : Int32))])) t → Steps p.tables e below (s₁.setTop (entryFrame m #[(.ref a1), (.ref a2)] 4)) t := fun t k => k158 t (by
                show Steps p.tables e below (s₁.setTop (mkF m 30 #[.val (.ref a1), .val (.ref a2), .val (.int (1 : Int32)), .val (.int (2 : Int32))] [(.int (cmpValue (FP.dcmp (FP.i2d p2) (FP.i2d q2)) .g)), (.int (1 : Int32))])) _
                refine XS.ifYes X0.here hx rfl (pc0 := 30) (pc' := 37) rfl (hb hby d2_30) rfl ((if0 _ _).trans (flt (fun h => d2 (own_lt.mp h))).2.1) (by decide) (by decide) ?_
                show Steps p.tables e below (s₁.setTop (mkF m 37 #[.val (.ref a1), .val (.ref a2), .val (.int (1 : Int32)), .val (.int (2 : Int32))] [(.int (1 : Int32))])) _
                refine XS.iconst X0.here hx rfl (hb hby d2_37) ?_
                show Steps p.tables e below (s₁.setTop (mkF m 38 #[.val (.ref a1), .val (.ref a2), .val (.int (1 : Int32)), .val (.int (2 : Int32))] [(.int (0 : Int32)), (.int (1 : Int32))])) _
                refine XS.ior X0.here hx rfl (hb hby d2_38) rfl ?_
                show Steps p.tables e below (s₁.setTop (mkF m 39 #[.val (.ref a1), .val (.ref a2), .val (.int (1 : Int32)), .val (.int (2 : Int32))] [(.int ((1 : Int32) ||| (0 : Int32)))])) _
                refine castTop (g' := (mkF m 39 #[.val (.ref a1), .val (.ref a2), .val (.int (1 : Int32)), .val (.int (2 : Int32))] [(.int (1 : Int32))])) (by rw [show ((1 : Int32) ||| (0 : Int32)) = (1 : Int32) by decide]) ?_
                show Steps p.tables e below (s₁.setTop (mkF m 39 #[.val (.ref a1), .val (.ref a2), .val (.int (1 : Int32)), .val (.int (2 : Int32))] [(.int (1 : Int32))])) _
                refine XS.istoreN X0.here hx rfl (hb hby d2_39) rfl (l' := #[.val (.ref a1), .val (.ref a2), .val (.int (1 : Int32)), .val (.int (2 : Int32))]) rfl ?_
                show Steps p.tables e below (s₁.setTop (mkF m 40 #[.val (.ref a1), .val (.ref a2), .val (.int (1 : Int32)), .val (.int (2 : Int32))] [])) _
                refine XS.iinc X0.here hx rfl (hb hby d2_40) rfl (l' := #[.val (.ref a1), .val (.ref a2), .val (.int (1 : Int32)), .val (.int (3 : Int32))]) rfl ?_
                show Steps p.tables e below (s₁.setTop (mkF m 43 #[.val (.ref a1), .val (.ref a2), .val (.int (1 : Int32)), .val (.int (3 : Int32))] [])) _
                refine XS.goto X0.here hx rfl (pc0 := 43) (pc' := 4) rfl (hb hby d2_43) (by decide) (by decide) ?_
                show Steps p.tables e below (s₁.setTop (mkF m 4 #[.val (.ref a1), .val (.ref a2), .val (.int (1 : Int32)), .val (.int (3 : Int32))] [])) _
                refine XS.iloadN X0.here hx rfl (hb hby d2_4) rfl ?_
                show Steps p.tables e below (s₁.setTop (mkF m 5 #[.val (.ref a1), .val (.ref a2), .val (.int (1 : Int32)), .val (.int (3 : Int32))] [(.int (3 : Int32))])) _
                refine XS.aloadN X0.here hx rfl (hb hby d2_5) rfl rfl ?_
                exact k)
              obtain ⟨c163, Ar163, -, As163, An163, -, -⟩ := id V1
              have k164 : ∀ t, Steps p.tables e below (s₁.setTop (mkF m 47 #[.val (.ref a1), .val (.ref a2), .val (.int (1 : Int32)), .val (.int (3 : Int32))] [(.int (1 : Int32))])) t → Steps p.tables e below (s₁.setTop (entryFrame m #[(.ref a1), (.ref a2)] 4)) t := fun t k => k162 t (by
                show Steps p.tables e below (s₁.setTop (mkF m 6 #[.val (.ref a1), .val (.ref a2), .val (.int (1 : Int32)), .val (.int (3 : Int32))] [(.ref a1), (.int (3 : Int32))])) _
                refine X0.arraylength hx (by rw [e0]; exact Ar163.1) (State.isArrayOf_alike hZ.alike Ar163.2.1) (g := (mkF m 6 #[.val (.ref a1), .val (.ref a2), .val (.int (1 : Int32)), .val (.int (3 : Int32))] [(.ref a1), (.int (3 : Int32))])) rfl rfl (hb hby d2_6) _ ?_
                rw [len_of As163 An163]
                show Steps p.tables e below (s₁.setTop (mkF m 7 #[.val (.ref a1), .val (.ref a2), .val (.int (1 : Int32)), .val (.int (3 : Int32))] [(.int (3 : Int32)), (.int (3 : Int32))])) _
                refine XS.icmpYes X0.here hx rfl (pc0 := 7) (pc' := 46) rfl (hb hby d2_7) rfl (flt (by decide)).2.1 (by decide) (by decide) ?_
                show Steps p.tables e below (s₁.setTop (mkF m 46 #[.val (.ref a1), .val (.ref a2), .val (.int (1 : Int32)), .val (.int (3 : Int32))] [])) _
                refine XS.iloadN X0.here hx rfl (hb hby d2_46) rfl ?_
                exact k)
              obtain ⟨fs, hr, hrun, hended, hW, hsame⟩ := X0.leave (v := some (.int (1 : Int32))) (fun h => by rw [Bd.returns] at h; cases h)
              refine ⟨_, _, k164 _ (retOut X0 hx (t := .boolean) Bd.returns rfl (Or.inl ⟨rfl, Or.inr (Or.inl rfl), _, rfl⟩) (hb hby d2_47) hr), hrun, hended, _, _, rfl, ?_, ⟨_, rfl⟩, hW, hsame.mono (by decide) (by decide)⟩
              show Q_dom3 Z a1 a2 k1 k2 p0 p1 p2 q0 q1 q2 h0 n0 _ s₁.heap _
              rw [e0]
              exact ⟨by simp [own_dom, c0, d0, c1, d1, c2, d2], N0, rfl⟩
    · have k165 : ∀ t, Steps p.tables e below (s₁.setTop (mkF m 6 #[.val (.ref a1), .val (.ref a2), .val (.int (0 : Int32)), .val (.int (1 : Int32))] [(.ref a1), (.int (1 : Int32))])) t → Steps p.tables e below (s₁.setTop (entryFrame m #[(.ref a1), (.ref a2)] 4)) t := fun t k => k113 t (by
        show Steps p.tables e below (s₁.setTop (mkF m 30 #[.val (.ref a1), .val (.ref a2), .val (.int (0 : Int32)), .val (.int (0 : Int32))] [(.int (cmpValue (FP.dcmp (FP.i2d p0) (FP.i2d q0)) .g)), (.int (0 : Int32))])) _
        refine XS.ifYes X0.here hx rfl (pc0 := 30) (pc' := 37) rfl (hb hby d2_30) rfl ((if0 _ _).trans (flt (fun h => d0 (own_lt.mp h))).2.1) (by decide) (by decide) ?_
        show Steps p.tables e below (s₁.setTop (mkF m 37 #[.val (.ref a1), .val (.ref a2), .val (.int (0 : Int32)), .val (.int (0 : Int32))] [(.int (0 : Int32))])) _
        refine XS.iconst X0.here hx rfl (hb hby d2_37) ?_
        show Steps p.tables e below (s₁.setTop (mkF m 38 #[.val (.ref a1), .val (.ref a2), .val (.int (0 : Int32)), .val (.int (0 : Int32))] [(.int (0 : Int32)), (.int (0 : Int32))])) _
        refine XS.ior X0.here hx rfl (hb hby d2_38) rfl ?_
        show Steps p.tables e below (s₁.setTop (mkF m 39 #[.val (.ref a1), .val (.ref a2), .val (.int (0 : Int32)), .val (.int (0 : Int32))] [(.int ((0 : Int32) ||| (0 : Int32)))])) _
        refine castTop (g' := (mkF m 39 #[.val (.ref a1), .val (.ref a2), .val (.int (0 : Int32)), .val (.int (0 : Int32))] [(.int (0 : Int32))])) (by rw [show ((0 : Int32) ||| (0 : Int32)) = (0 : Int32) by decide]) ?_
        show Steps p.tables e below (s₁.setTop (mkF m 39 #[.val (.ref a1), .val (.ref a2), .val (.int (0 : Int32)), .val (.int (0 : Int32))] [(.int (0 : Int32))])) _
        refine XS.istoreN X0.here hx rfl (hb hby d2_39) rfl (l' := #[.val (.ref a1), .val (.ref a2), .val (.int (0 : Int32)), .val (.int (0 : Int32))]) rfl ?_
        show Steps p.tables e below (s₁.setTop (mkF m 40 #[.val (.ref a1), .val (.ref a2), .val (.int (0 : Int32)), .val (.int (0 : Int32))] [])) _
        refine XS.iinc X0.here hx rfl (hb hby d2_40) rfl (l' := #[.val (.ref a1), .val (.ref a2), .val (.int (0 : Int32)), .val (.int (1 : Int32))]) rfl ?_
        show Steps p.tables e below (s₁.setTop (mkF m 43 #[.val (.ref a1), .val (.ref a2), .val (.int (0 : Int32)), .val (.int (1 : Int32))] [])) _
        refine XS.goto X0.here hx rfl (pc0 := 43) (pc' := 4) rfl (hb hby d2_43) (by decide) (by decide) ?_
        show Steps p.tables e below (s₁.setTop (mkF m 4 #[.val (.ref a1), .val (.ref a2), .val (.int (0 : Int32)), .val (.int (1 : Int32))] [])) _
        refine XS.iloadN X0.here hx rfl (hb hby d2_4) rfl ?_
        show Steps p.tables e below (s₁.setTop (mkF m 5 #[.val (.ref a1), .val (.ref a2), .val (.int (0 : Int32)), .val (.int (1 : Int32))] [(.int (1 : Int32))])) _
        refine XS.aloadN X0.here hx rfl (hb hby d2_5) rfl rfl ?_
        exact k)
      obtain ⟨c166, Ar166, -, As166, An166, -, -⟩ := id V1
      have k167 : ∀ t, Steps p.tables e below (s₁.setTop (mkF m 12 #[.val (.ref a1), .val (.ref a2), .val (.int (0 : Int32)), .val (.int (1 : Int32))] [(.int (1 : Int32)), (.ref a1)])) t → Steps p.tables e below (s₁.setTop (entryFrame m #[(.ref a1), (.ref a2)] 4)) t := fun t k => k165 t (by
        show Steps p.tables e below (s₁.setTop (mkF m 6 #[.val (.ref a1), .val (.ref a2), .val (.int (0 : Int32)), .val (.int (1 : Int32))] [(.ref a1), (.int (1 : Int32))])) _
        refine X0.arraylength hx (by rw [e0]; exact Ar166.1) (State.isArrayOf_alike hZ.alike Ar166.2.1) (g := (mkF m 6 #[.val (.ref a1), .val (.ref a2), .val (.int (0 : Int32)), .val (.int (1 : Int32))] [(.ref a1), (.int (1 : Int32))])) rfl rfl (hb hby d2_6) _ ?_
        rw [len_of As166 An166]
        show Steps p.tables e below (s₁.setTop (mkF m 7 #[.val (.ref a1), .val (.ref a2), .val (.int (0 : Int32)), .val (.int (1 : Int32))] [(.int (3 : Int32)), (.int (1 : Int32))])) _
        refine XS.icmpNo X0.here hx rfl (hb hby d2_7) rfl (tlt (by decide)).2.1 ?_
        show Steps p.tables e below (s₁.setTop (mkF m 10 #[.val (.ref a1), .val (.ref a2), .val (.int (0 : Int32)), .val (.int (1 : Int32))] [])) _
        refine XS.aloadN X0.here hx rfl (hb hby d2_10) rfl rfl ?_
        show Steps p.tables e below (s₁.setTop (mkF m 11 #[.val (.ref a1), .val (.ref a2), .val (.int (0 : Int32)), .val (.int (1 : Int32))] [(.ref a1)])) _
        refine XS.iloadN X0.here hx rfl (hb hby d2_11) rfl ?_
        exact k)
      obtain ⟨c168, Ar168, -, As168, An168, Ah168, -⟩ := id V1
      have hin168 : ¬ ((1 : Int32) < 0 ∨ c168.slots.size ≤ ((1 : Int32)).toNatClampNeg) := inb_of As168 ⟨by decide, by decide⟩
      have hat168 : c168.slots[((1 : Int32)).toNatClampNeg]? = some (.double (FP.i2d p1)) := Has.at Ah168 hin168 rfl
      have k169 : ∀ t, Steps p.tables e below (s₁.setTop (mkF m 15 #[.val (.ref a1), .val (.ref a2), .val (.int (0 : Int32)), .val (.int (1 : Int32))] [(.int (1 : Int32)), (.ref a2), (.double (FP.i2d p1))])) t → Steps p.tables e below (s₁.setTop (entryFrame m #[(.ref a1), (.ref a2)] 4)) t := fun t k => k167 t (by
        show Steps p.tables e below (s₁.setTop (mkF m 12 #[.val (.ref a1), .val (.ref a2), .val (.int (0 : Int32)), .val (.int (1 : Int32))] [(.int (1 : Int32)), (.ref a1)])) _
        refine X0.daload hx (j := (1 : Int32)) (v := (.double (FP.i2d p1))) (by rw [e0]; exact Ar168.1) (State.isArrayOf_alike hZ.alike Ar168.2.1) Ar168.2.2 hin168 hat168 (g := (mkF m 12 #[.val (.ref a1), .val (.ref a2), .val (.int (0 : Int32)), .val (.int (1 : Int32))] [(.int (1 : Int32)), (.ref a1)])) rfl rfl (hb hby d2_12) _ ?_
        show Steps p.tables e below (s₁.setTop (mkF m 13 #[.val (.ref a1), .val (.ref a2), .val (.int (0 : Int32)), .val (.int (1 : Int32))] [(.double (FP.i2d p1))])) _
        refine XS.aloadN X0.here hx rfl (hb hby d2_13) rfl rfl ?_
        show Steps p.tables e below (s₁.setTop (mkF m 14 #[.val (.ref a1), .val (.ref a2), .val (.int (0 : Int32)), .val (.int (1 : Int32))] [(.ref a2), (.double (FP.i2d p1))])) _
        refine XS.iloadN X0.here hx rfl (hb hby d2_14) rfl ?_
        exact k)
      obtain ⟨c170, Ar170, -, As170, An170, Ah170, -⟩ := id V2
      have hin170 : ¬ ((1 : Int32) < 0 ∨ c170.slots.size ≤ ((1 : Int32)).toNatClampNeg) := inb_of As170 ⟨by decide, by decide⟩
      have hat170 : c170.slots[((1 : Int32)).toNatClampNeg]? = some (.double (FP.i2d q1)) := Has.at Ah170 hin170 rfl
      have k171 : ∀ t, Steps p.tables e below (s₁.setTop (mkF m 17 #[.val (.ref a1), .val (.ref a2), .val (.int (0 : Int32)), .val (.int (1 : Int32))] [(.int (cmpValue (FP.dcmp (FP.i2d p1) (FP.i2d q1)) .l))])) t → Steps p.tables e below (s₁.setTop (entryFrame m #[(.ref a1), (.ref a2)] 4)) t := fun t k => k169 t (by
        show Steps p.tables e below (s₁.setTop (mkF m 15 #[.val (.ref a1), .val (.ref a2), .val (.int (0 : Int32)), .val (.int (1 : Int32))] [(.int (1 : Int32)), (.ref a2), (.double (FP.i2d p1))])) _
        refine X0.daload hx (j := (1 : Int32)) (v := (.double (FP.i2d q1))) (by rw [e0]; exact Ar170.1) (State.isArrayOf_alike hZ.alike Ar170.2.1) Ar170.2.2 hin170 hat170 (g := (mkF m 15 #[.val (.ref a1), .val (.ref a2), .val (.int (0 : Int32)), .val (.int (1 : Int32))] [(.int (1 : Int32)), (.ref a2), (.double (FP.i2d p1))])) rfl rfl (hb hby d2_15) _ ?_
        show Steps p.tables e below (s₁.setTop (mkF m 16 #[.val (.ref a1), .val (.ref a2), .val (.int (0 : Int32)), .val (.int (1 : Int32))] [(.double (FP.i2d q1)), (.double (FP.i2d p1))])) _
        refine XS.dcmpS X0.here hx rfl (hb hby d2_16) rfl rfl ?_
        exact k)
      by_cases c1 : q1 < p1
      · have k172 : ∀ t, Steps p.tables e below (s₁.setTop (mkF m 21 #[.val (.ref a1), .val (.ref a2), .val (.int (0 : Int32)), .val (.int (1 : Int32))] [(.int (0 : Int32))])) t → Steps p.tables e below (s₁.setTop (entryFrame m #[(.ref a1), (.ref a2)] 4)) t := fun t k => k171 t (by
          show Steps p.tables e below (s₁.setTop (mkF m 17 #[.val (.ref a1), .val (.ref a2), .val (.int (0 : Int32)), .val (.int (1 : Int32))] [(.int (cmpValue (FP.dcmp (FP.i2d p1) (FP.i2d q1)) .l))])) _
          refine XS.ifNo X0.here hx rfl (hb hby d2_17) rfl ((if0 _ _).trans (tlt (own_gt.mpr c1)).2.2.2) ?_
          show Steps p.tables e below (s₁.setTop (mkF m 20 #[.val (.ref a1), .val (.ref a2), .val (.int (0 : Int32)), .val (.int (1 : Int32))] [])) _
          refine XS.iconst X0.here hx rfl (hb hby d2_20) ?_
          exact k)
        obtain ⟨fs, hr, hrun, hended, hW, hsame⟩ := X0.leave (v := some (.int (0 : Int32))) (fun h => by rw [Bd.returns] at h; cases h)
        refine ⟨_, _, k172 _ (retOut X0 hx (t := .boolean) Bd.returns rfl (Or.inl ⟨rfl, Or.inr (Or.inl rfl), _, rfl⟩) (hb hby d2_21) hr), hrun, hended, _, _, rfl, ?_, ⟨_, rfl⟩, hW, hsame.mono (by decide) (by decide)⟩
        show Q_dom3 Z a1 a2 k1 k2 p0 p1 p2 q0 q1 q2 h0 n0 _ s₁.heap _
        rw [e0]
        exact ⟨by simp [own_dom, c0, d0, c1], N0, rfl⟩
      · have k173 : ∀ t, Steps p.tables e below (s₁.setTop (mkF m 25 #[.val (.ref a1), .val (.ref a2), .val (.int (0 : Int32)), .val (.int (1 : Int32))] [(.int (1 : Int32)), (.ref a1), (.int (0 : Int32))])) t → Steps p.tables e below (s₁.setTop (entryFrame m #[(.ref a1), (.ref a2)] 4)) t := fun t k => k171 t (by
          show Steps p.tables e below (s₁.setTop (mkF m 17 #[.val (.ref a1), .val (.ref a2), .val (.int (0 : Int32)), .val (.int (1 : Int32))] [(.int (cmpValue (FP.dcmp (FP.i2d p1) (FP.i2d q1)) .l))])) _
          refine XS.ifYes X0.here hx rfl (pc0 := 17) (pc' := 22) rfl (hb hby d2_17) rfl ((if0 _ _).trans (flt (fun h => c1 (own_gt.mp h))).2.2.2) (by decide) (by decide) ?_
          show Steps p.tables e below (s₁.setTop (mkF m 22 #[.val (.ref a1), .val (.ref a2), .val (.int (0 : Int32)), .val (.int (1 : Int32))] [])) _
          refine XS.iloadN X0.here hx rfl (hb hby d2_22) rfl ?_
          show Steps p.tables e below (s₁.setTop (mkF m 23 #[.val (.ref a1), .val (.ref a2), .val (.int (0 : Int32)), .val (.int (1 : Int32))] [(.int (0 : Int32))])) _
          refine XS.aloadN X0.here hx rfl (hb hby d2_23) rfl rfl ?_
          show Steps p.tables e below (s₁.setTop (mkF m 24 #[.val (.ref a1), .val (.ref a2), .val (.int (0 : Int32)), .val (.int (1 : Int32))] [(.ref a1), (.int (0 : Int32))])) _
          refine XS.iloadN X0.here hx rfl (hb hby d2_24) rfl ?_
          exact k)
        obtain ⟨c174, Ar174, -, As174, An174, Ah174, -⟩ := id V1
        have hin174 : ¬ ((1 : Int32) < 0 ∨ c174.slots.size ≤ ((1 : Int32)).toNatClampNeg) := inb_of As174 ⟨by decide, by decide⟩
        have hat174 : c174.slots[((1 : Int32)).toNatClampNeg]? = some (.double (FP.i2d p1)) := Has.at Ah174 hin174 rfl
        have k175 : ∀ t, Steps p.tables e below (s₁.setTop (mkF m 28 #[.val (.ref a1), .val (.ref a2), .val (.int (0 : Int32)), .val (.int (1 : Int32))] [(.int (1 : Int32)), (.ref a2), (.double (FP.i2d p1)), (.int (0 : Int32))])) t → Steps p.tables e below (s₁.setTop (entryFrame m #[(.ref a1), (.ref a2)] 4)) t := fun t k => k173 t (by
          show Steps p.tables e below (s₁.setTop (mkF m 25 #[.val (.ref a1), .val (.ref a2), .val (.int (0 : Int32)), .val (.int (1 : Int32))] [(.int (1 : Int32)), (.ref a1), (.int (0 : Int32))])) _
          refine X0.daload hx (j := (1 : Int32)) (v := (.double (FP.i2d p1))) (by rw [e0]; exact Ar174.1) (State.isArrayOf_alike hZ.alike Ar174.2.1) Ar174.2.2 hin174 hat174 (g := (mkF m 25 #[.val (.ref a1), .val (.ref a2), .val (.int (0 : Int32)), .val (.int (1 : Int32))] [(.int (1 : Int32)), (.ref a1), (.int (0 : Int32))])) rfl rfl (hb hby d2_25) _ ?_
          show Steps p.tables e below (s₁.setTop (mkF m 26 #[.val (.ref a1), .val (.ref a2), .val (.int (0 : Int32)), .val (.int (1 : Int32))] [(.double (FP.i2d p1)), (.int (0 : Int32))])) _
          refine XS.aloadN X0.here hx rfl (hb hby d2_26) rfl rfl ?_
          show Steps p.tables e below (s₁.setTop (mkF m 27 #[.val (.ref a1), .val (.ref a2), .val (.int (0 : Int32)), .val (.int (1 : Int32))] [(.ref a2), (.double (FP.i2d p1)), (.int (0 : Int32))])) _
          refine XS.iloadN X0.here hx rfl (hb hby d2_27) rfl ?_
          exact k)
        obtain ⟨c176, Ar176, -, As176, An176, Ah176, -⟩ := id V2
        have hin176 : ¬ ((1 : Int32) < 0 ∨ c176.slots.size ≤ ((1 : Int32)).toNatClampNeg) := inb_of As176 ⟨by decide, by decide⟩
        have hat176 : c176.slots[((1 : Int32)).toNatClampNeg]? = some (.double (FP.i2d q1)) := Has.at Ah176 hin176 rfl
        have k177 : ∀ t, Steps p.tables e below (s₁.setTop (mkF m 30 #[.val (.ref a1), .val (.ref a2), .val (.int (0 : Int32)), .val (.int (1 : Int32))] [(.int (cmpValue (FP.dcmp (FP.i2d p1) (FP.i2d q1)) .g)), (.int (0 : Int32))])) t → Steps p.tables e below (s₁.setTop (entryFrame m #[(.ref a1), (.ref a2)] 4)) t := fun t k => k175 t (by
          show Steps p.tables e below (s₁.setTop (mkF m 28 #[.val (.ref a1), .val (.ref a2), .val (.int (0 : Int32)), .val (.int (1 : Int32))] [(.int (1 : Int32)), (.ref a2), (.double (FP.i2d p1)), (.int (0 : Int32))])) _
          refine X0.daload hx (j := (1 : Int32)) (v := (.double (FP.i2d q1))) (by rw [e0]; exact Ar176.1) (State.isArrayOf_alike hZ.alike Ar176.2.1) Ar176.2.2 hin176 hat176 (g := (mkF m 28 #[.val (.ref a1), .val (.ref a2), .val (.int (0 : Int32)), .val (.int (1 : Int32))] [(.int (1 : Int32)), (.ref a2), (.double (FP.i2d p1)), (.int (0 : Int32))])) rfl rfl (hb hby d2_28) _ ?_
          show Steps p.tables e below (s₁.setTop (mkF m 29 #[.val (.ref a1), .val (.ref a2), .val (.int (0 : Int32)), .val (.int (1 : Int32))] [(.double (FP.i2d q1)), (.double (FP.i2d p1)), (.int (0 : Int32))])) _
          refine XS.dcmpS X0.here hx rfl (hb hby d2_29) rfl rfl ?_
          exact k)
        by_cases d1 : p1 < q1
        · have k178 : ∀ t, Steps p.tables e below (s₁.setTop (mkF m 6 #[.val (.ref a1), .val (.ref a2), .val (.int (1 : Int32)), .val (.int (2 : Int32))] [(.ref a1), (.int (2 : Int32))])) t → Steps p.tables e below (s₁.setTop (entryFrame m #[(.ref a1), (.ref a2)] 4)) t := fun t k => k177 t (by
            show Steps p.tables e below (s₁.setTop (mkF m 30 #[.val (.ref a1), .val (.ref a2), .val (.int (0 : Int32)), .val (.int (1 : Int32))] [(.int (cmpValue (FP.dcmp (FP.i2d p1) (FP.i2d q1)) .g)), (.int (0 : Int32))])) _
            refine XS.ifNo X0.here hx rfl (hb hby d2_30) rfl ((if0 _ _).trans (tlt (own_lt.mpr d1)).2.1) ?_
            show Steps p.tables e below (s₁.setTop (mkF m 33 #[.val (.ref a1), .val (.ref a2), .val (.int (0 : Int32)), .val (.int (1 : Int32))] [(.int (0 : Int32))])) _
            refine XS.iconst X0.here hx rfl (hb hby d2_33) ?_
            show Steps p.tables e below (s₁.setTop (mkF m 34 #[.val (.ref a1), .val (.ref a2), .val (.int (0 : Int32)), .val (.int (1 : Int32))] [(.int (1 : Int32)), (.int (0 : Int32))])) _
            refine XS.goto X0.here hx rfl (pc0 := 34) (pc' := 38) rfl (hb hby d2_34) (by decide) (by decide) ?_
            show Steps p.tables e below (s₁.setTop (mkF m 38 #[.val (.ref a1), .val (.ref a2), .val (.int (0 : Int32)), .val (.int (1 : Int32))] [(.int (1 : Int32)), (.int (0 : Int32))])) _
            refine XS.ior X0.here hx rfl (hb hby d2_38) rfl ?_
            show Steps p.tables e below (s₁.setTop (mkF m 39 #[.val (.ref a1), .val (.ref a2), .val (.int (0 : Int32)), .val (.int (1 : Int32))] [(.int ((0 : Int32) ||| (1 : Int32)))])) _
            refine castTop (g' := (mkF m 39 #[.val (.ref a1), .val (.ref a2), .val (.int (0 : Int32)), .val (.int (1 : Int32))] [(.int (1 : Int32))])) (by rw [show ((0 : Int32) ||| (1 : Int32)) = (1 : Int32) by decide]) ?_
            show Steps p.tables e below (s₁.setTop (mkF m 39 #[.val (.ref a1), .val (.ref a2), .val (.int (0 : Int32)), .val (.int (1 : Int32))] [(.int (1 : Int32))])) _
            refine XS.istoreN X0.here hx rfl (hb hby d2_39) rfl (l' := #[.val (.ref a1), .val (.ref a2), .val (.int (1 : Int32)), .val (.int (1 : Int32))]) rfl ?_
            show Steps p.tables e below (s₁.setTop (mkF m 40 #[.val (.ref a1), .val (.ref a2), .val (.int (1 : Int32)), .val (.int (1 : Int32))] [])) _
            refine XS.iinc X0.here hx rfl (hb hby d2_40) rfl (l' := #[.val (.ref a1), .val (.ref a2), .val (.int (1 : Int32)), .val (.int (2 : Int32))]) rfl ?_
            show Steps p.tables e below (s₁.setTop (mkF m 43 #[.val (.ref a1), .val (.ref a2), .val (.int (1 : Int32)), .val (.int (2 : Int32))] [])) _
            refine XS.goto X0.here hx rfl (pc0 := 43) (pc' := 4) rfl (hb hby d2_43) (by decide) (by decide) ?_
            show Steps p.tables e below (s₁.setTop (mkF m 4 #[.val (.ref a1), .val (.ref a2), .val (.int (1 : Int32)), .val (.int (2 : Int32))] [])) _
            refine XS.iloadN X0.here hx rfl (hb hby d2_4) rfl ?_
            show Steps p.tables e below (s₁.setTop (mkF m 5 #[.val (.ref a1), .val (.ref a2), .val (.int (1 : Int32)), .val (.int (2 : Int32))] [(.int (2 : Int32))])) _
            refine XS.aloadN X0.here hx rfl (hb hby d2_5) rfl rfl ?_
            exact k)
          obtain ⟨c179, Ar179, -, As179, An179, -, -⟩ := id V1
          have k180 : ∀ t, Steps p.tables e below (s₁.setTop (mkF m 12 #[.val (.ref a1), .val (.ref a2), .val (.int (1 : Int32)), .val (.int (2 : Int32))] [(.int (2 : Int32)), (.ref a1)])) t → Steps p.tables e below (s₁.setTop (entryFrame m #[(.ref a1), (.ref a2)] 4)) t := fun t k => k178 t (by
            show Steps p.tables e below (s₁.setTop (mkF m 6 #[.val (.ref a1), .val (.ref a2), .val (.int (1 : Int32)), .val (.int (2 : Int32))] [(.ref a1), (.int (2 : Int32))])) _
            refine X0.arraylength hx (by rw [e0]; exact Ar179.1) (State.isArrayOf_alike hZ.alike Ar179.2.1) (g := (mkF m 6 #[.val (.ref a1), .val (.ref a2), .val (.int (1 : Int32)), .val (.int (2 : Int32))] [(.ref a1), (.int (2 : Int32))])) rfl rfl (hb hby d2_6) _ ?_
            rw [len_of As179 An179]
            show Steps p.tables e below (s₁.setTop (mkF m 7 #[.val (.ref a1), .val (.ref a2), .val (.int (1 : Int32)), .val (.int (2 : Int32))] [(.int (3 : Int32)), (.int (2 : Int32))])) _
            refine XS.icmpNo X0.here hx rfl (hb hby d2_7) rfl (tlt (by decide)).2.1 ?_
            show Steps p.tables e below (s₁.setTop (mkF m 10 #[.val (.ref a1), .val (.ref a2), .val (.int (1 : Int32)), .val (.int (2 : Int32))] [])) _
            refine XS.aloadN X0.here hx rfl (hb hby d2_10) rfl rfl ?_
            show Steps p.tables e below (s₁.setTop (mkF m 11 #[.val (.ref a1), .val (.ref a2), .val (.int (1 : Int32)), .val (.int (2 : Int32))] [(.ref a1)])) _
            refine XS.iloadN X0.here hx rfl (hb hby d2_11) rfl ?_
            exact k)
          obtain ⟨c181, Ar181, -, As181, An181, Ah181, -⟩ := id V1
          have hin181 : ¬ ((2 : Int32) < 0 ∨ c181.slots.size ≤ ((2 : Int32)).toNatClampNeg) := inb_of As181 ⟨by decide, by decide⟩
          have hat181 : c181.slots[((2 : Int32)).toNatClampNeg]? = some (.double (FP.i2d p2)) := Has.at Ah181 hin181 rfl
          have k182 : ∀ t, Steps p.tables e below (s₁.setTop (mkF m 15 #[.val (.ref a1), .val (.ref a2), .val (.int (1 : Int32)), .val (.int (2 : Int32))] [(.int (2 : Int32)), (.ref a2), (.double (FP.i2d p2))])) t → Steps p.tables e below (s₁.setTop (entryFrame m #[(.ref a1), (.ref a2)] 4)) t := fun t k => k180 t (by
            show Steps p.tables e below (s₁.setTop (mkF m 12 #[.val (.ref a1), .val (.ref a2), .val (.int (1 : Int32)), .val (.int (2 : Int32))] [(.int (2 : Int32)), (.ref a1)])) _
            refine X0.daload hx (j := (2 : Int32)) (v := (.double (FP.i2d p2))) (by rw [e0]; exact Ar181.1) (State.isArrayOf_alike hZ.alike Ar181.2.1) Ar181.2.2 hin181 hat181 (g := (mkF m 12 #[.val (.ref a1), .val (.ref a2), .val (.int (1 : Int32)), .val (.int (2 : Int32))] [(.int (2 : Int32)), (.ref a1)])) rfl rfl (hb hby d2_12) _ ?_
            show Steps p.tables e below (s₁.setTop (mkF m 13 #[.val (.ref a1), .val (.ref a2), .val (.int (1 : Int32)), .val (.int (2 : Int32))] [(.double (FP.i2d p2))])) _
            refine XS.aloadN X0.here hx rfl (hb hby d2_13) rfl rfl ?_
            show Steps p.tables e below (s₁.setTop (mkF m 14 #[.val (.ref a1), .val (.ref a2), .val (.int (1 : Int32)), .val (.int (2 : Int32))] [(.ref a2), (.double (FP.i2d p2))])) _
            refine XS.iloadN X0.here hx rfl (hb hby d2_14) rfl ?_
            exact k)
          obtain ⟨c183, Ar183, -, As183, An183, Ah183, -⟩ := id V2
          have hin183 : ¬ ((2 : Int32) < 0 ∨ c183.slots.size ≤ ((2 : Int32)).toNatClampNeg) := inb_of As183 ⟨by decide, by decide⟩
          have hat183 : c183.slots[((2 : Int32)).toNatClampNeg]? = some (.double (FP.i2d q2)) := Has.at Ah183 hin183 rfl
          have k184 : ∀ t, Steps p.tables e below (s₁.setTop (mkF m 17 #[.val (.ref a1), .val (.ref a2), .val (.int (1 : Int32)), .val (.int (2 : Int32))] [(.int (cmpValue (FP.dcmp (FP.i2d p2) (FP.i2d q2)) .l))])) t → Steps p.tables e below (s₁.setTop (entryFrame m #[(.ref a1), (.ref a2)] 4)) t := fun t k => k182 t (by
            show Steps p.tables e below (s₁.setTop (mkF m 15 #[.val (.ref a1), .val (.ref a2), .val (.int (1 : Int32)), .val (.int (2 : Int32))] [(.int (2 : Int32)), (.ref a2), (.double (FP.i2d p2))])) _
            refine X0.daload hx (j := (2 : Int32)) (v := (.double (FP.i2d q2))) (by rw [e0]; exact Ar183.1) (State.isArrayOf_alike hZ.alike Ar183.2.1) Ar183.2.2 hin183 hat183 (g := (mkF m 15 #[.val (.ref a1), .val (.ref a2), .val (.int (1 : Int32)), .val (.int (2 : Int32))] [(.int (2 : Int32)), (.ref a2), (.double (FP.i2d p2))])) rfl rfl (hb hby d2_15) _ ?_
            show Steps p.tables e below (s₁.setTop (mkF m 16 #[.val (.ref a1), .val (.ref a2), .val (.int (1 : Int32)), .val (.int (2 : Int32))] [(.double (FP.i2d q2)), (.double (FP.i2d p2))])) _
            refine XS.dcmpS X0.here hx rfl (hb hby d2_16) rfl rfl ?_
            exact k)
          by_cases c2 : q2 < p2
          · have k185 : ∀ t, Steps p.tables e below (s₁.setTop (mkF m 21 #[.val (.ref a1), .val (.ref a2), .val (.int (1 : Int32)), .val (.int (2 : Int32))] [(.int (0 : Int32))])) t → Steps p.tables e below (s₁.setTop (entryFrame m #[(.ref a1), (.ref a2)] 4)) t := fun t k => k184 t (by
              show Steps p.tables e below (s₁.setTop (mkF m 17 #[.val (.ref a1), .val (.ref a2), .val (.int (1 : Int32)), .val (.int (2 : Int32))] [(.int (cmpValue (FP.dcmp (FP.i2d p2) (FP.i2d q2)) .l))])) _
              refine XS.ifNo X0.here hx rfl (hb hby d2_17) rfl ((if0 _ _).trans (tlt (own_gt.mpr c2)).2.2.2) ?_
              show Steps p.tables e below (s₁.setTop (mkF m 20 #[.val (.ref a1), .val (.ref a2), .val (.int (1 : Int32)), .val (.int (2 : Int32))] [])) _
              refine XS.iconst X0.here hx rfl (hb hby d2_20) ?_
              exact k)
            obtain ⟨fs, hr, hrun, hended, hW, hsame⟩ := X0.leave (v := some (.int (0 : Int32))) (fun h => by rw [Bd.returns] at h; cases h)
            refine ⟨_, _, k185 _ (retOut X0 hx (t := .boolean) Bd.returns rfl (Or.inl ⟨rfl, Or.inr (Or.inl rfl), _, rfl⟩) (hb hby d2_21) hr), hrun, hended, _, _, rfl, ?_, ⟨_, rfl⟩, hW, hsame.mono (by decide) (by decide)⟩
            show Q_dom3 Z a1 a2 k1 k2 p0 p1 p2 q0 q1 q2 h0 n0 _ s₁.heap _
            rw [e0]
            exact ⟨by simp [own_dom, c0, d0, c1, d1, c2], N0, rfl⟩
          · have k186 : ∀ t, Steps p.tables e below (s₁.setTop (mkF m 25 #[.val (.ref a1), .val (.ref a2), .val (.int (1 : Int32)), .val (.int (2 : Int32))] [(.int (2 : Int32)), (.ref a1), (.int (1 : Int32))])) t → Steps p.tables e below (s₁.setTop (entryFrame m #[(.ref a1), (.ref a2)] 4)) t := fun t k => k184 t (by
              show Steps p.tables e below (s₁.setTop (mkF m 17 #[.val (.ref a1), .val (.ref a2), .val (.int (1 : Int32)), .val (.int (2 : Int32))] [(.int (cmpValue (FP.dcmp (FP.i2d p2) (FP.i2d q2)) .l))])) _
              refine XS.ifYes X0.here hx rfl (pc0 := 17) (pc' := 22) rfl (hb hby d2_17) rfl ((if0 _ _).trans (flt (fun h => c2 (own_gt.mp h))).2.2.2) (by decide) (by decide) ?_
              show Steps p.tables e below (s₁.setTop (mkF m 22 #[.val (.ref a1), .val (.ref a2), .val (.int (1 : Int32)), .val (.int (2 : Int32))] [])) _
              refine XS.iloadN X0.here hx rfl (hb hby d2_22) rfl ?_
              show Steps p.tables e below (s₁.setTop (mkF m 23 #[.val (.ref a1), .val (.ref a2), .val (.int (1 : Int32)), .val (.int (2 : Int32))] [(.int (1 : Int32))])) _
              refine XS.aloadN X0.here hx rfl (hb hby d2_23) rfl rfl ?_
              show Steps p.tables e below (s₁.setTop (mkF m 24 #[.val (.ref a1), .val (.ref a2), .val (.int (1 : Int32)), .val (.int (2 : Int32))] [(.ref a1), (.int (1 : Int32))])) _
              refine XS.iloadN X0.here hx rfl (hb hby d2_24) rfl ?_
              exact k)
            obtain ⟨c187, Ar187, -, As187, An187, Ah187, -⟩ := id V1
            have hin187 : ¬ ((2 : Int32) < 0 ∨ c187.slots.size ≤ ((2 : Int32)).toNatClampNeg) := inb_of As187 ⟨by decide, by decide⟩
            have hat187 : c187.slots[((2 : Int32)).toNatClampNeg]? = some (.double (FP.i2d p2)) := Has.at Ah187 hin187 rfl
            have k188 : ∀ t, Steps p.tables e below (s₁.setTop (mkF m 28 #[.val (.ref a1), .val (.ref a2), .val (.int (1 : Int32)), .val (.int (2 : Int32))] [(.int (2 : Int32)), (.ref a2), (.double (FP.i2d p2)), (.int (1 : Int32))])) t → Steps p.tables e below (s₁.setTop (entryFrame m #[(.ref a1), (.ref a2)] 4)) t := fun t k => k186 t (by
              show Steps p.tables e below (s₁.setTop (mkF m 25 #[.val (.ref a1), .val (.ref a2), .val (.int (1 : Int32)), .val (.int (2 : Int32))] [(.int (2 : Int32)), (.ref a1), (.int (1 : Int32))])) _
              refine X0.daload hx (j := (2 : Int32)) (v := (.double (FP.i2d p2))) (by rw [e0]; exact Ar187.1) (State.isArrayOf_alike hZ.alike Ar187.2.1) Ar187.2.2 hin187 hat187 (g := (mkF m 25 #[.val (.ref a1), .val (.ref a2), .val (.int (1 : Int32)), .val (.int (2 : Int32))] [(.int (2 : Int32)), (.ref a1), (.int (1 : Int32))])) rfl rfl (hb hby d2_25) _ ?_
              show Steps p.tables e below (s₁.setTop (mkF m 26 #[.val (.ref a1), .val (.ref a2), .val (.int (1 : Int32)), .val (.int (2 : Int32))] [(.double (FP.i2d p2)), (.int (1 : Int32))])) _
              refine XS.aloadN X0.here hx rfl (hb hby d2_26) rfl rfl ?_
              show Steps p.tables e below (s₁.setTop (mkF m 27 #[.val (.ref a1), .val (.ref a2), .val (.int (1 : Int32)), .val (.int (2 : Int32))] [(.ref a2), (.double (FP.i2d p2)), (.int (1 : Int32))])) _
              refine XS.iloadN X0.here hx rfl (hb hby d2_27) rfl ?_
              exact k)
            obtain ⟨c189, Ar189, -, As189, An189, Ah189, -⟩ := id V2
            have hin189 : ¬ ((2 : Int32) < 0 ∨ c189.slots.size ≤ ((2 : Int32)).toNatClampNeg) := inb_of As189 ⟨by decide, by decide⟩
            have hat189 : c189.slots[((2 : Int32)).toNatClampNeg]? = some (.double (FP.i2d q2)) := Has.at Ah189 hin189 rfl
            have k190 : ∀ t, Steps p.tables e below (s₁.setTop (mkF m 30 #[.val (.ref a1), .val (.ref a2), .val (.int (1 : Int32)), .val (.int (2 : Int32))] [(.int (cmpValue (FP.dcmp (FP.i2d p2) (FP.i2d q2)) .g)), (.int (1 : Int32))])) t → Steps p.tables e below (s₁.setTop (entryFrame m #[(.ref a1), (.ref a2)] 4)) t := fun t k => k188 t (by
              show Steps p.tables e below (s₁.setTop (mkF m 28 #[.val (.ref a1), .val (.ref a2), .val (.int (1 : Int32)), .val (.int (2 : Int32))] [(.int (2 : Int32)), (.ref a2), (.double (FP.i2d p2)), (.int (1 : Int32))])) _
              refine X0.daload hx (j := (2 : Int32)) (v := (.double (FP.i2d q2))) (by rw [e0]; exact Ar189.1) (State.isArrayOf_alike hZ.alike Ar189.2.1) Ar189.2.2 hin189 hat189 (g := (mkF m 28 #[.val (.ref a1), .val (.ref a2), .val (.int (1 : Int32)), .val (.int (2 : Int32))] [(.int (2 : Int32)), (.ref a2), (.double (FP.i2d p2)), (.int (1 : Int32))])) rfl rfl (hb hby d2_28) _ ?_
              show Steps p.tables e below (s₁.setTop (mkF m 29 #[.val (.ref a1), .val (.ref a2), .val (.int (1 : Int32)), .val (.int (2 : Int32))] [(.double (FP.i2d q2)), (.double (FP.i2d p2)), (.int (1 : Int32))])) _
              refine XS.dcmpS X0.here hx rfl (hb hby d2_29) rfl rfl ?_
              exact k)
            by_cases d2 : p2 < q2
            · have k191 : ∀ t, Steps p.tables e below (s₁.setTop (mkF m 6 #[.val (.ref a1), .val (.ref a2), .val (.int (1 : Int32)), .val (.int (3 : Int32))] [(.ref a1), (.int (3 : Int32))])) t → Steps p.tables e below (s₁.setTop (entryFrame m #[(.ref a1), (.ref a2)] 4)) t := fun t k => k190 t (by
                show Steps p.tables e below (s₁.setTop (mkF m 30 #[.val (.ref a1), .val (.ref a2), .val (.int (1 : Int32)), .val (.int (2 : Int32))] [(.int (cmpValue (FP.dcmp (FP.i2d p2) (FP.i2d q2)) .g)), (.int (1 : Int32))])) _
                refine XS.ifNo X0.here hx rfl (hb hby d2_30) rfl ((if0 _ _).trans (tlt (own_lt.mpr d2)).2.1) ?_
                show Steps p.tables e below (s₁.setTop (mkF m 33 #[.val (.ref a1), .val (.ref a2), .val (.int (1 : Int32)), .val (.int (2 : Int32))] [(.int (1 : Int32))])) _
                refine XS.iconst X0.here hx rfl (hb hby d2_33) ?_
                show Steps p.tables e below (s₁.setTop (mkF m 34 #[.val (.ref a1), .val (.ref a2), .val (.int (1 : Int32)), .val (.int (2 : Int32))] [(.int (1 : Int32)), (.int (1 : Int32))])) _
                refine XS.goto X0.here hx rfl (pc0 := 34) (pc' := 38) rfl (hb hby d2_34) (by decide) (by decide) ?_
                show Steps p.tables e below (s₁.setTop (mkF m 38 #[.val (.ref a1), .val (.ref a2), .val (.int (1 : Int32)), .val (.int (2 : Int32))] [(.int (1 : Int32)), (.int (1 : Int32))])) _
                refine XS.ior X0.here hx rfl (hb hby d2_38) rfl ?_
                show Steps p.tables e below (s₁.setTop (mkF m 39 #[.val (.ref a1), .val (.ref a2), .val (.int (1 : Int32)), .val (.int (2 : Int32))] [(.int ((1 : Int32) ||| (1 : Int32)))])) _
                refine castTop (g' := (mkF m 39 #[.val (.ref a1), .val (.ref a2), .val (.int (1 : Int32)), .val (.int (2 : Int32))] [(.int (1 : Int32))])) (by rw [show ((1 : Int32) ||| (1 : Int32)) = (1 : Int32) by decide]) ?_
                show Steps p.tables e below (s₁.setTop (mkF m 39 #[.val (.ref a1), .val (.ref a2), .val (.int (1 : Int32)), .val (.int (2 : Int32))] [(.int (1 : Int32))])) _
                refine XS.istoreN X0.here hx rfl (hb hby d2_39) rfl (l' := #[.val (.ref a1), .val (.ref a2), .val (.int (1 : Int32)), .val (.int (2 : Int32))]) rfl ?_
                show Steps p.tables e below (s₁.setTop (mkF m 40 #[.val (.ref a1), .val (.ref a2), .val (.int (1 : Int32)), .val (.int (2 : Int32))] [])) _
                refine XS.iinc X0.here hx rfl (hb hby d2_40) rfl (l' := #[.val (.ref a1), .val (.ref a2), .val (.int (1 : Int32)), .val (.int (3 : Int32))]) rfl ?_
                show Steps p.tables e below (s₁.setTop (mkF m 43 #[.val (.ref a1), .val (.ref a2), .val (.int (1 : Int32)), .val (.int (3 : Int32))] [])) _
                refine XS.goto X0.here hx rfl (pc0 := 43) (pc' := 4) rfl (hb hby d2_43) (by decide) (by decide) ?_
                show Steps p.tables e below (s₁.setTop (mkF m 4 #[.val (.ref a1), .val (.ref a2), .val (.int (1 : Int32)), .val (.int (3 : Int32))] [])) _
                refine XS.iloadN X0.here hx rfl (hb hby d2_4) rfl ?_
                show Steps p.tables e below (s₁.setTop (mkF m 5 #[.val (.ref a1), .val (.ref a2), .val (.int (1 : Int32)), .val (.int (3 : Int32))] [(.int (3 : Int32))])) _
                refine XS.aloadN X0.here hx rfl (hb hby d2_5) rfl rfl ?_
                exact k)
              obtain ⟨c192, Ar192, -, As192, An192, -, -⟩ := id V1
              have k193 : ∀ t, Steps p.tables e below (s₁.setTop (mkF m 47 #[.val (.ref a1), .val (.ref a2), .val (.int (1 : Int32)), .val (.int (3 : Int32))] [(.int (1 : Int32))])) t → Steps p.tables e below (s₁.setTop (entryFrame m #[(.ref a1), (.ref a2)] 4)) t := fun t k => k191 t (by
                show Steps p.tables e below (s₁.setTop (mkF m 6 #[.val (.ref a1), .val (.ref a2), .val (.int (1 : Int32)), .val (.int (3 : Int32))] [(.ref a1), (.int (3 : Int32))])) _
                refine X0.arraylength hx (by rw [e0]; exact Ar192.1) (State.isArrayOf_alike hZ.alike Ar192.2.1) (g := (mkF m 6 #[.val (.ref a1), .val (.ref a2), .val (.int (1 : Int32)), .val (.int (3 : Int32))] [(.ref a1), (.int (3 : Int32))])) rfl rfl (hb hby d2_6) _ ?_
                rw [len_of As192 An192]
                show Steps p.tables e below (s₁.setTop (mkF m 7 #[.val (.ref a1), .val (.ref a2), .val (.int (1 : Int32)), .val (.int (3 : Int32))] [(.int (3 : Int32)), (.int (3 : Int32))])) _
                refine XS.icmpYes X0.here hx rfl (pc0 := 7) (pc' := 46) rfl (hb hby d2_7) rfl (flt (by decide)).2.1 (by decide) (by decide) ?_
                show Steps p.tables e below (s₁.setTop (mkF m 46 #[.val (.ref a1), .val (.ref a2), .val (.int (1 : Int32)), .val (.int (3 : Int32))] [])) _
                refine XS.iloadN X0.here hx rfl (hb hby d2_46) rfl ?_
                exact k)
              obtain ⟨fs, hr, hrun, hended, hW, hsame⟩ := X0.leave (v := some (.int (1 : Int32))) (fun h => by rw [Bd.returns] at h; cases h)
              refine ⟨_, _, k193 _ (retOut X0 hx (t := .boolean) Bd.returns rfl (Or.inl ⟨rfl, Or.inr (Or.inl rfl), _, rfl⟩) (hb hby d2_47) hr), hrun, hended, _, _, rfl, ?_, ⟨_, rfl⟩, hW, hsame.mono (by decide) (by decide)⟩
              show Q_dom3 Z a1 a2 k1 k2 p0 p1 p2 q0 q1 q2 h0 n0 _ s₁.heap _
              rw [e0]
              exact ⟨by simp [own_dom, c0, d0, c1, d1, c2, d2], N0, rfl⟩
            · have k194 : ∀ t, Steps p.tables e below (s₁.setTop (mkF m 6 #[.val (.ref a1), .val (.ref a2), .val (.int (1 : Int32)), .val (.int (3 : Int32))] [(.ref a1), (.int (3 : Int32))])) t → Steps p.tables e below (s₁.setTop (entryFrame m #[(.ref a1), (.ref a2)] 4)) t := fun t k => k190 t (by
                show Steps p.tables e below (s₁.setTop (mkF m 30 #[.val (.ref a1), .val (.ref a2), .val (.int (1 : Int32)), .val (.int (2 : Int32))] [(.int (cmpValue (FP.dcmp (FP.i2d p2) (FP.i2d q2)) .g)), (.int (1 : Int32))])) _
                refine XS.ifYes X0.here hx rfl (pc0 := 30) (pc' := 37) rfl (hb hby d2_30) rfl ((if0 _ _).trans (flt (fun h => d2 (own_lt.mp h))).2.1) (by decide) (by decide) ?_
                show Steps p.tables e below (s₁.setTop (mkF m 37 #[.val (.ref a1), .val (.ref a2), .val (.int (1 : Int32)), .val (.int (2 : Int32))] [(.int (1 : Int32))])) _
                refine XS.iconst X0.here hx rfl (hb hby d2_37) ?_
                show Steps p.tables e below (s₁.setTop (mkF m 38 #[.val (.ref a1), .val (.ref a2), .val (.int (1 : Int32)), .val (.int (2 : Int32))] [(.int (0 : Int32)), (.int (1 : Int32))])) _
                refine XS.ior X0.here hx rfl (hb hby d2_38) rfl ?_
                show Steps p.tables e below (s₁.setTop (mkF m 39 #[.val (.ref a1), .val (.ref a2), .val (.int (1 : Int32)), .val (.int (2 : Int32))] [(.int ((1 : Int32) ||| (0 : Int32)))])) _
                refine castTop (g' := (mkF m 39 #[.val (.ref a1), .val (.ref a2), .val (.int (1 : Int32)), .val (.int (2 : Int32))] [(.int (1 : Int32))])) (by rw [show ((1 : Int32) ||| (0 : Int32)) = (1 : Int32) by decide]) ?_
                show Steps p.tables e below (s₁.setTop (mkF m 39 #[.val (.ref a1), .val (.ref a2), .val (.int (1 : Int32)), .val (.int (2 : Int32))] [(.int (1 : Int32))])) _
                refine XS.istoreN X0.here hx rfl (hb hby d2_39) rfl (l' := #[.val (.ref a1), .val (.ref a2), .val (.int (1 : Int32)), .val (.int (2 : Int32))]) rfl ?_
                show Steps p.tables e below (s₁.setTop (mkF m 40 #[.val (.ref a1), .val (.ref a2), .val (.int (1 : Int32)), .val (.int (2 : Int32))] [])) _
                refine XS.iinc X0.here hx rfl (hb hby d2_40) rfl (l' := #[.val (.ref a1), .val (.ref a2), .val (.int (1 : Int32)), .val (.int (3 : Int32))]) rfl ?_
                show Steps p.tables e below (s₁.setTop (mkF m 43 #[.val (.ref a1), .val (.ref a2), .val (.int (1 : Int32)), .val (.int (3 : Int32))] [])) _
                refine XS.goto X0.here hx rfl (pc0 := 43) (pc' := 4) rfl (hb hby d2_43) (by decide) (by decide) ?_
                show Steps p.tables e below (s₁.setTop (mkF m 4 #[.val (.ref a1), .val (.ref a2), .val (.int (1 : Int32)), .val (.int (3 : Int32))] [])) _
                refine XS.iloadN X0.here hx rfl (hb hby d2_4) rfl ?_
                show Steps p.tables e below (s₁.setTop (mkF m 5 #[.val (.ref a1), .val (.ref a2), .val (.int (1 : Int32)), .val (.int (3 : Int32))] [(.int (3 : Int32))])) _
                refine XS.aloadN X0.here hx rfl (hb hby d2_5) rfl rfl ?_
                exact k)
              obtain ⟨c195, Ar195, -, As195, An195, -, -⟩ := id V1
              have k196 : ∀ t, Steps p.tables e below (s₁.setTop (mkF m 47 #[.val (.ref a1), .val (.ref a2), .val (.int (1 : Int32)), .val (.int (3 : Int32))] [(.int (1 : Int32))])) t → Steps p.tables e below (s₁.setTop (entryFrame m #[(.ref a1), (.ref a2)] 4)) t := fun t k => k194 t (by
                show Steps p.tables e below (s₁.setTop (mkF m 6 #[.val (.ref a1), .val (.ref a2), .val (.int (1 : Int32)), .val (.int (3 : Int32))] [(.ref a1), (.int (3 : Int32))])) _
                refine X0.arraylength hx (by rw [e0]; exact Ar195.1) (State.isArrayOf_alike hZ.alike Ar195.2.1) (g := (mkF m 6 #[.val (.ref a1), .val (.ref a2), .val (.int (1 : Int32)), .val (.int (3 : Int32))] [(.ref a1), (.int (3 : Int32))])) rfl rfl (hb hby d2_6) _ ?_
                rw [len_of As195 An195]
                show Steps p.tables e below (s₁.setTop (mkF m 7 #[.val (.ref a1), .val (.ref a2), .val (.int (1 : Int32)), .val (.int (3 : Int32))] [(.int (3 : Int32)), (.int (3 : Int32))])) _
                refine XS.icmpYes X0.here hx rfl (pc0 := 7) (pc' := 46) rfl (hb hby d2_7) rfl (flt (by decide)).2.1 (by decide) (by decide) ?_
                show Steps p.tables e below (s₁.setTop (mkF m 46 #[.val (.ref a1), .val (.ref a2), .val (.int (1 : Int32)), .val (.int (3 : Int32))] [])) _
                refine XS.iloadN X0.here hx rfl (hb hby d2_46) rfl ?_
                exact k)
              obtain ⟨fs, hr, hrun, hended, hW, hsame⟩ := X0.leave (v := some (.int (1 : Int32))) (fun h => by rw [Bd.returns] at h; cases h)
              refine ⟨_, _, k196 _ (retOut X0 hx (t := .boolean) Bd.returns rfl (Or.inl ⟨rfl, Or.inr (Or.inl rfl), _, rfl⟩) (hb hby d2_47) hr), hrun, hended, _, _, rfl, ?_, ⟨_, rfl⟩, hW, hsame.mono (by decide) (by decide)⟩
              show Q_dom3 Z a1 a2 k1 k2 p0 p1 p2 q0 q1 q2 h0 n0 _ s₁.heap _
              rw [e0]
              exact ⟨by simp [own_dom, c0, d0, c1, d1, c2, d2], N0, rfl⟩
        · have k197 : ∀ t, Steps p.tables e below (s₁.setTop (mkF m 6 #[.val (.ref a1), .val (.ref a2), .val (.int (0 : Int32)), .val (.int (2 : Int32))] [(.ref a1), (.int (2 : Int32))])) t → Steps p.tables e below (s₁.setTop (entryFrame m #[(.ref a1), (.ref a2)] 4)) t := fun t k => k177 t (by
            show Steps p.tables e below (s₁.setTop (mkF m 30 #[.val (.ref a1), .val (.ref a2), .val (.int (0 : Int32)), .val (.int (1 : Int32))] [(.int (cmpValue (FP.dcmp (FP.i2d p1) (FP.i2d q1)) .g)), (.int (0 : Int32))])) _
            refine XS.ifYes X0.here hx rfl (pc0 := 30) (pc' := 37) rfl (hb hby d2_30) rfl ((if0 _ _).trans (flt (fun h => d1 (own_lt.mp h))).2.1) (by decide) (by decide) ?_
            show Steps p.tables e below (s₁.setTop (mkF m 37 #[.val (.ref a1), .val (.ref a2), .val (.int (0 : Int32)), .val (.int (1 : Int32))] [(.int (0 : Int32))])) _
            refine XS.iconst X0.here hx rfl (hb hby d2_37) ?_
            show Steps p.tables e below (s₁.setTop (mkF m 38 #[.val (.ref a1), .val (.ref a2), .val (.int (0 : Int32)), .val (.int (1 : Int32))] [(.int (0 : Int32)), (.int (0 : Int32))])) _
            refine XS.ior X0.here hx rfl (hb hby d2_38) rfl ?_
            show Steps p.tables e below (s₁.setTop (mkF m 39 #[.val (.ref a1), .val (.ref a2), .val (.int (0 : Int32)), .val (.int (1 : Int32))] [(.int ((0 : Int32) ||| (0 : Int32)))])) _
            refine castTop (g' := (mkF m 39 #[.val (.ref a1), .val (.ref a2), .val (.int (0 : Int32)), .val (.int (1 : Int32))] [(.int (0 : Int32))])) (by rw [show ((0 : Int32) ||| (0 : Int32)) = (0 : Int32) by decide]) ?_
            show Steps p.tables e below (s₁.setTop (mkF m 39 #[.val (.ref a1), .val (.ref a2), .val (.int (0 : Int32)), .val (.int (1 : Int32))] [(.int (0 : Int32))])) _
            refine XS.istoreN X0.here hx rfl (hb hby d2_39) rfl (l' := #[.val (.ref a1), .val (.ref a2), .val (.int (0 : Int32)), .val (.int (1 : Int32))]) rfl ?_
            show Steps p.tables e below (s₁.setTop (mkF m 40 #[.val (.ref a1), .val (.ref a2), .val (.int (0 : Int32)), .val (.int (1 : Int32))] [])) _
            refine XS.iinc X0.here hx rfl (hb hby d2_40) rfl (l' := #[.val (.ref a1), .val (.ref a2), .val (.int (0 : Int32)), .val (.int (2 : Int32))]) rfl ?_
            show Steps p.tables e below (s₁.setTop (mkF m 43 #[.val (.ref a1), .val (.ref a2), .val (.int (0 : Int32)), .val (.int (2 : Int32))] [])) _
            refine XS.goto X0.here hx rfl (pc0 := 43) (pc' := 4) rfl (hb hby d2_43) (by decide) (by decide) ?_
            show Steps p.tables e below (s₁.setTop (mkF m 4 #[.val (.ref a1), .val (.ref a2), .val (.int (0 : Int32)), .val (.int (2 : Int32))] [])) _
            refine XS.iloadN X0.here hx rfl (hb hby d2_4) rfl ?_
            show Steps p.tables e below (s₁.setTop (mkF m 5 #[.val (.ref a1), .val (.ref a2), .val (.int (0 : Int32)), .val (.int (2 : Int32))] [(.int (2 : Int32))])) _
            refine XS.aloadN X0.here hx rfl (hb hby d2_5) rfl rfl ?_
            exact k)
          obtain ⟨c198, Ar198, -, As198, An198, -, -⟩ := id V1
          have k199 : ∀ t, Steps p.tables e below (s₁.setTop (mkF m 12 #[.val (.ref a1), .val (.ref a2), .val (.int (0 : Int32)), .val (.int (2 : Int32))] [(.int (2 : Int32)), (.ref a1)])) t → Steps p.tables e below (s₁.setTop (entryFrame m #[(.ref a1), (.ref a2)] 4)) t := fun t k => k197 t (by
            show Steps p.tables e below (s₁.setTop (mkF m 6 #[.val (.ref a1), .val (.ref a2), .val (.int (0 : Int32)), .val (.int (2 : Int32))] [(.ref a1), (.int (2 : Int32))])) _
            refine X0.arraylength hx (by rw [e0]; exact Ar198.1) (State.isArrayOf_alike hZ.alike Ar198.2.1) (g := (mkF m 6 #[.val (.ref a1), .val (.ref a2), .val (.int (0 : Int32)), .val (.int (2 : Int32))] [(.ref a1), (.int (2 : Int32))])) rfl rfl (hb hby d2_6) _ ?_
            rw [len_of As198 An198]
            show Steps p.tables e below (s₁.setTop (mkF m 7 #[.val (.ref a1), .val (.ref a2), .val (.int (0 : Int32)), .val (.int (2 : Int32))] [(.int (3 : Int32)), (.int (2 : Int32))])) _
            refine XS.icmpNo X0.here hx rfl (hb hby d2_7) rfl (tlt (by decide)).2.1 ?_
            show Steps p.tables e below (s₁.setTop (mkF m 10 #[.val (.ref a1), .val (.ref a2), .val (.int (0 : Int32)), .val (.int (2 : Int32))] [])) _
            refine XS.aloadN X0.here hx rfl (hb hby d2_10) rfl rfl ?_
            show Steps p.tables e below (s₁.setTop (mkF m 11 #[.val (.ref a1), .val (.ref a2), .val (.int (0 : Int32)), .val (.int (2 : Int32))] [(.ref a1)])) _
            refine XS.iloadN X0.here hx rfl (hb hby d2_11) rfl ?_
            exact k)
          obtain ⟨c200, Ar200, -, As200, An200, Ah200, -⟩ := id V1
          have hin200 : ¬ ((2 : Int32) < 0 ∨ c200.slots.size ≤ ((2 : Int32)).toNatClampNeg) := inb_of As200 ⟨by decide, by decide⟩
          have hat200 : c200.slots[((2 : Int32)).toNatClampNeg]? = some (.double (FP.i2d p2)) := Has.at Ah200 hin200 rfl
          have k201 : ∀ t, Steps p.tables e below (s₁.setTop (mkF m 15 #[.val (.ref a1), .val (.ref a2), .val (.int (0 : Int32)), .val (.int (2 : Int32))] [(.int (2 : Int32)), (.ref a2), (.double (FP.i2d p2))])) t → Steps p.tables e below (s₁.setTop (entryFrame m #[(.ref a1), (.ref a2)] 4)) t := fun t k => k199 t (by
            show Steps p.tables e below (s₁.setTop (mkF m 12 #[.val (.ref a1), .val (.ref a2), .val (.int (0 : Int32)), .val (.int (2 : Int32))] [(.int (2 : Int32)), (.ref a1)])) _
            refine X0.daload hx (j := (2 : Int32)) (v := (.double (FP.i2d p2))) (by rw [e0]; exact Ar200.1) (State.isArrayOf_alike hZ.alike Ar200.2.1) Ar200.2.2 hin200 hat200 (g := (mkF m 12 #[.val (.ref a1), .val (.ref a2), .val (.int (0 : Int32)), .val (.int (2 : Int32))] [(.int (2 : Int32)), (.ref a1)])) rfl rfl (hb hby d2_12) _ ?_
            show Steps p.tables e below (s₁.setTop (mkF m 13 #[.val (.ref a1), .val (.ref a2), .val (.int (0 : Int32)), .val (.int (2 : Int32))] [(.double (FP.i2d p2))])) _
            refine XS.aloadN X0.here hx rfl (hb hby d2_13) rfl rfl ?_
            show Steps p.tables e below (s₁.setTop (mkF m 14 #[.val (.ref a1), .val (.ref a2), .val (.int (0 : Int32)), .val (.int (2 : Int32))] [(.ref a2), (.double (FP.i2d p2))])) _
            refine XS.iloadN X0.here hx rfl (hb hby d2_14) rfl ?_
            exact k)
          obtain ⟨c202, Ar202, -, As202, An202, Ah202, -⟩ := id V2
          have hin202 : ¬ ((2 : Int32) < 0 ∨ c202.slots.size ≤ ((2 : Int32)).toNatClampNeg) := inb_of As202 ⟨by decide, by decide⟩
          have hat202 : c202.slots[((2 : Int32)).toNatClampNeg]? = some (.double (FP.i2d q2)) := Has.at Ah202 hin202 rfl
          have k203 : ∀ t, Steps p.tables e below (s₁.setTop (mkF m 17 #[.val (.ref a1), .val (.ref a2), .val (.int (0 : Int32)), .val (.int (2 : Int32))] [(.int (cmpValue (FP.dcmp (FP.i2d p2) (FP.i2d q2)) .l))])) t → Steps p.tables e below (s₁.setTop (entryFrame m #[(.ref a1), (.ref a2)] 4)) t := fun t k => k201 t (by
            show Steps p.tables e below (s₁.setTop (mkF m 15 #[.val (.ref a1), .val (.ref a2), .val (.int (0 : Int32)), .val (.int (2 : Int32))] [(.int (2 : Int32)), (.ref a2), (.double (FP.i2d p2))])) _
            refine X0.daload hx (j := (2 : Int32)) (v := (.double (FP.i2d q2))) (by rw [e0]; exact Ar202.1) (State.isArrayOf_alike hZ.alike Ar202.2.1) Ar202.2.2 hin202 hat202 (g := (mkF m 15 #[.val (.ref a1), .val (.ref a2), .val (.int (0 : Int32)), .val (.int (2 : Int32))] [(.int (2 : Int32)), (.ref a2), (.double (FP.i2d p2))])) rfl rfl (hb hby d2_15) _ ?_
            show Steps p.tables e below (s₁.setTop (mkF m 16 #[.val (.ref a1), .val (.ref a2), .val (.int (0 : Int32)), .val (.int (2 : Int32))] [(.double (FP.i2d q2)), (.double (FP.i2d p2))])) _
            refine XS.dcmpS X0.here hx rfl (hb hby d2_16) rfl rfl ?_
            exact k)
          by_cases c2 : q2 < p2
          · have k204 : ∀ t, Steps p.tables e below (s₁.setTop (mkF m 21 #[.val (.ref a1), .val (.ref a2), .val (.int (0 : Int32)), .val (.int (2 : Int32))] [(.int (0 : Int32))])) t → Steps p.tables e below (s₁.setTop (entryFrame m #[(.ref a1), (.ref a2)] 4)) t := fun t k => k203 t (by
              show Steps p.tables e below (s₁.setTop (mkF m 17 #[.val (.ref a1), .val (.ref a2), .val (.int (0 : Int32)), .val (.int (2 : Int32))] [(.int (cmpValue (FP.dcmp (FP.i2d p2) (FP.i2d q2)) .l))])) _
              refine XS.ifNo X0.here hx rfl (hb hby d2_17) rfl ((if0 _ _).trans (tlt (own_gt.mpr c2)).2.2.2) ?_
              show Steps p.tables e below (s₁.setTop (mkF m 20 #[.val (.ref a1), .val (.ref a2), .val (.int (0 : Int32)), .val (.int (2 : Int32))] [])) _
              refine XS.iconst X0.here hx rfl (hb hby d2_20) ?_
              exact k)
            obtain ⟨fs, hr, hrun, hended, hW, hsame⟩ := X0.leave (v := some (.int (0 : Int32))) (fun h => by rw [Bd.returns] at h; cases h)
            refine ⟨_, _, k204 _ (retOut X0 hx (t := .boolean) Bd.returns rfl (Or.inl ⟨rfl, Or.inr (Or.inl rfl), _, rfl⟩) (hb hby d2_21) hr), hrun, hended, _, _, rfl, ?_, ⟨_, rfl⟩, hW, hsame.mono (by decide) (by decide)⟩
            show Q_dom3 Z a1 a2 k1 k2 p0 p1 p2 q0 q1 q2 h0 n0 _ s₁.heap _
            rw [e0]
            exact ⟨by simp [own_dom, c0, d0, c1, d1, c2], N0, rfl⟩
          · have k205 : ∀ t, Steps p.tables e below (s₁.setTop (mkF m 25 #[.val (.ref a1), .val (.ref a2), .val (.int (0 : Int32)), .val (.int (2 : Int32))] [(.int (2 : Int32)), (.ref a1), (.int (0 : Int32))])) t → Steps p.tables e below (s₁.setTop (entryFrame m #[(.ref a1), (.ref a2)] 4)) t := fun t k => k203 t (by
              show Steps p.tables e below (s₁.setTop (mkF m 17 #[.val (.ref a1), .val (.ref a2), .val (.int (0 : Int32)), .val (.int (2 : Int32))] [(.int (cmpValue (FP.dcmp (FP.i2d p2) (FP.i2d q2)) .l))])) _
              refine XS.ifYes X0.here hx rfl (pc0 := 17) (pc' := 22) rfl (hb hby d2_17) rfl ((if0 _ _).trans (flt (fun h => c2 (own_gt.mp h))).2.2.2) (by decide) (by decide) ?_
              show Steps p.tables e below (s₁.setTop (mkF m 22 #[.val (.ref a1), .val (.ref a2), .val (.int (0 : Int32)), .val (.int (2 : Int32))] [])) _
              refine XS.iloadN X0.here hx rfl (hb hby d2_22) rfl ?_
              show Steps p.tables e below (s₁.setTop (mkF m 23 #[.val (.ref a1), .val (.ref a2), .val (.int (0 : Int32)), .val (.int (2 : Int32))] [(.int (0 : Int32))])) _
              refine XS.aloadN X0.here hx rfl (hb hby d2_23) rfl rfl ?_
              show Steps p.tables e below (s₁.setTop (mkF m 24 #[.val (.ref a1), .val (.ref a2), .val (.int (0 : Int32)), .val (.int (2 : Int32))] [(.ref a1), (.int (0 : Int32))])) _
              refine XS.iloadN X0.here hx rfl (hb hby d2_24) rfl ?_
              exact k)
            obtain ⟨c206, Ar206, -, As206, An206, Ah206, -⟩ := id V1
            have hin206 : ¬ ((2 : Int32) < 0 ∨ c206.slots.size ≤ ((2 : Int32)).toNatClampNeg) := inb_of As206 ⟨by decide, by decide⟩
            have hat206 : c206.slots[((2 : Int32)).toNatClampNeg]? = some (.double (FP.i2d p2)) := Has.at Ah206 hin206 rfl
            have k207 : ∀ t, Steps p.tables e below (s₁.setTop (mkF m 28 #[.val (.ref a1), .val (.ref a2), .val (.int (0 : Int32)), .val (.int (2 : Int32))] [(.int (2 : Int32)), (.ref a2), (.double (FP.i2d p2)), (.int (0 : Int32))])) t → Steps p.tables e below (s₁.setTop (entryFrame m #[(.ref a1), (.ref a2)] 4)) t := fun t k => k205 t (by
              show Steps p.tables e below (s₁.setTop (mkF m 25 #[.val (.ref a1), .val (.ref a2), .val (.int (0 : Int32)), .val (.int (2 : Int32))] [(.int (2 : Int32)), (.ref a1), (.int (0 : Int32))])) _
              refine X0.daload hx (j := (2 : Int32)) (v := (.double (FP.i2d p2))) (by rw [e0]; exact Ar206.1) (State.isArrayOf_alike hZ.alike Ar206.2.1) Ar206.2.2 hin206 hat206 (g := (mkF m 25 #[.val (.ref a1), .val (.ref a2), .val (.int (0 : Int32)), .val (.int (2 : Int32))] [(.int (2 : Int32)), (.ref a1), (.int (0 : Int32))])) rfl rfl (hb hby d2_25) _ ?_
              show Steps p.tables e below (s₁.setTop (mkF m 26 #[.val (.ref a1), .val (.ref a2), .val (.int (0 : Int32)), .val (.int (2 : Int32))] [(.double (FP.i2d p2)), (.int (0 : Int32))])) _
              refine XS.aloadN X0.here hx rfl (hb hby d2_26) rfl rfl ?_
              show Steps p.tables e below (s₁.setTop (mkF m 27 #[.val (.ref a1), .val (.ref a2), .val (.int (0 : Int32)), .val (.int (2 : Int32))] [(.ref a2), (.double (FP.i2d p2)), (.int (0 : Int32))])) _
              refine XS.iloadN X0.here hx rfl (hb hby d2_27) rfl ?_
              exact k)
            obtain ⟨c208, Ar208, -, As208, An208, Ah208, -⟩ := id V2
            have hin208 : ¬ ((2 : Int32) < 0 ∨ c208.slots.size ≤ ((2 : Int32)).toNatClampNeg) := inb_of As208 ⟨by decide, by decide⟩
            have hat208 : c208.slots[((2 : Int32)).toNatClampNeg]? = some (.double (FP.i2d q2)) := Has.at Ah208 hin208 rfl
            have k209 : ∀ t, Steps p.tables e below (s₁.setTop (mkF m 30 #[.val (.ref a1), .val (.ref a2), .val (.int (0 : Int32)), .val (.int (2 : Int32))] [(.int (cmpValue (FP.dcmp (FP.i2d p2) (FP.i2d q2)) .g)), (.int (0 : Int32))])) t → Steps p.tables e below (s₁.setTop (entryFrame m #[(.ref a1), (.ref a2)] 4)) t := fun t k => k207 t (by
              show Steps p.tables e below (s₁.setTop (mkF m 28 #[.val (.ref a1), .val (.ref a2), .val (.int (0 : Int32)), .val (.int (2 : Int32))] [(.int (2 : Int32)), (.ref a2), (.double (FP.i2d p2)), (.int (0 : Int32))])) _
              refine X0.daload hx (j := (2 : Int32)) (v := (.double (FP.i2d q2))) (by rw [e0]; exact Ar208.1) (State.isArrayOf_alike hZ.alike Ar208.2.1) Ar208.2.2 hin208 hat208 (g := (mkF m 28 #[.val (.ref a1), .val (.ref a2), .val (.int (0 : Int32)), .val (.int (2 : Int32))] [(.int (2 : Int32)), (.ref a2), (.double (FP.i2d p2)), (.int (0 : Int32))])) rfl rfl (hb hby d2_28) _ ?_
              show Steps p.tables e below (s₁.setTop (mkF m 29 #[.val (.ref a1), .val (.ref a2), .val (.int (0 : Int32)), .val (.int (2 : Int32))] [(.double (FP.i2d q2)), (.double (FP.i2d p2)), (.int (0 : Int32))])) _
              refine XS.dcmpS X0.here hx rfl (hb hby d2_29) rfl rfl ?_
              exact k)
            by_cases d2 : p2 < q2
            · have k210 : ∀ t, Steps p.tables e below (s₁.setTop (mkF m 6 #[.val (.ref a1), .val (.ref a2), .val (.int (1 : Int32)), .val (.int (3 : Int32))] [(.ref a1), (.int (3 : Int32))])) t → Steps p.tables e below (s₁.setTop (entryFrame m #[(.ref a1), (.ref a2)] 4)) t := fun t k => k209 t (by
                show Steps p.tables e below (s₁.setTop (mkF m 30 #[.val (.ref a1), .val (.ref a2), .val (.int (0 : Int32)), .val (.int (2 : Int32))] [(.int (cmpValue (FP.dcmp (FP.i2d p2) (FP.i2d q2)) .g)), (.int (0 : Int32))])) _
                refine XS.ifNo X0.here hx rfl (hb hby d2_30) rfl ((if0 _ _).trans (tlt (own_lt.mpr d2)).2.1) ?_
                show Steps p.tables e below (s₁.setTop (mkF m 33 #[.val (.ref a1), .val (.ref a2), .val (.int (0 : Int32)), .val (.int (2 : Int32))] [(.int (0 : Int32))])) _
                refine XS.iconst X0.here hx rfl (hb hby d2_33) ?_
                show Steps p.tables e below (s₁.setTop (mkF m 34 #[.val (.ref a1), .val (.ref a2), .val (.int (0 : Int32)), .val (.int (2 : Int32))] [(.int (1 : Int32)), (.int (0 : Int32))])) _
                refine XS.goto X0.here hx rfl (pc0 := 34) (pc' := 38) rfl (hb hby d2_34) (by decide) (by decide) ?_
                show Steps p.tables e below (s₁.setTop (mkF m 38 #[.val (.ref a1), .val (.ref a2), .val (.int (0 : Int32)), .val (.int (2 : Int32))] [(.int (1 : Int32)), (.int (0 : Int32))])) _
                refine XS.ior X0.here hx rfl (hb hby d2_38) rfl ?_
                show Steps p.tables e below (s₁.setTop (mkF m 39 #[.val (.ref a1), .val (.ref a2), .val (.int (0 : Int32)), .val (.int (2 : Int32))] [(.int ((0 : Int32) ||| (1 : Int32)))])) _
                refine castTop (g' := (mkF m 39 #[.val (.ref a1), .val (.ref a2), .val (.int (0 : Int32)), .val (.int (2 : Int32))] [(.int (1 : Int32))])) (by rw [show ((0 : Int32) ||| (1 : Int32)) = (1 : Int32) by decide]) ?_
                show Steps p.tables e below (s₁.setTop (mkF m 39 #[.val (.ref a1), .val (.ref a2), .val (.int (0 : Int32)), .val (.int (2 : Int32))] [(.int (1 : Int32))])) _
                refine XS.istoreN X0.here hx rfl (hb hby d2_39) rfl (l' := #[.val (.ref a1), .val (.ref a2), .val (.int (1 : Int32)), .val (.int (2 : Int32))]) rfl ?_
                show Steps p.tables e below (s₁.setTop (mkF m 40 #[.val (.ref a1), .val (.ref a2), .val (.int (1 : Int32)), .val (.int (2 : Int32))] [])) _
                refine XS.iinc X0.here hx rfl (hb hby d2_40) rfl (l' := #[.val (.ref a1), .val (.ref a2), .val (.int (1 : Int32)), .val (.int (3 : Int32))]) rfl ?_
                show Steps p.tables e below (s₁.setTop (mkF m 43 #[.val (.ref a1), .val (.ref a2), .val (.int (1 : Int32)), .val (.int (3 : Int32))] [])) _
                refine XS.goto X0.here hx rfl (pc0 := 43) (pc' := 4) rfl (hb hby d2_43) (by decide) (by decide) ?_
                show Steps p.tables e below (s₁.setTop (mkF m 4 #[.val (.ref a1), .val (.ref a2), .val (.int (1 : Int32)), .val (.int (3 : Int32))] [])) _
                refine XS.iloadN X0.here hx rfl (hb hby d2_4) rfl ?_
                show Steps p.tables e below (s₁.setTop (mkF m 5 #[.val (.ref a1), .val (.ref a2), .val (.int (1 : Int32)), .val (.int (3 : Int32))] [(.int (3 : Int32))])) _
                refine XS.aloadN X0.here hx rfl (hb hby d2_5) rfl rfl ?_
                exact k)
              obtain ⟨c211, Ar211, -, As211, An211, -, -⟩ := id V1
              have k212 : ∀ t, Steps p.tables e below (s₁.setTop (mkF m 47 #[.val (.ref a1), .val (.ref a2), .val (.int (1 : Int32)), .val (.int (3 : Int32))] [(.int (1 : Int32))])) t → Steps p.tables e below (s₁.setTop (entryFrame m #[(.ref a1), (.ref a2)] 4)) t := fun t k => k210 t (by
                show Steps p.tables e below (s₁.setTop (mkF m 6 #[.val (.ref a1), .val (.ref a2), .val (.int (1 : Int32)), .val (.int (3 : Int32))] [(.ref a1), (.int (3 : Int32))])) _
                refine X0.arraylength hx (by rw [e0]; exact Ar211.1) (State.isArrayOf_alike hZ.alike Ar211.2.1) (g := (mkF m 6 #[.val (.ref a1), .val (.ref a2), .val (.int (1 : Int32)), .val (.int (3 : Int32))] [(.ref a1), (.int (3 : Int32))])) rfl rfl (hb hby d2_6) _ ?_
                rw [len_of As211 An211]
                show Steps p.tables e below (s₁.setTop (mkF m 7 #[.val (.ref a1), .val (.ref a2), .val (.int (1 : Int32)), .val (.int (3 : Int32))] [(.int (3 : Int32)), (.int (3 : Int32))])) _
                refine XS.icmpYes X0.here hx rfl (pc0 := 7) (pc' := 46) rfl (hb hby d2_7) rfl (flt (by decide)).2.1 (by decide) (by decide) ?_
                show Steps p.tables e below (s₁.setTop (mkF m 46 #[.val (.ref a1), .val (.ref a2), .val (.int (1 : Int32)), .val (.int (3 : Int32))] [])) _
                refine XS.iloadN X0.here hx rfl (hb hby d2_46) rfl ?_
                exact k)
              obtain ⟨fs, hr, hrun, hended, hW, hsame⟩ := X0.leave (v := some (.int (1 : Int32))) (fun h => by rw [Bd.returns] at h; cases h)
              refine ⟨_, _, k212 _ (retOut X0 hx (t := .boolean) Bd.returns rfl (Or.inl ⟨rfl, Or.inr (Or.inl rfl), _, rfl⟩) (hb hby d2_47) hr), hrun, hended, _, _, rfl, ?_, ⟨_, rfl⟩, hW, hsame.mono (by decide) (by decide)⟩
              show Q_dom3 Z a1 a2 k1 k2 p0 p1 p2 q0 q1 q2 h0 n0 _ s₁.heap _
              rw [e0]
              exact ⟨by simp [own_dom, c0, d0, c1, d1, c2, d2], N0, rfl⟩
            · have k213 : ∀ t, Steps p.tables e below (s₁.setTop (mkF m 6 #[.val (.ref a1), .val (.ref a2), .val (.int (0 : Int32)), .val (.int (3 : Int32))] [(.ref a1), (.int (3 : Int32))])) t → Steps p.tables e below (s₁.setTop (entryFrame m #[(.ref a1), (.ref a2)] 4)) t := fun t k => k209 t (by
                show Steps p.tables e below (s₁.setTop (mkF m 30 #[.val (.ref a1), .val (.ref a2), .val (.int (0 : Int32)), .val (.int (2 : Int32))] [(.int (cmpValue (FP.dcmp (FP.i2d p2) (FP.i2d q2)) .g)), (.int (0 : Int32))])) _
                refine XS.ifYes X0.here hx rfl (pc0 := 30) (pc' := 37) rfl (hb hby d2_30) rfl ((if0 _ _).trans (flt (fun h => d2 (own_lt.mp h))).2.1) (by decide) (by decide) ?_
                show Steps p.tables e below (s₁.setTop (mkF m 37 #[.val (.ref a1), .val (.ref a2), .val (.int (0 : Int32)), .val (.int (2 : Int32))] [(.int (0 : Int32))])) _
                refine XS.iconst X0.here hx rfl (hb hby d2_37) ?_
                show Steps p.tables e below (s₁.setTop (mkF m 38 #[.val (.ref a1), .val (.ref a2), .val (.int (0 : Int32)), .val (.int (2 : Int32))] [(.int (0 : Int32)), (.int (0 : Int32))])) _
                refine XS.ior X0.here hx rfl (hb hby d2_38) rfl ?_
                show Steps p.tables e below (s₁.setTop (mkF m 39 #[.val (.ref a1), .val (.ref a2), .val (.int (0 : Int32)), .val (.int (2 : Int32))] [(.int ((0 : Int32) ||| (0 : Int32)))])) _
                refine castTop (g' := (mkF m 39 #[.val (.ref a1), .val (.ref a2), .val (.int (0 : Int32)), .val (.int (2 : Int32))] [(.int (0 : Int32))])) (by rw [show ((0 : Int32) ||| (0 : Int32)) = (0 : Int32) by decide]) ?_
                show Steps p.tables e below (s₁.setTop (mkF m 39 #[.val (.ref a1), .val (.ref a2), .val (.int (0 : Int32)), .val (.int (2 : Int32))] [(.int (0 : Int32))])) _
                refine XS.istoreN X0.here hx rfl (hb hby d2_39) rfl (l' := #[.val (.ref a1), .val (.ref a2), .val (.int (0 : Int32)), .val (.int (2 : Int32))]) rfl ?_
                show Steps p.tables e below (s₁.setTop (mkF m 40 #[.val (.ref a1), .val (.ref a2), .val (.int (0 : Int32)), .val (.int (2 : Int32))] [])) _
                refine XS.iinc X0.here hx rfl (hb hby d2_40) rfl (l' := #[.val (.ref a1), .val (.ref a2), .val (.int (0 : Int32)), .val (.int (3 : Int32))]) rfl ?_
                show Steps p.tables e below (s₁.setTop (mkF m 43 #[.val (.ref a1), .val (.ref a2), .val (.int (0 : Int32)), .val (.int (3 : Int32))] [])) _
                refine XS.goto X0.here hx rfl (pc0 := 43) (pc' := 4) rfl (hb hby d2_43) (by decide) (by decide) ?_
                show Steps p.tables e below (s₁.setTop (mkF m 4 #[.val (.ref a1), .val (.ref a2), .val (.int (0 : Int32)), .val (.int (3 : Int32))] [])) _
                refine XS.iloadN X0.here hx rfl (hb hby d2_4) rfl ?_
                show Steps p.tables e below (s₁.setTop (mkF m 5 #[.val (.ref a1), .val (.ref a2), .val (.int (0 : Int32)), .val (.int (3 : Int32))] [(.int (3 : Int32))])) _
                refine XS.aloadN X0.here hx rfl (hb hby d2_5) rfl rfl ?_
                exact k)
              obtain ⟨c214, Ar214, -, As214, An214, -, -⟩ := id V1
              have k215 : ∀ t, Steps p.tables e below (s₁.setTop (mkF m 47 #[.val (.ref a1), .val (.ref a2), .val (.int (0 : Int32)), .val (.int (3 : Int32))] [(.int (0 : Int32))])) t → Steps p.tables e below (s₁.setTop (entryFrame m #[(.ref a1), (.ref a2)] 4)) t := fun t k => k213 t (by
                show Steps p.tables e below (s₁.setTop (mkF m 6 #[.val (.ref a1), .val (.ref a2), .val (.int (0 : Int32)), .val (.int (3 : Int32))] [(.ref a1), (.int (3 : Int32))])) _
                refine X0.arraylength hx (by rw [e0]; exact Ar214.1) (State.isArrayOf_alike hZ.alike Ar214.2.1) (g := (mkF m 6 #[.val (.ref a1), .val (.ref a2), .val (.int (0 : Int32)), .val (.int (3 : Int32))] [(.ref a1), (.int (3 : Int32))])) rfl rfl (hb hby d2_6) _ ?_
                rw [len_of As214 An214]
                show Steps p.tables e below (s₁.setTop (mkF m 7 #[.val (.ref a1), .val (.ref a2), .val (.int (0 : Int32)), .val (.int (3 : Int32))] [(.int (3 : Int32)), (.int (3 : Int32))])) _
                refine XS.icmpYes X0.here hx rfl (pc0 := 7) (pc' := 46) rfl (hb hby d2_7) rfl (flt (by decide)).2.1 (by decide) (by decide) ?_
                show Steps p.tables e below (s₁.setTop (mkF m 46 #[.val (.ref a1), .val (.ref a2), .val (.int (0 : Int32)), .val (.int (3 : Int32))] [])) _
                refine XS.iloadN X0.here hx rfl (hb hby d2_46) rfl ?_
                exact k)
              obtain ⟨fs, hr, hrun, hended, hW, hsame⟩ := X0.leave (v := some (.int (0 : Int32))) (fun h => by rw [Bd.returns] at h; cases h)
              refine ⟨_, _, k215 _ (retOut X0 hx (t := .boolean) Bd.returns rfl (Or.inl ⟨rfl, Or.inr (Or.inl rfl), _, rfl⟩) (hb hby d2_47) hr), hrun, hended, _, _, rfl, ?_, ⟨_, rfl⟩, hW, hsame.mono (by decide) (by decide)⟩
              show Q_dom3 Z a1 a2 k1 k2 p0 p1 p2 q0 q1 q2 h0 n0 _ s₁.heap _
              rw [e0]
              exact ⟨by simp [own_dom, c0, d0, c1, d1, c2, d2], N0, rfl⟩
theorem ef_0_IJJJ (m : MethodId) (x0 : Int32) (x1 : Int64) (x2 : Int64) (x3 : Int64) : entryFrame m #[(.int x0), (.long x1), (.long x2), (.long x3)] maxLocals = mkF m 0 #[.val (.int x0), .val (.long x1), .second, .val (.long x2), .second, .val (.long x3), .second, .unset, .unset, .unset, .unset, .unset, .unset, .unset, .unset, .unset, .unset, .unset, .unset, .unset, .unset, .unset, .unset] [] := by first | (simp [entryFrame, mkF, argsToLocals, Value.category, maxLocals]; done) | rfl
theorem pd__28IIII_29_5bD : parseMethodDescriptor "(IIII)[D" = some ⟨[.int, .int, .int, .int], some (.array .double)⟩ := by decide +kernel
theorem pd__28_5bD_5bD_29Z : parseMethodDescriptor "([D[D)Z" = some ⟨[(.array .double), (.array .double)], some .boolean⟩ := by decide +kernel
def Q_rm0 (Z : State) (nq : Int32) (xq : Int64) (yq : Int64) (zq : Int64) (h0 : Heap) (n0 : Nat) (v : Option Value) (h : Heap) (L : List Loc) : Prop := v = some (.int 1) ∧ Fr n0 L
set_option maxRecDepth 65536 in
set_option maxHeartbeats 40000000 in
theorem rm0 (l : Launch) (Z : State) (a0 : Array Value) (hw : ∀ d ∈ tables_1, d.before a0 Z = true) (ws : List Jvm.Cond) (nq : Int32) (xq : Int64) (yq : Int64) (zq : Int64) (h0 : Heap) (n0 : Nat) (Z0 : n0 ≤ h0.size) :
    MetFree l x (head1 (Jvm.Cond.code x code maxLocals ret :: ws) room_1) (fun a U => a = #[(.int nq), (.long xq), (.long yq), (.long zq)] ∧ Z.Warmed39 U.vm ∧ U.heap = h0) (fun _ _ _ _ _ => True) (fun _ U o U' => ∃ v L, o = .returned v ∧ Q_rm0 Z nq xq yq zq h0 n0 v U'.heap L ∧ FrameEnd U o U' L room_1.cells room_1.slots) := by
  refine MetFree.of_bodySF (plainFor_of_name pn_com_2fexample_2ffrontweave_2ffrontweave_2fselection_2fFrontsDominatesPinLaw) hisR ?_
  intro p e s m args below meth c s₁ Bd hml0 hP hK
  obtain ⟨rfl, hZ, hh⟩ := hP
  have hx := Bd.exec
  have hby := Bd.bytes
  have hml : c.maxLocals = 23 := hml0
  have hown : s.vm.findClass "com/example/frontweave/frontweave/selection/FrontsDominatesPinLaw" = some m.cls := findClass_of_methodNamed Bd.named
  have hnm := (name_of_methodNamed Bd.named Bd.method).1
  have X0 : Stand p l e room_1 s m #[(.int nq), (.long xq), (.long yq), (.long zq)] below meth c s₁ [] 0 0 := Stand.of_body Bd
  have e0 : s₁.heap = h0 := by rw [← hh, Bd.state]; rfl
  have N0 := Fr.nil n0
  have k0 : ∀ t, Steps p.tables e below (s₁.setTop (mkF m 0 #[.val (.int nq), .val (.long xq), .second, .val (.long yq), .second, .val (.long zq), .second, .unset, .unset, .unset, .unset, .unset, .unset, .unset, .unset, .unset, .unset, .unset, .unset, .unset, .unset, .unset, .unset] [])) t → Steps p.tables e below (s₁.setTop (entryFrame m #[(.int nq), (.long xq), (.long yq), (.long zq)] maxLocals)) t := fun t k => castTop (ef_0_IJJJ m nq xq yq zq) k
  obtain ⟨ln, hln⟩ : ∃ z : Int32, z = (nq &&& (3 : Int32)) := ⟨_, rfl⟩
  obtain ⟨a0', ha0'⟩ : ∃ z : Int32, z = (xq.toInt32) := ⟨_, rfl⟩
  obtain ⟨a1, ha1⟩ : ∃ z : Int32, z = (yq.toInt32) := ⟨_, rfl⟩
  obtain ⟨a2, ha2⟩ : ∃ z : Int32, z = (zq.toInt32) := ⟨_, rfl⟩
  have k101 : ∀ t, Steps p.tables e below (s₁.setTop (mkF m 23 #[.val (.int nq), .val (.long xq), .second, .val (.long yq), .second, .val (.long zq), .second, .val (.int ln), .val (.int a0'), .val (.int a1), .val (.int a2), .unset, .unset, .unset, .unset, .unset, .unset, .unset, .unset, .unset, .unset, .unset, .unset] [(.int (((nq.toUInt32 >>> ((2 : Int32) &&& 31).toUInt32).toInt32) &&& (1 : Int32)))])) t → Steps p.tables e below (s₁.setTop (entryFrame m #[(.int nq), (.long xq), (.long yq), (.long zq)] maxLocals)) t := fun t k => k0 t (by
    show Steps p.tables e below (s₁.setTop (mkF m 0 #[.val (.int nq), .val (.long xq), .second, .val (.long yq), .second, .val (.long zq), .second, .unset, .unset, .unset, .unset, .unset, .unset, .unset, .unset, .unset, .unset, .unset, .unset, .unset, .unset, .unset, .unset] [])) _
    refine XS.iloadN X0.here hx rfl (hb hby at_0) rfl ?_
    show Steps p.tables e below (s₁.setTop (mkF m 1 #[.val (.int nq), .val (.long xq), .second, .val (.long yq), .second, .val (.long zq), .second, .unset, .unset, .unset, .unset, .unset, .unset, .unset, .unset, .unset, .unset, .unset, .unset, .unset, .unset, .unset, .unset] [(.int nq)])) _
    refine XS.iconst X0.here hx rfl (hb hby at_1) ?_
    show Steps p.tables e below (s₁.setTop (mkF m 2 #[.val (.int nq), .val (.long xq), .second, .val (.long yq), .second, .val (.long zq), .second, .unset, .unset, .unset, .unset, .unset, .unset, .unset, .unset, .unset, .unset, .unset, .unset, .unset, .unset, .unset, .unset] [(.int (3 : Int32)), (.int nq)])) _
    refine XS.iand X0.here hx rfl (hb hby at_2) rfl ?_
    show Steps p.tables e below (s₁.setTop (mkF m 3 #[.val (.int nq), .val (.long xq), .second, .val (.long yq), .second, .val (.long zq), .second, .unset, .unset, .unset, .unset, .unset, .unset, .unset, .unset, .unset, .unset, .unset, .unset, .unset, .unset, .unset, .unset] [(.int (nq &&& (3 : Int32)))])) _
    refine castTop (g' := (mkF m 3 #[.val (.int nq), .val (.long xq), .second, .val (.long yq), .second, .val (.long zq), .second, .unset, .unset, .unset, .unset, .unset, .unset, .unset, .unset, .unset, .unset, .unset, .unset, .unset, .unset, .unset, .unset] [(.int ln)])) (by rw [hln]) ?_
    show Steps p.tables e below (s₁.setTop (mkF m 3 #[.val (.int nq), .val (.long xq), .second, .val (.long yq), .second, .val (.long zq), .second, .unset, .unset, .unset, .unset, .unset, .unset, .unset, .unset, .unset, .unset, .unset, .unset, .unset, .unset, .unset, .unset] [(.int ln)])) _
    refine XS.istore X0.here hx rfl (hb hby at_3) rfl (l' := #[.val (.int nq), .val (.long xq), .second, .val (.long yq), .second, .val (.long zq), .second, .val (.int ln), .unset, .unset, .unset, .unset, .unset, .unset, .unset, .unset, .unset, .unset, .unset, .unset, .unset, .unset, .unset]) rfl ?_
    show Steps p.tables e below (s₁.setTop (mkF m 5 #[.val (.int nq), .val (.long xq), .second, .val (.long yq), .second, .val (.long zq), .second, .val (.int ln), .unset, .unset, .unset, .unset, .unset, .unset, .unset, .unset, .unset, .unset, .unset, .unset, .unset, .unset, .unset] [])) _
    refine XS.lloadN X0.here hx rfl (hb hby at_5) rfl ?_
    show Steps p.tables e below (s₁.setTop (mkF m 6 #[.val (.int nq), .val (.long xq), .second, .val (.long yq), .second, .val (.long zq), .second, .val (.int ln), .unset, .unset, .unset, .unset, .unset, .unset, .unset, .unset, .unset, .unset, .unset, .unset, .unset, .unset, .unset] [(.long xq)])) _
    refine XS.l2i X0.here hx rfl (hb hby at_6) rfl ?_
    show Steps p.tables e below (s₁.setTop (mkF m 7 #[.val (.int nq), .val (.long xq), .second, .val (.long yq), .second, .val (.long zq), .second, .val (.int ln), .unset, .unset, .unset, .unset, .unset, .unset, .unset, .unset, .unset, .unset, .unset, .unset, .unset, .unset, .unset] [(.int (xq.toInt32))])) _
    refine castTop (g' := (mkF m 7 #[.val (.int nq), .val (.long xq), .second, .val (.long yq), .second, .val (.long zq), .second, .val (.int ln), .unset, .unset, .unset, .unset, .unset, .unset, .unset, .unset, .unset, .unset, .unset, .unset, .unset, .unset, .unset] [(.int a0')])) (by rw [ha0']) ?_
    show Steps p.tables e below (s₁.setTop (mkF m 7 #[.val (.int nq), .val (.long xq), .second, .val (.long yq), .second, .val (.long zq), .second, .val (.int ln), .unset, .unset, .unset, .unset, .unset, .unset, .unset, .unset, .unset, .unset, .unset, .unset, .unset, .unset, .unset] [(.int a0')])) _
    refine XS.istore X0.here hx rfl (hb hby at_7) rfl (l' := #[.val (.int nq), .val (.long xq), .second, .val (.long yq), .second, .val (.long zq), .second, .val (.int ln), .val (.int a0'), .unset, .unset, .unset, .unset, .unset, .unset, .unset, .unset, .unset, .unset, .unset, .unset, .unset, .unset]) rfl ?_
    show Steps p.tables e below (s₁.setTop (mkF m 9 #[.val (.int nq), .val (.long xq), .second, .val (.long yq), .second, .val (.long zq), .second, .val (.int ln), .val (.int a0'), .unset, .unset, .unset, .unset, .unset, .unset, .unset, .unset, .unset, .unset, .unset, .unset, .unset, .unset] [])) _
    refine XS.lloadN X0.here hx rfl (hb hby at_9) rfl ?_
    show Steps p.tables e below (s₁.setTop (mkF m 10 #[.val (.int nq), .val (.long xq), .second, .val (.long yq), .second, .val (.long zq), .second, .val (.int ln), .val (.int a0'), .unset, .unset, .unset, .unset, .unset, .unset, .unset, .unset, .unset, .unset, .unset, .unset, .unset, .unset] [(.long yq)])) _
    refine XS.l2i X0.here hx rfl (hb hby at_10) rfl ?_
    show Steps p.tables e below (s₁.setTop (mkF m 11 #[.val (.int nq), .val (.long xq), .second, .val (.long yq), .second, .val (.long zq), .second, .val (.int ln), .val (.int a0'), .unset, .unset, .unset, .unset, .unset, .unset, .unset, .unset, .unset, .unset, .unset, .unset, .unset, .unset] [(.int (yq.toInt32))])) _
    refine castTop (g' := (mkF m 11 #[.val (.int nq), .val (.long xq), .second, .val (.long yq), .second, .val (.long zq), .second, .val (.int ln), .val (.int a0'), .unset, .unset, .unset, .unset, .unset, .unset, .unset, .unset, .unset, .unset, .unset, .unset, .unset, .unset] [(.int a1)])) (by rw [ha1]) ?_
    show Steps p.tables e below (s₁.setTop (mkF m 11 #[.val (.int nq), .val (.long xq), .second, .val (.long yq), .second, .val (.long zq), .second, .val (.int ln), .val (.int a0'), .unset, .unset, .unset, .unset, .unset, .unset, .unset, .unset, .unset, .unset, .unset, .unset, .unset, .unset] [(.int a1)])) _
    refine XS.istore X0.here hx rfl (hb hby at_11) rfl (l' := #[.val (.int nq), .val (.long xq), .second, .val (.long yq), .second, .val (.long zq), .second, .val (.int ln), .val (.int a0'), .val (.int a1), .unset, .unset, .unset, .unset, .unset, .unset, .unset, .unset, .unset, .unset, .unset, .unset, .unset]) rfl ?_
    show Steps p.tables e below (s₁.setTop (mkF m 13 #[.val (.int nq), .val (.long xq), .second, .val (.long yq), .second, .val (.long zq), .second, .val (.int ln), .val (.int a0'), .val (.int a1), .unset, .unset, .unset, .unset, .unset, .unset, .unset, .unset, .unset, .unset, .unset, .unset, .unset] [])) _
    refine XS.lload X0.here hx rfl (hb hby at_13) rfl ?_
    show Steps p.tables e below (s₁.setTop (mkF m 15 #[.val (.int nq), .val (.long xq), .second, .val (.long yq), .second, .val (.long zq), .second, .val (.int ln), .val (.int a0'), .val (.int a1), .unset, .unset, .unset, .unset, .unset, .unset, .unset, .unset, .unset, .unset, .unset, .unset, .unset] [(.long zq)])) _
    refine XS.l2i X0.here hx rfl (hb hby at_15) rfl ?_
    show Steps p.tables e below (s₁.setTop (mkF m 16 #[.val (.int nq), .val (.long xq), .second, .val (.long yq), .second, .val (.long zq), .second, .val (.int ln), .val (.int a0'), .val (.int a1), .unset, .unset, .unset, .unset, .unset, .unset, .unset, .unset, .unset, .unset, .unset, .unset, .unset] [(.int (zq.toInt32))])) _
    refine castTop (g' := (mkF m 16 #[.val (.int nq), .val (.long xq), .second, .val (.long yq), .second, .val (.long zq), .second, .val (.int ln), .val (.int a0'), .val (.int a1), .unset, .unset, .unset, .unset, .unset, .unset, .unset, .unset, .unset, .unset, .unset, .unset, .unset] [(.int a2)])) (by rw [ha2]) ?_
    show Steps p.tables e below (s₁.setTop (mkF m 16 #[.val (.int nq), .val (.long xq), .second, .val (.long yq), .second, .val (.long zq), .second, .val (.int ln), .val (.int a0'), .val (.int a1), .unset, .unset, .unset, .unset, .unset, .unset, .unset, .unset, .unset, .unset, .unset, .unset, .unset] [(.int a2)])) _
    refine XS.istore X0.here hx rfl (hb hby at_16) rfl (l' := #[.val (.int nq), .val (.long xq), .second, .val (.long yq), .second, .val (.long zq), .second, .val (.int ln), .val (.int a0'), .val (.int a1), .val (.int a2), .unset, .unset, .unset, .unset, .unset, .unset, .unset, .unset, .unset, .unset, .unset, .unset]) rfl ?_
    show Steps p.tables e below (s₁.setTop (mkF m 18 #[.val (.int nq), .val (.long xq), .second, .val (.long yq), .second, .val (.long zq), .second, .val (.int ln), .val (.int a0'), .val (.int a1), .val (.int a2), .unset, .unset, .unset, .unset, .unset, .unset, .unset, .unset, .unset, .unset, .unset, .unset] [])) _
    refine XS.iloadN X0.here hx rfl (hb hby at_18) rfl ?_
    show Steps p.tables e below (s₁.setTop (mkF m 19 #[.val (.int nq), .val (.long xq), .second, .val (.long yq), .second, .val (.long zq), .second, .val (.int ln), .val (.int a0'), .val (.int a1), .val (.int a2), .unset, .unset, .unset, .unset, .unset, .unset, .unset, .unset, .unset, .unset, .unset, .unset] [(.int nq)])) _
    refine XS.iconst X0.here hx rfl (hb hby at_19) ?_
    show Steps p.tables e below (s₁.setTop (mkF m 20 #[.val (.int nq), .val (.long xq), .second, .val (.long yq), .second, .val (.long zq), .second, .val (.int ln), .val (.int a0'), .val (.int a1), .val (.int a2), .unset, .unset, .unset, .unset, .unset, .unset, .unset, .unset, .unset, .unset, .unset, .unset] [(.int (2 : Int32)), (.int nq)])) _
    refine XS.iushr X0.here hx rfl (hb hby at_20) rfl ?_
    show Steps p.tables e below (s₁.setTop (mkF m 21 #[.val (.int nq), .val (.long xq), .second, .val (.long yq), .second, .val (.long zq), .second, .val (.int ln), .val (.int a0'), .val (.int a1), .val (.int a2), .unset, .unset, .unset, .unset, .unset, .unset, .unset, .unset, .unset, .unset, .unset, .unset] [(.int ((nq.toUInt32 >>> ((2 : Int32) &&& 31).toUInt32).toInt32))])) _
    refine XS.iconst X0.here hx rfl (hb hby at_21) ?_
    show Steps p.tables e below (s₁.setTop (mkF m 22 #[.val (.int nq), .val (.long xq), .second, .val (.long yq), .second, .val (.long zq), .second, .val (.int ln), .val (.int a0'), .val (.int a1), .val (.int a2), .unset, .unset, .unset, .unset, .unset, .unset, .unset, .unset, .unset, .unset, .unset, .unset] [(.int (1 : Int32)), (.int ((nq.toUInt32 >>> ((2 : Int32) &&& 31).toUInt32).toInt32))])) _
    refine XS.iand X0.here hx rfl (hb hby at_22) rfl ?_
    exact k)
  obtain ⟨i103, hi103⟩ : ∃ z : Int32, z = (if (((nq.toUInt32 >>> ((2 : Int32) &&& 31).toUInt32).toInt32) &&& (1 : Int32)) = (0 : Int32) then (((xq.toUInt64 >>> ((32 : Int32) &&& 0x3f).toInt64.toUInt64).toInt64).toInt32) else a0') := ⟨_, rfl⟩
  have k104 : ∀ t, Steps p.tables e below (s₁.setTop (mkF m 36 #[.val (.int nq), .val (.long xq), .second, .val (.long yq), .second, .val (.long zq), .second, .val (.int ln), .val (.int a0'), .val (.int a1), .val (.int a2), .unset, .unset, .unset, .unset, .unset, .unset, .unset, .unset, .unset, .unset, .unset, .unset] [(.int i103)])) t → Steps p.tables e below (s₁.setTop (entryFrame m #[(.int nq), (.long xq), (.long yq), (.long zq)] maxLocals)) t := fun t k => k101 t (by
    by_cases c102 : (((nq.toUInt32 >>> ((2 : Int32) &&& 31).toUInt32).toInt32) &&& (1 : Int32)) = (0 : Int32)
    · rw [if_pos c102] at hi103
      show Steps p.tables e below (s₁.setTop (mkF m 23 #[.val (.int nq), .val (.long xq), .second, .val (.long yq), .second, .val (.long zq), .second, .val (.int ln), .val (.int a0'), .val (.int a1), .val (.int a2), .unset, .unset, .unset, .unset, .unset, .unset, .unset, .unset, .unset, .unset, .unset, .unset] [(.int (((nq.toUInt32 >>> ((2 : Int32) &&& 31).toUInt32).toInt32) &&& (1 : Int32)))])) _
      refine XS.ifYes X0.here hx rfl (pc0 := 23) (pc' := 31) rfl (hb hby at_23) rfl ((if0 _ _).trans (teq c102).1) (by decide) (by decide) ?_
      show Steps p.tables e below (s₁.setTop (mkF m 31 #[.val (.int nq), .val (.long xq), .second, .val (.long yq), .second, .val (.long zq), .second, .val (.int ln), .val (.int a0'), .val (.int a1), .val (.int a2), .unset, .unset, .unset, .unset, .unset, .unset, .unset, .unset, .unset, .unset, .unset, .unset] [])) _
      refine XS.lloadN X0.here hx rfl (hb hby at_31) rfl ?_
      show Steps p.tables e below (s₁.setTop (mkF m 32 #[.val (.int nq), .val (.long xq), .second, .val (.long yq), .second, .val (.long zq), .second, .val (.int ln), .val (.int a0'), .val (.int a1), .val (.int a2), .unset, .unset, .unset, .unset, .unset, .unset, .unset, .unset, .unset, .unset, .unset, .unset] [(.long xq)])) _
      refine XS.bipush X0.here hx rfl (hb hby at_32) ?_
      show Steps p.tables e below (s₁.setTop (mkF m 34 #[.val (.int nq), .val (.long xq), .second, .val (.long yq), .second, .val (.long zq), .second, .val (.int ln), .val (.int a0'), .val (.int a1), .val (.int a2), .unset, .unset, .unset, .unset, .unset, .unset, .unset, .unset, .unset, .unset, .unset, .unset] [(.int (32 : Int32)), (.long xq)])) _
      refine XS.lushr X0.here hx rfl (hb hby at_34) rfl ?_
      show Steps p.tables e below (s₁.setTop (mkF m 35 #[.val (.int nq), .val (.long xq), .second, .val (.long yq), .second, .val (.long zq), .second, .val (.int ln), .val (.int a0'), .val (.int a1), .val (.int a2), .unset, .unset, .unset, .unset, .unset, .unset, .unset, .unset, .unset, .unset, .unset, .unset] [(.long ((xq.toUInt64 >>> ((32 : Int32) &&& 0x3f).toInt64.toUInt64).toInt64))])) _
      refine XS.l2i X0.here hx rfl (hb hby at_35) rfl ?_
      show Steps p.tables e below (s₁.setTop (mkF m 36 #[.val (.int nq), .val (.long xq), .second, .val (.long yq), .second, .val (.long zq), .second, .val (.int ln), .val (.int a0'), .val (.int a1), .val (.int a2), .unset, .unset, .unset, .unset, .unset, .unset, .unset, .unset, .unset, .unset, .unset, .unset] [(.int (((xq.toUInt64 >>> ((32 : Int32) &&& 0x3f).toInt64.toUInt64).toInt64).toInt32))])) _
      exact castTop (by rw [hi103]) k
    · rw [if_neg c102] at hi103
      show Steps p.tables e below (s₁.setTop (mkF m 23 #[.val (.int nq), .val (.long xq), .second, .val (.long yq), .second, .val (.long zq), .second, .val (.int ln), .val (.int a0'), .val (.int a1), .val (.int a2), .unset, .unset, .unset, .unset, .unset, .unset, .unset, .unset, .unset, .unset, .unset, .unset] [(.int (((nq.toUInt32 >>> ((2 : Int32) &&& 31).toUInt32).toInt32) &&& (1 : Int32)))])) _
      refine XS.ifNo X0.here hx rfl (hb hby at_23) rfl ((if0 _ _).trans (feq c102).1) ?_
      show Steps p.tables e below (s₁.setTop (mkF m 26 #[.val (.int nq), .val (.long xq), .second, .val (.long yq), .second, .val (.long zq), .second, .val (.int ln), .val (.int a0'), .val (.int a1), .val (.int a2), .unset, .unset, .unset, .unset, .unset, .unset, .unset, .unset, .unset, .unset, .unset, .unset] [])) _
      refine XS.iload X0.here hx rfl (hb hby at_26) rfl ?_
      show Steps p.tables e below (s₁.setTop (mkF m 28 #[.val (.int nq), .val (.long xq), .second, .val (.long yq), .second, .val (.long zq), .second, .val (.int ln), .val (.int a0'), .val (.int a1), .val (.int a2), .unset, .unset, .unset, .unset, .unset, .unset, .unset, .unset, .unset, .unset, .unset, .unset] [(.int a0')])) _
      refine XS.goto X0.here hx rfl (pc0 := 28) (pc' := 36) rfl (hb hby at_28) (by decide) (by decide) ?_
      show Steps p.tables e below (s₁.setTop (mkF m 36 #[.val (.int nq), .val (.long xq), .second, .val (.long yq), .second, .val (.long zq), .second, .val (.int ln), .val (.int a0'), .val (.int a1), .val (.int a2), .unset, .unset, .unset, .unset, .unset, .unset, .unset, .unset, .unset, .unset, .unset, .unset] [(.int a0')])) _
      exact castTop (by rw [hi103]) k)
  have k105 : ∀ t, Steps p.tables e below (s₁.setTop (mkF m 43 #[.val (.int nq), .val (.long xq), .second, .val (.long yq), .second, .val (.long zq), .second, .val (.int ln), .val (.int a0'), .val (.int a1), .val (.int a2), .val (.int i103), .unset, .unset, .unset, .unset, .unset, .unset, .unset, .unset, .unset, .unset, .unset] [(.int (((nq.toUInt32 >>> ((3 : Int32) &&& 31).toUInt32).toInt32) &&& (1 : Int32)))])) t → Steps p.tables e below (s₁.setTop (entryFrame m #[(.int nq), (.long xq), (.long yq), (.long zq)] maxLocals)) t := fun t k => k104 t (by
    show Steps p.tables e below (s₁.setTop (mkF m 36 #[.val (.int nq), .val (.long xq), .second, .val (.long yq), .second, .val (.long zq), .second, .val (.int ln), .val (.int a0'), .val (.int a1), .val (.int a2), .unset, .unset, .unset, .unset, .unset, .unset, .unset, .unset, .unset, .unset, .unset, .unset] [(.int i103)])) _
    refine XS.istore X0.here hx rfl (hb hby at_36) rfl (l' := #[.val (.int nq), .val (.long xq), .second, .val (.long yq), .second, .val (.long zq), .second, .val (.int ln), .val (.int a0'), .val (.int a1), .val (.int a2), .val (.int i103), .unset, .unset, .unset, .unset, .unset, .unset, .unset, .unset, .unset, .unset, .unset]) rfl ?_
    show Steps p.tables e below (s₁.setTop (mkF m 38 #[.val (.int nq), .val (.long xq), .second, .val (.long yq), .second, .val (.long zq), .second, .val (.int ln), .val (.int a0'), .val (.int a1), .val (.int a2), .val (.int i103), .unset, .unset, .unset, .unset, .unset, .unset, .unset, .unset, .unset, .unset, .unset] [])) _
    refine XS.iloadN X0.here hx rfl (hb hby at_38) rfl ?_
    show Steps p.tables e below (s₁.setTop (mkF m 39 #[.val (.int nq), .val (.long xq), .second, .val (.long yq), .second, .val (.long zq), .second, .val (.int ln), .val (.int a0'), .val (.int a1), .val (.int a2), .val (.int i103), .unset, .unset, .unset, .unset, .unset, .unset, .unset, .unset, .unset, .unset, .unset] [(.int nq)])) _
    refine XS.iconst X0.here hx rfl (hb hby at_39) ?_
    show Steps p.tables e below (s₁.setTop (mkF m 40 #[.val (.int nq), .val (.long xq), .second, .val (.long yq), .second, .val (.long zq), .second, .val (.int ln), .val (.int a0'), .val (.int a1), .val (.int a2), .val (.int i103), .unset, .unset, .unset, .unset, .unset, .unset, .unset, .unset, .unset, .unset, .unset] [(.int (3 : Int32)), (.int nq)])) _
    refine XS.iushr X0.here hx rfl (hb hby at_40) rfl ?_
    show Steps p.tables e below (s₁.setTop (mkF m 41 #[.val (.int nq), .val (.long xq), .second, .val (.long yq), .second, .val (.long zq), .second, .val (.int ln), .val (.int a0'), .val (.int a1), .val (.int a2), .val (.int i103), .unset, .unset, .unset, .unset, .unset, .unset, .unset, .unset, .unset, .unset, .unset] [(.int ((nq.toUInt32 >>> ((3 : Int32) &&& 31).toUInt32).toInt32))])) _
    refine XS.iconst X0.here hx rfl (hb hby at_41) ?_
    show Steps p.tables e below (s₁.setTop (mkF m 42 #[.val (.int nq), .val (.long xq), .second, .val (.long yq), .second, .val (.long zq), .second, .val (.int ln), .val (.int a0'), .val (.int a1), .val (.int a2), .val (.int i103), .unset, .unset, .unset, .unset, .unset, .unset, .unset, .unset, .unset, .unset, .unset] [(.int (1 : Int32)), (.int ((nq.toUInt32 >>> ((3 : Int32) &&& 31).toUInt32).toInt32))])) _
    refine XS.iand X0.here hx rfl (hb hby at_42) rfl ?_
    exact k)
  obtain ⟨i107, hi107⟩ : ∃ z : Int32, z = (if (((nq.toUInt32 >>> ((3 : Int32) &&& 31).toUInt32).toInt32) &&& (1 : Int32)) = (0 : Int32) then (((yq.toUInt64 >>> ((32 : Int32) &&& 0x3f).toInt64.toUInt64).toInt64).toInt32) else a1) := ⟨_, rfl⟩
  have k108 : ∀ t, Steps p.tables e below (s₁.setTop (mkF m 56 #[.val (.int nq), .val (.long xq), .second, .val (.long yq), .second, .val (.long zq), .second, .val (.int ln), .val (.int a0'), .val (.int a1), .val (.int a2), .val (.int i103), .unset, .unset, .unset, .unset, .unset, .unset, .unset, .unset, .unset, .unset, .unset] [(.int i107)])) t → Steps p.tables e below (s₁.setTop (entryFrame m #[(.int nq), (.long xq), (.long yq), (.long zq)] maxLocals)) t := fun t k => k105 t (by
    by_cases c106 : (((nq.toUInt32 >>> ((3 : Int32) &&& 31).toUInt32).toInt32) &&& (1 : Int32)) = (0 : Int32)
    · rw [if_pos c106] at hi107
      show Steps p.tables e below (s₁.setTop (mkF m 43 #[.val (.int nq), .val (.long xq), .second, .val (.long yq), .second, .val (.long zq), .second, .val (.int ln), .val (.int a0'), .val (.int a1), .val (.int a2), .val (.int i103), .unset, .unset, .unset, .unset, .unset, .unset, .unset, .unset, .unset, .unset, .unset] [(.int (((nq.toUInt32 >>> ((3 : Int32) &&& 31).toUInt32).toInt32) &&& (1 : Int32)))])) _
      refine XS.ifYes X0.here hx rfl (pc0 := 43) (pc' := 51) rfl (hb hby at_43) rfl ((if0 _ _).trans (teq c106).1) (by decide) (by decide) ?_
      show Steps p.tables e below (s₁.setTop (mkF m 51 #[.val (.int nq), .val (.long xq), .second, .val (.long yq), .second, .val (.long zq), .second, .val (.int ln), .val (.int a0'), .val (.int a1), .val (.int a2), .val (.int i103), .unset, .unset, .unset, .unset, .unset, .unset, .unset, .unset, .unset, .unset, .unset] [])) _
      refine XS.lloadN X0.here hx rfl (hb hby at_51) rfl ?_
      show Steps p.tables e below (s₁.setTop (mkF m 52 #[.val (.int nq), .val (.long xq), .second, .val (.long yq), .second, .val (.long zq), .second, .val (.int ln), .val (.int a0'), .val (.int a1), .val (.int a2), .val (.int i103), .unset, .unset, .unset, .unset, .unset, .unset, .unset, .unset, .unset, .unset, .unset] [(.long yq)])) _
      refine XS.bipush X0.here hx rfl (hb hby at_52) ?_
      show Steps p.tables e below (s₁.setTop (mkF m 54 #[.val (.int nq), .val (.long xq), .second, .val (.long yq), .second, .val (.long zq), .second, .val (.int ln), .val (.int a0'), .val (.int a1), .val (.int a2), .val (.int i103), .unset, .unset, .unset, .unset, .unset, .unset, .unset, .unset, .unset, .unset, .unset] [(.int (32 : Int32)), (.long yq)])) _
      refine XS.lushr X0.here hx rfl (hb hby at_54) rfl ?_
      show Steps p.tables e below (s₁.setTop (mkF m 55 #[.val (.int nq), .val (.long xq), .second, .val (.long yq), .second, .val (.long zq), .second, .val (.int ln), .val (.int a0'), .val (.int a1), .val (.int a2), .val (.int i103), .unset, .unset, .unset, .unset, .unset, .unset, .unset, .unset, .unset, .unset, .unset] [(.long ((yq.toUInt64 >>> ((32 : Int32) &&& 0x3f).toInt64.toUInt64).toInt64))])) _
      refine XS.l2i X0.here hx rfl (hb hby at_55) rfl ?_
      show Steps p.tables e below (s₁.setTop (mkF m 56 #[.val (.int nq), .val (.long xq), .second, .val (.long yq), .second, .val (.long zq), .second, .val (.int ln), .val (.int a0'), .val (.int a1), .val (.int a2), .val (.int i103), .unset, .unset, .unset, .unset, .unset, .unset, .unset, .unset, .unset, .unset, .unset] [(.int (((yq.toUInt64 >>> ((32 : Int32) &&& 0x3f).toInt64.toUInt64).toInt64).toInt32))])) _
      exact castTop (by rw [hi107]) k
    · rw [if_neg c106] at hi107
      show Steps p.tables e below (s₁.setTop (mkF m 43 #[.val (.int nq), .val (.long xq), .second, .val (.long yq), .second, .val (.long zq), .second, .val (.int ln), .val (.int a0'), .val (.int a1), .val (.int a2), .val (.int i103), .unset, .unset, .unset, .unset, .unset, .unset, .unset, .unset, .unset, .unset, .unset] [(.int (((nq.toUInt32 >>> ((3 : Int32) &&& 31).toUInt32).toInt32) &&& (1 : Int32)))])) _
      refine XS.ifNo X0.here hx rfl (hb hby at_43) rfl ((if0 _ _).trans (feq c106).1) ?_
      show Steps p.tables e below (s₁.setTop (mkF m 46 #[.val (.int nq), .val (.long xq), .second, .val (.long yq), .second, .val (.long zq), .second, .val (.int ln), .val (.int a0'), .val (.int a1), .val (.int a2), .val (.int i103), .unset, .unset, .unset, .unset, .unset, .unset, .unset, .unset, .unset, .unset, .unset] [])) _
      refine XS.iload X0.here hx rfl (hb hby at_46) rfl ?_
      show Steps p.tables e below (s₁.setTop (mkF m 48 #[.val (.int nq), .val (.long xq), .second, .val (.long yq), .second, .val (.long zq), .second, .val (.int ln), .val (.int a0'), .val (.int a1), .val (.int a2), .val (.int i103), .unset, .unset, .unset, .unset, .unset, .unset, .unset, .unset, .unset, .unset, .unset] [(.int a1)])) _
      refine XS.goto X0.here hx rfl (pc0 := 48) (pc' := 56) rfl (hb hby at_48) (by decide) (by decide) ?_
      show Steps p.tables e below (s₁.setTop (mkF m 56 #[.val (.int nq), .val (.long xq), .second, .val (.long yq), .second, .val (.long zq), .second, .val (.int ln), .val (.int a0'), .val (.int a1), .val (.int a2), .val (.int i103), .unset, .unset, .unset, .unset, .unset, .unset, .unset, .unset, .unset, .unset, .unset] [(.int a1)])) _
      exact castTop (by rw [hi107]) k)
  have k109 : ∀ t, Steps p.tables e below (s₁.setTop (mkF m 63 #[.val (.int nq), .val (.long xq), .second, .val (.long yq), .second, .val (.long zq), .second, .val (.int ln), .val (.int a0'), .val (.int a1), .val (.int a2), .val (.int i103), .val (.int i107), .unset, .unset, .unset, .unset, .unset, .unset, .unset, .unset, .unset, .unset] [(.int (((nq.toUInt32 >>> ((4 : Int32) &&& 31).toUInt32).toInt32) &&& (1 : Int32)))])) t → Steps p.tables e below (s₁.setTop (entryFrame m #[(.int nq), (.long xq), (.long yq), (.long zq)] maxLocals)) t := fun t k => k108 t (by
    show Steps p.tables e below (s₁.setTop (mkF m 56 #[.val (.int nq), .val (.long xq), .second, .val (.long yq), .second, .val (.long zq), .second, .val (.int ln), .val (.int a0'), .val (.int a1), .val (.int a2), .val (.int i103), .unset, .unset, .unset, .unset, .unset, .unset, .unset, .unset, .unset, .unset, .unset] [(.int i107)])) _
    refine XS.istore X0.here hx rfl (hb hby at_56) rfl (l' := #[.val (.int nq), .val (.long xq), .second, .val (.long yq), .second, .val (.long zq), .second, .val (.int ln), .val (.int a0'), .val (.int a1), .val (.int a2), .val (.int i103), .val (.int i107), .unset, .unset, .unset, .unset, .unset, .unset, .unset, .unset, .unset, .unset]) rfl ?_
    show Steps p.tables e below (s₁.setTop (mkF m 58 #[.val (.int nq), .val (.long xq), .second, .val (.long yq), .second, .val (.long zq), .second, .val (.int ln), .val (.int a0'), .val (.int a1), .val (.int a2), .val (.int i103), .val (.int i107), .unset, .unset, .unset, .unset, .unset, .unset, .unset, .unset, .unset, .unset] [])) _
    refine XS.iloadN X0.here hx rfl (hb hby at_58) rfl ?_
    show Steps p.tables e below (s₁.setTop (mkF m 59 #[.val (.int nq), .val (.long xq), .second, .val (.long yq), .second, .val (.long zq), .second, .val (.int ln), .val (.int a0'), .val (.int a1), .val (.int a2), .val (.int i103), .val (.int i107), .unset, .unset, .unset, .unset, .unset, .unset, .unset, .unset, .unset, .unset] [(.int nq)])) _
    refine XS.iconst X0.here hx rfl (hb hby at_59) ?_
    show Steps p.tables e below (s₁.setTop (mkF m 60 #[.val (.int nq), .val (.long xq), .second, .val (.long yq), .second, .val (.long zq), .second, .val (.int ln), .val (.int a0'), .val (.int a1), .val (.int a2), .val (.int i103), .val (.int i107), .unset, .unset, .unset, .unset, .unset, .unset, .unset, .unset, .unset, .unset] [(.int (4 : Int32)), (.int nq)])) _
    refine XS.iushr X0.here hx rfl (hb hby at_60) rfl ?_
    show Steps p.tables e below (s₁.setTop (mkF m 61 #[.val (.int nq), .val (.long xq), .second, .val (.long yq), .second, .val (.long zq), .second, .val (.int ln), .val (.int a0'), .val (.int a1), .val (.int a2), .val (.int i103), .val (.int i107), .unset, .unset, .unset, .unset, .unset, .unset, .unset, .unset, .unset, .unset] [(.int ((nq.toUInt32 >>> ((4 : Int32) &&& 31).toUInt32).toInt32))])) _
    refine XS.iconst X0.here hx rfl (hb hby at_61) ?_
    show Steps p.tables e below (s₁.setTop (mkF m 62 #[.val (.int nq), .val (.long xq), .second, .val (.long yq), .second, .val (.long zq), .second, .val (.int ln), .val (.int a0'), .val (.int a1), .val (.int a2), .val (.int i103), .val (.int i107), .unset, .unset, .unset, .unset, .unset, .unset, .unset, .unset, .unset, .unset] [(.int (1 : Int32)), (.int ((nq.toUInt32 >>> ((4 : Int32) &&& 31).toUInt32).toInt32))])) _
    refine XS.iand X0.here hx rfl (hb hby at_62) rfl ?_
    exact k)
  obtain ⟨i111, hi111⟩ : ∃ z : Int32, z = (if (((nq.toUInt32 >>> ((4 : Int32) &&& 31).toUInt32).toInt32) &&& (1 : Int32)) = (0 : Int32) then (((zq.toUInt64 >>> ((32 : Int32) &&& 0x3f).toInt64.toUInt64).toInt64).toInt32) else a2) := ⟨_, rfl⟩
  have k112 : ∀ t, Steps p.tables e below (s₁.setTop (mkF m 77 #[.val (.int nq), .val (.long xq), .second, .val (.long yq), .second, .val (.long zq), .second, .val (.int ln), .val (.int a0'), .val (.int a1), .val (.int a2), .val (.int i103), .val (.int i107), .unset, .unset, .unset, .unset, .unset, .unset, .unset, .unset, .unset, .unset] [(.int i111)])) t → Steps p.tables e below (s₁.setTop (entryFrame m #[(.int nq), (.long xq), (.long yq), (.long zq)] maxLocals)) t := fun t k => k109 t (by
    by_cases c110 : (((nq.toUInt32 >>> ((4 : Int32) &&& 31).toUInt32).toInt32) &&& (1 : Int32)) = (0 : Int32)
    · rw [if_pos c110] at hi111
      show Steps p.tables e below (s₁.setTop (mkF m 63 #[.val (.int nq), .val (.long xq), .second, .val (.long yq), .second, .val (.long zq), .second, .val (.int ln), .val (.int a0'), .val (.int a1), .val (.int a2), .val (.int i103), .val (.int i107), .unset, .unset, .unset, .unset, .unset, .unset, .unset, .unset, .unset, .unset] [(.int (((nq.toUInt32 >>> ((4 : Int32) &&& 31).toUInt32).toInt32) &&& (1 : Int32)))])) _
      refine XS.ifYes X0.here hx rfl (pc0 := 63) (pc' := 71) rfl (hb hby at_63) rfl ((if0 _ _).trans (teq c110).1) (by decide) (by decide) ?_
      show Steps p.tables e below (s₁.setTop (mkF m 71 #[.val (.int nq), .val (.long xq), .second, .val (.long yq), .second, .val (.long zq), .second, .val (.int ln), .val (.int a0'), .val (.int a1), .val (.int a2), .val (.int i103), .val (.int i107), .unset, .unset, .unset, .unset, .unset, .unset, .unset, .unset, .unset, .unset] [])) _
      refine XS.lload X0.here hx rfl (hb hby at_71) rfl ?_
      show Steps p.tables e below (s₁.setTop (mkF m 73 #[.val (.int nq), .val (.long xq), .second, .val (.long yq), .second, .val (.long zq), .second, .val (.int ln), .val (.int a0'), .val (.int a1), .val (.int a2), .val (.int i103), .val (.int i107), .unset, .unset, .unset, .unset, .unset, .unset, .unset, .unset, .unset, .unset] [(.long zq)])) _
      refine XS.bipush X0.here hx rfl (hb hby at_73) ?_
      show Steps p.tables e below (s₁.setTop (mkF m 75 #[.val (.int nq), .val (.long xq), .second, .val (.long yq), .second, .val (.long zq), .second, .val (.int ln), .val (.int a0'), .val (.int a1), .val (.int a2), .val (.int i103), .val (.int i107), .unset, .unset, .unset, .unset, .unset, .unset, .unset, .unset, .unset, .unset] [(.int (32 : Int32)), (.long zq)])) _
      refine XS.lushr X0.here hx rfl (hb hby at_75) rfl ?_
      show Steps p.tables e below (s₁.setTop (mkF m 76 #[.val (.int nq), .val (.long xq), .second, .val (.long yq), .second, .val (.long zq), .second, .val (.int ln), .val (.int a0'), .val (.int a1), .val (.int a2), .val (.int i103), .val (.int i107), .unset, .unset, .unset, .unset, .unset, .unset, .unset, .unset, .unset, .unset] [(.long ((zq.toUInt64 >>> ((32 : Int32) &&& 0x3f).toInt64.toUInt64).toInt64))])) _
      refine XS.l2i X0.here hx rfl (hb hby at_76) rfl ?_
      show Steps p.tables e below (s₁.setTop (mkF m 77 #[.val (.int nq), .val (.long xq), .second, .val (.long yq), .second, .val (.long zq), .second, .val (.int ln), .val (.int a0'), .val (.int a1), .val (.int a2), .val (.int i103), .val (.int i107), .unset, .unset, .unset, .unset, .unset, .unset, .unset, .unset, .unset, .unset] [(.int (((zq.toUInt64 >>> ((32 : Int32) &&& 0x3f).toInt64.toUInt64).toInt64).toInt32))])) _
      exact castTop (by rw [hi111]) k
    · rw [if_neg c110] at hi111
      show Steps p.tables e below (s₁.setTop (mkF m 63 #[.val (.int nq), .val (.long xq), .second, .val (.long yq), .second, .val (.long zq), .second, .val (.int ln), .val (.int a0'), .val (.int a1), .val (.int a2), .val (.int i103), .val (.int i107), .unset, .unset, .unset, .unset, .unset, .unset, .unset, .unset, .unset, .unset] [(.int (((nq.toUInt32 >>> ((4 : Int32) &&& 31).toUInt32).toInt32) &&& (1 : Int32)))])) _
      refine XS.ifNo X0.here hx rfl (hb hby at_63) rfl ((if0 _ _).trans (feq c110).1) ?_
      show Steps p.tables e below (s₁.setTop (mkF m 66 #[.val (.int nq), .val (.long xq), .second, .val (.long yq), .second, .val (.long zq), .second, .val (.int ln), .val (.int a0'), .val (.int a1), .val (.int a2), .val (.int i103), .val (.int i107), .unset, .unset, .unset, .unset, .unset, .unset, .unset, .unset, .unset, .unset] [])) _
      refine XS.iload X0.here hx rfl (hb hby at_66) rfl ?_
      show Steps p.tables e below (s₁.setTop (mkF m 68 #[.val (.int nq), .val (.long xq), .second, .val (.long yq), .second, .val (.long zq), .second, .val (.int ln), .val (.int a0'), .val (.int a1), .val (.int a2), .val (.int i103), .val (.int i107), .unset, .unset, .unset, .unset, .unset, .unset, .unset, .unset, .unset, .unset] [(.int a2)])) _
      refine XS.goto X0.here hx rfl (pc0 := 68) (pc' := 77) rfl (hb hby at_68) (by decide) (by decide) ?_
      show Steps p.tables e below (s₁.setTop (mkF m 77 #[.val (.int nq), .val (.long xq), .second, .val (.long yq), .second, .val (.long zq), .second, .val (.int ln), .val (.int a0'), .val (.int a1), .val (.int a2), .val (.int i103), .val (.int i107), .unset, .unset, .unset, .unset, .unset, .unset, .unset, .unset, .unset, .unset] [(.int a2)])) _
      exact castTop (by rw [hi111]) k)
  have k113 : ∀ t, Steps p.tables e below (s₁.setTop (mkF m 87 #[.val (.int nq), .val (.long xq), .second, .val (.long yq), .second, .val (.long zq), .second, .val (.int ln), .val (.int a0'), .val (.int a1), .val (.int a2), .val (.int i103), .val (.int i107), .val (.int i111), .unset, .unset, .unset, .unset, .unset, .unset, .unset, .unset, .unset] [(.int a2), (.int a1), (.int a0'), (.int ln)])) t → Steps p.tables e below (s₁.setTop (entryFrame m #[(.int nq), (.long xq), (.long yq), (.long zq)] maxLocals)) t := fun t k => k112 t (by
    show Steps p.tables e below (s₁.setTop (mkF m 77 #[.val (.int nq), .val (.long xq), .second, .val (.long yq), .second, .val (.long zq), .second, .val (.int ln), .val (.int a0'), .val (.int a1), .val (.int a2), .val (.int i103), .val (.int i107), .unset, .unset, .unset, .unset, .unset, .unset, .unset, .unset, .unset, .unset] [(.int i111)])) _
    refine XS.istore X0.here hx rfl (hb hby at_77) rfl (l' := #[.val (.int nq), .val (.long xq), .second, .val (.long yq), .second, .val (.long zq), .second, .val (.int ln), .val (.int a0'), .val (.int a1), .val (.int a2), .val (.int i103), .val (.int i107), .val (.int i111), .unset, .unset, .unset, .unset, .unset, .unset, .unset, .unset, .unset]) rfl ?_
    show Steps p.tables e below (s₁.setTop (mkF m 79 #[.val (.int nq), .val (.long xq), .second, .val (.long yq), .second, .val (.long zq), .second, .val (.int ln), .val (.int a0'), .val (.int a1), .val (.int a2), .val (.int i103), .val (.int i107), .val (.int i111), .unset, .unset, .unset, .unset, .unset, .unset, .unset, .unset, .unset] [])) _
    refine XS.iload X0.here hx rfl (hb hby at_79) rfl ?_
    show Steps p.tables e below (s₁.setTop (mkF m 81 #[.val (.int nq), .val (.long xq), .second, .val (.long yq), .second, .val (.long zq), .second, .val (.int ln), .val (.int a0'), .val (.int a1), .val (.int a2), .val (.int i103), .val (.int i107), .val (.int i111), .unset, .unset, .unset, .unset, .unset, .unset, .unset, .unset, .unset] [(.int ln)])) _
    refine XS.iload X0.here hx rfl (hb hby at_81) rfl ?_
    show Steps p.tables e below (s₁.setTop (mkF m 83 #[.val (.int nq), .val (.long xq), .second, .val (.long yq), .second, .val (.long zq), .second, .val (.int ln), .val (.int a0'), .val (.int a1), .val (.int a2), .val (.int i103), .val (.int i107), .val (.int i111), .unset, .unset, .unset, .unset, .unset, .unset, .unset, .unset, .unset] [(.int a0'), (.int ln)])) _
    refine XS.iload X0.here hx rfl (hb hby at_83) rfl ?_
    show Steps p.tables e below (s₁.setTop (mkF m 85 #[.val (.int nq), .val (.long xq), .second, .val (.long yq), .second, .val (.long zq), .second, .val (.int ln), .val (.int a0'), .val (.int a1), .val (.int a2), .val (.int i103), .val (.int i107), .val (.int i111), .unset, .unset, .unset, .unset, .unset, .unset, .unset, .unset, .unset] [(.int a1), (.int a0'), (.int ln)])) _
    refine XS.iload X0.here hx rfl (hb hby at_85) rfl ?_
    exact k)
  rcases own_n nq ln hln with rfl | rfl | rfl | rfl
  · obtain ⟨_, _, ⟨T114, L114, k114, n114⟩, -, X114, ⟨Lc114, hQ114, l114, y114, z114⟩, st114⟩ := Jvm.LawKit.callS X0 hx (y := (⟨"com/example/frontweave/frontweave/selection/FrontsDominatesPinLaw", "vec", "(IIII)[D"⟩ : MethodName)) hown (mvT hZ (hw _ (List.mem_of_getElem? (i := 0) rfl))) (mvT hZ (hw _ (List.mem_of_getElem? (i := 1) rfl))) (mvT hZ (hw _ (List.mem_of_getElem? (i := 2) rfl))) (mvT hZ (hw _ (List.mem_of_getElem? (i := 3) rfl))) (by decide) (backOf (W := 0) (vec0 l Z a0 hw [] a0' a1 a2 h0 n0 Z0 ) hZ (hw _ (List.mem_of_getElem? (i := 3) rfl)) (hw _ (List.mem_of_getElem? (i := 2) rfl)) (by decide) (by decide)) (g := (mkF m 87 #[.val (.int nq), .val (.long xq), .second, .val (.long yq), .second, .val (.long zq), .second, .val (.int (0 : Int32)), .val (.int a0'), .val (.int a1), .val (.int a2), .val (.int i103), .val (.int i107), .val (.int i111), .unset, .unset, .unset, .unset, .unset, .unset, .unset, .unset, .unset] [(.int a2), (.int a1), (.int a0'), (.int (0 : Int32))])) rfl (by rw [hml]; rfl) (argsL := [(.int (0 : Int32)), (.int a0'), (.int a1), (.int a2)]) (rest := []) (lenOf pd__28IIII_29_5bD rfl) rfl (by show 2 * 0 + _ ≤ _; exact Nat.le_of_eq rfl) (hb hby at_87) (fun _ _ => ⟨rfl, e0, (by decide : 0 + 1 ≤ _), (by decide : 0 + 0 ≤ _)⟩)
    dsimp only [Pt.U, Pt.locs, Pt.cells, Pt.slots] at X114 l114 y114 z114 st114 hQ114
    subst l114 y114 z114
    obtain ⟨h114, e114⟩ : ∃ h', T114.heap = h' := ⟨_, rfl⟩
    rw [e114] at hQ114
    obtain ⟨b114, kk114, rfl, N114q, gb114, K114, V114⟩ := hQ114
    have N115 := Fr.app N0 N114q
    have k116 : ∀ t, Steps p.tables e below (T114.setTop (mkF m 90 #[.val (.int nq), .val (.long xq), .second, .val (.long yq), .second, .val (.long zq), .second, .val (.int (0 : Int32)), .val (.int a0'), .val (.int a1), .val (.int a2), .val (.int i103), .val (.int i107), .val (.int i111), .unset, .unset, .unset, .unset, .unset, .unset, .unset, .unset, .unset] [(.ref b114)])) t → Steps p.tables e below (s₁.setTop (entryFrame m #[(.int nq), (.long xq), (.long yq), (.long zq)] maxLocals)) t := fun t k => k113 t (st114 t k)
    have g117 : n0 ≤ b114 := Nat.le_trans Z0 (Nat.le_of_eq gb114.symm)
    have Z118 : n0 ≤ h114.size := Nat.le_trans Z0 K114.1
    have k119 : ∀ t, Steps p.tables e below (T114.setTop (mkF m 100 #[.val (.int nq), .val (.long xq), .second, .val (.long yq), .second, .val (.long zq), .second, .val (.int (0 : Int32)), .val (.int a0'), .val (.int a1), .val (.int a2), .val (.int i103), .val (.int i107), .val (.int i111), .val (.ref b114), .unset, .unset, .unset, .unset, .unset, .unset, .unset, .unset] [(.int i111), (.int i107), (.int i103), (.int (0 : Int32))])) t → Steps p.tables e below (s₁.setTop (entryFrame m #[(.int nq), (.long xq), (.long yq), (.long zq)] maxLocals)) t := fun t k => k116 t (by
      show Steps p.tables e below (T114.setTop (mkF m 90 #[.val (.int nq), .val (.long xq), .second, .val (.long yq), .second, .val (.long zq), .second, .val (.int (0 : Int32)), .val (.int a0'), .val (.int a1), .val (.int a2), .val (.int i103), .val (.int i107), .val (.int i111), .unset, .unset, .unset, .unset, .unset, .unset, .unset, .unset, .unset] [(.ref b114)])) _
      refine XS.astore X114.here hx rfl (hb hby at_90) rfl rfl (l' := #[.val (.int nq), .val (.long xq), .second, .val (.long yq), .second, .val (.long zq), .second, .val (.int (0 : Int32)), .val (.int a0'), .val (.int a1), .val (.int a2), .val (.int i103), .val (.int i107), .val (.int i111), .val (.ref b114), .unset, .unset, .unset, .unset, .unset, .unset, .unset, .unset]) rfl ?_
      show Steps p.tables e below (T114.setTop (mkF m 92 #[.val (.int nq), .val (.long xq), .second, .val (.long yq), .second, .val (.long zq), .second, .val (.int (0 : Int32)), .val (.int a0'), .val (.int a1), .val (.int a2), .val (.int i103), .val (.int i107), .val (.int i111), .val (.ref b114), .unset, .unset, .unset, .unset, .unset, .unset, .unset, .unset] [])) _
      refine XS.iload X114.here hx rfl (hb hby at_92) rfl ?_
      show Steps p.tables e below (T114.setTop (mkF m 94 #[.val (.int nq), .val (.long xq), .second, .val (.long yq), .second, .val (.long zq), .second, .val (.int (0 : Int32)), .val (.int a0'), .val (.int a1), .val (.int a2), .val (.int i103), .val (.int i107), .val (.int i111), .val (.ref b114), .unset, .unset, .unset, .unset, .unset, .unset, .unset, .unset] [(.int (0 : Int32))])) _
      refine XS.iload X114.here hx rfl (hb hby at_94) rfl ?_
      show Steps p.tables e below (T114.setTop (mkF m 96 #[.val (.int nq), .val (.long xq), .second, .val (.long yq), .second, .val (.long zq), .second, .val (.int (0 : Int32)), .val (.int a0'), .val (.int a1), .val (.int a2), .val (.int i103), .val (.int i107), .val (.int i111), .val (.ref b114), .unset, .unset, .unset, .unset, .unset, .unset, .unset, .unset] [(.int i103), (.int (0 : Int32))])) _
      refine XS.iload X114.here hx rfl (hb hby at_96) rfl ?_
      show Steps p.tables e below (T114.setTop (mkF m 98 #[.val (.int nq), .val (.long xq), .second, .val (.long yq), .second, .val (.long zq), .second, .val (.int (0 : Int32)), .val (.int a0'), .val (.int a1), .val (.int a2), .val (.int i103), .val (.int i107), .val (.int i111), .val (.ref b114), .unset, .unset, .unset, .unset, .unset, .unset, .unset, .unset] [(.int i107), (.int i103), (.int (0 : Int32))])) _
      refine XS.iload X114.here hx rfl (hb hby at_98) rfl ?_
      exact k)
    obtain ⟨_, _, ⟨T120, L120, k120, n120⟩, -, X120, ⟨Lc120, hQ120, l120, y120, z120⟩, st120⟩ := Jvm.LawKit.callS X114 hx (y := (⟨"com/example/frontweave/frontweave/selection/FrontsDominatesPinLaw", "vec", "(IIII)[D"⟩ : MethodName)) hown (mvT hZ (hw _ (List.mem_of_getElem? (i := 0) rfl))) (mvT hZ (hw _ (List.mem_of_getElem? (i := 1) rfl))) (mvT hZ (hw _ (List.mem_of_getElem? (i := 2) rfl))) (mvT hZ (hw _ (List.mem_of_getElem? (i := 3) rfl))) (by decide) (backOf (W := 0) (vec0 l Z a0 hw [] i103 i107 i111 h114 n0 Z118 ) hZ (hw _ (List.mem_of_getElem? (i := 3) rfl)) (hw _ (List.mem_of_getElem? (i := 2) rfl)) (by decide) (by decide)) (g := (mkF m 100 #[.val (.int nq), .val (.long xq), .second, .val (.long yq), .second, .val (.long zq), .second, .val (.int (0 : Int32)), .val (.int a0'), .val (.int a1), .val (.int a2), .val (.int i103), .val (.int i107), .val (.int i111), .val (.ref b114), .unset, .unset, .unset, .unset, .unset, .unset, .unset, .unset] [(.int i111), (.int i107), (.int i103), (.int (0 : Int32))])) rfl (by rw [hml]; rfl) (argsL := [(.int (0 : Int32)), (.int i103), (.int i107), (.int i111)]) (rest := []) (lenOf pd__28IIII_29_5bD rfl) rfl (by show 2 * 0 + _ ≤ _; exact Nat.le_of_eq rfl) (hb hby at_100) (fun _ _ => ⟨rfl, e114, (by decide : 1 + 1 ≤ _), (by decide : 0 + 0 ≤ _)⟩)
    dsimp only [Pt.U, Pt.locs, Pt.cells, Pt.slots] at X120 l120 y120 z120 st120 hQ120
    subst l120 y120 z120
    obtain ⟨h120, e120⟩ : ∃ h', T120.heap = h' := ⟨_, rfl⟩
    rw [e120] at hQ120
    obtain ⟨b120, kk120, rfl, N120q, gb120, K120, V120⟩ := hQ120
    have N121 := Fr.app N115 N120q
    have k122 : ∀ t, Steps p.tables e below (T120.setTop (mkF m 103 #[.val (.int nq), .val (.long xq), .second, .val (.long yq), .second, .val (.long zq), .second, .val (.int (0 : Int32)), .val (.int a0'), .val (.int a1), .val (.int a2), .val (.int i103), .val (.int i107), .val (.int i111), .val (.ref b114), .unset, .unset, .unset, .unset, .unset, .unset, .unset, .unset] [(.ref b120)])) t → Steps p.tables e below (s₁.setTop (entryFrame m #[(.int nq), (.long xq), (.long yq), (.long zq)] maxLocals)) t := fun t k => k119 t (st120 t k)
    have n123 : b114 ≠ b120 := Nat.ne_of_lt (Nat.lt_of_lt_of_le V114.lt (Nat.le_of_eq gb120.symm))
    have g124 : n0 ≤ b120 := Nat.le_trans Z118 (Nat.le_of_eq gb120.symm)
    have F125 := V114.keep K120 nin0
    have Z126 : n0 ≤ h120.size := Nat.le_trans Z118 K120.1
    have k127 : ∀ t, Steps p.tables e below (T120.setTop (mkF m 266 #[.val (.int nq), .val (.long xq), .second, .val (.long yq), .second, .val (.long zq), .second, .val (.int (0 : Int32)), .val (.int a0'), .val (.int a1), .val (.int a2), .val (.int i103), .val (.int i107), .val (.int i111), .val (.ref b114), .val (.ref b120), .val (.int (1 : Int32)), .val (.int (1 : Int32)), .val (.int (1 : Int32)), .val (.int (0 : Int32)), .val (.int (0 : Int32)), .val (.int (0 : Int32)), .val (.int (0 : Int32))] [(.ref b120), (.ref b114)])) t → Steps p.tables e below (s₁.setTop (entryFrame m #[(.int nq), (.long xq), (.long yq), (.long zq)] maxLocals)) t := fun t k => k122 t (by
      show Steps p.tables e below (T120.setTop (mkF m 103 #[.val (.int nq), .val (.long xq), .second, .val (.long yq), .second, .val (.long zq), .second, .val (.int (0 : Int32)), .val (.int a0'), .val (.int a1), .val (.int a2), .val (.int i103), .val (.int i107), .val (.int i111), .val (.ref b114), .unset, .unset, .unset, .unset, .unset, .unset, .unset, .unset] [(.ref b120)])) _
      refine XS.astore X120.here hx rfl (hb hby at_103) rfl rfl (l' := #[.val (.int nq), .val (.long xq), .second, .val (.long yq), .second, .val (.long zq), .second, .val (.int (0 : Int32)), .val (.int a0'), .val (.int a1), .val (.int a2), .val (.int i103), .val (.int i107), .val (.int i111), .val (.ref b114), .val (.ref b120), .unset, .unset, .unset, .unset, .unset, .unset, .unset]) rfl ?_
      show Steps p.tables e below (T120.setTop (mkF m 105 #[.val (.int nq), .val (.long xq), .second, .val (.long yq), .second, .val (.long zq), .second, .val (.int (0 : Int32)), .val (.int a0'), .val (.int a1), .val (.int a2), .val (.int i103), .val (.int i107), .val (.int i111), .val (.ref b114), .val (.ref b120), .unset, .unset, .unset, .unset, .unset, .unset, .unset] [])) _
      refine XS.iload X120.here hx rfl (hb hby at_105) rfl ?_
      show Steps p.tables e below (T120.setTop (mkF m 107 #[.val (.int nq), .val (.long xq), .second, .val (.long yq), .second, .val (.long zq), .second, .val (.int (0 : Int32)), .val (.int a0'), .val (.int a1), .val (.int a2), .val (.int i103), .val (.int i107), .val (.int i111), .val (.ref b114), .val (.ref b120), .unset, .unset, .unset, .unset, .unset, .unset, .unset] [(.int (0 : Int32))])) _
      refine XS.iconst X120.here hx rfl (hb hby at_107) ?_
      show Steps p.tables e below (T120.setTop (mkF m 108 #[.val (.int nq), .val (.long xq), .second, .val (.long yq), .second, .val (.long zq), .second, .val (.int (0 : Int32)), .val (.int a0'), .val (.int a1), .val (.int a2), .val (.int i103), .val (.int i107), .val (.int i111), .val (.ref b114), .val (.ref b120), .unset, .unset, .unset, .unset, .unset, .unset, .unset] [(.int (1 : Int32)), (.int (0 : Int32))])) _
      refine XS.icmpYes X120.here hx rfl (pc0 := 108) (pc' := 118) rfl (hb hby at_108) rfl (tlt (by decide)).1 (by decide) (by decide) ?_
      show Steps p.tables e below (T120.setTop (mkF m 118 #[.val (.int nq), .val (.long xq), .second, .val (.long yq), .second, .val (.long zq), .second, .val (.int (0 : Int32)), .val (.int a0'), .val (.int a1), .val (.int a2), .val (.int i103), .val (.int i107), .val (.int i111), .val (.ref b114), .val (.ref b120), .unset, .unset, .unset, .unset, .unset, .unset, .unset] [])) _
      refine XS.iconst X120.here hx rfl (hb hby at_118) ?_
      show Steps p.tables e below (T120.setTop (mkF m 119 #[.val (.int nq), .val (.long xq), .second, .val (.long yq), .second, .val (.long zq), .second, .val (.int (0 : Int32)), .val (.int a0'), .val (.int a1), .val (.int a2), .val (.int i103), .val (.int i107), .val (.int i111), .val (.ref b114), .val (.ref b120), .unset, .unset, .unset, .unset, .unset, .unset, .unset] [(.int (1 : Int32))])) _
      refine XS.goto X120.here hx rfl (pc0 := 119) (pc' := 123) rfl (hb hby at_119) (by decide) (by decide) ?_
      show Steps p.tables e below (T120.setTop (mkF m 123 #[.val (.int nq), .val (.long xq), .second, .val (.long yq), .second, .val (.long zq), .second, .val (.int (0 : Int32)), .val (.int a0'), .val (.int a1), .val (.int a2), .val (.int i103), .val (.int i107), .val (.int i111), .val (.ref b114), .val (.ref b120), .unset, .unset, .unset, .unset, .unset, .unset, .unset] [(.int (1 : Int32))])) _
      refine XS.istore X120.here hx rfl (hb hby at_123) rfl (l' := #[.val (.int nq), .val (.long xq), .second, .val (.long yq), .second, .val (.long zq), .second, .val (.int (0 : Int32)), .val (.int a0'), .val (.int a1), .val (.int a2), .val (.int i103), .val (.int i107), .val (.int i111), .val (.ref b114), .val (.ref b120), .val (.int (1 : Int32)), .unset, .unset, .unset, .unset, .unset, .unset]) rfl ?_
      show Steps p.tables e below (T120.setTop (mkF m 125 #[.val (.int nq), .val (.long xq), .second, .val (.long yq), .second, .val (.long zq), .second, .val (.int (0 : Int32)), .val (.int a0'), .val (.int a1), .val (.int a2), .val (.int i103), .val (.int i107), .val (.int i111), .val (.ref b114), .val (.ref b120), .val (.int (1 : Int32)), .unset, .unset, .unset, .unset, .unset, .unset] [])) _
      refine XS.iload X120.here hx rfl (hb hby at_125) rfl ?_
      show Steps p.tables e below (T120.setTop (mkF m 127 #[.val (.int nq), .val (.long xq), .second, .val (.long yq), .second, .val (.long zq), .second, .val (.int (0 : Int32)), .val (.int a0'), .val (.int a1), .val (.int a2), .val (.int i103), .val (.int i107), .val (.int i111), .val (.ref b114), .val (.ref b120), .val (.int (1 : Int32)), .unset, .unset, .unset, .unset, .unset, .unset] [(.int (0 : Int32))])) _
      refine XS.iconst X120.here hx rfl (hb hby at_127) ?_
      show Steps p.tables e below (T120.setTop (mkF m 128 #[.val (.int nq), .val (.long xq), .second, .val (.long yq), .second, .val (.long zq), .second, .val (.int (0 : Int32)), .val (.int a0'), .val (.int a1), .val (.int a2), .val (.int i103), .val (.int i107), .val (.int i111), .val (.ref b114), .val (.ref b120), .val (.int (1 : Int32)), .unset, .unset, .unset, .unset, .unset, .unset] [(.int (2 : Int32)), (.int (0 : Int32))])) _
      refine XS.icmpYes X120.here hx rfl (pc0 := 128) (pc' := 138) rfl (hb hby at_128) rfl (tlt (by decide)).1 (by decide) (by decide) ?_
      show Steps p.tables e below (T120.setTop (mkF m 138 #[.val (.int nq), .val (.long xq), .second, .val (.long yq), .second, .val (.long zq), .second, .val (.int (0 : Int32)), .val (.int a0'), .val (.int a1), .val (.int a2), .val (.int i103), .val (.int i107), .val (.int i111), .val (.ref b114), .val (.ref b120), .val (.int (1 : Int32)), .unset, .unset, .unset, .unset, .unset, .unset] [])) _
      refine XS.iconst X120.here hx rfl (hb hby at_138) ?_
      show Steps p.tables e below (T120.setTop (mkF m 139 #[.val (.int nq), .val (.long xq), .second, .val (.long yq), .second, .val (.long zq), .second, .val (.int (0 : Int32)), .val (.int a0'), .val (.int a1), .val (.int a2), .val (.int i103), .val (.int i107), .val (.int i111), .val (.ref b114), .val (.ref b120), .val (.int (1 : Int32)), .unset, .unset, .unset, .unset, .unset, .unset] [(.int (1 : Int32))])) _
      refine XS.goto X120.here hx rfl (pc0 := 139) (pc' := 143) rfl (hb hby at_139) (by decide) (by decide) ?_
      show Steps p.tables e below (T120.setTop (mkF m 143 #[.val (.int nq), .val (.long xq), .second, .val (.long yq), .second, .val (.long zq), .second, .val (.int (0 : Int32)), .val (.int a0'), .val (.int a1), .val (.int a2), .val (.int i103), .val (.int i107), .val (.int i111), .val (.ref b114), .val (.ref b120), .val (.int (1 : Int32)), .unset, .unset, .unset, .unset, .unset, .unset] [(.int (1 : Int32))])) _
      refine XS.istore X120.here hx rfl (hb hby at_143) rfl (l' := #[.val (.int nq), .val (.long xq), .second, .val (.long yq), .second, .val (.long zq), .second, .val (.int (0 : Int32)), .val (.int a0'), .val (.int a1), .val (.int a2), .val (.int i103), .val (.int i107), .val (.int i111), .val (.ref b114), .val (.ref b120), .val (.int (1 : Int32)), .val (.int (1 : Int32)), .unset, .unset, .unset, .unset, .unset]) rfl ?_
      show Steps p.tables e below (T120.setTop (mkF m 145 #[.val (.int nq), .val (.long xq), .second, .val (.long yq), .second, .val (.long zq), .second, .val (.int (0 : Int32)), .val (.int a0'), .val (.int a1), .val (.int a2), .val (.int i103), .val (.int i107), .val (.int i111), .val (.ref b114), .val (.ref b120), .val (.int (1 : Int32)), .val (.int (1 : Int32)), .unset, .unset, .unset, .unset, .unset] [])) _
      refine XS.iload X120.here hx rfl (hb hby at_145) rfl ?_
      show Steps p.tables e below (T120.setTop (mkF m 147 #[.val (.int nq), .val (.long xq), .second, .val (.long yq), .second, .val (.long zq), .second, .val (.int (0 : Int32)), .val (.int a0'), .val (.int a1), .val (.int a2), .val (.int i103), .val (.int i107), .val (.int i111), .val (.ref b114), .val (.ref b120), .val (.int (1 : Int32)), .val (.int (1 : Int32)), .unset, .unset, .unset, .unset, .unset] [(.int (0 : Int32))])) _
      refine XS.iconst X120.here hx rfl (hb hby at_147) ?_
      show Steps p.tables e below (T120.setTop (mkF m 148 #[.val (.int nq), .val (.long xq), .second, .val (.long yq), .second, .val (.long zq), .second, .val (.int (0 : Int32)), .val (.int a0'), .val (.int a1), .val (.int a2), .val (.int i103), .val (.int i107), .val (.int i111), .val (.ref b114), .val (.ref b120), .val (.int (1 : Int32)), .val (.int (1 : Int32)), .unset, .unset, .unset, .unset, .unset] [(.int (3 : Int32)), (.int (0 : Int32))])) _
      refine XS.icmpYes X120.here hx rfl (pc0 := 148) (pc' := 158) rfl (hb hby at_148) rfl (tlt (by decide)).1 (by decide) (by decide) ?_
      show Steps p.tables e below (T120.setTop (mkF m 158 #[.val (.int nq), .val (.long xq), .second, .val (.long yq), .second, .val (.long zq), .second, .val (.int (0 : Int32)), .val (.int a0'), .val (.int a1), .val (.int a2), .val (.int i103), .val (.int i107), .val (.int i111), .val (.ref b114), .val (.ref b120), .val (.int (1 : Int32)), .val (.int (1 : Int32)), .unset, .unset, .unset, .unset, .unset] [])) _
      refine XS.iconst X120.here hx rfl (hb hby at_158) ?_
      show Steps p.tables e below (T120.setTop (mkF m 159 #[.val (.int nq), .val (.long xq), .second, .val (.long yq), .second, .val (.long zq), .second, .val (.int (0 : Int32)), .val (.int a0'), .val (.int a1), .val (.int a2), .val (.int i103), .val (.int i107), .val (.int i111), .val (.ref b114), .val (.ref b120), .val (.int (1 : Int32)), .val (.int (1 : Int32)), .unset, .unset, .unset, .unset, .unset] [(.int (1 : Int32))])) _
      refine XS.goto X120.here hx rfl (pc0 := 159) (pc' := 163) rfl (hb hby at_159) (by decide) (by decide) ?_
      show Steps p.tables e below (T120.setTop (mkF m 163 #[.val (.int nq), .val (.long xq), .second, .val (.long yq), .second, .val (.long zq), .second, .val (.int (0 : Int32)), .val (.int a0'), .val (.int a1), .val (.int a2), .val (.int i103), .val (.int i107), .val (.int i111), .val (.ref b114), .val (.ref b120), .val (.int (1 : Int32)), .val (.int (1 : Int32)), .unset, .unset, .unset, .unset, .unset] [(.int (1 : Int32))])) _
      refine XS.istore X120.here hx rfl (hb hby at_163) rfl (l' := #[.val (.int nq), .val (.long xq), .second, .val (.long yq), .second, .val (.long zq), .second, .val (.int (0 : Int32)), .val (.int a0'), .val (.int a1), .val (.int a2), .val (.int i103), .val (.int i107), .val (.int i111), .val (.ref b114), .val (.ref b120), .val (.int (1 : Int32)), .val (.int (1 : Int32)), .val (.int (1 : Int32)), .unset, .unset, .unset, .unset]) rfl ?_
      show Steps p.tables e below (T120.setTop (mkF m 165 #[.val (.int nq), .val (.long xq), .second, .val (.long yq), .second, .val (.long zq), .second, .val (.int (0 : Int32)), .val (.int a0'), .val (.int a1), .val (.int a2), .val (.int i103), .val (.int i107), .val (.int i111), .val (.ref b114), .val (.ref b120), .val (.int (1 : Int32)), .val (.int (1 : Int32)), .val (.int (1 : Int32)), .unset, .unset, .unset, .unset] [])) _
      refine XS.iload X120.here hx rfl (hb hby at_165) rfl ?_
      show Steps p.tables e below (T120.setTop (mkF m 167 #[.val (.int nq), .val (.long xq), .second, .val (.long yq), .second, .val (.long zq), .second, .val (.int (0 : Int32)), .val (.int a0'), .val (.int a1), .val (.int a2), .val (.int i103), .val (.int i107), .val (.int i111), .val (.ref b114), .val (.ref b120), .val (.int (1 : Int32)), .val (.int (1 : Int32)), .val (.int (1 : Int32)), .unset, .unset, .unset, .unset] [(.int (0 : Int32))])) _
      refine XS.iconst X120.here hx rfl (hb hby at_167) ?_
      show Steps p.tables e below (T120.setTop (mkF m 168 #[.val (.int nq), .val (.long xq), .second, .val (.long yq), .second, .val (.long zq), .second, .val (.int (0 : Int32)), .val (.int a0'), .val (.int a1), .val (.int a2), .val (.int i103), .val (.int i107), .val (.int i111), .val (.ref b114), .val (.ref b120), .val (.int (1 : Int32)), .val (.int (1 : Int32)), .val (.int (1 : Int32)), .unset, .unset, .unset, .unset] [(.int (1 : Int32)), (.int (0 : Int32))])) _
      refine XS.icmpYes X120.here hx rfl (pc0 := 168) (pc' := 182) rfl (hb hby at_168) rfl (tlt (by decide)).1 (by decide) (by decide) ?_
      show Steps p.tables e below (T120.setTop (mkF m 182 #[.val (.int nq), .val (.long xq), .second, .val (.long yq), .second, .val (.long zq), .second, .val (.int (0 : Int32)), .val (.int a0'), .val (.int a1), .val (.int a2), .val (.int i103), .val (.int i107), .val (.int i111), .val (.ref b114), .val (.ref b120), .val (.int (1 : Int32)), .val (.int (1 : Int32)), .val (.int (1 : Int32)), .unset, .unset, .unset, .unset] [])) _
      refine XS.iconst X120.here hx rfl (hb hby at_182) ?_
      show Steps p.tables e below (T120.setTop (mkF m 183 #[.val (.int nq), .val (.long xq), .second, .val (.long yq), .second, .val (.long zq), .second, .val (.int (0 : Int32)), .val (.int a0'), .val (.int a1), .val (.int a2), .val (.int i103), .val (.int i107), .val (.int i111), .val (.ref b114), .val (.ref b120), .val (.int (1 : Int32)), .val (.int (1 : Int32)), .val (.int (1 : Int32)), .unset, .unset, .unset, .unset] [(.int (0 : Int32))])) _
      refine XS.istore X120.here hx rfl (hb hby at_183) rfl (l' := #[.val (.int nq), .val (.long xq), .second, .val (.long yq), .second, .val (.long zq), .second, .val (.int (0 : Int32)), .val (.int a0'), .val (.int a1), .val (.int a2), .val (.int i103), .val (.int i107), .val (.int i111), .val (.ref b114), .val (.ref b120), .val (.int (1 : Int32)), .val (.int (1 : Int32)), .val (.int (1 : Int32)), .val (.int (0 : Int32)), .unset, .unset, .unset]) rfl ?_
      show Steps p.tables e below (T120.setTop (mkF m 185 #[.val (.int nq), .val (.long xq), .second, .val (.long yq), .second, .val (.long zq), .second, .val (.int (0 : Int32)), .val (.int a0'), .val (.int a1), .val (.int a2), .val (.int i103), .val (.int i107), .val (.int i111), .val (.ref b114), .val (.ref b120), .val (.int (1 : Int32)), .val (.int (1 : Int32)), .val (.int (1 : Int32)), .val (.int (0 : Int32)), .unset, .unset, .unset] [])) _
      refine XS.iload X120.here hx rfl (hb hby at_185) rfl ?_
      show Steps p.tables e below (T120.setTop (mkF m 187 #[.val (.int nq), .val (.long xq), .second, .val (.long yq), .second, .val (.long zq), .second, .val (.int (0 : Int32)), .val (.int a0'), .val (.int a1), .val (.int a2), .val (.int i103), .val (.int i107), .val (.int i111), .val (.ref b114), .val (.ref b120), .val (.int (1 : Int32)), .val (.int (1 : Int32)), .val (.int (1 : Int32)), .val (.int (0 : Int32)), .unset, .unset, .unset] [(.int (0 : Int32))])) _
      refine XS.iconst X120.here hx rfl (hb hby at_187) ?_
      show Steps p.tables e below (T120.setTop (mkF m 188 #[.val (.int nq), .val (.long xq), .second, .val (.long yq), .second, .val (.long zq), .second, .val (.int (0 : Int32)), .val (.int a0'), .val (.int a1), .val (.int a2), .val (.int i103), .val (.int i107), .val (.int i111), .val (.ref b114), .val (.ref b120), .val (.int (1 : Int32)), .val (.int (1 : Int32)), .val (.int (1 : Int32)), .val (.int (0 : Int32)), .unset, .unset, .unset] [(.int (2 : Int32)), (.int (0 : Int32))])) _
      refine XS.icmpYes X120.here hx rfl (pc0 := 188) (pc' := 202) rfl (hb hby at_188) rfl (tlt (by decide)).1 (by decide) (by decide) ?_
      show Steps p.tables e below (T120.setTop (mkF m 202 #[.val (.int nq), .val (.long xq), .second, .val (.long yq), .second, .val (.long zq), .second, .val (.int (0 : Int32)), .val (.int a0'), .val (.int a1), .val (.int a2), .val (.int i103), .val (.int i107), .val (.int i111), .val (.ref b114), .val (.ref b120), .val (.int (1 : Int32)), .val (.int (1 : Int32)), .val (.int (1 : Int32)), .val (.int (0 : Int32)), .unset, .unset, .unset] [])) _
      refine XS.iconst X120.here hx rfl (hb hby at_202) ?_
      show Steps p.tables e below (T120.setTop (mkF m 203 #[.val (.int nq), .val (.long xq), .second, .val (.long yq), .second, .val (.long zq), .second, .val (.int (0 : Int32)), .val (.int a0'), .val (.int a1), .val (.int a2), .val (.int i103), .val (.int i107), .val (.int i111), .val (.ref b114), .val (.ref b120), .val (.int (1 : Int32)), .val (.int (1 : Int32)), .val (.int (1 : Int32)), .val (.int (0 : Int32)), .unset, .unset, .unset] [(.int (0 : Int32))])) _
      refine XS.istore X120.here hx rfl (hb hby at_203) rfl (l' := #[.val (.int nq), .val (.long xq), .second, .val (.long yq), .second, .val (.long zq), .second, .val (.int (0 : Int32)), .val (.int a0'), .val (.int a1), .val (.int a2), .val (.int i103), .val (.int i107), .val (.int i111), .val (.ref b114), .val (.ref b120), .val (.int (1 : Int32)), .val (.int (1 : Int32)), .val (.int (1 : Int32)), .val (.int (0 : Int32)), .val (.int (0 : Int32)), .unset, .unset]) rfl ?_
      show Steps p.tables e below (T120.setTop (mkF m 205 #[.val (.int nq), .val (.long xq), .second, .val (.long yq), .second, .val (.long zq), .second, .val (.int (0 : Int32)), .val (.int a0'), .val (.int a1), .val (.int a2), .val (.int i103), .val (.int i107), .val (.int i111), .val (.ref b114), .val (.ref b120), .val (.int (1 : Int32)), .val (.int (1 : Int32)), .val (.int (1 : Int32)), .val (.int (0 : Int32)), .val (.int (0 : Int32)), .unset, .unset] [])) _
      refine XS.iload X120.here hx rfl (hb hby at_205) rfl ?_
      show Steps p.tables e below (T120.setTop (mkF m 207 #[.val (.int nq), .val (.long xq), .second, .val (.long yq), .second, .val (.long zq), .second, .val (.int (0 : Int32)), .val (.int a0'), .val (.int a1), .val (.int a2), .val (.int i103), .val (.int i107), .val (.int i111), .val (.ref b114), .val (.ref b120), .val (.int (1 : Int32)), .val (.int (1 : Int32)), .val (.int (1 : Int32)), .val (.int (0 : Int32)), .val (.int (0 : Int32)), .unset, .unset] [(.int (0 : Int32))])) _
      refine XS.iconst X120.here hx rfl (hb hby at_207) ?_
      show Steps p.tables e below (T120.setTop (mkF m 208 #[.val (.int nq), .val (.long xq), .second, .val (.long yq), .second, .val (.long zq), .second, .val (.int (0 : Int32)), .val (.int a0'), .val (.int a1), .val (.int a2), .val (.int i103), .val (.int i107), .val (.int i111), .val (.ref b114), .val (.ref b120), .val (.int (1 : Int32)), .val (.int (1 : Int32)), .val (.int (1 : Int32)), .val (.int (0 : Int32)), .val (.int (0 : Int32)), .unset, .unset] [(.int (3 : Int32)), (.int (0 : Int32))])) _
      refine XS.icmpYes X120.here hx rfl (pc0 := 208) (pc' := 222) rfl (hb hby at_208) rfl (tlt (by decide)).1 (by decide) (by decide) ?_
      show Steps p.tables e below (T120.setTop (mkF m 222 #[.val (.int nq), .val (.long xq), .second, .val (.long yq), .second, .val (.long zq), .second, .val (.int (0 : Int32)), .val (.int a0'), .val (.int a1), .val (.int a2), .val (.int i103), .val (.int i107), .val (.int i111), .val (.ref b114), .val (.ref b120), .val (.int (1 : Int32)), .val (.int (1 : Int32)), .val (.int (1 : Int32)), .val (.int (0 : Int32)), .val (.int (0 : Int32)), .unset, .unset] [])) _
      refine XS.iconst X120.here hx rfl (hb hby at_222) ?_
      show Steps p.tables e below (T120.setTop (mkF m 223 #[.val (.int nq), .val (.long xq), .second, .val (.long yq), .second, .val (.long zq), .second, .val (.int (0 : Int32)), .val (.int a0'), .val (.int a1), .val (.int a2), .val (.int i103), .val (.int i107), .val (.int i111), .val (.ref b114), .val (.ref b120), .val (.int (1 : Int32)), .val (.int (1 : Int32)), .val (.int (1 : Int32)), .val (.int (0 : Int32)), .val (.int (0 : Int32)), .unset, .unset] [(.int (0 : Int32))])) _
      refine XS.istore X120.here hx rfl (hb hby at_223) rfl (l' := #[.val (.int nq), .val (.long xq), .second, .val (.long yq), .second, .val (.long zq), .second, .val (.int (0 : Int32)), .val (.int a0'), .val (.int a1), .val (.int a2), .val (.int i103), .val (.int i107), .val (.int i111), .val (.ref b114), .val (.ref b120), .val (.int (1 : Int32)), .val (.int (1 : Int32)), .val (.int (1 : Int32)), .val (.int (0 : Int32)), .val (.int (0 : Int32)), .val (.int (0 : Int32)), .unset]) rfl ?_
      show Steps p.tables e below (T120.setTop (mkF m 225 #[.val (.int nq), .val (.long xq), .second, .val (.long yq), .second, .val (.long zq), .second, .val (.int (0 : Int32)), .val (.int a0'), .val (.int a1), .val (.int a2), .val (.int i103), .val (.int i107), .val (.int i111), .val (.ref b114), .val (.ref b120), .val (.int (1 : Int32)), .val (.int (1 : Int32)), .val (.int (1 : Int32)), .val (.int (0 : Int32)), .val (.int (0 : Int32)), .val (.int (0 : Int32)), .unset] [])) _
      refine XS.iload X120.here hx rfl (hb hby at_225) rfl ?_
      show Steps p.tables e below (T120.setTop (mkF m 227 #[.val (.int nq), .val (.long xq), .second, .val (.long yq), .second, .val (.long zq), .second, .val (.int (0 : Int32)), .val (.int a0'), .val (.int a1), .val (.int a2), .val (.int i103), .val (.int i107), .val (.int i111), .val (.ref b114), .val (.ref b120), .val (.int (1 : Int32)), .val (.int (1 : Int32)), .val (.int (1 : Int32)), .val (.int (0 : Int32)), .val (.int (0 : Int32)), .val (.int (0 : Int32)), .unset] [(.int (1 : Int32))])) _
      refine XS.ifNo X120.here hx rfl (hb hby at_227) rfl ((if0 _ _).trans (feq (by decide)).1) ?_
      show Steps p.tables e below (T120.setTop (mkF m 230 #[.val (.int nq), .val (.long xq), .second, .val (.long yq), .second, .val (.long zq), .second, .val (.int (0 : Int32)), .val (.int a0'), .val (.int a1), .val (.int a2), .val (.int i103), .val (.int i107), .val (.int i111), .val (.ref b114), .val (.ref b120), .val (.int (1 : Int32)), .val (.int (1 : Int32)), .val (.int (1 : Int32)), .val (.int (0 : Int32)), .val (.int (0 : Int32)), .val (.int (0 : Int32)), .unset] [])) _
      refine XS.iload X120.here hx rfl (hb hby at_230) rfl ?_
      show Steps p.tables e below (T120.setTop (mkF m 232 #[.val (.int nq), .val (.long xq), .second, .val (.long yq), .second, .val (.long zq), .second, .val (.int (0 : Int32)), .val (.int a0'), .val (.int a1), .val (.int a2), .val (.int i103), .val (.int i107), .val (.int i111), .val (.ref b114), .val (.ref b120), .val (.int (1 : Int32)), .val (.int (1 : Int32)), .val (.int (1 : Int32)), .val (.int (0 : Int32)), .val (.int (0 : Int32)), .val (.int (0 : Int32)), .unset] [(.int (1 : Int32))])) _
      refine XS.ifNo X120.here hx rfl (hb hby at_232) rfl ((if0 _ _).trans (feq (by decide)).1) ?_
      show Steps p.tables e below (T120.setTop (mkF m 235 #[.val (.int nq), .val (.long xq), .second, .val (.long yq), .second, .val (.long zq), .second, .val (.int (0 : Int32)), .val (.int a0'), .val (.int a1), .val (.int a2), .val (.int i103), .val (.int i107), .val (.int i111), .val (.ref b114), .val (.ref b120), .val (.int (1 : Int32)), .val (.int (1 : Int32)), .val (.int (1 : Int32)), .val (.int (0 : Int32)), .val (.int (0 : Int32)), .val (.int (0 : Int32)), .unset] [])) _
      refine XS.iload X120.here hx rfl (hb hby at_235) rfl ?_
      show Steps p.tables e below (T120.setTop (mkF m 237 #[.val (.int nq), .val (.long xq), .second, .val (.long yq), .second, .val (.long zq), .second, .val (.int (0 : Int32)), .val (.int a0'), .val (.int a1), .val (.int a2), .val (.int i103), .val (.int i107), .val (.int i111), .val (.ref b114), .val (.ref b120), .val (.int (1 : Int32)), .val (.int (1 : Int32)), .val (.int (1 : Int32)), .val (.int (0 : Int32)), .val (.int (0 : Int32)), .val (.int (0 : Int32)), .unset] [(.int (1 : Int32))])) _
      refine XS.ifNo X120.here hx rfl (hb hby at_237) rfl ((if0 _ _).trans (feq (by decide)).1) ?_
      show Steps p.tables e below (T120.setTop (mkF m 240 #[.val (.int nq), .val (.long xq), .second, .val (.long yq), .second, .val (.long zq), .second, .val (.int (0 : Int32)), .val (.int a0'), .val (.int a1), .val (.int a2), .val (.int i103), .val (.int i107), .val (.int i111), .val (.ref b114), .val (.ref b120), .val (.int (1 : Int32)), .val (.int (1 : Int32)), .val (.int (1 : Int32)), .val (.int (0 : Int32)), .val (.int (0 : Int32)), .val (.int (0 : Int32)), .unset] [])) _
      refine XS.iload X120.here hx rfl (hb hby at_240) rfl ?_
      show Steps p.tables e below (T120.setTop (mkF m 242 #[.val (.int nq), .val (.long xq), .second, .val (.long yq), .second, .val (.long zq), .second, .val (.int (0 : Int32)), .val (.int a0'), .val (.int a1), .val (.int a2), .val (.int i103), .val (.int i107), .val (.int i111), .val (.ref b114), .val (.ref b120), .val (.int (1 : Int32)), .val (.int (1 : Int32)), .val (.int (1 : Int32)), .val (.int (0 : Int32)), .val (.int (0 : Int32)), .val (.int (0 : Int32)), .unset] [(.int (0 : Int32))])) _
      refine XS.ifNo X120.here hx rfl (hb hby at_242) rfl ((if0 _ _).trans (teq (by decide)).2) ?_
      show Steps p.tables e below (T120.setTop (mkF m 245 #[.val (.int nq), .val (.long xq), .second, .val (.long yq), .second, .val (.long zq), .second, .val (.int (0 : Int32)), .val (.int a0'), .val (.int a1), .val (.int a2), .val (.int i103), .val (.int i107), .val (.int i111), .val (.ref b114), .val (.ref b120), .val (.int (1 : Int32)), .val (.int (1 : Int32)), .val (.int (1 : Int32)), .val (.int (0 : Int32)), .val (.int (0 : Int32)), .val (.int (0 : Int32)), .unset] [])) _
      refine XS.iload X120.here hx rfl (hb hby at_245) rfl ?_
      show Steps p.tables e below (T120.setTop (mkF m 247 #[.val (.int nq), .val (.long xq), .second, .val (.long yq), .second, .val (.long zq), .second, .val (.int (0 : Int32)), .val (.int a0'), .val (.int a1), .val (.int a2), .val (.int i103), .val (.int i107), .val (.int i111), .val (.ref b114), .val (.ref b120), .val (.int (1 : Int32)), .val (.int (1 : Int32)), .val (.int (1 : Int32)), .val (.int (0 : Int32)), .val (.int (0 : Int32)), .val (.int (0 : Int32)), .unset] [(.int (0 : Int32))])) _
      refine XS.ifNo X120.here hx rfl (hb hby at_247) rfl ((if0 _ _).trans (teq (by decide)).2) ?_
      show Steps p.tables e below (T120.setTop (mkF m 250 #[.val (.int nq), .val (.long xq), .second, .val (.long yq), .second, .val (.long zq), .second, .val (.int (0 : Int32)), .val (.int a0'), .val (.int a1), .val (.int a2), .val (.int i103), .val (.int i107), .val (.int i111), .val (.ref b114), .val (.ref b120), .val (.int (1 : Int32)), .val (.int (1 : Int32)), .val (.int (1 : Int32)), .val (.int (0 : Int32)), .val (.int (0 : Int32)), .val (.int (0 : Int32)), .unset] [])) _
      refine XS.iload X120.here hx rfl (hb hby at_250) rfl ?_
      show Steps p.tables e below (T120.setTop (mkF m 252 #[.val (.int nq), .val (.long xq), .second, .val (.long yq), .second, .val (.long zq), .second, .val (.int (0 : Int32)), .val (.int a0'), .val (.int a1), .val (.int a2), .val (.int i103), .val (.int i107), .val (.int i111), .val (.ref b114), .val (.ref b120), .val (.int (1 : Int32)), .val (.int (1 : Int32)), .val (.int (1 : Int32)), .val (.int (0 : Int32)), .val (.int (0 : Int32)), .val (.int (0 : Int32)), .unset] [(.int (0 : Int32))])) _
      refine XS.ifYes X120.here hx rfl (pc0 := 252) (pc' := 259) rfl (hb hby at_252) rfl ((if0 _ _).trans (teq (by decide)).1) (by decide) (by decide) ?_
      show Steps p.tables e below (T120.setTop (mkF m 259 #[.val (.int nq), .val (.long xq), .second, .val (.long yq), .second, .val (.long zq), .second, .val (.int (0 : Int32)), .val (.int a0'), .val (.int a1), .val (.int a2), .val (.int i103), .val (.int i107), .val (.int i111), .val (.ref b114), .val (.ref b120), .val (.int (1 : Int32)), .val (.int (1 : Int32)), .val (.int (1 : Int32)), .val (.int (0 : Int32)), .val (.int (0 : Int32)), .val (.int (0 : Int32)), .unset] [])) _
      refine XS.iconst X120.here hx rfl (hb hby at_259) ?_
      show Steps p.tables e below (T120.setTop (mkF m 260 #[.val (.int nq), .val (.long xq), .second, .val (.long yq), .second, .val (.long zq), .second, .val (.int (0 : Int32)), .val (.int a0'), .val (.int a1), .val (.int a2), .val (.int i103), .val (.int i107), .val (.int i111), .val (.ref b114), .val (.ref b120), .val (.int (1 : Int32)), .val (.int (1 : Int32)), .val (.int (1 : Int32)), .val (.int (0 : Int32)), .val (.int (0 : Int32)), .val (.int (0 : Int32)), .unset] [(.int (0 : Int32))])) _
      refine XS.istore X120.here hx rfl (hb hby at_260) rfl (l' := #[.val (.int nq), .val (.long xq), .second, .val (.long yq), .second, .val (.long zq), .second, .val (.int (0 : Int32)), .val (.int a0'), .val (.int a1), .val (.int a2), .val (.int i103), .val (.int i107), .val (.int i111), .val (.ref b114), .val (.ref b120), .val (.int (1 : Int32)), .val (.int (1 : Int32)), .val (.int (1 : Int32)), .val (.int (0 : Int32)), .val (.int (0 : Int32)), .val (.int (0 : Int32)), .val (.int (0 : Int32))]) rfl ?_
      show Steps p.tables e below (T120.setTop (mkF m 262 #[.val (.int nq), .val (.long xq), .second, .val (.long yq), .second, .val (.long zq), .second, .val (.int (0 : Int32)), .val (.int a0'), .val (.int a1), .val (.int a2), .val (.int i103), .val (.int i107), .val (.int i111), .val (.ref b114), .val (.ref b120), .val (.int (1 : Int32)), .val (.int (1 : Int32)), .val (.int (1 : Int32)), .val (.int (0 : Int32)), .val (.int (0 : Int32)), .val (.int (0 : Int32)), .val (.int (0 : Int32))] [])) _
      refine XS.aload X120.here hx rfl (hb hby at_262) rfl rfl ?_
      show Steps p.tables e below (T120.setTop (mkF m 264 #[.val (.int nq), .val (.long xq), .second, .val (.long yq), .second, .val (.long zq), .second, .val (.int (0 : Int32)), .val (.int a0'), .val (.int a1), .val (.int a2), .val (.int i103), .val (.int i107), .val (.int i111), .val (.ref b114), .val (.ref b120), .val (.int (1 : Int32)), .val (.int (1 : Int32)), .val (.int (1 : Int32)), .val (.int (0 : Int32)), .val (.int (0 : Int32)), .val (.int (0 : Int32)), .val (.int (0 : Int32))] [(.ref b114)])) _
      refine XS.aload X120.here hx rfl (hb hby at_264) rfl rfl ?_
      exact k)
    obtain ⟨_, _, ⟨T128, L128, k128, n128⟩, -, X128, ⟨Lc128, hQ128, l128, y128, z128⟩, st128⟩ := Jvm.LawKit.callS X120 hx (y := (⟨"com/example/frontweave/frontweave/selection/Fronts", "dominates", "([D[D)Z"⟩ : MethodName)) hown (mvT hZ (hw _ (List.mem_of_getElem? (i := 5) rfl))) (mvT hZ (hw _ (List.mem_of_getElem? (i := 6) rfl))) (mvT hZ (hw _ (List.mem_of_getElem? (i := 7) rfl))) (mvT hZ (hw _ (List.mem_of_getElem? (i := 8) rfl))) (by decide) (backOf (W := 0) (dom0 l Z a0 hw [] b114 b120 kk114 kk120 h120 n0 Z126 F125 V120) hZ (hw _ (List.mem_of_getElem? (i := 8) rfl)) (hw _ (List.mem_of_getElem? (i := 7) rfl)) (by decide) (by decide)) (g := (mkF m 266 #[.val (.int nq), .val (.long xq), .second, .val (.long yq), .second, .val (.long zq), .second, .val (.int (0 : Int32)), .val (.int a0'), .val (.int a1), .val (.int a2), .val (.int i103), .val (.int i107), .val (.int i111), .val (.ref b114), .val (.ref b120), .val (.int (1 : Int32)), .val (.int (1 : Int32)), .val (.int (1 : Int32)), .val (.int (0 : Int32)), .val (.int (0 : Int32)), .val (.int (0 : Int32)), .val (.int (0 : Int32))] [(.ref b120), (.ref b114)])) rfl (by rw [hml]; rfl) (argsL := [(.ref b114), (.ref b120)]) (rest := []) (lenOf pd__28_5bD_5bD_29Z rfl) rfl (by show 2 * 0 + _ ≤ _; exact Nat.le_of_eq rfl) (hb hby at_266) (fun _ _ => ⟨rfl, e120, (by decide : 2 + 0 ≤ _), (by decide : 0 + 0 ≤ _)⟩)
    dsimp only [Pt.U, Pt.locs, Pt.cells, Pt.slots] at X128 l128 y128 z128 st128 hQ128
    subst l128 y128 z128
    obtain ⟨rfl, N128q, e128⟩ := hQ128
    have N129 := Fr.app N121 N128q
    have k130 : ∀ t, Steps p.tables e below (T128.setTop (mkF m 269 #[.val (.int nq), .val (.long xq), .second, .val (.long yq), .second, .val (.long zq), .second, .val (.int (0 : Int32)), .val (.int a0'), .val (.int a1), .val (.int a2), .val (.int i103), .val (.int i107), .val (.int i111), .val (.ref b114), .val (.ref b120), .val (.int (1 : Int32)), .val (.int (1 : Int32)), .val (.int (1 : Int32)), .val (.int (0 : Int32)), .val (.int (0 : Int32)), .val (.int (0 : Int32)), .val (.int (0 : Int32))] [(.int (own_dom [] 0))])) t → Steps p.tables e below (s₁.setTop (entryFrame m #[(.int nq), (.long xq), (.long yq), (.long zq)] maxLocals)) t := fun t k => k127 t (st128 t k)
    have hfin : (own_dom [] 0) = (0 : Int32) := by
      rfl
    have k131 : ∀ t, Steps p.tables e below (T128.setTop (mkF m 279 #[.val (.int nq), .val (.long xq), .second, .val (.long yq), .second, .val (.long zq), .second, .val (.int (0 : Int32)), .val (.int a0'), .val (.int a1), .val (.int a2), .val (.int i103), .val (.int i107), .val (.int i111), .val (.ref b114), .val (.ref b120), .val (.int (1 : Int32)), .val (.int (1 : Int32)), .val (.int (1 : Int32)), .val (.int (0 : Int32)), .val (.int (0 : Int32)), .val (.int (0 : Int32)), .val (.int (0 : Int32))] [(.int (1 : Int32))])) t → Steps p.tables e below (s₁.setTop (entryFrame m #[(.int nq), (.long xq), (.long yq), (.long zq)] maxLocals)) t := fun t k => k130 t (by
      show Steps p.tables e below (T128.setTop (mkF m 269 #[.val (.int nq), .val (.long xq), .second, .val (.long yq), .second, .val (.long zq), .second, .val (.int (0 : Int32)), .val (.int a0'), .val (.int a1), .val (.int a2), .val (.int i103), .val (.int i107), .val (.int i111), .val (.ref b114), .val (.ref b120), .val (.int (1 : Int32)), .val (.int (1 : Int32)), .val (.int (1 : Int32)), .val (.int (0 : Int32)), .val (.int (0 : Int32)), .val (.int (0 : Int32)), .val (.int (0 : Int32))] [(.int (own_dom [] 0))])) _
      refine XS.iload X128.here hx rfl (hb hby at_269) rfl ?_
      show Steps p.tables e below (T128.setTop (mkF m 271 #[.val (.int nq), .val (.long xq), .second, .val (.long yq), .second, .val (.long zq), .second, .val (.int (0 : Int32)), .val (.int a0'), .val (.int a1), .val (.int a2), .val (.int i103), .val (.int i107), .val (.int i111), .val (.ref b114), .val (.ref b120), .val (.int (1 : Int32)), .val (.int (1 : Int32)), .val (.int (1 : Int32)), .val (.int (0 : Int32)), .val (.int (0 : Int32)), .val (.int (0 : Int32)), .val (.int (0 : Int32))] [(.int (0 : Int32)), (.int (own_dom [] 0))])) _
      refine XS.icmpNo X128.here hx rfl (hb hby at_271) rfl (teq hfin).2 ?_
      show Steps p.tables e below (T128.setTop (mkF m 274 #[.val (.int nq), .val (.long xq), .second, .val (.long yq), .second, .val (.long zq), .second, .val (.int (0 : Int32)), .val (.int a0'), .val (.int a1), .val (.int a2), .val (.int i103), .val (.int i107), .val (.int i111), .val (.ref b114), .val (.ref b120), .val (.int (1 : Int32)), .val (.int (1 : Int32)), .val (.int (1 : Int32)), .val (.int (0 : Int32)), .val (.int (0 : Int32)), .val (.int (0 : Int32)), .val (.int (0 : Int32))] [])) _
      refine XS.iconst X128.here hx rfl (hb hby at_274) ?_
      show Steps p.tables e below (T128.setTop (mkF m 275 #[.val (.int nq), .val (.long xq), .second, .val (.long yq), .second, .val (.long zq), .second, .val (.int (0 : Int32)), .val (.int a0'), .val (.int a1), .val (.int a2), .val (.int i103), .val (.int i107), .val (.int i111), .val (.ref b114), .val (.ref b120), .val (.int (1 : Int32)), .val (.int (1 : Int32)), .val (.int (1 : Int32)), .val (.int (0 : Int32)), .val (.int (0 : Int32)), .val (.int (0 : Int32)), .val (.int (0 : Int32))] [(.int (1 : Int32))])) _
      refine XS.goto X128.here hx rfl (pc0 := 275) (pc' := 279) rfl (hb hby at_275) (by decide) (by decide) ?_
      exact k)
    obtain ⟨fs, hr, hrun, hended, hW, hsame⟩ := X128.leave (v := some (.int (1 : Int32))) (fun h => by rw [Bd.returns] at h; cases h)
    refine ⟨_, _, k131 _ (retOut X128 hx (t := .boolean) Bd.returns rfl (Or.inl ⟨rfl, Or.inr (Or.inl rfl), _, rfl⟩) (hb hby at_279) hr), hrun, hended, _, _, rfl, ?_, ⟨_, rfl⟩, hW, hsame.mono (by decide) (by decide)⟩
    show Q_rm0 Z nq xq yq zq h0 n0 _ T128.heap _
    rw [e128]
    exact ⟨rfl, N129⟩
  · obtain ⟨_, _, ⟨T132, L132, k132, n132⟩, -, X132, ⟨Lc132, hQ132, l132, y132, z132⟩, st132⟩ := Jvm.LawKit.callS X0 hx (y := (⟨"com/example/frontweave/frontweave/selection/FrontsDominatesPinLaw", "vec", "(IIII)[D"⟩ : MethodName)) hown (mvT hZ (hw _ (List.mem_of_getElem? (i := 0) rfl))) (mvT hZ (hw _ (List.mem_of_getElem? (i := 1) rfl))) (mvT hZ (hw _ (List.mem_of_getElem? (i := 2) rfl))) (mvT hZ (hw _ (List.mem_of_getElem? (i := 3) rfl))) (by decide) (backOf (W := 0) (vec1 l Z a0 hw [] a0' a1 a2 h0 n0 Z0 ) hZ (hw _ (List.mem_of_getElem? (i := 3) rfl)) (hw _ (List.mem_of_getElem? (i := 2) rfl)) (by decide) (by decide)) (g := (mkF m 87 #[.val (.int nq), .val (.long xq), .second, .val (.long yq), .second, .val (.long zq), .second, .val (.int (1 : Int32)), .val (.int a0'), .val (.int a1), .val (.int a2), .val (.int i103), .val (.int i107), .val (.int i111), .unset, .unset, .unset, .unset, .unset, .unset, .unset, .unset, .unset] [(.int a2), (.int a1), (.int a0'), (.int (1 : Int32))])) rfl (by rw [hml]; rfl) (argsL := [(.int (1 : Int32)), (.int a0'), (.int a1), (.int a2)]) (rest := []) (lenOf pd__28IIII_29_5bD rfl) rfl (by show 2 * 0 + _ ≤ _; exact Nat.le_of_eq rfl) (hb hby at_87) (fun _ _ => ⟨rfl, e0, (by decide : 0 + 1 ≤ _), (by decide : 0 + 1 ≤ _)⟩)
    dsimp only [Pt.U, Pt.locs, Pt.cells, Pt.slots] at X132 l132 y132 z132 st132 hQ132
    subst l132 y132 z132
    obtain ⟨h132, e132⟩ : ∃ h', T132.heap = h' := ⟨_, rfl⟩
    rw [e132] at hQ132
    obtain ⟨b132, kk132, rfl, N132q, gb132, K132, V132⟩ := hQ132
    have N133 := Fr.app N0 N132q
    have k134 : ∀ t, Steps p.tables e below (T132.setTop (mkF m 90 #[.val (.int nq), .val (.long xq), .second, .val (.long yq), .second, .val (.long zq), .second, .val (.int (1 : Int32)), .val (.int a0'), .val (.int a1), .val (.int a2), .val (.int i103), .val (.int i107), .val (.int i111), .unset, .unset, .unset, .unset, .unset, .unset, .unset, .unset, .unset] [(.ref b132)])) t → Steps p.tables e below (s₁.setTop (entryFrame m #[(.int nq), (.long xq), (.long yq), (.long zq)] maxLocals)) t := fun t k => k113 t (st132 t k)
    have g135 : n0 ≤ b132 := Nat.le_trans Z0 (Nat.le_of_eq gb132.symm)
    have Z136 : n0 ≤ h132.size := Nat.le_trans Z0 K132.1
    have k137 : ∀ t, Steps p.tables e below (T132.setTop (mkF m 100 #[.val (.int nq), .val (.long xq), .second, .val (.long yq), .second, .val (.long zq), .second, .val (.int (1 : Int32)), .val (.int a0'), .val (.int a1), .val (.int a2), .val (.int i103), .val (.int i107), .val (.int i111), .val (.ref b132), .unset, .unset, .unset, .unset, .unset, .unset, .unset, .unset] [(.int i111), (.int i107), (.int i103), (.int (1 : Int32))])) t → Steps p.tables e below (s₁.setTop (entryFrame m #[(.int nq), (.long xq), (.long yq), (.long zq)] maxLocals)) t := fun t k => k134 t (by
      show Steps p.tables e below (T132.setTop (mkF m 90 #[.val (.int nq), .val (.long xq), .second, .val (.long yq), .second, .val (.long zq), .second, .val (.int (1 : Int32)), .val (.int a0'), .val (.int a1), .val (.int a2), .val (.int i103), .val (.int i107), .val (.int i111), .unset, .unset, .unset, .unset, .unset, .unset, .unset, .unset, .unset] [(.ref b132)])) _
      refine XS.astore X132.here hx rfl (hb hby at_90) rfl rfl (l' := #[.val (.int nq), .val (.long xq), .second, .val (.long yq), .second, .val (.long zq), .second, .val (.int (1 : Int32)), .val (.int a0'), .val (.int a1), .val (.int a2), .val (.int i103), .val (.int i107), .val (.int i111), .val (.ref b132), .unset, .unset, .unset, .unset, .unset, .unset, .unset, .unset]) rfl ?_
      show Steps p.tables e below (T132.setTop (mkF m 92 #[.val (.int nq), .val (.long xq), .second, .val (.long yq), .second, .val (.long zq), .second, .val (.int (1 : Int32)), .val (.int a0'), .val (.int a1), .val (.int a2), .val (.int i103), .val (.int i107), .val (.int i111), .val (.ref b132), .unset, .unset, .unset, .unset, .unset, .unset, .unset, .unset] [])) _
      refine XS.iload X132.here hx rfl (hb hby at_92) rfl ?_
      show Steps p.tables e below (T132.setTop (mkF m 94 #[.val (.int nq), .val (.long xq), .second, .val (.long yq), .second, .val (.long zq), .second, .val (.int (1 : Int32)), .val (.int a0'), .val (.int a1), .val (.int a2), .val (.int i103), .val (.int i107), .val (.int i111), .val (.ref b132), .unset, .unset, .unset, .unset, .unset, .unset, .unset, .unset] [(.int (1 : Int32))])) _
      refine XS.iload X132.here hx rfl (hb hby at_94) rfl ?_
      show Steps p.tables e below (T132.setTop (mkF m 96 #[.val (.int nq), .val (.long xq), .second, .val (.long yq), .second, .val (.long zq), .second, .val (.int (1 : Int32)), .val (.int a0'), .val (.int a1), .val (.int a2), .val (.int i103), .val (.int i107), .val (.int i111), .val (.ref b132), .unset, .unset, .unset, .unset, .unset, .unset, .unset, .unset] [(.int i103), (.int (1 : Int32))])) _
      refine XS.iload X132.here hx rfl (hb hby at_96) rfl ?_
      show Steps p.tables e below (T132.setTop (mkF m 98 #[.val (.int nq), .val (.long xq), .second, .val (.long yq), .second, .val (.long zq), .second, .val (.int (1 : Int32)), .val (.int a0'), .val (.int a1), .val (.int a2), .val (.int i103), .val (.int i107), .val (.int i111), .val (.ref b132), .unset, .unset, .unset, .unset, .unset, .unset, .unset, .unset] [(.int i107), (.int i103), (.int (1 : Int32))])) _
      refine XS.iload X132.here hx rfl (hb hby at_98) rfl ?_
      exact k)
    obtain ⟨_, _, ⟨T138, L138, k138, n138⟩, -, X138, ⟨Lc138, hQ138, l138, y138, z138⟩, st138⟩ := Jvm.LawKit.callS X132 hx (y := (⟨"com/example/frontweave/frontweave/selection/FrontsDominatesPinLaw", "vec", "(IIII)[D"⟩ : MethodName)) hown (mvT hZ (hw _ (List.mem_of_getElem? (i := 0) rfl))) (mvT hZ (hw _ (List.mem_of_getElem? (i := 1) rfl))) (mvT hZ (hw _ (List.mem_of_getElem? (i := 2) rfl))) (mvT hZ (hw _ (List.mem_of_getElem? (i := 3) rfl))) (by decide) (backOf (W := 0) (vec1 l Z a0 hw [] i103 i107 i111 h132 n0 Z136 ) hZ (hw _ (List.mem_of_getElem? (i := 3) rfl)) (hw _ (List.mem_of_getElem? (i := 2) rfl)) (by decide) (by decide)) (g := (mkF m 100 #[.val (.int nq), .val (.long xq), .second, .val (.long yq), .second, .val (.long zq), .second, .val (.int (1 : Int32)), .val (.int a0'), .val (.int a1), .val (.int a2), .val (.int i103), .val (.int i107), .val (.int i111), .val (.ref b132), .unset, .unset, .unset, .unset, .unset, .unset, .unset, .unset] [(.int i111), (.int i107), (.int i103), (.int (1 : Int32))])) rfl (by rw [hml]; rfl) (argsL := [(.int (1 : Int32)), (.int i103), (.int i107), (.int i111)]) (rest := []) (lenOf pd__28IIII_29_5bD rfl) rfl (by show 2 * 0 + _ ≤ _; exact Nat.le_of_eq rfl) (hb hby at_100) (fun _ _ => ⟨rfl, e132, (by decide : 1 + 1 ≤ _), (by decide : 1 + 1 ≤ _)⟩)
    dsimp only [Pt.U, Pt.locs, Pt.cells, Pt.slots] at X138 l138 y138 z138 st138 hQ138
    subst l138 y138 z138
    obtain ⟨h138, e138⟩ : ∃ h', T138.heap = h' := ⟨_, rfl⟩
    rw [e138] at hQ138
    obtain ⟨b138, kk138, rfl, N138q, gb138, K138, V138⟩ := hQ138
    have N139 := Fr.app N133 N138q
    have k140 : ∀ t, Steps p.tables e below (T138.setTop (mkF m 103 #[.val (.int nq), .val (.long xq), .second, .val (.long yq), .second, .val (.long zq), .second, .val (.int (1 : Int32)), .val (.int a0'), .val (.int a1), .val (.int a2), .val (.int i103), .val (.int i107), .val (.int i111), .val (.ref b132), .unset, .unset, .unset, .unset, .unset, .unset, .unset, .unset] [(.ref b138)])) t → Steps p.tables e below (s₁.setTop (entryFrame m #[(.int nq), (.long xq), (.long yq), (.long zq)] maxLocals)) t := fun t k => k137 t (st138 t k)
    have n141 : b132 ≠ b138 := Nat.ne_of_lt (Nat.lt_of_lt_of_le V132.lt (Nat.le_of_eq gb138.symm))
    have g142 : n0 ≤ b138 := Nat.le_trans Z136 (Nat.le_of_eq gb138.symm)
    have F143 := V132.keep K138 nin0
    have Z144 : n0 ≤ h138.size := Nat.le_trans Z136 K138.1
    have k145 : ∀ t, Steps p.tables e below (T138.setTop (mkF m 115 #[.val (.int nq), .val (.long xq), .second, .val (.long yq), .second, .val (.long zq), .second, .val (.int (1 : Int32)), .val (.int a0'), .val (.int a1), .val (.int a2), .val (.int i103), .val (.int i107), .val (.int i111), .val (.ref b132), .val (.ref b138), .unset, .unset, .unset, .unset, .unset, .unset, .unset] [(.int i103), (.int a0')])) t → Steps p.tables e below (s₁.setTop (entryFrame m #[(.int nq), (.long xq), (.long yq), (.long zq)] maxLocals)) t := fun t k => k140 t (by
      show Steps p.tables e below (T138.setTop (mkF m 103 #[.val (.int nq), .val (.long xq), .second, .val (.long yq), .second, .val (.long zq), .second, .val (.int (1 : Int32)), .val (.int a0'), .val (.int a1), .val (.int a2), .val (.int i103), .val (.int i107), .val (.int i111), .val (.ref b132), .unset, .unset, .unset, .unset, .unset, .unset, .unset, .unset] [(.ref b138)])) _
      refine XS.astore X138.here hx rfl (hb hby at_103) rfl rfl (l' := #[.val (.int nq), .val (.long xq), .second, .val (.long yq), .second, .val (.long zq), .second, .val (.int (1 : Int32)), .val (.int a0'), .val (.int a1), .val (.int a2), .val (.int i103), .val (.int i107), .val (.int i111), .val (.ref b132), .val (.ref b138), .unset, .unset, .unset, .unset, .unset, .unset, .unset]) rfl ?_
      show Steps p.tables e below (T138.setTop (mkF m 105 #[.val (.int nq), .val (.long xq), .second, .val (.long yq), .second, .val (.long zq), .second, .val (.int (1 : Int32)), .val (.int a0'), .val (.int a1), .val (.int a2), .val (.int i103), .val (.int i107), .val (.int i111), .val (.ref b132), .val (.ref b138), .unset, .unset, .unset, .unset, .unset, .unset, .unset] [])) _
      refine XS.iload X138.here hx rfl (hb hby at_105) rfl ?_
      show Steps p.tables e below (T138.setTop (mkF m 107 #[.val (.int nq), .val (.long xq), .second, .val (.long yq), .second, .val (.long zq), .second, .val (.int (1 : Int32)), .val (.int a0'), .val (.int a1), .val (.int a2), .val (.int i103), .val (.int i107), .val (.int i111), .val (.ref b132), .val (.ref b138), .unset, .unset, .unset, .unset, .unset, .unset, .unset] [(.int (1 : Int32))])) _
      refine XS.iconst X138.here hx rfl (hb hby at_107) ?_
      show Steps p.tables e below (T138.setTop (mkF m 108 #[.val (.int nq), .val (.long xq), .second, .val (.long yq), .second, .val (.long zq), .second, .val (.int (1 : Int32)), .val (.int a0'), .val (.int a1), .val (.int a2), .val (.int i103), .val (.int i107), .val (.int i111), .val (.ref b132), .val (.ref b138), .unset, .unset, .unset, .unset, .unset, .unset, .unset] [(.int (1 : Int32)), (.int (1 : Int32))])) _
      refine XS.icmpNo X138.here hx rfl (hb hby at_108) rfl (flt (by decide)).1 ?_
      show Steps p.tables e below (T138.setTop (mkF m 111 #[.val (.int nq), .val (.long xq), .second, .val (.long yq), .second, .val (.long zq), .second, .val (.int (1 : Int32)), .val (.int a0'), .val (.int a1), .val (.int a2), .val (.int i103), .val (.int i107), .val (.int i111), .val (.ref b132), .val (.ref b138), .unset, .unset, .unset, .unset, .unset, .unset, .unset] [])) _
      refine XS.iload X138.here hx rfl (hb hby at_111) rfl ?_
      show Steps p.tables e below (T138.setTop (mkF m 113 #[.val (.int nq), .val (.long xq), .second, .val (.long yq), .second, .val (.long zq), .second, .val (.int (1 : Int32)), .val (.int a0'), .val (.int a1), .val (.int a2), .val (.int i103), .val (.int i107), .val (.int i111), .val (.ref b132), .val (.ref b138), .unset, .unset, .unset, .unset, .unset, .unset, .unset] [(.int a0')])) _
      refine XS.iload X138.here hx rfl (hb hby at_113) rfl ?_
      exact k)
    obtain ⟨i147, hi147⟩ : ∃ z : Int32, z = (if i103 < a0' then (0 : Int32) else (1 : Int32)) := ⟨_, rfl⟩
    have k148 : ∀ t, Steps p.tables e below (T138.setTop (mkF m 123 #[.val (.int nq), .val (.long xq), .second, .val (.long yq), .second, .val (.long zq), .second, .val (.int (1 : Int32)), .val (.int a0'), .val (.int a1), .val (.int a2), .val (.int i103), .val (.int i107), .val (.int i111), .val (.ref b132), .val (.ref b138), .unset, .unset, .unset, .unset, .unset, .unset, .unset] [(.int i147)])) t → Steps p.tables e below (s₁.setTop (entryFrame m #[(.int nq), (.long xq), (.long yq), (.long zq)] maxLocals)) t := fun t k => k145 t (by
      by_cases c146 : i103 < a0'
      · rw [if_pos c146] at hi147
        show Steps p.tables e below (T138.setTop (mkF m 115 #[.val (.int nq), .val (.long xq), .second, .val (.long yq), .second, .val (.long zq), .second, .val (.int (1 : Int32)), .val (.int a0'), .val (.int a1), .val (.int a2), .val (.int i103), .val (.int i107), .val (.int i111), .val (.ref b132), .val (.ref b138), .unset, .unset, .unset, .unset, .unset, .unset, .unset] [(.int i103), (.int a0')])) _
        refine XS.icmpYes X138.here hx rfl (pc0 := 115) (pc' := 122) rfl (hb hby at_115) rfl (tlt c146).2.2.1 (by decide) (by decide) ?_
        show Steps p.tables e below (T138.setTop (mkF m 122 #[.val (.int nq), .val (.long xq), .second, .val (.long yq), .second, .val (.long zq), .second, .val (.int (1 : Int32)), .val (.int a0'), .val (.int a1), .val (.int a2), .val (.int i103), .val (.int i107), .val (.int i111), .val (.ref b132), .val (.ref b138), .unset, .unset, .unset, .unset, .unset, .unset, .unset] [])) _
        refine XS.iconst X138.here hx rfl (hb hby at_122) ?_
        show Steps p.tables e below (T138.setTop (mkF m 123 #[.val (.int nq), .val (.long xq), .second, .val (.long yq), .second, .val (.long zq), .second, .val (.int (1 : Int32)), .val (.int a0'), .val (.int a1), .val (.int a2), .val (.int i103), .val (.int i107), .val (.int i111), .val (.ref b132), .val (.ref b138), .unset, .unset, .unset, .unset, .unset, .unset, .unset] [(.int (0 : Int32))])) _
        exact castTop (by rw [hi147]) k
      · rw [if_neg c146] at hi147
        show Steps p.tables e below (T138.setTop (mkF m 115 #[.val (.int nq), .val (.long xq), .second, .val (.long yq), .second, .val (.long zq), .second, .val (.int (1 : Int32)), .val (.int a0'), .val (.int a1), .val (.int a2), .val (.int i103), .val (.int i107), .val (.int i111), .val (.ref b132), .val (.ref b138), .unset, .unset, .unset, .unset, .unset, .unset, .unset] [(.int i103), (.int a0')])) _
        refine XS.icmpNo X138.here hx rfl (hb hby at_115) rfl (flt c146).2.2.1 ?_
        show Steps p.tables e below (T138.setTop (mkF m 118 #[.val (.int nq), .val (.long xq), .second, .val (.long yq), .second, .val (.long zq), .second, .val (.int (1 : Int32)), .val (.int a0'), .val (.int a1), .val (.int a2), .val (.int i103), .val (.int i107), .val (.int i111), .val (.ref b132), .val (.ref b138), .unset, .unset, .unset, .unset, .unset, .unset, .unset] [])) _
        refine XS.iconst X138.here hx rfl (hb hby at_118) ?_
        show Steps p.tables e below (T138.setTop (mkF m 119 #[.val (.int nq), .val (.long xq), .second, .val (.long yq), .second, .val (.long zq), .second, .val (.int (1 : Int32)), .val (.int a0'), .val (.int a1), .val (.int a2), .val (.int i103), .val (.int i107), .val (.int i111), .val (.ref b132), .val (.ref b138), .unset, .unset, .unset, .unset, .unset, .unset, .unset] [(.int (1 : Int32))])) _
        refine XS.goto X138.here hx rfl (pc0 := 119) (pc' := 123) rfl (hb hby at_119) (by decide) (by decide) ?_
        show Steps p.tables e below (T138.setTop (mkF m 123 #[.val (.int nq), .val (.long xq), .second, .val (.long yq), .second, .val (.long zq), .second, .val (.int (1 : Int32)), .val (.int a0'), .val (.int a1), .val (.int a2), .val (.int i103), .val (.int i107), .val (.int i111), .val (.ref b132), .val (.ref b138), .unset, .unset, .unset, .unset, .unset, .unset, .unset] [(.int (1 : Int32))])) _
        exact castTop (by rw [hi147]) k)
    have k149 : ∀ t, Steps p.tables e below (T138.setTop (mkF m 175 #[.val (.int nq), .val (.long xq), .second, .val (.long yq), .second, .val (.long zq), .second, .val (.int (1 : Int32)), .val (.int a0'), .val (.int a1), .val (.int a2), .val (.int i103), .val (.int i107), .val (.int i111), .val (.ref b132), .val (.ref b138), .val (.int i147), .val (.int (1 : Int32)), .val (.int (1 : Int32)), .unset, .unset, .unset, .unset] [(.int i103), (.int a0')])) t → Steps p.tables e below (s₁.setTop (entryFrame m #[(.int nq), (.long xq), (.long yq), (.long zq)] maxLocals)) t := fun t k => k148 t (by
      show Steps p.tables e below (T138.setTop (mkF m 123 #[.val (.int nq), .val (.long xq), .second, .val (.long yq), .second, .val (.long zq), .second, .val (.int (1 : Int32)), .val (.int a0'), .val (.int a1), .val (.int a2), .val (.int i103), .val (.int i107), .val (.int i111), .val (.ref b132), .val (.ref b138), .unset, .unset, .unset, .unset, .unset, .unset, .unset] [(.int i147)])) _
      refine XS.istore X138.here hx rfl (hb hby at_123) rfl (l' := #[.val (.int nq), .val (.long xq), .second, .val (.long yq), .second, .val (.long zq), .second, .val (.int (1 : Int32)), .val (.int a0'), .val (.int a1), .val (.int a2), .val (.int i103), .val (.int i107), .val (.int i111), .val (.ref b132), .val (.ref b138), .val (.int i147), .unset, .unset, .unset, .unset, .unset, .unset]) rfl ?_
      show Steps p.tables e below (T138.setTop (mkF m 125 #[.val (.int nq), .val (.long xq), .second, .val (.long yq), .second, .val (.long zq), .second, .val (.int (1 : Int32)), .val (.int a0'), .val (.int a1), .val (.int a2), .val (.int i103), .val (.int i107), .val (.int i111), .val (.ref b132), .val (.ref b138), .val (.int i147), .unset, .unset, .unset, .unset, .unset, .unset] [])) _
      refine XS.iload X138.here hx rfl (hb hby at_125) rfl ?_
      show Steps p.tables e below (T138.setTop (mkF m 127 #[.val (.int nq), .val (.long xq), .second, .val (.long yq), .second, .val (.long zq), .second, .val (.int (1 : Int32)), .val (.int a0'), .val (.int a1), .val (.int a2), .val (.int i103), .val (.int i107), .val (.int i111), .val (.ref b132), .val (.ref b138), .val (.int i147), .unset, .unset, .unset, .unset, .unset, .unset] [(.int (1 : Int32))])) _
      refine XS.iconst X138.here hx rfl (hb hby at_127) ?_
      show Steps p.tables e below (T138.setTop (mkF m 128 #[.val (.int nq), .val (.long xq), .second, .val (.long yq), .second, .val (.long zq), .second, .val (.int (1 : Int32)), .val (.int a0'), .val (.int a1), .val (.int a2), .val (.int i103), .val (.int i107), .val (.int i111), .val (.ref b132), .val (.ref b138), .val (.int i147), .unset, .unset, .unset, .unset, .unset, .unset] [(.int (2 : Int32)), (.int (1 : Int32))])) _
      refine XS.icmpYes X138.here hx rfl (pc0 := 128) (pc' := 138) rfl (hb hby at_128) rfl (tlt (by decide)).1 (by decide) (by decide) ?_
      show Steps p.tables e below (T138.setTop (mkF m 138 #[.val (.int nq), .val (.long xq), .second, .val (.long yq), .second, .val (.long zq), .second, .val (.int (1 : Int32)), .val (.int a0'), .val (.int a1), .val (.int a2), .val (.int i103), .val (.int i107), .val (.int i111), .val (.ref b132), .val (.ref b138), .val (.int i147), .unset, .unset, .unset, .unset, .unset, .unset] [])) _
      refine XS.iconst X138.here hx rfl (hb hby at_138) ?_
      show Steps p.tables e below (T138.setTop (mkF m 139 #[.val (.int nq), .val (.long xq), .second, .val (.long yq), .second, .val (.long zq), .second, .val (.int (1 : Int32)), .val (.int a0'), .val (.int a1), .val (.int a2), .val (.int i103), .val (.int i107), .val (.int i111), .val (.ref b132), .val (.ref b138), .val (.int i147), .unset, .unset, .unset, .unset, .unset, .unset] [(.int (1 : Int32))])) _
      refine XS.goto X138.here hx rfl (pc0 := 139) (pc' := 143) rfl (hb hby at_139) (by decide) (by decide) ?_
      show Steps p.tables e below (T138.setTop (mkF m 143 #[.val (.int nq), .val (.long xq), .second, .val (.long yq), .second, .val (.long zq), .second, .val (.int (1 : Int32)), .val (.int a0'), .val (.int a1), .val (.int a2), .val (.int i103), .val (.int i107), .val (.int i111), .val (.ref b132), .val (.ref b138), .val (.int i147), .unset, .unset, .unset, .unset, .unset, .unset] [(.int (1 : Int32))])) _
      refine XS.istore X138.here hx rfl (hb hby at_143) rfl (l' := #[.val (.int nq), .val (.long xq), .second, .val (.long yq), .second, .val (.long zq), .second, .val (.int (1 : Int32)), .val (.int a0'), .val (.int a1), .val (.int a2), .val (.int i103), .val (.int i107), .val (.int i111), .val (.ref b132), .val (.ref b138), .val (.int i147), .val (.int (1 : Int32)), .unset, .unset, .unset, .unset, .unset]) rfl ?_
      show Steps p.tables e below (T138.setTop (mkF m 145 #[.val (.int nq), .val (.long xq), .second, .val (.long yq), .second, .val (.long zq), .second, .val (.int (1 : Int32)), .val (.int a0'), .val (.int a1), .val (.int a2), .val (.int i103), .val (.int i107), .val (.int i111), .val (.ref b132), .val (.ref b138), .val (.int i147), .val (.int (1 : Int32)), .unset, .unset, .unset, .unset, .unset] [])) _
      refine XS.iload X138.here hx rfl (hb hby at_145) rfl ?_
      show Steps p.tables e below (T138.setTop (mkF m 147 #[.val (.int nq), .val (.long xq), .second, .val (.long yq), .second, .val (.long zq), .second, .val (.int (1 : Int32)), .val (.int a0'), .val (.int a1), .val (.int a2), .val (.int i103), .val (.int i107), .val (.int i111), .val (.ref b132), .val (.ref b138), .val (.int i147), .val (.int (1 : Int32)), .unset, .unset, .unset, .unset, .unset] [(.int (1 : Int32))])) _
      refine XS.iconst X138.here hx rfl (hb hby at_147) ?_
      show Steps p.tables e below (T138.setTop (mkF m 148 #[.val (.int nq), .val (.long xq), .second, .val (.long yq), .second, .val (.long zq), .second, .val (.int (1 : Int32)), .val (.int a0'), .val (.int a1), .val (.int a2), .val (.int i103), .val (.int i107), .val (.int i111), .val (.ref b132), .val (.ref b138), .val (.int i147), .val (.int (1 : Int32)), .unset, .unset, .unset, .unset, .unset] [(.int (3 : Int32)), (.int (1 : Int32))])) _
      refine XS.icmpYes X138.here hx rfl (pc0 := 148) (pc' := 158) rfl (hb hby at_148) rfl (tlt (by decide)).1 (by decide) (by decide) ?_
      show Steps p.tables e below (T138.setTop (mkF m 158 #[.val (.int nq), .val (.long xq), .second, .val (.long yq), .second, .val (.long zq), .second, .val (.int (1 : Int32)), .val (.int a0'), .val (.int a1), .val (.int a2), .val (.int i103), .val (.int i107), .val (.int i111), .val (.ref b132), .val (.ref b138), .val (.int i147), .val (.int (1 : Int32)), .unset, .unset, .unset, .unset, .unset] [])) _
      refine XS.iconst X138.here hx rfl (hb hby at_158) ?_
      show Steps p.tables e below (T138.setTop (mkF m 159 #[.val (.int nq), .val (.long xq), .second, .val (.long yq), .second, .val (.long zq), .second, .val (.int (1 : Int32)), .val (.int a0'), .val (.int a1), .val (.int a2), .val (.int i103), .val (.int i107), .val (.int i111), .val (.ref b132), .val (.ref b138), .val (.int i147), .val (.int (1 : Int32)), .unset, .unset, .unset, .unset, .unset] [(.int (1 : Int32))])) _
      refine XS.goto X138.here hx rfl (pc0 := 159) (pc' := 163) rfl (hb hby at_159) (by decide) (by decide) ?_
      show Steps p.tables e below (T138.setTop (mkF m 163 #[.val (.int nq), .val (.long xq), .second, .val (.long yq), .second, .val (.long zq), .second, .val (.int (1 : Int32)), .val (.int a0'), .val (.int a1), .val (.int a2), .val (.int i103), .val (.int i107), .val (.int i111), .val (.ref b132), .val (.ref b138), .val (.int i147), .val (.int (1 : Int32)), .unset, .unset, .unset, .unset, .unset] [(.int (1 : Int32))])) _
      refine XS.istore X138.here hx rfl (hb hby at_163) rfl (l' := #[.val (.int nq), .val (.long xq), .second, .val (.long yq), .second, .val (.long zq), .second, .val (.int (1 : Int32)), .val (.int a0'), .val (.int a1), .val (.int a2), .val (.int i103), .val (.int i107), .val (.int i111), .val (.ref b132), .val (.ref b138), .val (.int i147), .val (.int (1 : Int32)), .val (.int (1 : Int32)), .unset, .unset, .unset, .unset]) rfl ?_
      show Steps p.tables e below (T138.setTop (mkF m 165 #[.val (.int nq), .val (.long xq), .second, .val (.long yq), .second, .val (.long zq), .second, .val (.int (1 : Int32)), .val (.int a0'), .val (.int a1), .val (.int a2), .val (.int i103), .val (.int i107), .val (.int i111), .val (.ref b132), .val (.ref b138), .val (.int i147), .val (.int (1 : Int32)), .val (.int (1 : Int32)), .unset, .unset, .unset, .unset] [])) _
      refine XS.iload X138.here hx rfl (hb hby at_165) rfl ?_
      show Steps p.tables e below (T138.setTop (mkF m 167 #[.val (.int nq), .val (.long xq), .second, .val (.long yq), .second, .val (.long zq), .second, .val (.int (1 : Int32)), .val (.int a0'), .val (.int a1), .val (.int a2), .val (.int i103), .val (.int i107), .val (.int i111), .val (.ref b132), .val (.ref b138), .val (.int i147), .val (.int (1 : Int32)), .val (.int (1 : Int32)), .unset, .unset, .unset, .unset] [(.int (1 : Int32))])) _
      refine XS.iconst X138.here hx rfl (hb hby at_167) ?_
      show Steps p.tables e below (T138.setTop (mkF m 168 #[.val (.int nq), .val (.long xq), .second, .val (.long yq), .second, .val (.long zq), .second, .val (.int (1 : Int32)), .val (.int a0'), .val (.int a1), .val (.int a2), .val (.int i103), .val (.int i107), .val (.int i111), .val (.ref b132), .val (.ref b138), .val (.int i147), .val (.int (1 : Int32)), .val (.int (1 : Int32)), .unset, .unset, .unset, .unset] [(.int (1 : Int32)), (.int (1 : Int32))])) _
      refine XS.icmpNo X138.here hx rfl (hb hby at_168) rfl (flt (by decide)).1 ?_
      show Steps p.tables e below (T138.setTop (mkF m 171 #[.val (.int nq), .val (.long xq), .second, .val (.long yq), .second, .val (.long zq), .second, .val (.int (1 : Int32)), .val (.int a0'), .val (.int a1), .val (.int a2), .val (.int i103), .val (.int i107), .val (.int i111), .val (.ref b132), .val (.ref b138), .val (.int i147), .val (.int (1 : Int32)), .val (.int (1 : Int32)), .unset, .unset, .unset, .unset] [])) _
      refine XS.iload X138.here hx rfl (hb hby at_171) rfl ?_
      show Steps p.tables e below (T138.setTop (mkF m 173 #[.val (.int nq), .val (.long xq), .second, .val (.long yq), .second, .val (.long zq), .second, .val (.int (1 : Int32)), .val (.int a0'), .val (.int a1), .val (.int a2), .val (.int i103), .val (.int i107), .val (.int i111), .val (.ref b132), .val (.ref b138), .val (.int i147), .val (.int (1 : Int32)), .val (.int (1 : Int32)), .unset, .unset, .unset, .unset] [(.int a0')])) _
      refine XS.iload X138.here hx rfl (hb hby at_173) rfl ?_
      exact k)
    obtain ⟨i151, hi151⟩ : ∃ z : Int32, z = (if a0' < i103 then (1 : Int32) else (0 : Int32)) := ⟨_, rfl⟩
    have k152 : ∀ t, Steps p.tables e below (T138.setTop (mkF m 183 #[.val (.int nq), .val (.long xq), .second, .val (.long yq), .second, .val (.long zq), .second, .val (.int (1 : Int32)), .val (.int a0'), .val (.int a1), .val (.int a2), .val (.int i103), .val (.int i107), .val (.int i111), .val (.ref b132), .val (.ref b138), .val (.int i147), .val (.int (1 : Int32)), .val (.int (1 : Int32)), .unset, .unset, .unset, .unset] [(.int i151)])) t → Steps p.tables e below (s₁.setTop (entryFrame m #[(.int nq), (.long xq), (.long yq), (.long zq)] maxLocals)) t := fun t k => k149 t (by
      by_cases c150 : a0' < i103
      · rw [if_pos c150] at hi151
        show Steps p.tables e below (T138.setTop (mkF m 175 #[.val (.int nq), .val (.long xq), .second, .val (.long yq), .second, .val (.long zq), .second, .val (.int (1 : Int32)), .val (.int a0'), .val (.int a1), .val (.int a2), .val (.int i103), .val (.int i107), .val (.int i111), .val (.ref b132), .val (.ref b138), .val (.int i147), .val (.int (1 : Int32)), .val (.int (1 : Int32)), .unset, .unset, .unset, .unset] [(.int i103), (.int a0')])) _
        refine XS.icmpNo X138.here hx rfl (hb hby at_175) rfl (tlt c150).2.1 ?_
        show Steps p.tables e below (T138.setTop (mkF m 178 #[.val (.int nq), .val (.long xq), .second, .val (.long yq), .second, .val (.long zq), .second, .val (.int (1 : Int32)), .val (.int a0'), .val (.int a1), .val (.int a2), .val (.int i103), .val (.int i107), .val (.int i111), .val (.ref b132), .val (.ref b138), .val (.int i147), .val (.int (1 : Int32)), .val (.int (1 : Int32)), .unset, .unset, .unset, .unset] [])) _
        refine XS.iconst X138.here hx rfl (hb hby at_178) ?_
        show Steps p.tables e below (T138.setTop (mkF m 179 #[.val (.int nq), .val (.long xq), .second, .val (.long yq), .second, .val (.long zq), .second, .val (.int (1 : Int32)), .val (.int a0'), .val (.int a1), .val (.int a2), .val (.int i103), .val (.int i107), .val (.int i111), .val (.ref b132), .val (.ref b138), .val (.int i147), .val (.int (1 : Int32)), .val (.int (1 : Int32)), .unset, .unset, .unset, .unset] [(.int (1 : Int32))])) _
        refine XS.goto X138.here hx rfl (pc0 := 179) (pc' := 183) rfl (hb hby at_179) (by decide) (by decide) ?_
        show Steps p.tables e below (T138.setTop (mkF m 183 #[.val (.int nq), .val (.long xq), .second, .val (.long yq), .second, .val (.long zq), .second, .val (.int (1 : Int32)), .val (.int a0'), .val (.int a1), .val (.int a2), .val (.int i103), .val (.int i107), .val (.int i111), .val (.ref b132), .val (.ref b138), .val (.int i147), .val (.int (1 : Int32)), .val (.int (1 : Int32)), .unset, .unset, .unset, .unset] [(.int (1 : Int32))])) _
        exact castTop (by rw [hi151]) k
      · rw [if_neg c150] at hi151
        show Steps p.tables e below (T138.setTop (mkF m 175 #[.val (.int nq), .val (.long xq), .second, .val (.long yq), .second, .val (.long zq), .second, .val (.int (1 : Int32)), .val (.int a0'), .val (.int a1), .val (.int a2), .val (.int i103), .val (.int i107), .val (.int i111), .val (.ref b132), .val (.ref b138), .val (.int i147), .val (.int (1 : Int32)), .val (.int (1 : Int32)), .unset, .unset, .unset, .unset] [(.int i103), (.int a0')])) _
        refine XS.icmpYes X138.here hx rfl (pc0 := 175) (pc' := 182) rfl (hb hby at_175) rfl (flt c150).2.1 (by decide) (by decide) ?_
        show Steps p.tables e below (T138.setTop (mkF m 182 #[.val (.int nq), .val (.long xq), .second, .val (.long yq), .second, .val (.long zq), .second, .val (.int (1 : Int32)), .val (.int a0'), .val (.int a1), .val (.int a2), .val (.int i103), .val (.int i107), .val (.int i111), .val (.ref b132), .val (.ref b138), .val (.int i147), .val (.int (1 : Int32)), .val (.int (1 : Int32)), .unset, .unset, .unset, .unset] [])) _
        refine XS.iconst X138.here hx rfl (hb hby at_182) ?_
        show Steps p.tables e below (T138.setTop (mkF m 183 #[.val (.int nq), .val (.long xq), .second, .val (.long yq), .second, .val (.long zq), .second, .val (.int (1 : Int32)), .val (.int a0'), .val (.int a1), .val (.int a2), .val (.int i103), .val (.int i107), .val (.int i111), .val (.ref b132), .val (.ref b138), .val (.int i147), .val (.int (1 : Int32)), .val (.int (1 : Int32)), .unset, .unset, .unset, .unset] [(.int (0 : Int32))])) _
        exact castTop (by rw [hi151]) k)
    have k153 : ∀ t, Steps p.tables e below (T138.setTop (mkF m 227 #[.val (.int nq), .val (.long xq), .second, .val (.long yq), .second, .val (.long zq), .second, .val (.int (1 : Int32)), .val (.int a0'), .val (.int a1), .val (.int a2), .val (.int i103), .val (.int i107), .val (.int i111), .val (.ref b132), .val (.ref b138), .val (.int i147), .val (.int (1 : Int32)), .val (.int (1 : Int32)), .val (.int i151), .val (.int (0 : Int32)), .val (.int (0 : Int32)), .unset] [(.int i147)])) t → Steps p.tables e below (s₁.setTop (entryFrame m #[(.int nq), (.long xq), (.long yq), (.long zq)] maxLocals)) t := fun t k => k152 t (by
      show Steps p.tables e below (T138.setTop (mkF m 183 #[.val (.int nq), .val (.long xq), .second, .val (.long yq), .second, .val (.long zq), .second, .val (.int (1 : Int32)), .val (.int a0'), .val (.int a1), .val (.int a2), .val (.int i103), .val (.int i107), .val (.int i111), .val (.ref b132), .val (.ref b138), .val (.int i147), .val (.int (1 : Int32)), .val (.int (1 : Int32)), .unset, .unset, .unset, .unset] [(.int i151)])) _
      refine XS.istore X138.here hx rfl (hb hby at_183) rfl (l' := #[.val (.int nq), .val (.long xq), .second, .val (.long yq), .second, .val (.long zq), .second, .val (.int (1 : Int32)), .val (.int a0'), .val (.int a1), .val (.int a2), .val (.int i103), .val (.int i107), .val (.int i111), .val (.ref b132), .val (.ref b138), .val (.int i147), .val (.int (1 : Int32)), .val (.int (1 : Int32)), .val (.int i151), .unset, .unset, .unset]) rfl ?_
      show Steps p.tables e below (T138.setTop (mkF m 185 #[.val (.int nq), .val (.long xq), .second, .val (.long yq), .second, .val (.long zq), .second, .val (.int (1 : Int32)), .val (.int a0'), .val (.int a1), .val (.int a2), .val (.int i103), .val (.int i107), .val (.int i111), .val (.ref b132), .val (.ref b138), .val (.int i147), .val (.int (1 : Int32)), .val (.int (1 : Int32)), .val (.int i151), .unset, .unset, .unset] [])) _
      refine XS.iload X138.here hx rfl (hb hby at_185) rfl ?_
      show Steps p.tables e below (T138.setTop (mkF m 187 #[.val (.int nq), .val (.long xq), .second, .val (.long yq), .second, .val (.long zq), .second, .val (.int (1 : Int32)), .val (.int a0'), .val (.int a1), .val (.int a2), .val (.int i103), .val (.int i107), .val (.int i111), .val (.ref b132), .val (.ref b138), .val (.int i147), .val (.int (1 : Int32)), .val (.int (1 : Int32)), .val (.int i151), .unset, .unset, .unset] [(.int (1 : Int32))])) _
      refine XS.iconst X138.here hx rfl (hb hby at_187) ?_
      show Steps p.tables e below (T138.setTop (mkF m 188 #[.val (.int nq), .val (.long xq), .second, .val (.long yq), .second, .val (.long zq), .second, .val (.int (1 : Int32)), .val (.int a0'), .val (.int a1), .val (.int a2), .val (.int i103), .val (.int i107), .val (.int i111), .val (.ref b132), .val (.ref b138), .val (.int i147), .val (.int (1 : Int32)), .val (.int (1 : Int32)), .val (.int i151), .unset, .unset, .unset] [(.int (2 : Int32)), (.int (1 : Int32))])) _
      refine XS.icmpYes X138.here hx rfl (pc0 := 188) (pc' := 202) rfl (hb hby at_188) rfl (tlt (by decide)).1 (by decide) (by decide) ?_
      show Steps p.tables e below (T138.setTop (mkF m 202 #[.val (.int nq), .val (.long xq), .second, .val (.long yq), .second, .val (.long zq), .second, .val (.int (1 : Int32)), .val (.int a0'), .val (.int a1), .val (.int a2), .val (.int i103), .val (.int i107), .val (.int i111), .val (.ref b132), .val (.ref b138), .val (.int i147), .val (.int (1 : Int32)), .val (.int (1 : Int32)), .val (.int i151), .unset, .unset, .unset] [])) _
      refine XS.iconst X138.here hx rfl (hb hby at_202) ?_
      show Steps p.tables e below (T138.setTop (mkF m 203 #[.val (.int nq), .val (.long xq), .second, .val (.long yq), .second, .val (.long zq), .second, .val (.int (1 : Int32)), .val (.int a0'), .val (.int a1), .val (.int a2), .val (.int i103), .val (.int i107), .val (.int i111), .val (.ref b132), .val (.ref b138), .val (.int i147), .val (.int (1 : Int32)), .val (.int (1 : Int32)), .val (.int i151), .unset, .unset, .unset] [(.int (0 : Int32))])) _
      refine XS.istore X138.here hx rfl (hb hby at_203) rfl (l' := #[.val (.int nq), .val (.long xq), .second, .val (.long yq), .second, .val (.long zq), .second, .val (.int (1 : Int32)), .val (.int a0'), .val (.int a1), .val (.int a2), .val (.int i103), .val (.int i107), .val (.int i111), .val (.ref b132), .val (.ref b138), .val (.int i147), .val (.int (1 : Int32)), .val (.int (1 : Int32)), .val (.int i151), .val (.int (0 : Int32)), .unset, .unset]) rfl ?_
      show Steps p.tables e below (T138.setTop (mkF m 205 #[.val (.int nq), .val (.long xq), .second, .val (.long yq), .second, .val (.long zq), .second, .val (.int (1 : Int32)), .val (.int a0'), .val (.int a1), .val (.int a2), .val (.int i103), .val (.int i107), .val (.int i111), .val (.ref b132), .val (.ref b138), .val (.int i147), .val (.int (1 : Int32)), .val (.int (1 : Int32)), .val (.int i151), .val (.int (0 : Int32)), .unset, .unset] [])) _
      refine XS.iload X138.here hx rfl (hb hby at_205) rfl ?_
      show Steps p.tables e below (T138.setTop (mkF m 207 #[.val (.int nq), .val (.long xq), .second, .val (.long yq), .second, .val (.long zq), .second, .val (.int (1 : Int32)), .val (.int a0'), .val (.int a1), .val (.int a2), .val (.int i103), .val (.int i107), .val (.int i111), .val (.ref b132), .val (.ref b138), .val (.int i147), .val (.int (1 : Int32)), .val (.int (1 : Int32)), .val (.int i151), .val (.int (0 : Int32)), .unset, .unset] [(.int (1 : Int32))])) _
      refine XS.iconst X138.here hx rfl (hb hby at_207) ?_
      show Steps p.tables e below (T138.setTop (mkF m 208 #[.val (.int nq), .val (.long xq), .second, .val (.long yq), .second, .val (.long zq), .second, .val (.int (1 : Int32)), .val (.int a0'), .val (.int a1), .val (.int a2), .val (.int i103), .val (.int i107), .val (.int i111), .val (.ref b132), .val (.ref b138), .val (.int i147), .val (.int (1 : Int32)), .val (.int (1 : Int32)), .val (.int i151), .val (.int (0 : Int32)), .unset, .unset] [(.int (3 : Int32)), (.int (1 : Int32))])) _
      refine XS.icmpYes X138.here hx rfl (pc0 := 208) (pc' := 222) rfl (hb hby at_208) rfl (tlt (by decide)).1 (by decide) (by decide) ?_
      show Steps p.tables e below (T138.setTop (mkF m 222 #[.val (.int nq), .val (.long xq), .second, .val (.long yq), .second, .val (.long zq), .second, .val (.int (1 : Int32)), .val (.int a0'), .val (.int a1), .val (.int a2), .val (.int i103), .val (.int i107), .val (.int i111), .val (.ref b132), .val (.ref b138), .val (.int i147), .val (.int (1 : Int32)), .val (.int (1 : Int32)), .val (.int i151), .val (.int (0 : Int32)), .unset, .unset] [])) _
      refine XS.iconst X138.here hx rfl (hb hby at_222) ?_
      show Steps p.tables e below (T138.setTop (mkF m 223 #[.val (.int nq), .val (.long xq), .second, .val (.long yq), .second, .val (.long zq), .second, .val (.int (1 : Int32)), .val (.int a0'), .val (.int a1), .val (.int a2), .val (.int i103), .val (.int i107), .val (.int i111), .val (.ref b132), .val (.ref b138), .val (.int i147), .val (.int (1 : Int32)), .val (.int (1 : Int32)), .val (.int i151), .val (.int (0 : Int32)), .unset, .unset] [(.int (0 : Int32))])) _
      refine XS.istore X138.here hx rfl (hb hby at_223) rfl (l' := #[.val (.int nq), .val (.long xq), .second, .val (.long yq), .second, .val (.long zq), .second, .val (.int (1 : Int32)), .val (.int a0'), .val (.int a1), .val (.int a2), .val (.int i103), .val (.int i107), .val (.int i111), .val (.ref b132), .val (.ref b138), .val (.int i147), .val (.int (1 : Int32)), .val (.int (1 : Int32)), .val (.int i151), .val (.int (0 : Int32)), .val (.int (0 : Int32)), .unset]) rfl ?_
      show Steps p.tables e below (T138.setTop (mkF m 225 #[.val (.int nq), .val (.long xq), .second, .val (.long yq), .second, .val (.long zq), .second, .val (.int (1 : Int32)), .val (.int a0'), .val (.int a1), .val (.int a2), .val (.int i103), .val (.int i107), .val (.int i111), .val (.ref b132), .val (.ref b138), .val (.int i147), .val (.int (1 : Int32)), .val (.int (1 : Int32)), .val (.int i151), .val (.int (0 : Int32)), .val (.int (0 : Int32)), .unset] [])) _
      refine XS.iload X138.here hx rfl (hb hby at_225) rfl ?_
      exact k)
    obtain ⟨i156, hi156⟩ : ∃ z : Int32, z = (if i147 = (0 : Int32) then (0 : Int32) else (if i151 = (0 : Int32) then (0 : Int32) else (1 : Int32))) := ⟨_, rfl⟩
    have k157 : ∀ t, Steps p.tables e below (T138.setTop (mkF m 260 #[.val (.int nq), .val (.long xq), .second, .val (.long yq), .second, .val (.long zq), .second, .val (.int (1 : Int32)), .val (.int a0'), .val (.int a1), .val (.int a2), .val (.int i103), .val (.int i107), .val (.int i111), .val (.ref b132), .val (.ref b138), .val (.int i147), .val (.int (1 : Int32)), .val (.int (1 : Int32)), .val (.int i151), .val (.int (0 : Int32)), .val (.int (0 : Int32)), .unset] [(.int i156)])) t → Steps p.tables e below (s₁.setTop (entryFrame m #[(.int nq), (.long xq), (.long yq), (.long zq)] maxLocals)) t := fun t k => k153 t (by
      by_cases c154 : i147 = (0 : Int32)
      · rw [if_pos c154] at hi156
        show Steps p.tables e below (T138.setTop (mkF m 227 #[.val (.int nq), .val (.long xq), .second, .val (.long yq), .second, .val (.long zq), .second, .val (.int (1 : Int32)), .val (.int a0'), .val (.int a1), .val (.int a2), .val (.int i103), .val (.int i107), .val (.int i111), .val (.ref b132), .val (.ref b138), .val (.int i147), .val (.int (1 : Int32)), .val (.int (1 : Int32)), .val (.int i151), .val (.int (0 : Int32)), .val (.int (0 : Int32)), .unset] [(.int i147)])) _
        refine XS.ifYes X138.here hx rfl (pc0 := 227) (pc' := 259) rfl (hb hby at_227) rfl ((if0 _ _).trans (teq c154).1) (by decide) (by decide) ?_
        show Steps p.tables e below (T138.setTop (mkF m 259 #[.val (.int nq), .val (.long xq), .second, .val (.long yq), .second, .val (.long zq), .second, .val (.int (1 : Int32)), .val (.int a0'), .val (.int a1), .val (.int a2), .val (.int i103), .val (.int i107), .val (.int i111), .val (.ref b132), .val (.ref b138), .val (.int i147), .val (.int (1 : Int32)), .val (.int (1 : Int32)), .val (.int i151), .val (.int (0 : Int32)), .val (.int (0 : Int32)), .unset] [])) _
        refine XS.iconst X138.here hx rfl (hb hby at_259) ?_
        show Steps p.tables e below (T138.setTop (mkF m 260 #[.val (.int nq), .val (.long xq), .second, .val (.long yq), .second, .val (.long zq), .second, .val (.int (1 : Int32)), .val (.int a0'), .val (.int a1), .val (.int a2), .val (.int i103), .val (.int i107), .val (.int i111), .val (.ref b132), .val (.ref b138), .val (.int i147), .val (.int (1 : Int32)), .val (.int (1 : Int32)), .val (.int i151), .val (.int (0 : Int32)), .val (.int (0 : Int32)), .unset] [(.int (0 : Int32))])) _
        exact castTop (by rw [hi156]) k
      · rw [if_neg c154] at hi156
        show Steps p.tables e below (T138.setTop (mkF m 227 #[.val (.int nq), .val (.long xq), .second, .val (.long yq), .second, .val (.long zq), .second, .val (.int (1 : Int32)), .val (.int a0'), .val (.int a1), .val (.int a2), .val (.int i103), .val (.int i107), .val (.int i111), .val (.ref b132), .val (.ref b138), .val (.int i147), .val (.int (1 : Int32)), .val (.int (1 : Int32)), .val (.int i151), .val (.int (0 : Int32)), .val (.int (0 : Int32)), .unset] [(.int i147)])) _
        refine XS.ifNo X138.here hx rfl (hb hby at_227) rfl ((if0 _ _).trans (feq c154).1) ?_
        show Steps p.tables e below (T138.setTop (mkF m 230 #[.val (.int nq), .val (.long xq), .second, .val (.long yq), .second, .val (.long zq), .second, .val (.int (1 : Int32)), .val (.int a0'), .val (.int a1), .val (.int a2), .val (.int i103), .val (.int i107), .val (.int i111), .val (.ref b132), .val (.ref b138), .val (.int i147), .val (.int (1 : Int32)), .val (.int (1 : Int32)), .val (.int i151), .val (.int (0 : Int32)), .val (.int (0 : Int32)), .unset] [])) _
        refine XS.iload X138.here hx rfl (hb hby at_230) rfl ?_
        show Steps p.tables e below (T138.setTop (mkF m 232 #[.val (.int nq), .val (.long xq), .second, .val (.long yq), .second, .val (.long zq), .second, .val (.int (1 : Int32)), .val (.int a0'), .val (.int a1), .val (.int a2), .val (.int i103), .val (.int i107), .val (.int i111), .val (.ref b132), .val (.ref b138), .val (.int i147), .val (.int (1 : Int32)), .val (.int (1 : Int32)), .val (.int i151), .val (.int (0 : Int32)), .val (.int (0 : Int32)), .unset] [(.int (1 : Int32))])) _
        refine XS.ifNo X138.here hx rfl (hb hby at_232) rfl ((if0 _ _).trans (feq (by decide)).1) ?_
        show Steps p.tables e below (T138.setTop (mkF m 235 #[.val (.int nq), .val (.long xq), .second, .val (.long yq), .second, .val (.long zq), .second, .val (.int (1 : Int32)), .val (.int a0'), .val (.int a1), .val (.int a2), .val (.int i103), .val (.int i107), .val (.int i111), .val (.ref b132), .val (.ref b138), .val (.int i147), .val (.int (1 : Int32)), .val (.int (1 : Int32)), .val (.int i151), .val (.int (0 : Int32)), .val (.int (0 : Int32)), .unset] [])) _
        refine XS.iload X138.here hx rfl (hb hby at_235) rfl ?_
        show Steps p.tables e below (T138.setTop (mkF m 237 #[.val (.int nq), .val (.long xq), .second, .val (.long yq), .second, .val (.long zq), .second, .val (.int (1 : Int32)), .val (.int a0'), .val (.int a1), .val (.int a2), .val (.int i103), .val (.int i107), .val (.int i111), .val (.ref b132), .val (.ref b138), .val (.int i147), .val (.int (1 : Int32)), .val (.int (1 : Int32)), .val (.int i151), .val (.int (0 : Int32)), .val (.int (0 : Int32)), .unset] [(.int (1 : Int32))])) _
        refine XS.ifNo X138.here hx rfl (hb hby at_237) rfl ((if0 _ _).trans (feq (by decide)).1) ?_
        show Steps p.tables e below (T138.setTop (mkF m 240 #[.val (.int nq), .val (.long xq), .second, .val (.long yq), .second, .val (.long zq), .second, .val (.int (1 : Int32)), .val (.int a0'), .val (.int a1), .val (.int a2), .val (.int i103), .val (.int i107), .val (.int i111), .val (.ref b132), .val (.ref b138), .val (.int i147), .val (.int (1 : Int32)), .val (.int (1 : Int32)), .val (.int i151), .val (.int (0 : Int32)), .val (.int (0 : Int32)), .unset] [])) _
        refine XS.iload X138.here hx rfl (hb hby at_240) rfl ?_
        by_cases c155 : i151 = (0 : Int32)
        · rw [if_pos c155] at hi156
          show Steps p.tables e below (T138.setTop (mkF m 242 #[.val (.int nq), .val (.long xq), .second, .val (.long yq), .second, .val (.long zq), .second, .val (.int (1 : Int32)), .val (.int a0'), .val (.int a1), .val (.int a2), .val (.int i103), .val (.int i107), .val (.int i111), .val (.ref b132), .val (.ref b138), .val (.int i147), .val (.int (1 : Int32)), .val (.int (1 : Int32)), .val (.int i151), .val (.int (0 : Int32)), .val (.int (0 : Int32)), .unset] [(.int i151)])) _
          refine XS.ifNo X138.here hx rfl (hb hby at_242) rfl ((if0 _ _).trans (teq c155).2) ?_
          show Steps p.tables e below (T138.setTop (mkF m 245 #[.val (.int nq), .val (.long xq), .second, .val (.long yq), .second, .val (.long zq), .second, .val (.int (1 : Int32)), .val (.int a0'), .val (.int a1), .val (.int a2), .val (.int i103), .val (.int i107), .val (.int i111), .val (.ref b132), .val (.ref b138), .val (.int i147), .val (.int (1 : Int32)), .val (.int (1 : Int32)), .val (.int i151), .val (.int (0 : Int32)), .val (.int (0 : Int32)), .unset] [])) _
          refine XS.iload X138.here hx rfl (hb hby at_245) rfl ?_
          show Steps p.tables e below (T138.setTop (mkF m 247 #[.val (.int nq), .val (.long xq), .second, .val (.long yq), .second, .val (.long zq), .second, .val (.int (1 : Int32)), .val (.int a0'), .val (.int a1), .val (.int a2), .val (.int i103), .val (.int i107), .val (.int i111), .val (.ref b132), .val (.ref b138), .val (.int i147), .val (.int (1 : Int32)), .val (.int (1 : Int32)), .val (.int i151), .val (.int (0 : Int32)), .val (.int (0 : Int32)), .unset] [(.int (0 : Int32))])) _
          refine XS.ifNo X138.here hx rfl (hb hby at_247) rfl ((if0 _ _).trans (teq (by decide)).2) ?_
          show Steps p.tables e below (T138.setTop (mkF m 250 #[.val (.int nq), .val (.long xq), .second, .val (.long yq), .second, .val (.long zq), .second, .val (.int (1 : Int32)), .val (.int a0'), .val (.int a1), .val (.int a2), .val (.int i103), .val (.int i107), .val (.int i111), .val (.ref b132), .val (.ref b138), .val (.int i147), .val (.int (1 : Int32)), .val (.int (1 : Int32)), .val (.int i151), .val (.int (0 : Int32)), .val (.int (0 : Int32)), .unset] [])) _
          refine XS.iload X138.here hx rfl (hb hby at_250) rfl ?_
          show Steps p.tables e below (T138.setTop (mkF m 252 #[.val (.int nq), .val (.long xq), .second, .val (.long yq), .second, .val (.long zq), .second, .val (.int (1 : Int32)), .val (.int a0'), .val (.int a1), .val (.int a2), .val (.int i103), .val (.int i107), .val (.int i111), .val (.ref b132), .val (.ref b138), .val (.int i147), .val (.int (1 : Int32)), .val (.int (1 : Int32)), .val (.int i151), .val (.int (0 : Int32)), .val (.int (0 : Int32)), .unset] [(.int (0 : Int32))])) _
          refine XS.ifYes X138.here hx rfl (pc0 := 252) (pc' := 259) rfl (hb hby at_252) rfl ((if0 _ _).trans (teq (by decide)).1) (by decide) (by decide) ?_
          show Steps p.tables e below (T138.setTop (mkF m 259 #[.val (.int nq), .val (.long xq), .second, .val (.long yq), .second, .val (.long zq), .second, .val (.int (1 : Int32)), .val (.int a0'), .val (.int a1), .val (.int a2), .val (.int i103), .val (.int i107), .val (.int i111), .val (.ref b132), .val (.ref b138), .val (.int i147), .val (.int (1 : Int32)), .val (.int (1 : Int32)), .val (.int i151), .val (.int (0 : Int32)), .val (.int (0 : Int32)), .unset] [])) _
          refine XS.iconst X138.here hx rfl (hb hby at_259) ?_
          show Steps p.tables e below (T138.setTop (mkF m 260 #[.val (.int nq), .val (.long xq), .second, .val (.long yq), .second, .val (.long zq), .second, .val (.int (1 : Int32)), .val (.int a0'), .val (.int a1), .val (.int a2), .val (.int i103), .val (.int i107), .val (.int i111), .val (.ref b132), .val (.ref b138), .val (.int i147), .val (.int (1 : Int32)), .val (.int (1 : Int32)), .val (.int i151), .val (.int (0 : Int32)), .val (.int (0 : Int32)), .unset] [(.int (0 : Int32))])) _
          exact castTop (by rw [hi156]) k
        · rw [if_neg c155] at hi156
          show Steps p.tables e below (T138.setTop (mkF m 242 #[.val (.int nq), .val (.long xq), .second, .val (.long yq), .second, .val (.long zq), .second, .val (.int (1 : Int32)), .val (.int a0'), .val (.int a1), .val (.int a2), .val (.int i103), .val (.int i107), .val (.int i111), .val (.ref b132), .val (.ref b138), .val (.int i147), .val (.int (1 : Int32)), .val (.int (1 : Int32)), .val (.int i151), .val (.int (0 : Int32)), .val (.int (0 : Int32)), .unset] [(.int i151)])) _
          refine XS.ifYes X138.here hx rfl (pc0 := 242) (pc' := 255) rfl (hb hby at_242) rfl ((if0 _ _).trans (feq c155).2) (by decide) (by decide) ?_
          show Steps p.tables e below (T138.setTop (mkF m 255 #[.val (.int nq), .val (.long xq), .second, .val (.long yq), .second, .val (.long zq), .second, .val (.int (1 : Int32)), .val (.int a0'), .val (.int a1), .val (.int a2), .val (.int i103), .val (.int i107), .val (.int i111), .val (.ref b132), .val (.ref b138), .val (.int i147), .val (.int (1 : Int32)), .val (.int (1 : Int32)), .val (.int i151), .val (.int (0 : Int32)), .val (.int (0 : Int32)), .unset] [])) _
          refine XS.iconst X138.here hx rfl (hb hby at_255) ?_
          show Steps p.tables e below (T138.setTop (mkF m 256 #[.val (.int nq), .val (.long xq), .second, .val (.long yq), .second, .val (.long zq), .second, .val (.int (1 : Int32)), .val (.int a0'), .val (.int a1), .val (.int a2), .val (.int i103), .val (.int i107), .val (.int i111), .val (.ref b132), .val (.ref b138), .val (.int i147), .val (.int (1 : Int32)), .val (.int (1 : Int32)), .val (.int i151), .val (.int (0 : Int32)), .val (.int (0 : Int32)), .unset] [(.int (1 : Int32))])) _
          refine XS.goto X138.here hx rfl (pc0 := 256) (pc' := 260) rfl (hb hby at_256) (by decide) (by decide) ?_
          show Steps p.tables e below (T138.setTop (mkF m 260 #[.val (.int nq), .val (.long xq), .second, .val (.long yq), .second, .val (.long zq), .second, .val (.int (1 : Int32)), .val (.int a0'), .val (.int a1), .val (.int a2), .val (.int i103), .val (.int i107), .val (.int i111), .val (.ref b132), .val (.ref b138), .val (.int i147), .val (.int (1 : Int32)), .val (.int (1 : Int32)), .val (.int i151), .val (.int (0 : Int32)), .val (.int (0 : Int32)), .unset] [(.int (1 : Int32))])) _
          exact castTop (by rw [hi156]) k)
    have k158 : ∀ t, Steps p.tables e below (T138.setTop (mkF m 266 #[.val (.int nq), .val (.long xq), .second, .val (.long yq), .second, .val (.long zq), .second, .val (.int (1 : Int32)), .val (.int a0'), .val (.int a1), .val (.int a2), .val (.int i103), .val (.int i107), .val (.int i111), .val (.ref b132), .val (.ref b138), .val (.int i147), .val (.int (1 : Int32)), .val (.int (1 : Int32)), .val (.int i151), .val (.int (0 : Int32)), .val (.int (0 : Int32)), .val (.int i156)] [(.ref b138), (.ref b132)])) t → Steps p.tables e below (s₁.setTop (entryFrame m #[(.int nq), (.long xq), (.long yq), (.long zq)] maxLocals)) t := fun t k => k157 t (by
      show Steps p.tables e below (T138.setTop (mkF m 260 #[.val (.int nq), .val (.long xq), .second, .val (.long yq), .second, .val (.long zq), .second, .val (.int (1 : Int32)), .val (.int a0'), .val (.int a1), .val (.int a2), .val (.int i103), .val (.int i107), .val (.int i111), .val (.ref b132), .val (.ref b138), .val (.int i147), .val (.int (1 : Int32)), .val (.int (1 : Int32)), .val (.int i151), .val (.int (0 : Int32)), .val (.int (0 : Int32)), .unset] [(.int i156)])) _
      refine XS.istore X138.here hx rfl (hb hby at_260) rfl (l' := #[.val (.int nq), .val (.long xq), .second, .val (.long yq), .second, .val (.long zq), .second, .val (.int (1 : Int32)), .val (.int a0'), .val (.int a1), .val (.int a2), .val (.int i103), .val (.int i107), .val (.int i111), .val (.ref b132), .val (.ref b138), .val (.int i147), .val (.int (1 : Int32)), .val (.int (1 : Int32)), .val (.int i151), .val (.int (0 : Int32)), .val (.int (0 : Int32)), .val (.int i156)]) rfl ?_
      show Steps p.tables e below (T138.setTop (mkF m 262 #[.val (.int nq), .val (.long xq), .second, .val (.long yq), .second, .val (.long zq), .second, .val (.int (1 : Int32)), .val (.int a0'), .val (.int a1), .val (.int a2), .val (.int i103), .val (.int i107), .val (.int i111), .val (.ref b132), .val (.ref b138), .val (.int i147), .val (.int (1 : Int32)), .val (.int (1 : Int32)), .val (.int i151), .val (.int (0 : Int32)), .val (.int (0 : Int32)), .val (.int i156)] [])) _
      refine XS.aload X138.here hx rfl (hb hby at_262) rfl rfl ?_
      show Steps p.tables e below (T138.setTop (mkF m 264 #[.val (.int nq), .val (.long xq), .second, .val (.long yq), .second, .val (.long zq), .second, .val (.int (1 : Int32)), .val (.int a0'), .val (.int a1), .val (.int a2), .val (.int i103), .val (.int i107), .val (.int i111), .val (.ref b132), .val (.ref b138), .val (.int i147), .val (.int (1 : Int32)), .val (.int (1 : Int32)), .val (.int i151), .val (.int (0 : Int32)), .val (.int (0 : Int32)), .val (.int i156)] [(.ref b132)])) _
      refine XS.aload X138.here hx rfl (hb hby at_264) rfl rfl ?_
      exact k)
    obtain ⟨_, _, ⟨T159, L159, k159, n159⟩, -, X159, ⟨Lc159, hQ159, l159, y159, z159⟩, st159⟩ := Jvm.LawKit.callS X138 hx (y := (⟨"com/example/frontweave/frontweave/selection/Fronts", "dominates", "([D[D)Z"⟩ : MethodName)) hown (mvT hZ (hw _ (List.mem_of_getElem? (i := 5) rfl))) (mvT hZ (hw _ (List.mem_of_getElem? (i := 6) rfl))) (mvT hZ (hw _ (List.mem_of_getElem? (i := 7) rfl))) (mvT hZ (hw _ (List.mem_of_getElem? (i := 8) rfl))) (by decide) (backOf (W := 0) (dom1 l Z a0 hw [] b132 b138 kk132 kk138 a0' i103 h138 n0 Z144 F143 V138) hZ (hw _ (List.mem_of_getElem? (i := 8) rfl)) (hw _ (List.mem_of_getElem? (i := 7) rfl)) (by decide) (by decide)) (g := (mkF m 266 #[.val (.int nq), .val (.long xq), .second, .val (.long yq), .second, .val (.long zq), .second, .val (.int (1 : Int32)), .val (.int a0'), .val (.int a1), .val (.int a2), .val (.int i103), .val (.int i107), .val (.int i111), .val (.ref b132), .val (.ref b138), .val (.int i147), .val (.int (1 : Int32)), .val (.int (1 : Int32)), .val (.int i151), .val (.int (0 : Int32)), .val (.int (0 : Int32)), .val (.int i156)] [(.ref b138), (.ref b132)])) rfl (by rw [hml]; rfl) (argsL := [(.ref b132), (.ref b138)]) (rest := []) (lenOf pd__28_5bD_5bD_29Z rfl) rfl (by show 2 * 0 + _ ≤ _; exact Nat.le_of_eq rfl) (hb hby at_266) (fun _ _ => ⟨rfl, e138, (by decide : 2 + 0 ≤ _), (by decide : 2 + 0 ≤ _)⟩)
    dsimp only [Pt.U, Pt.locs, Pt.cells, Pt.slots] at X159 l159 y159 z159 st159 hQ159
    subst l159 y159 z159
    obtain ⟨rfl, N159q, e159⟩ := hQ159
    have N160 := Fr.app N139 N159q
    have k161 : ∀ t, Steps p.tables e below (T159.setTop (mkF m 269 #[.val (.int nq), .val (.long xq), .second, .val (.long yq), .second, .val (.long zq), .second, .val (.int (1 : Int32)), .val (.int a0'), .val (.int a1), .val (.int a2), .val (.int i103), .val (.int i107), .val (.int i111), .val (.ref b132), .val (.ref b138), .val (.int i147), .val (.int (1 : Int32)), .val (.int (1 : Int32)), .val (.int i151), .val (.int (0 : Int32)), .val (.int (0 : Int32)), .val (.int i156)] [(.int (own_dom [(a0', i103)] 0))])) t → Steps p.tables e below (s₁.setTop (entryFrame m #[(.int nq), (.long xq), (.long yq), (.long zq)] maxLocals)) t := fun t k => k158 t (st159 t k)
    have hfin : (own_dom [(a0', i103)] 0) = i156 := by
      rw [hi156]
      simp only [hi147, hi151]
      rcases own_tri a0' i103 with ⟨t0, s0⟩ | ⟨t0, s0⟩ | ⟨t0, s0⟩ <;> simp [own_dom, t0, s0]
    have k162 : ∀ t, Steps p.tables e below (T159.setTop (mkF m 279 #[.val (.int nq), .val (.long xq), .second, .val (.long yq), .second, .val (.long zq), .second, .val (.int (1 : Int32)), .val (.int a0'), .val (.int a1), .val (.int a2), .val (.int i103), .val (.int i107), .val (.int i111), .val (.ref b132), .val (.ref b138), .val (.int i147), .val (.int (1 : Int32)), .val (.int (1 : Int32)), .val (.int i151), .val (.int (0 : Int32)), .val (.int (0 : Int32)), .val (.int i156)] [(.int (1 : Int32))])) t → Steps p.tables e below (s₁.setTop (entryFrame m #[(.int nq), (.long xq), (.long yq), (.long zq)] maxLocals)) t := fun t k => k161 t (by
      show Steps p.tables e below (T159.setTop (mkF m 269 #[.val (.int nq), .val (.long xq), .second, .val (.long yq), .second, .val (.long zq), .second, .val (.int (1 : Int32)), .val (.int a0'), .val (.int a1), .val (.int a2), .val (.int i103), .val (.int i107), .val (.int i111), .val (.ref b132), .val (.ref b138), .val (.int i147), .val (.int (1 : Int32)), .val (.int (1 : Int32)), .val (.int i151), .val (.int (0 : Int32)), .val (.int (0 : Int32)), .val (.int i156)] [(.int (own_dom [(a0', i103)] 0))])) _
      refine XS.iload X159.here hx rfl (hb hby at_269) rfl ?_
      show Steps p.tables e below (T159.setTop (mkF m 271 #[.val (.int nq), .val (.long xq), .second, .val (.long yq), .second, .val (.long zq), .second, .val (.int (1 : Int32)), .val (.int a0'), .val (.int a1), .val (.int a2), .val (.int i103), .val (.int i107), .val (.int i111), .val (.ref b132), .val (.ref b138), .val (.int i147), .val (.int (1 : Int32)), .val (.int (1 : Int32)), .val (.int i151), .val (.int (0 : Int32)), .val (.int (0 : Int32)), .val (.int i156)] [(.int i156), (.int (own_dom [(a0', i103)] 0))])) _
      refine XS.icmpNo X159.here hx rfl (hb hby at_271) rfl (teq hfin).2 ?_
      show Steps p.tables e below (T159.setTop (mkF m 274 #[.val (.int nq), .val (.long xq), .second, .val (.long yq), .second, .val (.long zq), .second, .val (.int (1 : Int32)), .val (.int a0'), .val (.int a1), .val (.int a2), .val (.int i103), .val (.int i107), .val (.int i111), .val (.ref b132), .val (.ref b138), .val (.int i147), .val (.int (1 : Int32)), .val (.int (1 : Int32)), .val (.int i151), .val (.int (0 : Int32)), .val (.int (0 : Int32)), .val (.int i156)] [])) _
      refine XS.iconst X159.here hx rfl (hb hby at_274) ?_
      show Steps p.tables e below (T159.setTop (mkF m 275 #[.val (.int nq), .val (.long xq), .second, .val (.long yq), .second, .val (.long zq), .second, .val (.int (1 : Int32)), .val (.int a0'), .val (.int a1), .val (.int a2), .val (.int i103), .val (.int i107), .val (.int i111), .val (.ref b132), .val (.ref b138), .val (.int i147), .val (.int (1 : Int32)), .val (.int (1 : Int32)), .val (.int i151), .val (.int (0 : Int32)), .val (.int (0 : Int32)), .val (.int i156)] [(.int (1 : Int32))])) _
      refine XS.goto X159.here hx rfl (pc0 := 275) (pc' := 279) rfl (hb hby at_275) (by decide) (by decide) ?_
      exact k)
    obtain ⟨fs, hr, hrun, hended, hW, hsame⟩ := X159.leave (v := some (.int (1 : Int32))) (fun h => by rw [Bd.returns] at h; cases h)
    refine ⟨_, _, k162 _ (retOut X159 hx (t := .boolean) Bd.returns rfl (Or.inl ⟨rfl, Or.inr (Or.inl rfl), _, rfl⟩) (hb hby at_279) hr), hrun, hended, _, _, rfl, ?_, ⟨_, rfl⟩, hW, hsame.mono (by decide) (by decide)⟩
    show Q_rm0 Z nq xq yq zq h0 n0 _ T159.heap _
    rw [e159]
    exact ⟨rfl, N160⟩
  · obtain ⟨_, _, ⟨T163, L163, k163, n163⟩, -, X163, ⟨Lc163, hQ163, l163, y163, z163⟩, st163⟩ := Jvm.LawKit.callS X0 hx (y := (⟨"com/example/frontweave/frontweave/selection/FrontsDominatesPinLaw", "vec", "(IIII)[D"⟩ : MethodName)) hown (mvT hZ (hw _ (List.mem_of_getElem? (i := 0) rfl))) (mvT hZ (hw _ (List.mem_of_getElem? (i := 1) rfl))) (mvT hZ (hw _ (List.mem_of_getElem? (i := 2) rfl))) (mvT hZ (hw _ (List.mem_of_getElem? (i := 3) rfl))) (by decide) (backOf (W := 0) (vec2 l Z a0 hw [] a0' a1 a2 h0 n0 Z0 ) hZ (hw _ (List.mem_of_getElem? (i := 3) rfl)) (hw _ (List.mem_of_getElem? (i := 2) rfl)) (by decide) (by decide)) (g := (mkF m 87 #[.val (.int nq), .val (.long xq), .second, .val (.long yq), .second, .val (.long zq), .second, .val (.int (2 : Int32)), .val (.int a0'), .val (.int a1), .val (.int a2), .val (.int i103), .val (.int i107), .val (.int i111), .unset, .unset, .unset, .unset, .unset, .unset, .unset, .unset, .unset] [(.int a2), (.int a1), (.int a0'), (.int (2 : Int32))])) rfl (by rw [hml]; rfl) (argsL := [(.int (2 : Int32)), (.int a0'), (.int a1), (.int a2)]) (rest := []) (lenOf pd__28IIII_29_5bD rfl) rfl (by show 2 * 0 + _ ≤ _; exact Nat.le_of_eq rfl) (hb hby at_87) (fun _ _ => ⟨rfl, e0, (by decide : 0 + 1 ≤ _), (by decide : 0 + 2 ≤ _)⟩)
    dsimp only [Pt.U, Pt.locs, Pt.cells, Pt.slots] at X163 l163 y163 z163 st163 hQ163
    subst l163 y163 z163
    obtain ⟨h163, e163⟩ : ∃ h', T163.heap = h' := ⟨_, rfl⟩
    rw [e163] at hQ163
    obtain ⟨b163, kk163, rfl, N163q, gb163, K163, V163⟩ := hQ163
    have N164 := Fr.app N0 N163q
    have k165 : ∀ t, Steps p.tables e below (T163.setTop (mkF m 90 #[.val (.int nq), .val (.long xq), .second, .val (.long yq), .second, .val (.long zq), .second, .val (.int (2 : Int32)), .val (.int a0'), .val (.int a1), .val (.int a2), .val (.int i103), .val (.int i107), .val (.int i111), .unset, .unset, .unset, .unset, .unset, .unset, .unset, .unset, .unset] [(.ref b163)])) t → Steps p.tables e below (s₁.setTop (entryFrame m #[(.int nq), (.long xq), (.long yq), (.long zq)] maxLocals)) t := fun t k => k113 t (st163 t k)
    have g166 : n0 ≤ b163 := Nat.le_trans Z0 (Nat.le_of_eq gb163.symm)
    have Z167 : n0 ≤ h163.size := Nat.le_trans Z0 K163.1
    have k168 : ∀ t, Steps p.tables e below (T163.setTop (mkF m 100 #[.val (.int nq), .val (.long xq), .second, .val (.long yq), .second, .val (.long zq), .second, .val (.int (2 : Int32)), .val (.int a0'), .val (.int a1), .val (.int a2), .val (.int i103), .val (.int i107), .val (.int i111), .val (.ref b163), .unset, .unset, .unset, .unset, .unset, .unset, .unset, .unset] [(.int i111), (.int i107), (.int i103), (.int (2 : Int32))])) t → Steps p.tables e below (s₁.setTop (entryFrame m #[(.int nq), (.long xq), (.long yq), (.long zq)] maxLocals)) t := fun t k => k165 t (by
      show Steps p.tables e below (T163.setTop (mkF m 90 #[.val (.int nq), .val (.long xq), .second, .val (.long yq), .second, .val (.long zq), .second, .val (.int (2 : Int32)), .val (.int a0'), .val (.int a1), .val (.int a2), .val (.int i103), .val (.int i107), .val (.int i111), .unset, .unset, .unset, .unset, .unset, .unset, .unset, .unset, .unset] [(.ref b163)])) _
      refine XS.astore X163.here hx rfl (hb hby at_90) rfl rfl (l' := #[.val (.int nq), .val (.long xq), .second, .val (.long yq), .second, .val (.long zq), .second, .val (.int (2 : Int32)), .val (.int a0'), .val (.int a1), .val (.int a2), .val (.int i103), .val (.int i107), .val (.int i111), .val (.ref b163), .unset, .unset, .unset, .unset, .unset, .unset, .unset, .unset]) rfl ?_
      show Steps p.tables e below (T163.setTop (mkF m 92 #[.val (.int nq), .val (.long xq), .second, .val (.long yq), .second, .val (.long zq), .second, .val (.int (2 : Int32)), .val (.int a0'), .val (.int a1), .val (.int a2), .val (.int i103), .val (.int i107), .val (.int i111), .val (.ref b163), .unset, .unset, .unset, .unset, .unset, .unset, .unset, .unset] [])) _
      refine XS.iload X163.here hx rfl (hb hby at_92) rfl ?_
      show Steps p.tables e below (T163.setTop (mkF m 94 #[.val (.int nq), .val (.long xq), .second, .val (.long yq), .second, .val (.long zq), .second, .val (.int (2 : Int32)), .val (.int a0'), .val (.int a1), .val (.int a2), .val (.int i103), .val (.int i107), .val (.int i111), .val (.ref b163), .unset, .unset, .unset, .unset, .unset, .unset, .unset, .unset] [(.int (2 : Int32))])) _
      refine XS.iload X163.here hx rfl (hb hby at_94) rfl ?_
      show Steps p.tables e below (T163.setTop (mkF m 96 #[.val (.int nq), .val (.long xq), .second, .val (.long yq), .second, .val (.long zq), .second, .val (.int (2 : Int32)), .val (.int a0'), .val (.int a1), .val (.int a2), .val (.int i103), .val (.int i107), .val (.int i111), .val (.ref b163), .unset, .unset, .unset, .unset, .unset, .unset, .unset, .unset] [(.int i103), (.int (2 : Int32))])) _
      refine XS.iload X163.here hx rfl (hb hby at_96) rfl ?_
      show Steps p.tables e below (T163.setTop (mkF m 98 #[.val (.int nq), .val (.long xq), .second, .val (.long yq), .second, .val (.long zq), .second, .val (.int (2 : Int32)), .val (.int a0'), .val (.int a1), .val (.int a2), .val (.int i103), .val (.int i107), .val (.int i111), .val (.ref b163), .unset, .unset, .unset, .unset, .unset, .unset, .unset, .unset] [(.int i107), (.int i103), (.int (2 : Int32))])) _
      refine XS.iload X163.here hx rfl (hb hby at_98) rfl ?_
      exact k)
    obtain ⟨_, _, ⟨T169, L169, k169, n169⟩, -, X169, ⟨Lc169, hQ169, l169, y169, z169⟩, st169⟩ := Jvm.LawKit.callS X163 hx (y := (⟨"com/example/frontweave/frontweave/selection/FrontsDominatesPinLaw", "vec", "(IIII)[D"⟩ : MethodName)) hown (mvT hZ (hw _ (List.mem_of_getElem? (i := 0) rfl))) (mvT hZ (hw _ (List.mem_of_getElem? (i := 1) rfl))) (mvT hZ (hw _ (List.mem_of_getElem? (i := 2) rfl))) (mvT hZ (hw _ (List.mem_of_getElem? (i := 3) rfl))) (by decide) (backOf (W := 0) (vec2 l Z a0 hw [] i103 i107 i111 h163 n0 Z167 ) hZ (hw _ (List.mem_of_getElem? (i := 3) rfl)) (hw _ (List.mem_of_getElem? (i := 2) rfl)) (by decide) (by decide)) (g := (mkF m 100 #[.val (.int nq), .val (.long xq), .second, .val (.long yq), .second, .val (.long zq), .second, .val (.int (2 : Int32)), .val (.int a0'), .val (.int a1), .val (.int a2), .val (.int i103), .val (.int i107), .val (.int i111), .val (.ref b163), .unset, .unset, .unset, .unset, .unset, .unset, .unset, .unset] [(.int i111), (.int i107), (.int i103), (.int (2 : Int32))])) rfl (by rw [hml]; rfl) (argsL := [(.int (2 : Int32)), (.int i103), (.int i107), (.int i111)]) (rest := []) (lenOf pd__28IIII_29_5bD rfl) rfl (by show 2 * 0 + _ ≤ _; exact Nat.le_of_eq rfl) (hb hby at_100) (fun _ _ => ⟨rfl, e163, (by decide : 1 + 1 ≤ _), (by decide : 2 + 2 ≤ _)⟩)
    dsimp only [Pt.U, Pt.locs, Pt.cells, Pt.slots] at X169 l169 y169 z169 st169 hQ169
    subst l169 y169 z169
    obtain ⟨h169, e169⟩ : ∃ h', T169.heap = h' := ⟨_, rfl⟩
    rw [e169] at hQ169
    obtain ⟨b169, kk169, rfl, N169q, gb169, K169, V169⟩ := hQ169
    have N170 := Fr.app N164 N169q
    have k171 : ∀ t, Steps p.tables e below (T169.setTop (mkF m 103 #[.val (.int nq), .val (.long xq), .second, .val (.long yq), .second, .val (.long zq), .second, .val (.int (2 : Int32)), .val (.int a0'), .val (.int a1), .val (.int a2), .val (.int i103), .val (.int i107), .val (.int i111), .val (.ref b163), .unset, .unset, .unset, .unset, .unset, .unset, .unset, .unset] [(.ref b169)])) t → Steps p.tables e below (s₁.setTop (entryFrame m #[(.int nq), (.long xq), (.long yq), (.long zq)] maxLocals)) t := fun t k => k168 t (st169 t k)
    have n172 : b163 ≠ b169 := Nat.ne_of_lt (Nat.lt_of_lt_of_le V163.lt (Nat.le_of_eq gb169.symm))
    have g173 : n0 ≤ b169 := Nat.le_trans Z167 (Nat.le_of_eq gb169.symm)
    have F174 := V163.keep K169 nin0
    have Z175 : n0 ≤ h169.size := Nat.le_trans Z167 K169.1
    have k176 : ∀ t, Steps p.tables e below (T169.setTop (mkF m 115 #[.val (.int nq), .val (.long xq), .second, .val (.long yq), .second, .val (.long zq), .second, .val (.int (2 : Int32)), .val (.int a0'), .val (.int a1), .val (.int a2), .val (.int i103), .val (.int i107), .val (.int i111), .val (.ref b163), .val (.ref b169), .unset, .unset, .unset, .unset, .unset, .unset, .unset] [(.int i103), (.int a0')])) t → Steps p.tables e below (s₁.setTop (entryFrame m #[(.int nq), (.long xq), (.long yq), (.long zq)] maxLocals)) t := fun t k => k171 t (by
      show Steps p.tables e below (T169.setTop (mkF m 103 #[.val (.int nq), .val (.long xq), .second, .val (.long yq), .second, .val (.long zq), .second, .val (.int (2 : Int32)), .val (.int a0'), .val (.int a1), .val (.int a2), .val (.int i103), .val (.int i107), .val (.int i111), .val (.ref b163), .unset, .unset, .unset, .unset, .unset, .unset, .unset, .unset] [(.ref b169)])) _
      refine XS.astore X169.here hx rfl (hb hby at_103) rfl rfl (l' := #[.val (.int nq), .val (.long xq), .second, .val (.long yq), .second, .val (.long zq), .second, .val (.int (2 : Int32)), .val (.int a0'), .val (.int a1), .val (.int a2), .val (.int i103), .val (.int i107), .val (.int i111), .val (.ref b163), .val (.ref b169), .unset, .unset, .unset, .unset, .unset, .unset, .unset]) rfl ?_
      show Steps p.tables e below (T169.setTop (mkF m 105 #[.val (.int nq), .val (.long xq), .second, .val (.long yq), .second, .val (.long zq), .second, .val (.int (2 : Int32)), .val (.int a0'), .val (.int a1), .val (.int a2), .val (.int i103), .val (.int i107), .val (.int i111), .val (.ref b163), .val (.ref b169), .unset, .unset, .unset, .unset, .unset, .unset, .unset] [])) _
      refine XS.iload X169.here hx rfl (hb hby at_105) rfl ?_
      show Steps p.tables e below (T169.setTop (mkF m 107 #[.val (.int nq), .val (.long xq), .second, .val (.long yq), .second, .val (.long zq), .second, .val (.int (2 : Int32)), .val (.int a0'), .val (.int a1), .val (.int a2), .val (.int i103), .val (.int i107), .val (.int i111), .val (.ref b163), .val (.ref b169), .unset, .unset, .unset, .unset, .unset, .unset, .unset] [(.int (2 : Int32))])) _
      refine XS.iconst X169.here hx rfl (hb hby at_107) ?_
      show Steps p.tables e below (T169.setTop (mkF m 108 #[.val (.int nq), .val (.long xq), .second, .val (.long yq), .second, .val (.long zq), .second, .val (.int (2 : Int32)), .val (.int a0'), .val (.int a1), .val (.int a2), .val (.int i103), .val (.int i107), .val (.int i111), .val (.ref b163), .val (.ref b169), .unset, .unset, .unset, .unset, .unset, .unset, .unset] [(.int (1 : Int32)), (.int (2 : Int32))])) _
      refine XS.icmpNo X169.here hx rfl (hb hby at_108) rfl (flt (by decide)).1 ?_
      show Steps p.tables e below (T169.setTop (mkF m 111 #[.val (.int nq), .val (.long xq), .second, .val (.long yq), .second, .val (.long zq), .second, .val (.int (2 : Int32)), .val (.int a0'), .val (.int a1), .val (.int a2), .val (.int i103), .val (.int i107), .val (.int i111), .val (.ref b163), .val (.ref b169), .unset, .unset, .unset, .unset, .unset, .unset, .unset] [])) _
      refine XS.iload X169.here hx rfl (hb hby at_111) rfl ?_
      show Steps p.tables e below (T169.setTop (mkF m 113 #[.val (.int nq), .val (.long xq), .second, .val (.long yq), .second, .val (.long zq), .second, .val (.int (2 : Int32)), .val (.int a0'), .val (.int a1), .val (.int a2), .val (.int i103), .val (.int i107), .val (.int i111), .val (.ref b163), .val (.ref b169), .unset, .unset, .unset, .unset, .unset, .unset, .unset] [(.int a0')])) _
      refine XS.iload X169.here hx rfl (hb hby at_113) rfl ?_
      exact k)
    obtain ⟨i178, hi178⟩ : ∃ z : Int32, z = (if i103 < a0' then (0 : Int32) else (1 : Int32)) := ⟨_, rfl⟩
    have k179 : ∀ t, Steps p.tables e below (T169.setTop (mkF m 123 #[.val (.int nq), .val (.long xq), .second, .val (.long yq), .second, .val (.long zq), .second, .val (.int (2 : Int32)), .val (.int a0'), .val (.int a1), .val (.int a2), .val (.int i103), .val (.int i107), .val (.int i111), .val (.ref b163), .val (.ref b169), .unset, .unset, .unset, .unset, .unset, .unset, .unset] [(.int i178)])) t → Steps p.tables e below (s₁.setTop (entryFrame m #[(.int nq), (.long xq), (.long yq), (.long zq)] maxLocals)) t := fun t k => k176 t (by
      by_cases c177 : i103 < a0'
      · rw [if_pos c177] at hi178
        show Steps p.tables e below (T169.setTop (mkF m 115 #[.val (.int nq), .val (.long xq), .second, .val (.long yq), .second, .val (.long zq), .second, .val (.int (2 : Int32)), .val (.int a0'), .val (.int a1), .val (.int a2), .val (.int i103), .val (.int i107), .val (.int i111), .val (.ref b163), .val (.ref b169), .unset, .unset, .unset, .unset, .unset, .unset, .unset] [(.int i103), (.int a0')])) _
        refine XS.icmpYes X169.here hx rfl (pc0 := 115) (pc' := 122) rfl (hb hby at_115) rfl (tlt c177).2.2.1 (by decide) (by decide) ?_
        show Steps p.tables e below (T169.setTop (mkF m 122 #[.val (.int nq), .val (.long xq), .second, .val (.long yq), .second, .val (.long zq), .second, .val (.int (2 : Int32)), .val (.int a0'), .val (.int a1), .val (.int a2), .val (.int i103), .val (.int i107), .val (.int i111), .val (.ref b163), .val (.ref b169), .unset, .unset, .unset, .unset, .unset, .unset, .unset] [])) _
        refine XS.iconst X169.here hx rfl (hb hby at_122) ?_
        show Steps p.tables e below (T169.setTop (mkF m 123 #[.val (.int nq), .val (.long xq), .second, .val (.long yq), .second, .val (.long zq), .second, .val (.int (2 : Int32)), .val (.int a0'), .val (.int a1), .val (.int a2), .val (.int i103), .val (.int i107), .val (.int i111), .val (.ref b163), .val (.ref b169), .unset, .unset, .unset, .unset, .unset, .unset, .unset] [(.int (0 : Int32))])) _
        exact castTop (by rw [hi178]) k
      · rw [if_neg c177] at hi178
        show Steps p.tables e below (T169.setTop (mkF m 115 #[.val (.int nq), .val (.long xq), .second, .val (.long yq), .second, .val (.long zq), .second, .val (.int (2 : Int32)), .val (.int a0'), .val (.int a1), .val (.int a2), .val (.int i103), .val (.int i107), .val (.int i111), .val (.ref b163), .val (.ref b169), .unset, .unset, .unset, .unset, .unset, .unset, .unset] [(.int i103), (.int a0')])) _
        refine XS.icmpNo X169.here hx rfl (hb hby at_115) rfl (flt c177).2.2.1 ?_
        show Steps p.tables e below (T169.setTop (mkF m 118 #[.val (.int nq), .val (.long xq), .second, .val (.long yq), .second, .val (.long zq), .second, .val (.int (2 : Int32)), .val (.int a0'), .val (.int a1), .val (.int a2), .val (.int i103), .val (.int i107), .val (.int i111), .val (.ref b163), .val (.ref b169), .unset, .unset, .unset, .unset, .unset, .unset, .unset] [])) _
        refine XS.iconst X169.here hx rfl (hb hby at_118) ?_
        show Steps p.tables e below (T169.setTop (mkF m 119 #[.val (.int nq), .val (.long xq), .second, .val (.long yq), .second, .val (.long zq), .second, .val (.int (2 : Int32)), .val (.int a0'), .val (.int a1), .val (.int a2), .val (.int i103), .val (.int i107), .val (.int i111), .val (.ref b163), .val (.ref b169), .unset, .unset, .unset, .unset, .unset, .unset, .unset] [(.int (1 : Int32))])) _
        refine XS.goto X169.here hx rfl (pc0 := 119) (pc' := 123) rfl (hb hby at_119) (by decide) (by decide) ?_
        show Steps p.tables e below (T169.setTop (mkF m 123 #[.val (.int nq), .val (.long xq), .second, .val (.long yq), .second, .val (.long zq), .second, .val (.int (2 : Int32)), .val (.int a0'), .val (.int a1), .val (.int a2), .val (.int i103), .val (.int i107), .val (.int i111), .val (.ref b163), .val (.ref b169), .unset, .unset, .unset, .unset, .unset, .unset, .unset] [(.int (1 : Int32))])) _
        exact castTop (by rw [hi178]) k)
    have k180 : ∀ t, Steps p.tables e below (T169.setTop (mkF m 135 #[.val (.int nq), .val (.long xq), .second, .val (.long yq), .second, .val (.long zq), .second, .val (.int (2 : Int32)), .val (.int a0'), .val (.int a1), .val (.int a2), .val (.int i103), .val (.int i107), .val (.int i111), .val (.ref b163), .val (.ref b169), .val (.int i178), .unset, .unset, .unset, .unset, .unset, .unset] [(.int i107), (.int a1)])) t → Steps p.tables e below (s₁.setTop (entryFrame m #[(.int nq), (.long xq), (.long yq), (.long zq)] maxLocals)) t := fun t k => k179 t (by
      show Steps p.tables e below (T169.setTop (mkF m 123 #[.val (.int nq), .val (.long xq), .second, .val (.long yq), .second, .val (.long zq), .second, .val (.int (2 : Int32)), .val (.int a0'), .val (.int a1), .val (.int a2), .val (.int i103), .val (.int i107), .val (.int i111), .val (.ref b163), .val (.ref b169), .unset, .unset, .unset, .unset, .unset, .unset, .unset] [(.int i178)])) _
      refine XS.istore X169.here hx rfl (hb hby at_123) rfl (l' := #[.val (.int nq), .val (.long xq), .second, .val (.long yq), .second, .val (.long zq), .second, .val (.int (2 : Int32)), .val (.int a0'), .val (.int a1), .val (.int a2), .val (.int i103), .val (.int i107), .val (.int i111), .val (.ref b163), .val (.ref b169), .val (.int i178), .unset, .unset, .unset, .unset, .unset, .unset]) rfl ?_
      show Steps p.tables e below (T169.setTop (mkF m 125 #[.val (.int nq), .val (.long xq), .second, .val (.long yq), .second, .val (.long zq), .second, .val (.int (2 : Int32)), .val (.int a0'), .val (.int a1), .val (.int a2), .val (.int i103), .val (.int i107), .val (.int i111), .val (.ref b163), .val (.ref b169), .val (.int i178), .unset, .unset, .unset, .unset, .unset, .unset] [])) _
      refine XS.iload X169.here hx rfl (hb hby at_125) rfl ?_
      show Steps p.tables e below (T169.setTop (mkF m 127 #[.val (.int nq), .val (.long xq), .second, .val (.long yq), .second, .val (.long zq), .second, .val (.int (2 : Int32)), .val (.int a0'), .val (.int a1), .val (.int a2), .val (.int i103), .val (.int i107), .val (.int i111), .val (.ref b163), .val (.ref b169), .val (.int i178), .unset, .unset, .unset, .unset, .unset, .unset] [(.int (2 : Int32))])) _
      refine XS.iconst X169.here hx rfl (hb hby at_127) ?_
      show Steps p.tables e below (T169.setTop (mkF m 128 #[.val (.int nq), .val (.long xq), .second, .val (.long yq), .second, .val (.long zq), .second, .val (.int (2 : Int32)), .val (.int a0'), .val (.int a1), .val (.int a2), .val (.int i103), .val (.int i107), .val (.int i111), .val (.ref b163), .val (.ref b169), .val (.int i178), .unset, .unset, .unset, .unset, .unset, .unset] [(.int (2 : Int32)), (.int (2 : Int32))])) _
      refine XS.icmpNo X169.here hx rfl (hb hby at_128) rfl (flt (by decide)).1 ?_
      show Steps p.tables e below (T169.setTop (mkF m 131 #[.val (.int nq), .val (.long xq), .second, .val (.long yq), .second, .val (.long zq), .second, .val (.int (2 : Int32)), .val (.int a0'), .val (.int a1), .val (.int a2), .val (.int i103), .val (.int i107), .val (.int i111), .val (.ref b163), .val (.ref b169), .val (.int i178), .unset, .unset, .unset, .unset, .unset, .unset] [])) _
      refine XS.iload X169.here hx rfl (hb hby at_131) rfl ?_
      show Steps p.tables e below (T169.setTop (mkF m 133 #[.val (.int nq), .val (.long xq), .second, .val (.long yq), .second, .val (.long zq), .second, .val (.int (2 : Int32)), .val (.int a0'), .val (.int a1), .val (.int a2), .val (.int i103), .val (.int i107), .val (.int i111), .val (.ref b163), .val (.ref b169), .val (.int i178), .unset, .unset, .unset, .unset, .unset, .unset] [(.int a1)])) _
      refine XS.iload X169.here hx rfl (hb hby at_133) rfl ?_
      exact k)
    obtain ⟨i182, hi182⟩ : ∃ z : Int32, z = (if i107 < a1 then (0 : Int32) else (1 : Int32)) := ⟨_, rfl⟩
    have k183 : ∀ t, Steps p.tables e below (T169.setTop (mkF m 143 #[.val (.int nq), .val (.long xq), .second, .val (.long yq), .second, .val (.long zq), .second, .val (.int (2 : Int32)), .val (.int a0'), .val (.int a1), .val (.int a2), .val (.int i103), .val (.int i107), .val (.int i111), .val (.ref b163), .val (.ref b169), .val (.int i178), .unset, .unset, .unset, .unset, .unset, .unset] [(.int i182)])) t → Steps p.tables e below (s₁.setTop (entryFrame m #[(.int nq), (.long xq), (.long yq), (.long zq)] maxLocals)) t := fun t k => k180 t (by
      by_cases c181 : i107 < a1
      · rw [if_pos c181] at hi182
        show Steps p.tables e below (T169.setTop (mkF m 135 #[.val (.int nq), .val (.long xq), .second, .val (.long yq), .second, .val (.long zq), .second, .val (.int (2 : Int32)), .val (.int a0'), .val (.int a1), .val (.int a2), .val (.int i103), .val (.int i107), .val (.int i111), .val (.ref b163), .val (.ref b169), .val (.int i178), .unset, .unset, .unset, .unset, .unset, .unset] [(.int i107), (.int a1)])) _
        refine XS.icmpYes X169.here hx rfl (pc0 := 135) (pc' := 142) rfl (hb hby at_135) rfl (tlt c181).2.2.1 (by decide) (by decide) ?_
        show Steps p.tables e below (T169.setTop (mkF m 142 #[.val (.int nq), .val (.long xq), .second, .val (.long yq), .second, .val (.long zq), .second, .val (.int (2 : Int32)), .val (.int a0'), .val (.int a1), .val (.int a2), .val (.int i103), .val (.int i107), .val (.int i111), .val (.ref b163), .val (.ref b169), .val (.int i178), .unset, .unset, .unset, .unset, .unset, .unset] [])) _
        refine XS.iconst X169.here hx rfl (hb hby at_142) ?_
        show Steps p.tables e below (T169.setTop (mkF m 143 #[.val (.int nq), .val (.long xq), .second, .val (.long yq), .second, .val (.long zq), .second, .val (.int (2 : Int32)), .val (.int a0'), .val (.int a1), .val (.int a2), .val (.int i103), .val (.int i107), .val (.int i111), .val (.ref b163), .val (.ref b169), .val (.int i178), .unset, .unset, .unset, .unset, .unset, .unset] [(.int (0 : Int32))])) _
        exact castTop (by rw [hi182]) k
      · rw [if_neg c181] at hi182
        show Steps p.tables e below (T169.setTop (mkF m 135 #[.val (.int nq), .val (.long xq), .second, .val (.long yq), .second, .val (.long zq), .second, .val (.int (2 : Int32)), .val (.int a0'), .val (.int a1), .val (.int a2), .val (.int i103), .val (.int i107), .val (.int i111), .val (.ref b163), .val (.ref b169), .val (.int i178), .unset, .unset, .unset, .unset, .unset, .unset] [(.int i107), (.int a1)])) _
        refine XS.icmpNo X169.here hx rfl (hb hby at_135) rfl (flt c181).2.2.1 ?_
        show Steps p.tables e below (T169.setTop (mkF m 138 #[.val (.int nq), .val (.long xq), .second, .val (.long yq), .second, .val (.long zq), .second, .val (.int (2 : Int32)), .val (.int a0'), .val (.int a1), .val (.int a2), .val (.int i103), .val (.int i107), .val (.int i111), .val (.ref b163), .val (.ref b169), .val (.int i178), .unset, .unset, .unset, .unset, .unset, .unset] [])) _
        refine XS.iconst X169.here hx rfl (hb hby at_138) ?_
        show Steps p.tables e below (T169.setTop (mkF m 139 #[.val (.int nq), .val (.long xq), .second, .val (.long yq), .second, .val (.long zq), .second, .val (.int (2 : Int32)), .val (.int a0'), .val (.int a1), .val (.int a2), .val (.int i103), .val (.int i107), .val (.int i111), .val (.ref b163), .val (.ref b169), .val (.int i178), .unset, .unset, .unset, .unset, .unset, .unset] [(.int (1 : Int32))])) _
        refine XS.goto X169.here hx rfl (pc0 := 139) (pc' := 143) rfl (hb hby at_139) (by decide) (by decide) ?_
        show Steps p.tables e below (T169.setTop (mkF m 143 #[.val (.int nq), .val (.long xq), .second, .val (.long yq), .second, .val (.long zq), .second, .val (.int (2 : Int32)), .val (.int a0'), .val (.int a1), .val (.int a2), .val (.int i103), .val (.int i107), .val (.int i111), .val (.ref b163), .val (.ref b169), .val (.int i178), .unset, .unset, .unset, .unset, .unset, .unset] [(.int (1 : Int32))])) _
        exact castTop (by rw [hi182]) k)
    have k184 : ∀ t, Steps p.tables e below (T169.setTop (mkF m 175 #[.val (.int nq), .val (.long xq), .second, .val (.long yq), .second, .val (.long zq), .second, .val (.int (2 : Int32)), .val (.int a0'), .val (.int a1), .val (.int a2), .val (.int i103), .val (.int i107), .val (.int i111), .val (.ref b163), .val (.ref b169), .val (.int i178), .val (.int i182), .val (.int (1 : Int32)), .unset, .unset, .unset, .unset] [(.int i103), (.int a0')])) t → Steps p.tables e below (s₁.setTop (entryFrame m #[(.int nq), (.long xq), (.long yq), (.long zq)] maxLocals)) t := fun t k => k183 t (by
      show Steps p.tables e below (T169.setTop (mkF m 143 #[.val (.int nq), .val (.long xq), .second, .val (.long yq), .second, .val (.long zq), .second, .val (.int (2 : Int32)), .val (.int a0'), .val (.int a1), .val (.int a2), .val (.int i103), .val (.int i107), .val (.int i111), .val (.ref b163), .val (.ref b169), .val (.int i178), .unset, .unset, .unset, .unset, .unset, .unset] [(.int i182)])) _
      refine XS.istore X169.here hx rfl (hb hby at_143) rfl (l' := #[.val (.int nq), .val (.long xq), .second, .val (.long yq), .second, .val (.long zq), .second, .val (.int (2 : Int32)), .val (.int a0'), .val (.int a1), .val (.int a2), .val (.int i103), .val (.int i107), .val (.int i111), .val (.ref b163), .val (.ref b169), .val (.int i178), .val (.int i182), .unset, .unset, .unset, .unset, .unset]) rfl ?_
      show Steps p.tables e below (T169.setTop (mkF m 145 #[.val (.int nq), .val (.long xq), .second, .val (.long yq), .second, .val (.long zq), .second, .val (.int (2 : Int32)), .val (.int a0'), .val (.int a1), .val (.int a2), .val (.int i103), .val (.int i107), .val (.int i111), .val (.ref b163), .val (.ref b169), .val (.int i178), .val (.int i182), .unset, .unset, .unset, .unset, .unset] [])) _
      refine XS.iload X169.here hx rfl (hb hby at_145) rfl ?_
      show Steps p.tables e below (T169.setTop (mkF m 147 #[.val (.int nq), .val (.long xq), .second, .val (.long yq), .second, .val (.long zq), .second, .val (.int (2 : Int32)), .val (.int a0'), .val (.int a1), .val (.int a2), .val (.int i103), .val (.int i107), .val (.int i111), .val (.ref b163), .val (.ref b169), .val (.int i178), .val (.int i182), .unset, .unset, .unset, .unset, .unset] [(.int (2 : Int32))])) _
      refine XS.iconst X169.here hx rfl (hb hby at_147) ?_
      show Steps p.tables e below (T169.setTop (mkF m 148 #[.val (.int nq), .val (.long xq), .second, .val (.long yq), .second, .val (.long zq), .second, .val (.int (2 : Int32)), .val (.int a0'), .val (.int a1), .val (.int a2), .val (.int i103), .val (.int i107), .val (.int i111), .val (.ref b163), .val (.ref b169), .val (.int i178), .val (.int i182), .unset, .unset, .unset, .unset, .unset] [(.int (3 : Int32)), (.int (2 : Int32))])) _
      refine XS.icmpYes X169.here hx rfl (pc0 := 148) (pc' := 158) rfl (hb hby at_148) rfl (tlt (by decide)).1 (by decide) (by decide) ?_
      show Steps p.tables e below (T169.setTop (mkF m 158 #[.val (.int nq), .val (.long xq), .second, .val (.long yq), .second, .val (.long zq), .second, .val (.int (2 : Int32)), .val (.int a0'), .val (.int a1), .val (.int a2), .val (.int i103), .val (.int i107), .val (.int i111), .val (.ref b163), .val (.ref b169), .val (.int i178), .val (.int i182), .unset, .unset, .unset, .unset, .unset] [])) _
      refine XS.iconst X169.here hx rfl (hb hby at_158) ?_
      show Steps p.tables e below (T169.setTop (mkF m 159 #[.val (.int nq), .val (.long xq), .second, .val (.long yq), .second, .val (.long zq), .second, .val (.int (2 : Int32)), .val (.int a0'), .val (.int a1), .val (.int a2), .val (.int i103), .val (.int i107), .val (.int i111), .val (.ref b163), .val (.ref b169), .val (.int i178), .val (.int i182), .unset, .unset, .unset, .unset, .unset] [(.int (1 : Int32))])) _
      refine XS.goto X169.here hx rfl (pc0 := 159) (pc' := 163) rfl (hb hby at_159) (by decide) (by decide) ?_
      show Steps p.tables e below (T169.setTop (mkF m 163 #[.val (.int nq), .val (.long xq), .second, .val (.long yq), .second, .val (.long zq), .second, .val (.int (2 : Int32)), .val (.int a0'), .val (.int a1), .val (.int a2), .val (.int i103), .val (.int i107), .val (.int i111), .val (.ref b163), .val (.ref b169), .val (.int i178), .val (.int i182), .unset, .unset, .unset, .unset, .unset] [(.int (1 : Int32))])) _
      refine XS.istore X169.here hx rfl (hb hby at_163) rfl (l' := #[.val (.int nq), .val (.long xq), .second, .val (.long yq), .second, .val (.long zq), .second, .val (.int (2 : Int32)), .val (.int a0'), .val (.int a1), .val (.int a2), .val (.int i103), .val (.int i107), .val (.int i111), .val (.ref b163), .val (.ref b169), .val (.int i178), .val (.int i182), .val (.int (1 : Int32)), .unset, .unset, .unset, .unset]) rfl ?_
      show Steps p.tables e below (T169.setTop (mkF m 165 #[.val (.int nq), .val (.long xq), .second, .val (.long yq), .second, .val (.long zq), .second, .val (.int (2 : Int32)), .val (.int a0'), .val (.int a1), .val (.int a2), .val (.int i103), .val (.int i107), .val (.int i111), .val (.ref b163), .val (.ref b169), .val (.int i178), .val (.int i182), .val (.int (1 : Int32)), .unset, .unset, .unset, .unset] [])) _
      refine XS.iload X169.here hx rfl (hb hby at_165) rfl ?_
      show Steps p.tables e below (T169.setTop (mkF m 167 #[.val (.int nq), .val (.long xq), .second, .val (.long yq), .second, .val (.long zq), .second, .val (.int (2 : Int32)), .val (.int a0'), .val (.int a1), .val (.int a2), .val (.int i103), .val (.int i107), .val (.int i111), .val (.ref b163), .val (.ref b169), .val (.int i178), .val (.int i182), .val (.int (1 : Int32)), .unset, .unset, .unset, .unset] [(.int (2 : Int32))])) _
      refine XS.iconst X169.here hx rfl (hb hby at_167) ?_
      show Steps p.tables e below (T169.setTop (mkF m 168 #[.val (.int nq), .val (.long xq), .second, .val (.long yq), .second, .val (.long zq), .second, .val (.int (2 : Int32)), .val (.int a0'), .val (.int a1), .val (.int a2), .val (.int i103), .val (.int i107), .val (.int i111), .val (.ref b163), .val (.ref b169), .val (.int i178), .val (.int i182), .val (.int (1 : Int32)), .unset, .unset, .unset, .unset] [(.int (1 : Int32)), (.int (2 : Int32))])) _
      refine XS.icmpNo X169.here hx rfl (hb hby at_168) rfl (flt (by decide)).1 ?_
      show Steps p.tables e below (T169.setTop (mkF m 171 #[.val (.int nq), .val (.long xq), .second, .val (.long yq), .second, .val (.long zq), .second, .val (.int (2 : Int32)), .val (.int a0'), .val (.int a1), .val (.int a2), .val (.int i103), .val (.int i107), .val (.int i111), .val (.ref b163), .val (.ref b169), .val (.int i178), .val (.int i182), .val (.int (1 : Int32)), .unset, .unset, .unset, .unset] [])) _
      refine XS.iload X169.here hx rfl (hb hby at_171) rfl ?_
      show Steps p.tables e below (T169.setTop (mkF m 173 #[.val (.int nq), .val (.long xq), .second, .val (.long yq), .second, .val (.long zq), .second, .val (.int (2 : Int32)), .val (.int a0'), .val (.int a1), .val (.int a2), .val (.int i103), .val (.int i107), .val (.int i111), .val (.ref b163), .val (.ref b169), .val (.int i178), .val (.int i182), .val (.int (1 : Int32)), .unset, .unset, .unset, .unset] [(.int a0')])) _
      refine XS.iload X169.here hx rfl (hb hby at_173) rfl ?_
      exact k)
    obtain ⟨i186, hi186⟩ : ∃ z : Int32, z = (if a0' < i103 then (1 : Int32) else (0 : Int32)) := ⟨_, rfl⟩
    have k187 : ∀ t, Steps p.tables e below (T169.setTop (mkF m 183 #[.val (.int nq), .val (.long xq), .second, .val (.long yq), .second, .val (.long zq), .second, .val (.int (2 : Int32)), .val (.int a0'), .val (.int a1), .val (.int a2), .val (.int i103), .val (.int i107), .val (.int i111), .val (.ref b163), .val (.ref b169), .val (.int i178), .val (.int i182), .val (.int (1 : Int32)), .unset, .unset, .unset, .unset] [(.int i186)])) t → Steps p.tables e below (s₁.setTop (entryFrame m #[(.int nq), (.long xq), (.long yq), (.long zq)] maxLocals)) t := fun t k => k184 t (by
      by_cases c185 : a0' < i103
      · rw [if_pos c185] at hi186
        show Steps p.tables e below (T169.setTop (mkF m 175 #[.val (.int nq), .val (.long xq), .second, .val (.long yq), .second, .val (.long zq), .second, .val (.int (2 : Int32)), .val (.int a0'), .val (.int a1), .val (.int a2), .val (.int i103), .val (.int i107), .val (.int i111), .val (.ref b163), .val (.ref b169), .val (.int i178), .val (.int i182), .val (.int (1 : Int32)), .unset, .unset, .unset, .unset] [(.int i103), (.int a0')])) _
        refine XS.icmpNo X169.here hx rfl (hb hby at_175) rfl (tlt c185).2.1 ?_
        show Steps p.tables e below (T169.setTop (mkF m 178 #[.val (.int nq), .val (.long xq), .second, .val (.long yq), .second, .val (.long zq), .second, .val (.int (2 : Int32)), .val (.int a0'), .val (.int a1), .val (.int a2), .val (.int i103), .val (.int i107), .val (.int i111), .val (.ref b163), .val (.ref b169), .val (.int i178), .val (.int i182), .val (.int (1 : Int32)), .unset, .unset, .unset, .unset] [])) _
        refine XS.iconst X169.here hx rfl (hb hby at_178) ?_
        show Steps p.tables e below (T169.setTop (mkF m 179 #[.val (.int nq), .val (.long xq), .second, .val (.long yq), .second, .val (.long zq), .second, .val (.int (2 : Int32)), .val (.int a0'), .val (.int a1), .val (.int a2), .val (.int i103), .val (.int i107), .val (.int i111), .val (.ref b163), .val (.ref b169), .val (.int i178), .val (.int i182), .val (.int (1 : Int32)), .unset, .unset, .unset, .unset] [(.int (1 : Int32))])) _
        refine XS.goto X169.here hx rfl (pc0 := 179) (pc' := 183) rfl (hb hby at_179) (by decide) (by decide) ?_
        show Steps p.tables e below (T169.setTop (mkF m 183 #[.val (.int nq), .val (.long xq), .second, .val (.long yq), .second, .val (.long zq), .second, .val (.int (2 : Int32)), .val (.int a0'), .val (.int a1), .val (.int a2), .val (.int i103), .val (.int i107), .val (.int i111), .val (.ref b163), .val (.ref b169), .val (.int i178), .val (.int i182), .val (.int (1 : Int32)), .unset, .unset, .unset, .unset] [(.int (1 : Int32))])) _
        exact castTop (by rw [hi186]) k
      · rw [if_neg c185] at hi186
        show Steps p.tables e below (T169.setTop (mkF m 175 #[.val (.int nq), .val (.long xq), .second, .val (.long yq), .second, .val (.long zq), .second, .val (.int (2 : Int32)), .val (.int a0'), .val (.int a1), .val (.int a2), .val (.int i103), .val (.int i107), .val (.int i111), .val (.ref b163), .val (.ref b169), .val (.int i178), .val (.int i182), .val (.int (1 : Int32)), .unset, .unset, .unset, .unset] [(.int i103), (.int a0')])) _
        refine XS.icmpYes X169.here hx rfl (pc0 := 175) (pc' := 182) rfl (hb hby at_175) rfl (flt c185).2.1 (by decide) (by decide) ?_
        show Steps p.tables e below (T169.setTop (mkF m 182 #[.val (.int nq), .val (.long xq), .second, .val (.long yq), .second, .val (.long zq), .second, .val (.int (2 : Int32)), .val (.int a0'), .val (.int a1), .val (.int a2), .val (.int i103), .val (.int i107), .val (.int i111), .val (.ref b163), .val (.ref b169), .val (.int i178), .val (.int i182), .val (.int (1 : Int32)), .unset, .unset, .unset, .unset] [])) _
        refine XS.iconst X169.here hx rfl (hb hby at_182) ?_
        show Steps p.tables e below (T169.setTop (mkF m 183 #[.val (.int nq), .val (.long xq), .second, .val (.long yq), .second, .val (.long zq), .second, .val (.int (2 : Int32)), .val (.int a0'), .val (.int a1), .val (.int a2), .val (.int i103), .val (.int i107), .val (.int i111), .val (.ref b163), .val (.ref b169), .val (.int i178), .val (.int i182), .val (.int (1 : Int32)), .unset, .unset, .unset, .unset] [(.int (0 : Int32))])) _
        exact castTop (by rw [hi186]) k)
    have k188 : ∀ t, Steps p.tables e below (T169.setTop (mkF m 195 #[.val (.int nq), .val (.long xq), .second, .val (.long yq), .second, .val (.long zq), .second, .val (.int (2 : Int32)), .val (.int a0'), .val (.int a1), .val (.int a2), .val (.int i103), .val (.int i107), .val (.int i111), .val (.ref b163), .val (.ref b169), .val (.int i178), .val (.int i182), .val (.int (1 : Int32)), .val (.int i186), .unset, .unset, .unset] [(.int i107), (.int a1)])) t → Steps p.tables e below (s₁.setTop (entryFrame m #[(.int nq), (.long xq), (.long yq), (.long zq)] maxLocals)) t := fun t k => k187 t (by
      show Steps p.tables e below (T169.setTop (mkF m 183 #[.val (.int nq), .val (.long xq), .second, .val (.long yq), .second, .val (.long zq), .second, .val (.int (2 : Int32)), .val (.int a0'), .val (.int a1), .val (.int a2), .val (.int i103), .val (.int i107), .val (.int i111), .val (.ref b163), .val (.ref b169), .val (.int i178), .val (.int i182), .val (.int (1 : Int32)), .unset, .unset, .unset, .unset] [(.int i186)])) _
      refine XS.istore X169.here hx rfl (hb hby at_183) rfl (l' := #[.val (.int nq), .val (.long xq), .second, .val (.long yq), .second, .val (.long zq), .second, .val (.int (2 : Int32)), .val (.int a0'), .val (.int a1), .val (.int a2), .val (.int i103), .val (.int i107), .val (.int i111), .val (.ref b163), .val (.ref b169), .val (.int i178), .val (.int i182), .val (.int (1 : Int32)), .val (.int i186), .unset, .unset, .unset]) rfl ?_
      show Steps p.tables e below (T169.setTop (mkF m 185 #[.val (.int nq), .val (.long xq), .second, .val (.long yq), .second, .val (.long zq), .second, .val (.int (2 : Int32)), .val (.int a0'), .val (.int a1), .val (.int a2), .val (.int i103), .val (.int i107), .val (.int i111), .val (.ref b163), .val (.ref b169), .val (.int i178), .val (.int i182), .val (.int (1 : Int32)), .val (.int i186), .unset, .unset, .unset] [])) _
      refine XS.iload X169.here hx rfl (hb hby at_185) rfl ?_
      show Steps p.tables e below (T169.setTop (mkF m 187 #[.val (.int nq), .val (.long xq), .second, .val (.long yq), .second, .val (.long zq), .second, .val (.int (2 : Int32)), .val (.int a0'), .val (.int a1), .val (.int a2), .val (.int i103), .val (.int i107), .val (.int i111), .val (.ref b163), .val (.ref b169), .val (.int i178), .val (.int i182), .val (.int (1 : Int32)), .val (.int i186), .unset, .unset, .unset] [(.int (2 : Int32))])) _
      refine XS.iconst X169.here hx rfl (hb hby at_187) ?_
      show Steps p.tables e below (T169.setTop (mkF m 188 #[.val (.int nq), .val (.long xq), .second, .val (.long yq), .second, .val (.long zq), .second, .val (.int (2 : Int32)), .val (.int a0'), .val (.int a1), .val (.int a2), .val (.int i103), .val (.int i107), .val (.int i111), .val (.ref b163), .val (.ref b169), .val (.int i178), .val (.int i182), .val (.int (1 : Int32)), .val (.int i186), .unset, .unset, .unset] [(.int (2 : Int32)), (.int (2 : Int32))])) _
      refine XS.icmpNo X169.here hx rfl (hb hby at_188) rfl (flt (by decide)).1 ?_
      show Steps p.tables e below (T169.setTop (mkF m 191 #[.val (.int nq), .val (.long xq), .second, .val (.long yq), .second, .val (.long zq), .second, .val (.int (2 : Int32)), .val (.int a0'), .val (.int a1), .val (.int a2), .val (.int i103), .val (.int i107), .val (.int i111), .val (.ref b163), .val (.ref b169), .val (.int i178), .val (.int i182), .val (.int (1 : Int32)), .val (.int i186), .unset, .unset, .unset] [])) _
      refine XS.iload X169.here hx rfl (hb hby at_191) rfl ?_
      show Steps p.tables e below (T169.setTop (mkF m 193 #[.val (.int nq), .val (.long xq), .second, .val (.long yq), .second, .val (.long zq), .second, .val (.int (2 : Int32)), .val (.int a0'), .val (.int a1), .val (.int a2), .val (.int i103), .val (.int i107), .val (.int i111), .val (.ref b163), .val (.ref b169), .val (.int i178), .val (.int i182), .val (.int (1 : Int32)), .val (.int i186), .unset, .unset, .unset] [(.int a1)])) _
      refine XS.iload X169.here hx rfl (hb hby at_193) rfl ?_
      exact k)
    obtain ⟨i190, hi190⟩ : ∃ z : Int32, z = (if a1 < i107 then (1 : Int32) else (0 : Int32)) := ⟨_, rfl⟩
    have k191 : ∀ t, Steps p.tables e below (T169.setTop (mkF m 203 #[.val (.int nq), .val (.long xq), .second, .val (.long yq), .second, .val (.long zq), .second, .val (.int (2 : Int32)), .val (.int a0'), .val (.int a1), .val (.int a2), .val (.int i103), .val (.int i107), .val (.int i111), .val (.ref b163), .val (.ref b169), .val (.int i178), .val (.int i182), .val (.int (1 : Int32)), .val (.int i186), .unset, .unset, .unset] [(.int i190)])) t → Steps p.tables e below (s₁.setTop (entryFrame m #[(.int nq), (.long xq), (.long yq), (.long zq)] maxLocals)) t := fun t k => k188 t (by
      by_cases c189 : a1 < i107
      · rw [if_pos c189] at hi190
        show Steps p.tables e below (T169.setTop (mkF m 195 #[.val (.int nq), .val (.long xq), .second, .val (.long yq), .second, .val (.long zq), .second, .val (.int (2 : Int32)), .val (.int a0'), .val (.int a1), .val (.int a2), .val (.int i103), .val (.int i107), .val (.int i111), .val (.ref b163), .val (.ref b169), .val (.int i178), .val (.int i182), .val (.int (1 : Int32)), .val (.int i186), .unset, .unset, .unset] [(.int i107), (.int a1)])) _
        refine XS.icmpNo X169.here hx rfl (hb hby at_195) rfl (tlt c189).2.1 ?_
        show Steps p.tables e below (T169.setTop (mkF m 198 #[.val (.int nq), .val (.long xq), .second, .val (.long yq), .second, .val (.long zq), .second, .val (.int (2 : Int32)), .val (.int a0'), .val (.int a1), .val (.int a2), .val (.int i103), .val (.int i107), .val (.int i111), .val (.ref b163), .val (.ref b169), .val (.int i178), .val (.int i182), .val (.int (1 : Int32)), .val (.int i186), .unset, .unset, .unset] [])) _
        refine XS.iconst X169.here hx rfl (hb hby at_198) ?_
        show Steps p.tables e below (T169.setTop (mkF m 199 #[.val (.int nq), .val (.long xq), .second, .val (.long yq), .second, .val (.long zq), .second, .val (.int (2 : Int32)), .val (.int a0'), .val (.int a1), .val (.int a2), .val (.int i103), .val (.int i107), .val (.int i111), .val (.ref b163), .val (.ref b169), .val (.int i178), .val (.int i182), .val (.int (1 : Int32)), .val (.int i186), .unset, .unset, .unset] [(.int (1 : Int32))])) _
        refine XS.goto X169.here hx rfl (pc0 := 199) (pc' := 203) rfl (hb hby at_199) (by decide) (by decide) ?_
        show Steps p.tables e below (T169.setTop (mkF m 203 #[.val (.int nq), .val (.long xq), .second, .val (.long yq), .second, .val (.long zq), .second, .val (.int (2 : Int32)), .val (.int a0'), .val (.int a1), .val (.int a2), .val (.int i103), .val (.int i107), .val (.int i111), .val (.ref b163), .val (.ref b169), .val (.int i178), .val (.int i182), .val (.int (1 : Int32)), .val (.int i186), .unset, .unset, .unset] [(.int (1 : Int32))])) _
        exact castTop (by rw [hi190]) k
      · rw [if_neg c189] at hi190
        show Steps p.tables e below (T169.setTop (mkF m 195 #[.val (.int nq), .val (.long xq), .second, .val (.long yq), .second, .val (.long zq), .second, .val (.int (2 : Int32)), .val (.int a0'), .val (.int a1), .val (.int a2), .val (.int i103), .val (.int i107), .val (.int i111), .val (.ref b163), .val (.ref b169), .val (.int i178), .val (.int i182), .val (.int (1 : Int32)), .val (.int i186), .unset, .unset, .unset] [(.int i107), (.int a1)])) _
        refine XS.icmpYes X169.here hx rfl (pc0 := 195) (pc' := 202) rfl (hb hby at_195) rfl (flt c189).2.1 (by decide) (by decide) ?_
        show Steps p.tables e below (T169.setTop (mkF m 202 #[.val (.int nq), .val (.long xq), .second, .val (.long yq), .second, .val (.long zq), .second, .val (.int (2 : Int32)), .val (.int a0'), .val (.int a1), .val (.int a2), .val (.int i103), .val (.int i107), .val (.int i111), .val (.ref b163), .val (.ref b169), .val (.int i178), .val (.int i182), .val (.int (1 : Int32)), .val (.int i186), .unset, .unset, .unset] [])) _
        refine XS.iconst X169.here hx rfl (hb hby at_202) ?_
        show Steps p.tables e below (T169.setTop (mkF m 203 #[.val (.int nq), .val (.long xq), .second, .val (.long yq), .second, .val (.long zq), .second, .val (.int (2 : Int32)), .val (.int a0'), .val (.int a1), .val (.int a2), .val (.int i103), .val (.int i107), .val (.int i111), .val (.ref b163), .val (.ref b169), .val (.int i178), .val (.int i182), .val (.int (1 : Int32)), .val (.int i186), .unset, .unset, .unset] [(.int (0 : Int32))])) _
        exact castTop (by rw [hi190]) k)
    have k192 : ∀ t, Steps p.tables e below (T169.setTop (mkF m 227 #[.val (.int nq), .val (.long xq), .second, .val (.long yq), .second, .val (.long zq), .second, .val (.int (2 : Int32)), .val (.int a0'), .val (.int a1), .val (.int a2), .val (.int i103), .val (.int i107), .val (.int i111), .val (.ref b163), .val (.ref b169), .val (.int i178), .val (.int i182), .val (.int (1 : Int32)), .val (.int i186), .val (.int i190), .val (.int (0 : Int32)), .unset] [(.int i178)])) t → Steps p.tables e below (s₁.setTop (entryFrame m #[(.int nq), (.long xq), (.long yq), (.long zq)] maxLocals)) t := fun t k => k191 t (by
      show Steps p.tables e below (T169.setTop (mkF m 203 #[.val (.int nq), .val (.long xq), .second, .val (.long yq), .second, .val (.long zq), .second, .val (.int (2 : Int32)), .val (.int a0'), .val (.int a1), .val (.int a2), .val (.int i103), .val (.int i107), .val (.int i111), .val (.ref b163), .val (.ref b169), .val (.int i178), .val (.int i182), .val (.int (1 : Int32)), .val (.int i186), .unset, .unset, .unset] [(.int i190)])) _
      refine XS.istore X169.here hx rfl (hb hby at_203) rfl (l' := #[.val (.int nq), .val (.long xq), .second, .val (.long yq), .second, .val (.long zq), .second, .val (.int (2 : Int32)), .val (.int a0'), .val (.int a1), .val (.int a2), .val (.int i103), .val (.int i107), .val (.int i111), .val (.ref b163), .val (.ref b169), .val (.int i178), .val (.int i182), .val (.int (1 : Int32)), .val (.int i186), .val (.int i190), .unset, .unset]) rfl ?_
      show Steps p.tables e below (T169.setTop (mkF m 205 #[.val (.int nq), .val (.long xq), .second, .val (.long yq), .second, .val (.long zq), .second, .val (.int (2 : Int32)), .val (.int a0'), .val (.int a1), .val (.int a2), .val (.int i103), .val (.int i107), .val (.int i111), .val (.ref b163), .val (.ref b169), .val (.int i178), .val (.int i182), .val (.int (1 : Int32)), .val (.int i186), .val (.int i190), .unset, .unset] [])) _
      refine XS.iload X169.here hx rfl (hb hby at_205) rfl ?_
      show Steps p.tables e below (T169.setTop (mkF m 207 #[.val (.int nq), .val (.long xq), .second, .val (.long yq), .second, .val (.long zq), .second, .val (.int (2 : Int32)), .val (.int a0'), .val (.int a1), .val (.int a2), .val (.int i103), .val (.int i107), .val (.int i111), .val (.ref b163), .val (.ref b169), .val (.int i178), .val (.int i182), .val (.int (1 : Int32)), .val (.int i186), .val (.int i190), .unset, .unset] [(.int (2 : Int32))])) _
      refine XS.iconst X169.here hx rfl (hb hby at_207) ?_
      show Steps p.tables e below (T169.setTop (mkF m 208 #[.val (.int nq), .val (.long xq), .second, .val (.long yq), .second, .val (.long zq), .second, .val (.int (2 : Int32)), .val (.int a0'), .val (.int a1), .val (.int a2), .val (.int i103), .val (.int i107), .val (.int i111), .val (.ref b163), .val (.ref b169), .val (.int i178), .val (.int i182), .val (.int (1 : Int32)), .val (.int i186), .val (.int i190), .unset, .unset] [(.int (3 : Int32)), (.int (2 : Int32))])) _
      refine XS.icmpYes X169.here hx rfl (pc0 := 208) (pc' := 222) rfl (hb hby at_208) rfl (tlt (by decide)).1 (by decide) (by decide) ?_
      show Steps p.tables e below (T169.setTop (mkF m 222 #[.val (.int nq), .val (.long xq), .second, .val (.long yq), .second, .val (.long zq), .second, .val (.int (2 : Int32)), .val (.int a0'), .val (.int a1), .val (.int a2), .val (.int i103), .val (.int i107), .val (.int i111), .val (.ref b163), .val (.ref b169), .val (.int i178), .val (.int i182), .val (.int (1 : Int32)), .val (.int i186), .val (.int i190), .unset, .unset] [])) _
      refine XS.iconst X169.here hx rfl (hb hby at_222) ?_
      show Steps p.tables e below (T169.setTop (mkF m 223 #[.val (.int nq), .val (.long xq), .second, .val (.long yq), .second, .val (.long zq), .second, .val (.int (2 : Int32)), .val (.int a0'), .val (.int a1), .val (.int a2), .val (.int i103), .val (.int i107), .val (.int i111), .val (.ref b163), .val (.ref b169), .val (.int i178), .val (.int i182), .val (.int (1 : Int32)), .val (.int i186), .val (.int i190), .unset, .unset] [(.int (0 : Int32))])) _
      refine XS.istore X169.here hx rfl (hb hby at_223) rfl (l' := #[.val (.int nq), .val (.long xq), .second, .val (.long yq), .second, .val (.long zq), .second, .val (.int (2 : Int32)), .val (.int a0'), .val (.int a1), .val (.int a2), .val (.int i103), .val (.int i107), .val (.int i111), .val (.ref b163), .val (.ref b169), .val (.int i178), .val (.int i182), .val (.int (1 : Int32)), .val (.int i186), .val (.int i190), .val (.int (0 : Int32)), .unset]) rfl ?_
      show Steps p.tables e below (T169.setTop (mkF m 225 #[.val (.int nq), .val (.long xq), .second, .val (.long yq), .second, .val (.long zq), .second, .val (.int (2 : Int32)), .val (.int a0'), .val (.int a1), .val (.int a2), .val (.int i103), .val (.int i107), .val (.int i111), .val (.ref b163), .val (.ref b169), .val (.int i178), .val (.int i182), .val (.int (1 : Int32)), .val (.int i186), .val (.int i190), .val (.int (0 : Int32)), .unset] [])) _
      refine XS.iload X169.here hx rfl (hb hby at_225) rfl ?_
      exact k)
    obtain ⟨i197, hi197⟩ : ∃ z : Int32, z = (if i178 = (0 : Int32) then (0 : Int32) else (if i182 = (0 : Int32) then (0 : Int32) else (if i186 = (0 : Int32) then (if i190 = (0 : Int32) then (0 : Int32) else (1 : Int32)) else (1 : Int32)))) := ⟨_, rfl⟩
    have k198 : ∀ t, Steps p.tables e below (T169.setTop (mkF m 260 #[.val (.int nq), .val (.long xq), .second, .val (.long yq), .second, .val (.long zq), .second, .val (.int (2 : Int32)), .val (.int a0'), .val (.int a1), .val (.int a2), .val (.int i103), .val (.int i107), .val (.int i111), .val (.ref b163), .val (.ref b169), .val (.int i178), .val (.int i182), .val (.int (1 : Int32)), .val (.int i186), .val (.int i190), .val (.int (0 : Int32)), .unset] [(.int i197)])) t → Steps p.tables e below (s₁.setTop (entryFrame m #[(.int nq), (.long xq), (.long yq), (.long zq)] maxLocals)) t := fun t k => k192 t (by
      by_cases c193 : i178 = (0 : Int32)
      · rw [if_pos c193] at hi197
        show Steps p.tables e below (T169.setTop (mkF m 227 #[.val (.int nq), .val (.long xq), .second, .val (.long yq), .second, .val (.long zq), .second, .val (.int (2 : Int32)), .val (.int a0'), .val (.int a1), .val (.int a2), .val (.int i103), .val (.int i107), .val (.int i111), .val (.ref b163), .val (.ref b169), .val (.int i178), .val (.int i182), .val (.int (1 : Int32)), .val (.int i186), .val (.int i190), .val (.int (0 : Int32)), .unset] [(.int i178)])) _
        refine XS.ifYes X169.here hx rfl (pc0 := 227) (pc' := 259) rfl (hb hby at_227) rfl ((if0 _ _).trans (teq c193).1) (by decide) (by decide) ?_
        show Steps p.tables e below (T169.setTop (mkF m 259 #[.val (.int nq), .val (.long xq), .second, .val (.long yq), .second, .val (.long zq), .second, .val (.int (2 : Int32)), .val (.int a0'), .val (.int a1), .val (.int a2), .val (.int i103), .val (.int i107), .val (.int i111), .val (.ref b163), .val (.ref b169), .val (.int i178), .val (.int i182), .val (.int (1 : Int32)), .val (.int i186), .val (.int i190), .val (.int (0 : Int32)), .unset] [])) _
        refine XS.iconst X169.here hx rfl (hb hby at_259) ?_
        show Steps p.tables e below (T169.setTop (mkF m 260 #[.val (.int nq), .val (.long xq), .second, .val (.long yq), .second, .val (.long zq), .second, .val (.int (2 : Int32)), .val (.int a0'), .val (.int a1), .val (.int a2), .val (.int i103), .val (.int i107), .val (.int i111), .val (.ref b163), .val (.ref b169), .val (.int i178), .val (.int i182), .val (.int (1 : Int32)), .val (.int i186), .val (.int i190), .val (.int (0 : Int32)), .unset] [(.int (0 : Int32))])) _
        exact castTop (by rw [hi197]) k
      · rw [if_neg c193] at hi197
        show Steps p.tables e below (T169.setTop (mkF m 227 #[.val (.int nq), .val (.long xq), .second, .val (.long yq), .second, .val (.long zq), .second, .val (.int (2 : Int32)), .val (.int a0'), .val (.int a1), .val (.int a2), .val (.int i103), .val (.int i107), .val (.int i111), .val (.ref b163), .val (.ref b169), .val (.int i178), .val (.int i182), .val (.int (1 : Int32)), .val (.int i186), .val (.int i190), .val (.int (0 : Int32)), .unset] [(.int i178)])) _
        refine XS.ifNo X169.here hx rfl (hb hby at_227) rfl ((if0 _ _).trans (feq c193).1) ?_
        show Steps p.tables e below (T169.setTop (mkF m 230 #[.val (.int nq), .val (.long xq), .second, .val (.long yq), .second, .val (.long zq), .second, .val (.int (2 : Int32)), .val (.int a0'), .val (.int a1), .val (.int a2), .val (.int i103), .val (.int i107), .val (.int i111), .val (.ref b163), .val (.ref b169), .val (.int i178), .val (.int i182), .val (.int (1 : Int32)), .val (.int i186), .val (.int i190), .val (.int (0 : Int32)), .unset] [])) _
        refine XS.iload X169.here hx rfl (hb hby at_230) rfl ?_
        by_cases c194 : i182 = (0 : Int32)
        · rw [if_pos c194] at hi197
          show Steps p.tables e below (T169.setTop (mkF m 232 #[.val (.int nq), .val (.long xq), .second, .val (.long yq), .second, .val (.long zq), .second, .val (.int (2 : Int32)), .val (.int a0'), .val (.int a1), .val (.int a2), .val (.int i103), .val (.int i107), .val (.int i111), .val (.ref b163), .val (.ref b169), .val (.int i178), .val (.int i182), .val (.int (1 : Int32)), .val (.int i186), .val (.int i190), .val (.int (0 : Int32)), .unset] [(.int i182)])) _
          refine XS.ifYes X169.here hx rfl (pc0 := 232) (pc' := 259) rfl (hb hby at_232) rfl ((if0 _ _).trans (teq c194).1) (by decide) (by decide) ?_
          show Steps p.tables e below (T169.setTop (mkF m 259 #[.val (.int nq), .val (.long xq), .second, .val (.long yq), .second, .val (.long zq), .second, .val (.int (2 : Int32)), .val (.int a0'), .val (.int a1), .val (.int a2), .val (.int i103), .val (.int i107), .val (.int i111), .val (.ref b163), .val (.ref b169), .val (.int i178), .val (.int i182), .val (.int (1 : Int32)), .val (.int i186), .val (.int i190), .val (.int (0 : Int32)), .unset] [])) _
          refine XS.iconst X169.here hx rfl (hb hby at_259) ?_
          show Steps p.tables e below (T169.setTop (mkF m 260 #[.val (.int nq), .val (.long xq), .second, .val (.long yq), .second, .val (.long zq), .second, .val (.int (2 : Int32)), .val (.int a0'), .val (.int a1), .val (.int a2), .val (.int i103), .val (.int i107), .val (.int i111), .val (.ref b163), .val (.ref b169), .val (.int i178), .val (.int i182), .val (.int (1 : Int32)), .val (.int i186), .val (.int i190), .val (.int (0 : Int32)), .unset] [(.int (0 : Int32))])) _
          exact castTop (by rw [hi197]) k
        · rw [if_neg c194] at hi197
          show Steps p.tables e below (T169.setTop (mkF m 232 #[.val (.int nq), .val (.long xq), .second, .val (.long yq), .second, .val (.long zq), .second, .val (.int (2 : Int32)), .val (.int a0'), .val (.int a1), .val (.int a2), .val (.int i103), .val (.int i107), .val (.int i111), .val (.ref b163), .val (.ref b169), .val (.int i178), .val (.int i182), .val (.int (1 : Int32)), .val (.int i186), .val (.int i190), .val (.int (0 : Int32)), .unset] [(.int i182)])) _
          refine XS.ifNo X169.here hx rfl (hb hby at_232) rfl ((if0 _ _).trans (feq c194).1) ?_
          show Steps p.tables e below (T169.setTop (mkF m 235 #[.val (.int nq), .val (.long xq), .second, .val (.long yq), .second, .val (.long zq), .second, .val (.int (2 : Int32)), .val (.int a0'), .val (.int a1), .val (.int a2), .val (.int i103), .val (.int i107), .val (.int i111), .val (.ref b163), .val (.ref b169), .val (.int i178), .val (.int i182), .val (.int (1 : Int32)), .val (.int i186), .val (.int i190), .val (.int (0 : Int32)), .unset] [])) _
          refine XS.iload X169.here hx rfl (hb hby at_235) rfl ?_
          show Steps p.tables e below (T169.setTop (mkF m 237 #[.val (.int nq), .val (.long xq), .second, .val (.long yq), .second, .val (.long zq), .second, .val (.int (2 : Int32)), .val (.int a0'), .val (.int a1), .val (.int a2), .val (.int i103), .val (.int i107), .val (.int i111), .val (.ref b163), .val (.ref b169), .val (.int i178), .val (.int i182), .val (.int (1 : Int32)), .val (.int i186), .val (.int i190), .val (.int (0 : Int32)), .unset] [(.int (1 : Int32))])) _
          refine XS.ifNo X169.here hx rfl (hb hby at_237) rfl ((if0 _ _).trans (feq (by decide)).1) ?_
          show Steps p.tables e below (T169.setTop (mkF m 240 #[.val (.int nq), .val (.long xq), .second, .val (.long yq), .second, .val (.long zq), .second, .val (.int (2 : Int32)), .val (.int a0'), .val (.int a1), .val (.int a2), .val (.int i103), .val (.int i107), .val (.int i111), .val (.ref b163), .val (.ref b169), .val (.int i178), .val (.int i182), .val (.int (1 : Int32)), .val (.int i186), .val (.int i190), .val (.int (0 : Int32)), .unset] [])) _
          refine XS.iload X169.here hx rfl (hb hby at_240) rfl ?_
          by_cases c195 : i186 = (0 : Int32)
          · rw [if_pos c195] at hi197
            show Steps p.tables e below (T169.setTop (mkF m 242 #[.val (.int nq), .val (.long xq), .second, .val (.long yq), .second, .val (.long zq), .second, .val (.int (2 : Int32)), .val (.int a0'), .val (.int a1), .val (.int a2), .val (.int i103), .val (.int i107), .val (.int i111), .val (.ref b163), .val (.ref b169), .val (.int i178), .val (.int i182), .val (.int (1 : Int32)), .val (.int i186), .val (.int i190), .val (.int (0 : Int32)), .unset] [(.int i186)])) _
            refine XS.ifNo X169.here hx rfl (hb hby at_242) rfl ((if0 _ _).trans (teq c195).2) ?_
            show Steps p.tables e below (T169.setTop (mkF m 245 #[.val (.int nq), .val (.long xq), .second, .val (.long yq), .second, .val (.long zq), .second, .val (.int (2 : Int32)), .val (.int a0'), .val (.int a1), .val (.int a2), .val (.int i103), .val (.int i107), .val (.int i111), .val (.ref b163), .val (.ref b169), .val (.int i178), .val (.int i182), .val (.int (1 : Int32)), .val (.int i186), .val (.int i190), .val (.int (0 : Int32)), .unset] [])) _
            refine XS.iload X169.here hx rfl (hb hby at_245) rfl ?_
            by_cases c196 : i190 = (0 : Int32)
            · rw [if_pos c196] at hi197
              show Steps p.tables e below (T169.setTop (mkF m 247 #[.val (.int nq), .val (.long xq), .second, .val (.long yq), .second, .val (.long zq), .second, .val (.int (2 : Int32)), .val (.int a0'), .val (.int a1), .val (.int a2), .val (.int i103), .val (.int i107), .val (.int i111), .val (.ref b163), .val (.ref b169), .val (.int i178), .val (.int i182), .val (.int (1 : Int32)), .val (.int i186), .val (.int i190), .val (.int (0 : Int32)), .unset] [(.int i190)])) _
              refine XS.ifNo X169.here hx rfl (hb hby at_247) rfl ((if0 _ _).trans (teq c196).2) ?_
              show Steps p.tables e below (T169.setTop (mkF m 250 #[.val (.int nq), .val (.long xq), .second, .val (.long yq), .second, .val (.long zq), .second, .val (.int (2 : Int32)), .val (.int a0'), .val (.int a1), .val (.int a2), .val (.int i103), .val (.int i107), .val (.int i111), .val (.ref b163), .val (.ref b169), .val (.int i178), .val (.int i182), .val (.int (1 : Int32)), .val (.int i186), .val (.int i190), .val (.int (0 : Int32)), .unset] [])) _
              refine XS.iload X169.here hx rfl (hb hby at_250) rfl ?_
              show Steps p.tables e below (T169.setTop (mkF m 252 #[.val (.int nq), .val (.long xq), .second, .val (.long yq), .second, .val (.long zq), .second, .val (.int (2 : Int32)), .val (.int a0'), .val (.int a1), .val (.int a2), .val (.int i103), .val (.int i107), .val (.int i111), .val (.ref b163), .val (.ref b169), .val (.int i178), .val (.int i182), .val (.int (1 : Int32)), .val (.int i186), .val (.int i190), .val (.int (0 : Int32)), .unset] [(.int (0 : Int32))])) _
              refine XS.ifYes X169.here hx rfl (pc0 := 252) (pc' := 259) rfl (hb hby at_252) rfl ((if0 _ _).trans (teq (by decide)).1) (by decide) (by decide) ?_
              show Steps p.tables e below (T169.setTop (mkF m 259 #[.val (.int nq), .val (.long xq), .second, .val (.long yq), .second, .val (.long zq), .second, .val (.int (2 : Int32)), .val (.int a0'), .val (.int a1), .val (.int a2), .val (.int i103), .val (.int i107), .val (.int i111), .val (.ref b163), .val (.ref b169), .val (.int i178), .val (.int i182), .val (.int (1 : Int32)), .val (.int i186), .val (.int i190), .val (.int (0 : Int32)), .unset] [])) _
              refine XS.iconst X169.here hx rfl (hb hby at_259) ?_
              show Steps p.tables e below (T169.setTop (mkF m 260 #[.val (.int nq), .val (.long xq), .second, .val (.long yq), .second, .val (.long zq), .second, .val (.int (2 : Int32)), .val (.int a0'), .val (.int a1), .val (.int a2), .val (.int i103), .val (.int i107), .val (.int i111), .val (.ref b163), .val (.ref b169), .val (.int i178), .val (.int i182), .val (.int (1 : Int32)), .val (.int i186), .val (.int i190), .val (.int (0 : Int32)), .unset] [(.int (0 : Int32))])) _
              exact castTop (by rw [hi197]) k
            · rw [if_neg c196] at hi197
              show Steps p.tables e below (T169.setTop (mkF m 247 #[.val (.int nq), .val (.long xq), .second, .val (.long yq), .second, .val (.long zq), .second, .val (.int (2 : Int32)), .val (.int a0'), .val (.int a1), .val (.int a2), .val (.int i103), .val (.int i107), .val (.int i111), .val (.ref b163), .val (.ref b169), .val (.int i178), .val (.int i182), .val (.int (1 : Int32)), .val (.int i186), .val (.int i190), .val (.int (0 : Int32)), .unset] [(.int i190)])) _
              refine XS.ifYes X169.here hx rfl (pc0 := 247) (pc' := 255) rfl (hb hby at_247) rfl ((if0 _ _).trans (feq c196).2) (by decide) (by decide) ?_
              show Steps p.tables e below (T169.setTop (mkF m 255 #[.val (.int nq), .val (.long xq), .second, .val (.long yq), .second, .val (.long zq), .second, .val (.int (2 : Int32)), .val (.int a0'), .val (.int a1), .val (.int a2), .val (.int i103), .val (.int i107), .val (.int i111), .val (.ref b163), .val (.ref b169), .val (.int i178), .val (.int i182), .val (.int (1 : Int32)), .val (.int i186), .val (.int i190), .val (.int (0 : Int32)), .unset] [])) _
              refine XS.iconst X169.here hx rfl (hb hby at_255) ?_
              show Steps p.tables e below (T169.setTop (mkF m 256 #[.val (.int nq), .val (.long xq), .second, .val (.long yq), .second, .val (.long zq), .second, .val (.int (2 : Int32)), .val (.int a0'), .val (.int a1), .val (.int a2), .val (.int i103), .val (.int i107), .val (.int i111), .val (.ref b163), .val (.ref b169), .val (.int i178), .val (.int i182), .val (.int (1 : Int32)), .val (.int i186), .val (.int i190), .val (.int (0 : Int32)), .unset] [(.int (1 : Int32))])) _
              refine XS.goto X169.here hx rfl (pc0 := 256) (pc' := 260) rfl (hb hby at_256) (by decide) (by decide) ?_
              show Steps p.tables e below (T169.setTop (mkF m 260 #[.val (.int nq), .val (.long xq), .second, .val (.long yq), .second, .val (.long zq), .second, .val (.int (2 : Int32)), .val (.int a0'), .val (.int a1), .val (.int a2), .val (.int i103), .val (.int i107), .val (.int i111), .val (.ref b163), .val (.ref b169), .val (.int i178), .val (.int i182), .val (.int (1 : Int32)), .val (.int i186), .val (.int i190), .val (.int (0 : Int32)), .unset] [(.int (1 : Int32))])) _
              exact castTop (by rw [hi197]) k
          · rw [if_neg c195] at hi197
            show Steps p.tables e below (T169.setTop (mkF m 242 #[.val (.int nq), .val (.long xq), .second, .val (.long yq), .second, .val (.long zq), .second, .val (.int (2 : Int32)), .val (.int a0'), .val (.int a1), .val (.int a2), .val (.int i103), .val (.int i107), .val (.int i111), .val (.ref b163), .val (.ref b169), .val (.int i178), .val (.int i182), .val (.int (1 : Int32)), .val (.int i186), .val (.int i190), .val (.int (0 : Int32)), .unset] [(.int i186)])) _
            refine XS.ifYes X169.here hx rfl (pc0 := 242) (pc' := 255) rfl (hb hby at_242) rfl ((if0 _ _).trans (feq c195).2) (by decide) (by decide) ?_
            show Steps p.tables e below (T169.setTop (mkF m 255 #[.val (.int nq), .val (.long xq), .second, .val (.long yq), .second, .val (.long zq), .second, .val (.int (2 : Int32)), .val (.int a0'), .val (.int a1), .val (.int a2), .val (.int i103), .val (.int i107), .val (.int i111), .val (.ref b163), .val (.ref b169), .val (.int i178), .val (.int i182), .val (.int (1 : Int32)), .val (.int i186), .val (.int i190), .val (.int (0 : Int32)), .unset] [])) _
            refine XS.iconst X169.here hx rfl (hb hby at_255) ?_
            show Steps p.tables e below (T169.setTop (mkF m 256 #[.val (.int nq), .val (.long xq), .second, .val (.long yq), .second, .val (.long zq), .second, .val (.int (2 : Int32)), .val (.int a0'), .val (.int a1), .val (.int a2), .val (.int i103), .val (.int i107), .val (.int i111), .val (.ref b163), .val (.ref b169), .val (.int i178), .val (.int i182), .val (.int (1 : Int32)), .val (.int i186), .val (.int i190), .val (.int (0 : Int32)), .unset] [(.int (1 : Int32))])) _
            refine XS.goto X169.here hx rfl (pc0 := 256) (pc' := 260) rfl (hb hby at_256) (by decide) (by decide) ?_
            show Steps p.tables e below (T169.setTop (mkF m 260 #[.val (.int nq), .val (.long xq), .second, .val (.long yq), .second, .val (.long zq), .second, .val (.int (2 : Int32)), .val (.int a0'), .val (.int a1), .val (.int a2), .val (.int i103), .val (.int i107), .val (.int i111), .val (.ref b163), .val (.ref b169), .val (.int i178), .val (.int i182), .val (.int (1 : Int32)), .val (.int i186), .val (.int i190), .val (.int (0 : Int32)), .unset] [(.int (1 : Int32))])) _
            exact castTop (by rw [hi197]) k)
    have k199 : ∀ t, Steps p.tables e below (T169.setTop (mkF m 266 #[.val (.int nq), .val (.long xq), .second, .val (.long yq), .second, .val (.long zq), .second, .val (.int (2 : Int32)), .val (.int a0'), .val (.int a1), .val (.int a2), .val (.int i103), .val (.int i107), .val (.int i111), .val (.ref b163), .val (.ref b169), .val (.int i178), .val (.int i182), .val (.int (1 : Int32)), .val (.int i186), .val (.int i190), .val (.int (0 : Int32)), .val (.int i197)] [(.ref b169), (.ref b163)])) t → Steps p.tables e below (s₁.setTop (entryFrame m #[(.int nq), (.long xq), (.long yq), (.long zq)] maxLocals)) t := fun t k => k198 t (by
      show Steps p.tables e below (T169.setTop (mkF m 260 #[.val (.int nq), .val (.long xq), .second, .val (.long yq), .second, .val (.long zq), .second, .val (.int (2 : Int32)), .val (.int a0'), .val (.int a1), .val (.int a2), .val (.int i103), .val (.int i107), .val (.int i111), .val (.ref b163), .val (.ref b169), .val (.int i178), .val (.int i182), .val (.int (1 : Int32)), .val (.int i186), .val (.int i190), .val (.int (0 : Int32)), .unset] [(.int i197)])) _
      refine XS.istore X169.here hx rfl (hb hby at_260) rfl (l' := #[.val (.int nq), .val (.long xq), .second, .val (.long yq), .second, .val (.long zq), .second, .val (.int (2 : Int32)), .val (.int a0'), .val (.int a1), .val (.int a2), .val (.int i103), .val (.int i107), .val (.int i111), .val (.ref b163), .val (.ref b169), .val (.int i178), .val (.int i182), .val (.int (1 : Int32)), .val (.int i186), .val (.int i190), .val (.int (0 : Int32)), .val (.int i197)]) rfl ?_
      show Steps p.tables e below (T169.setTop (mkF m 262 #[.val (.int nq), .val (.long xq), .second, .val (.long yq), .second, .val (.long zq), .second, .val (.int (2 : Int32)), .val (.int a0'), .val (.int a1), .val (.int a2), .val (.int i103), .val (.int i107), .val (.int i111), .val (.ref b163), .val (.ref b169), .val (.int i178), .val (.int i182), .val (.int (1 : Int32)), .val (.int i186), .val (.int i190), .val (.int (0 : Int32)), .val (.int i197)] [])) _
      refine XS.aload X169.here hx rfl (hb hby at_262) rfl rfl ?_
      show Steps p.tables e below (T169.setTop (mkF m 264 #[.val (.int nq), .val (.long xq), .second, .val (.long yq), .second, .val (.long zq), .second, .val (.int (2 : Int32)), .val (.int a0'), .val (.int a1), .val (.int a2), .val (.int i103), .val (.int i107), .val (.int i111), .val (.ref b163), .val (.ref b169), .val (.int i178), .val (.int i182), .val (.int (1 : Int32)), .val (.int i186), .val (.int i190), .val (.int (0 : Int32)), .val (.int i197)] [(.ref b163)])) _
      refine XS.aload X169.here hx rfl (hb hby at_264) rfl rfl ?_
      exact k)
    obtain ⟨_, _, ⟨T200, L200, k200, n200⟩, -, X200, ⟨Lc200, hQ200, l200, y200, z200⟩, st200⟩ := Jvm.LawKit.callS X169 hx (y := (⟨"com/example/frontweave/frontweave/selection/Fronts", "dominates", "([D[D)Z"⟩ : MethodName)) hown (mvT hZ (hw _ (List.mem_of_getElem? (i := 5) rfl))) (mvT hZ (hw _ (List.mem_of_getElem? (i := 6) rfl))) (mvT hZ (hw _ (List.mem_of_getElem? (i := 7) rfl))) (mvT hZ (hw _ (List.mem_of_getElem? (i := 8) rfl))) (by decide) (backOf (W := 0) (dom2 l Z a0 hw [] b163 b169 kk163 kk169 a0' a1 i103 i107 h169 n0 Z175 F174 V169) hZ (hw _ (List.mem_of_getElem? (i := 8) rfl)) (hw _ (List.mem_of_getElem? (i := 7) rfl)) (by decide) (by decide)) (g := (mkF m 266 #[.val (.int nq), .val (.long xq), .second, .val (.long yq), .second, .val (.long zq), .second, .val (.int (2 : Int32)), .val (.int a0'), .val (.int a1), .val (.int a2), .val (.int i103), .val (.int i107), .val (.int i111), .val (.ref b163), .val (.ref b169), .val (.int i178), .val (.int i182), .val (.int (1 : Int32)), .val (.int i186), .val (.int i190), .val (.int (0 : Int32)), .val (.int i197)] [(.ref b169), (.ref b163)])) rfl (by rw [hml]; rfl) (argsL := [(.ref b163), (.ref b169)]) (rest := []) (lenOf pd__28_5bD_5bD_29Z rfl) rfl (by show 2 * 0 + _ ≤ _; exact Nat.le_of_eq rfl) (hb hby at_266) (fun _ _ => ⟨rfl, e169, (by decide : 2 + 0 ≤ _), (by decide : 4 + 0 ≤ _)⟩)
    dsimp only [Pt.U, Pt.locs, Pt.cells, Pt.slots] at X200 l200 y200 z200 st200 hQ200
    subst l200 y200 z200
    obtain ⟨rfl, N200q, e200⟩ := hQ200
    have N201 := Fr.app N170 N200q
    have k202 : ∀ t, Steps p.tables e below (T200.setTop (mkF m 269 #[.val (.int nq), .val (.long xq), .second, .val (.long yq), .second, .val (.long zq), .second, .val (.int (2 : Int32)), .val (.int a0'), .val (.int a1), .val (.int a2), .val (.int i103), .val (.int i107), .val (.int i111), .val (.ref b163), .val (.ref b169), .val (.int i178), .val (.int i182), .val (.int (1 : Int32)), .val (.int i186), .val (.int i190), .val (.int (0 : Int32)), .val (.int i197)] [(.int (own_dom [(a0', i103), (a1, i107)] 0))])) t → Steps p.tables e below (s₁.setTop (entryFrame m #[(.int nq), (.long xq), (.long yq), (.long zq)] maxLocals)) t := fun t k => k199 t (st200 t k)
    have hfin : (own_dom [(a0', i103), (a1, i107)] 0) = i197 := by
      rw [hi197]
      simp only [hi178, hi182, hi186, hi190]
      rcases own_tri a0' i103 with ⟨t0, s0⟩ | ⟨t0, s0⟩ | ⟨t0, s0⟩ <;> rcases own_tri a1 i107 with ⟨t1, s1⟩ | ⟨t1, s1⟩ | ⟨t1, s1⟩ <;> simp [own_dom, t0, s0, t1, s1]
    have k203 : ∀ t, Steps p.tables e below (T200.setTop (mkF m 279 #[.val (.int nq), .val (.long xq), .second, .val (.long yq), .second, .val (.long zq), .second, .val (.int (2 : Int32)), .val (.int a0'), .val (.int a1), .val (.int a2), .val (.int i103), .val (.int i107), .val (.int i111), .val (.ref b163), .val (.ref b169), .val (.int i178), .val (.int i182), .val (.int (1 : Int32)), .val (.int i186), .val (.int i190), .val (.int (0 : Int32)), .val (.int i197)] [(.int (1 : Int32))])) t → Steps p.tables e below (s₁.setTop (entryFrame m #[(.int nq), (.long xq), (.long yq), (.long zq)] maxLocals)) t := fun t k => k202 t (by
      show Steps p.tables e below (T200.setTop (mkF m 269 #[.val (.int nq), .val (.long xq), .second, .val (.long yq), .second, .val (.long zq), .second, .val (.int (2 : Int32)), .val (.int a0'), .val (.int a1), .val (.int a2), .val (.int i103), .val (.int i107), .val (.int i111), .val (.ref b163), .val (.ref b169), .val (.int i178), .val (.int i182), .val (.int (1 : Int32)), .val (.int i186), .val (.int i190), .val (.int (0 : Int32)), .val (.int i197)] [(.int (own_dom [(a0', i103), (a1, i107)] 0))])) _
      refine XS.iload X200.here hx rfl (hb hby at_269) rfl ?_
      show Steps p.tables e below (T200.setTop (mkF m 271 #[.val (.int nq), .val (.long xq), .second, .val (.long yq), .second, .val (.long zq), .second, .val (.int (2 : Int32)), .val (.int a0'), .val (.int a1), .val (.int a2), .val (.int i103), .val (.int i107), .val (.int i111), .val (.ref b163), .val (.ref b169), .val (.int i178), .val (.int i182), .val (.int (1 : Int32)), .val (.int i186), .val (.int i190), .val (.int (0 : Int32)), .val (.int i197)] [(.int i197), (.int (own_dom [(a0', i103), (a1, i107)] 0))])) _
      refine XS.icmpNo X200.here hx rfl (hb hby at_271) rfl (teq hfin).2 ?_
      show Steps p.tables e below (T200.setTop (mkF m 274 #[.val (.int nq), .val (.long xq), .second, .val (.long yq), .second, .val (.long zq), .second, .val (.int (2 : Int32)), .val (.int a0'), .val (.int a1), .val (.int a2), .val (.int i103), .val (.int i107), .val (.int i111), .val (.ref b163), .val (.ref b169), .val (.int i178), .val (.int i182), .val (.int (1 : Int32)), .val (.int i186), .val (.int i190), .val (.int (0 : Int32)), .val (.int i197)] [])) _
      refine XS.iconst X200.here hx rfl (hb hby at_274) ?_
      show Steps p.tables e below (T200.setTop (mkF m 275 #[.val (.int nq), .val (.long xq), .second, .val (.long yq), .second, .val (.long zq), .second, .val (.int (2 : Int32)), .val (.int a0'), .val (.int a1), .val (.int a2), .val (.int i103), .val (.int i107), .val (.int i111), .val (.ref b163), .val (.ref b169), .val (.int i178), .val (.int i182), .val (.int (1 : Int32)), .val (.int i186), .val (.int i190), .val (.int (0 : Int32)), .val (.int i197)] [(.int (1 : Int32))])) _
      refine XS.goto X200.here hx rfl (pc0 := 275) (pc' := 279) rfl (hb hby at_275) (by decide) (by decide) ?_
      exact k)
    obtain ⟨fs, hr, hrun, hended, hW, hsame⟩ := X200.leave (v := some (.int (1 : Int32))) (fun h => by rw [Bd.returns] at h; cases h)
    refine ⟨_, _, k203 _ (retOut X200 hx (t := .boolean) Bd.returns rfl (Or.inl ⟨rfl, Or.inr (Or.inl rfl), _, rfl⟩) (hb hby at_279) hr), hrun, hended, _, _, rfl, ?_, ⟨_, rfl⟩, hW, hsame.mono (by decide) (by decide)⟩
    show Q_rm0 Z nq xq yq zq h0 n0 _ T200.heap _
    rw [e200]
    exact ⟨rfl, N201⟩
  · obtain ⟨_, _, ⟨T204, L204, k204, n204⟩, -, X204, ⟨Lc204, hQ204, l204, y204, z204⟩, st204⟩ := Jvm.LawKit.callS X0 hx (y := (⟨"com/example/frontweave/frontweave/selection/FrontsDominatesPinLaw", "vec", "(IIII)[D"⟩ : MethodName)) hown (mvT hZ (hw _ (List.mem_of_getElem? (i := 0) rfl))) (mvT hZ (hw _ (List.mem_of_getElem? (i := 1) rfl))) (mvT hZ (hw _ (List.mem_of_getElem? (i := 2) rfl))) (mvT hZ (hw _ (List.mem_of_getElem? (i := 3) rfl))) (by decide) (backOf (W := 0) (vec3 l Z a0 hw [] a0' a1 a2 h0 n0 Z0 ) hZ (hw _ (List.mem_of_getElem? (i := 3) rfl)) (hw _ (List.mem_of_getElem? (i := 2) rfl)) (by decide) (by decide)) (g := (mkF m 87 #[.val (.int nq), .val (.long xq), .second, .val (.long yq), .second, .val (.long zq), .second, .val (.int (3 : Int32)), .val (.int a0'), .val (.int a1), .val (.int a2), .val (.int i103), .val (.int i107), .val (.int i111), .unset, .unset, .unset, .unset, .unset, .unset, .unset, .unset, .unset] [(.int a2), (.int a1), (.int a0'), (.int (3 : Int32))])) rfl (by rw [hml]; rfl) (argsL := [(.int (3 : Int32)), (.int a0'), (.int a1), (.int a2)]) (rest := []) (lenOf pd__28IIII_29_5bD rfl) rfl (by show 2 * 0 + _ ≤ _; exact Nat.le_of_eq rfl) (hb hby at_87) (fun _ _ => ⟨rfl, e0, (by decide : 0 + 1 ≤ _), (by decide : 0 + 3 ≤ _)⟩)
    dsimp only [Pt.U, Pt.locs, Pt.cells, Pt.slots] at X204 l204 y204 z204 st204 hQ204
    subst l204 y204 z204
    obtain ⟨h204, e204⟩ : ∃ h', T204.heap = h' := ⟨_, rfl⟩
    rw [e204] at hQ204
    obtain ⟨b204, kk204, rfl, N204q, gb204, K204, V204⟩ := hQ204
    have N205 := Fr.app N0 N204q
    have k206 : ∀ t, Steps p.tables e below (T204.setTop (mkF m 90 #[.val (.int nq), .val (.long xq), .second, .val (.long yq), .second, .val (.long zq), .second, .val (.int (3 : Int32)), .val (.int a0'), .val (.int a1), .val (.int a2), .val (.int i103), .val (.int i107), .val (.int i111), .unset, .unset, .unset, .unset, .unset, .unset, .unset, .unset, .unset] [(.ref b204)])) t → Steps p.tables e below (s₁.setTop (entryFrame m #[(.int nq), (.long xq), (.long yq), (.long zq)] maxLocals)) t := fun t k => k113 t (st204 t k)
    have g207 : n0 ≤ b204 := Nat.le_trans Z0 (Nat.le_of_eq gb204.symm)
    have Z208 : n0 ≤ h204.size := Nat.le_trans Z0 K204.1
    have k209 : ∀ t, Steps p.tables e below (T204.setTop (mkF m 100 #[.val (.int nq), .val (.long xq), .second, .val (.long yq), .second, .val (.long zq), .second, .val (.int (3 : Int32)), .val (.int a0'), .val (.int a1), .val (.int a2), .val (.int i103), .val (.int i107), .val (.int i111), .val (.ref b204), .unset, .unset, .unset, .unset, .unset, .unset, .unset, .unset] [(.int i111), (.int i107), (.int i103), (.int (3 : Int32))])) t → Steps p.tables e below (s₁.setTop (entryFrame m #[(.int nq), (.long xq), (.long yq), (.long zq)] maxLocals)) t := fun t k => k206 t (by
      show Steps p.tables e below (T204.setTop (mkF m 90 #[.val (.int nq), .val (.long xq), .second, .val (.long yq), .second, .val (.long zq), .second, .val (.int (3 : Int32)), .val (.int a0'), .val (.int a1), .val (.int a2), .val (.int i103), .val (.int i107), .val (.int i111), .unset, .unset, .unset, .unset, .unset, .unset, .unset, .unset, .unset] [(.ref b204)])) _
      refine XS.astore X204.here hx rfl (hb hby at_90) rfl rfl (l' := #[.val (.int nq), .val (.long xq), .second, .val (.long yq), .second, .val (.long zq), .second, .val (.int (3 : Int32)), .val (.int a0'), .val (.int a1), .val (.int a2), .val (.int i103), .val (.int i107), .val (.int i111), .val (.ref b204), .unset, .unset, .unset, .unset, .unset, .unset, .unset, .unset]) rfl ?_
      show Steps p.tables e below (T204.setTop (mkF m 92 #[.val (.int nq), .val (.long xq), .second, .val (.long yq), .second, .val (.long zq), .second, .val (.int (3 : Int32)), .val (.int a0'), .val (.int a1), .val (.int a2), .val (.int i103), .val (.int i107), .val (.int i111), .val (.ref b204), .unset, .unset, .unset, .unset, .unset, .unset, .unset, .unset] [])) _
      refine XS.iload X204.here hx rfl (hb hby at_92) rfl ?_
      show Steps p.tables e below (T204.setTop (mkF m 94 #[.val (.int nq), .val (.long xq), .second, .val (.long yq), .second, .val (.long zq), .second, .val (.int (3 : Int32)), .val (.int a0'), .val (.int a1), .val (.int a2), .val (.int i103), .val (.int i107), .val (.int i111), .val (.ref b204), .unset, .unset, .unset, .unset, .unset, .unset, .unset, .unset] [(.int (3 : Int32))])) _
      refine XS.iload X204.here hx rfl (hb hby at_94) rfl ?_
      show Steps p.tables e below (T204.setTop (mkF m 96 #[.val (.int nq), .val (.long xq), .second, .val (.long yq), .second, .val (.long zq), .second, .val (.int (3 : Int32)), .val (.int a0'), .val (.int a1), .val (.int a2), .val (.int i103), .val (.int i107), .val (.int i111), .val (.ref b204), .unset, .unset, .unset, .unset, .unset, .unset, .unset, .unset] [(.int i103), (.int (3 : Int32))])) _
      refine XS.iload X204.here hx rfl (hb hby at_96) rfl ?_
      show Steps p.tables e below (T204.setTop (mkF m 98 #[.val (.int nq), .val (.long xq), .second, .val (.long yq), .second, .val (.long zq), .second, .val (.int (3 : Int32)), .val (.int a0'), .val (.int a1), .val (.int a2), .val (.int i103), .val (.int i107), .val (.int i111), .val (.ref b204), .unset, .unset, .unset, .unset, .unset, .unset, .unset, .unset] [(.int i107), (.int i103), (.int (3 : Int32))])) _
      refine XS.iload X204.here hx rfl (hb hby at_98) rfl ?_
      exact k)
    obtain ⟨_, _, ⟨T210, L210, k210, n210⟩, -, X210, ⟨Lc210, hQ210, l210, y210, z210⟩, st210⟩ := Jvm.LawKit.callS X204 hx (y := (⟨"com/example/frontweave/frontweave/selection/FrontsDominatesPinLaw", "vec", "(IIII)[D"⟩ : MethodName)) hown (mvT hZ (hw _ (List.mem_of_getElem? (i := 0) rfl))) (mvT hZ (hw _ (List.mem_of_getElem? (i := 1) rfl))) (mvT hZ (hw _ (List.mem_of_getElem? (i := 2) rfl))) (mvT hZ (hw _ (List.mem_of_getElem? (i := 3) rfl))) (by decide) (backOf (W := 0) (vec3 l Z a0 hw [] i103 i107 i111 h204 n0 Z208 ) hZ (hw _ (List.mem_of_getElem? (i := 3) rfl)) (hw _ (List.mem_of_getElem? (i := 2) rfl)) (by decide) (by decide)) (g := (mkF m 100 #[.val (.int nq), .val (.long xq), .second, .val (.long yq), .second, .val (.long zq), .second, .val (.int (3 : Int32)), .val (.int a0'), .val (.int a1), .val (.int a2), .val (.int i103), .val (.int i107), .val (.int i111), .val (.ref b204), .unset, .unset, .unset, .unset, .unset, .unset, .unset, .unset] [(.int i111), (.int i107), (.int i103), (.int (3 : Int32))])) rfl (by rw [hml]; rfl) (argsL := [(.int (3 : Int32)), (.int i103), (.int i107), (.int i111)]) (rest := []) (lenOf pd__28IIII_29_5bD rfl) rfl (by show 2 * 0 + _ ≤ _; exact Nat.le_of_eq rfl) (hb hby at_100) (fun _ _ => ⟨rfl, e204, (by decide : 1 + 1 ≤ _), (by decide : 3 + 3 ≤ _)⟩)
    dsimp only [Pt.U, Pt.locs, Pt.cells, Pt.slots] at X210 l210 y210 z210 st210 hQ210
    subst l210 y210 z210
    obtain ⟨h210, e210⟩ : ∃ h', T210.heap = h' := ⟨_, rfl⟩
    rw [e210] at hQ210
    obtain ⟨b210, kk210, rfl, N210q, gb210, K210, V210⟩ := hQ210
    have N211 := Fr.app N205 N210q
    have k212 : ∀ t, Steps p.tables e below (T210.setTop (mkF m 103 #[.val (.int nq), .val (.long xq), .second, .val (.long yq), .second, .val (.long zq), .second, .val (.int (3 : Int32)), .val (.int a0'), .val (.int a1), .val (.int a2), .val (.int i103), .val (.int i107), .val (.int i111), .val (.ref b204), .unset, .unset, .unset, .unset, .unset, .unset, .unset, .unset] [(.ref b210)])) t → Steps p.tables e below (s₁.setTop (entryFrame m #[(.int nq), (.long xq), (.long yq), (.long zq)] maxLocals)) t := fun t k => k209 t (st210 t k)
    have n213 : b204 ≠ b210 := Nat.ne_of_lt (Nat.lt_of_lt_of_le V204.lt (Nat.le_of_eq gb210.symm))
    have g214 : n0 ≤ b210 := Nat.le_trans Z208 (Nat.le_of_eq gb210.symm)
    have F215 := V204.keep K210 nin0
    have Z216 : n0 ≤ h210.size := Nat.le_trans Z208 K210.1
    have k217 : ∀ t, Steps p.tables e below (T210.setTop (mkF m 115 #[.val (.int nq), .val (.long xq), .second, .val (.long yq), .second, .val (.long zq), .second, .val (.int (3 : Int32)), .val (.int a0'), .val (.int a1), .val (.int a2), .val (.int i103), .val (.int i107), .val (.int i111), .val (.ref b204), .val (.ref b210), .unset, .unset, .unset, .unset, .unset, .unset, .unset] [(.int i103), (.int a0')])) t → Steps p.tables e below (s₁.setTop (entryFrame m #[(.int nq), (.long xq), (.long yq), (.long zq)] maxLocals)) t := fun t k => k212 t (by
      show Steps p.tables e below (T210.setTop (mkF m 103 #[.val (.int nq), .val (.long xq), .second, .val (.long yq), .second, .val (.long zq), .second, .val (.int (3 : Int32)), .val (.int a0'), .val (.int a1), .val (.int a2), .val (.int i103), .val (.int i107), .val (.int i111), .val (.ref b204), .unset, .unset, .unset, .unset, .unset, .unset, .unset, .unset] [(.ref b210)])) _
      refine XS.astore X210.here hx rfl (hb hby at_103) rfl rfl (l' := #[.val (.int nq), .val (.long xq), .second, .val (.long yq), .second, .val (.long zq), .second, .val (.int (3 : Int32)), .val (.int a0'), .val (.int a1), .val (.int a2), .val (.int i103), .val (.int i107), .val (.int i111), .val (.ref b204), .val (.ref b210), .unset, .unset, .unset, .unset, .unset, .unset, .unset]) rfl ?_
      show Steps p.tables e below (T210.setTop (mkF m 105 #[.val (.int nq), .val (.long xq), .second, .val (.long yq), .second, .val (.long zq), .second, .val (.int (3 : Int32)), .val (.int a0'), .val (.int a1), .val (.int a2), .val (.int i103), .val (.int i107), .val (.int i111), .val (.ref b204), .val (.ref b210), .unset, .unset, .unset, .unset, .unset, .unset, .unset] [])) _
      refine XS.iload X210.here hx rfl (hb hby at_105) rfl ?_
      show Steps p.tables e below (T210.setTop (mkF m 107 #[.val (.int nq), .val (.long xq), .second, .val (.long yq), .second, .val (.long zq), .second, .val (.int (3 : Int32)), .val (.int a0'), .val (.int a1), .val (.int a2), .val (.int i103), .val (.int i107), .val (.int i111), .val (.ref b204), .val (.ref b210), .unset, .unset, .unset, .unset, .unset, .unset, .unset] [(.int (3 : Int32))])) _
      refine XS.iconst X210.here hx rfl (hb hby at_107) ?_
      show Steps p.tables e below (T210.setTop (mkF m 108 #[.val (.int nq), .val (.long xq), .second, .val (.long yq), .second, .val (.long zq), .second, .val (.int (3 : Int32)), .val (.int a0'), .val (.int a1), .val (.int a2), .val (.int i103), .val (.int i107), .val (.int i111), .val (.ref b204), .val (.ref b210), .unset, .unset, .unset, .unset, .unset, .unset, .unset] [(.int (1 : Int32)), (.int (3 : Int32))])) _
      refine XS.icmpNo X210.here hx rfl (hb hby at_108) rfl (flt (by decide)).1 ?_
      show Steps p.tables e below (T210.setTop (mkF m 111 #[.val (.int nq), .val (.long xq), .second, .val (.long yq), .second, .val (.long zq), .second, .val (.int (3 : Int32)), .val (.int a0'), .val (.int a1), .val (.int a2), .val (.int i103), .val (.int i107), .val (.int i111), .val (.ref b204), .val (.ref b210), .unset, .unset, .unset, .unset, .unset, .unset, .unset] [])) _
      refine XS.iload X210.here hx rfl (hb hby at_111) rfl ?_
      show Steps p.tables e below (T210.setTop (mkF m 113 #[.val (.int nq), .val (.long xq), .second, .val (.long yq), .second, .val (.long zq), .second, .val (.int (3 : Int32)), .val (.int a0'), .val (.int a1), .val (.int a2), .val (.int i103), .val (.int i107), .val (.int i111), .val (.ref b204), .val (.ref b210), .unset, .unset, .unset, .unset, .unset, .unset, .unset] [(.int a0')])) _
      refine XS.iload X210.here hx rfl (hb hby at_113) rfl ?_
      exact k)
    obtain ⟨i219, hi219⟩ : ∃ z : Int32, z = (if i103 < a0' then (0 : Int32) else (1 : Int32)) := ⟨_, rfl⟩
    have k220 : ∀ t, Steps p.tables e below (T210.setTop (mkF m 123 #[.val (.int nq), .val (.long xq), .second, .val (.long yq), .second, .val (.long zq), .second, .val (.int (3 : Int32)), .val (.int a0'), .val (.int a1), .val (.int a2), .val (.int i103), .val (.int i107), .val (.int i111), .val (.ref b204), .val (.ref b210), .unset, .unset, .unset, .unset, .unset, .unset, .unset] [(.int i219)])) t → Steps p.tables e below (s₁.setTop (entryFrame m #[(.int nq), (.long xq), (.long yq), (.long zq)] maxLocals)) t := fun t k => k217 t (by
      by_cases c218 : i103 < a0'
      · rw [if_pos c218] at hi219
        show Steps p.tables e below (T210.setTop (mkF m 115 #[.val (.int nq), .val (.long xq), .second, .val (.long yq), .second, .val (.long zq), .second, .val (.int (3 : Int32)), .val (.int a0'), .val (.int a1), .val (.int a2), .val (.int i103), .val (.int i107), .val (.int i111), .val (.ref b204), .val (.ref b210), .unset, .unset, .unset, .unset, .unset, .unset, .unset] [(.int i103), (.int a0')])) _
        refine XS.icmpYes X210.here hx rfl (pc0 := 115) (pc' := 122) rfl (hb hby at_115) rfl (tlt c218).2.2.1 (by decide) (by decide) ?_
        show Steps p.tables e below (T210.setTop (mkF m 122 #[.val (.int nq), .val (.long xq), .second, .val (.long yq), .second, .val (.long zq), .second, .val (.int (3 : Int32)), .val (.int a0'), .val (.int a1), .val (.int a2), .val (.int i103), .val (.int i107), .val (.int i111), .val (.ref b204), .val (.ref b210), .unset, .unset, .unset, .unset, .unset, .unset, .unset] [])) _
        refine XS.iconst X210.here hx rfl (hb hby at_122) ?_
        show Steps p.tables e below (T210.setTop (mkF m 123 #[.val (.int nq), .val (.long xq), .second, .val (.long yq), .second, .val (.long zq), .second, .val (.int (3 : Int32)), .val (.int a0'), .val (.int a1), .val (.int a2), .val (.int i103), .val (.int i107), .val (.int i111), .val (.ref b204), .val (.ref b210), .unset, .unset, .unset, .unset, .unset, .unset, .unset] [(.int (0 : Int32))])) _
        exact castTop (by rw [hi219]) k
      · rw [if_neg c218] at hi219
        show Steps p.tables e below (T210.setTop (mkF m 115 #[.val (.int nq), .val (.long xq), .second, .val (.long yq), .second, .val (.long zq), .second, .val (.int (3 : Int32)), .val (.int a0'), .val (.int a1), .val (.int a2), .val (.int i103), .val (.int i107), .val (.int i111), .val (.ref b204), .val (.ref b210), .unset, .unset, .unset, .unset, .unset, .unset, .unset] [(.int i103), (.int a0')])) _
        refine XS.icmpNo X210.here hx rfl (hb hby at_115) rfl (flt c218).2.2.1 ?_
        show Steps p.tables e below (T210.setTop (mkF m 118 #[.val (.int nq), .val (.long xq), .second, .val (.long yq), .second, .val (.long zq), .second, .val (.int (3 : Int32)), .val (.int a0'), .val (.int a1), .val (.int a2), .val (.int i103), .val (.int i107), .val (.int i111), .val (.ref b204), .val (.ref b210), .unset, .unset, .unset, .unset, .unset, .unset, .unset] [])) _
        refine XS.iconst X210.here hx rfl (hb hby at_118) ?_
        show Steps p.tables e below (T210.setTop (mkF m 119 #[.val (.int nq), .val (.long xq), .second, .val (.long yq), .second, .val (.long zq), .second, .val (.int (3 : Int32)), .val (.int a0'), .val (.int a1), .val (.int a2), .val (.int i103), .val (.int i107), .val (.int i111), .val (.ref b204), .val (.ref b210), .unset, .unset, .unset, .unset, .unset, .unset, .unset] [(.int (1 : Int32))])) _
        refine XS.goto X210.here hx rfl (pc0 := 119) (pc' := 123) rfl (hb hby at_119) (by decide) (by decide) ?_
        show Steps p.tables e below (T210.setTop (mkF m 123 #[.val (.int nq), .val (.long xq), .second, .val (.long yq), .second, .val (.long zq), .second, .val (.int (3 : Int32)), .val (.int a0'), .val (.int a1), .val (.int a2), .val (.int i103), .val (.int i107), .val (.int i111), .val (.ref b204), .val (.ref b210), .unset, .unset, .unset, .unset, .unset, .unset, .unset] [(.int (1 : Int32))])) _
        exact castTop (by rw [hi219]) k)
    have k221 : ∀ t, Steps p.tables e below (T210.setTop (mkF m 135 #[.val (.int nq), .val (.long xq), .second, .val (.long yq), .second, .val (.long zq), .second, .val (.int (3 : Int32)), .val (.int a0'), .val (.int a1), .val (.int a2), .val (.int i103), .val (.int i107), .val (.int i111), .val (.ref b204), .val (.ref b210), .val (.int i219), .unset, .unset, .unset, .unset, .unset, .unset] [(.int i107), (.int a1)])) t → Steps p.tables e below (s₁.setTop (entryFrame m #[(.int nq), (.long xq), (.long yq), (.long zq)] maxLocals)) t := fun t k => k220 t (by
      show Steps p.tables e below (T210.setTop (mkF m 123 #[.val (.int nq), .val (.long xq), .second, .val (.long yq), .second, .val (.long zq), .second, .val (.int (3 : Int32)), .val (.int a0'), .val (.int a1), .val (.int a2), .val (.int i103), .val (.int i107), .val (.int i111), .val (.ref b204), .val (.ref b210), .unset, .unset, .unset, .unset, .unset, .unset, .unset] [(.int i219)])) _
      refine XS.istore X210.here hx rfl (hb hby at_123) rfl (l' := #[.val (.int nq), .val (.long xq), .second, .val (.long yq), .second, .val (.long zq), .second, .val (.int (3 : Int32)), .val (.int a0'), .val (.int a1), .val (.int a2), .val (.int i103), .val (.int i107), .val (.int i111), .val (.ref b204), .val (.ref b210), .val (.int i219), .unset, .unset, .unset, .unset, .unset, .unset]) rfl ?_
      show Steps p.tables e below (T210.setTop (mkF m 125 #[.val (.int nq), .val (.long xq), .second, .val (.long yq), .second, .val (.long zq), .second, .val (.int (3 : Int32)), .val (.int a0'), .val (.int a1), .val (.int a2), .val (.int i103), .val (.int i107), .val (.int i111), .val (.ref b204), .val (.ref b210), .val (.int i219), .unset, .unset, .unset, .unset, .unset, .unset] [])) _
      refine XS.iload X210.here hx rfl (hb hby at_125) rfl ?_
      show Steps p.tables e below (T210.setTop (mkF m 127 #[.val (.int nq), .val (.long xq), .second, .val (.long yq), .second, .val (.long zq), .second, .val (.int (3 : Int32)), .val (.int a0'), .val (.int a1), .val (.int a2), .val (.int i103), .val (.int i107), .val (.int i111), .val (.ref b204), .val (.ref b210), .val (.int i219), .unset, .unset, .unset, .unset, .unset, .unset] [(.int (3 : Int32))])) _
      refine XS.iconst X210.here hx rfl (hb hby at_127) ?_
      show Steps p.tables e below (T210.setTop (mkF m 128 #[.val (.int nq), .val (.long xq), .second, .val (.long yq), .second, .val (.long zq), .second, .val (.int (3 : Int32)), .val (.int a0'), .val (.int a1), .val (.int a2), .val (.int i103), .val (.int i107), .val (.int i111), .val (.ref b204), .val (.ref b210), .val (.int i219), .unset, .unset, .unset, .unset, .unset, .unset] [(.int (2 : Int32)), (.int (3 : Int32))])) _
      refine XS.icmpNo X210.here hx rfl (hb hby at_128) rfl (flt (by decide)).1 ?_
      show Steps p.tables e below (T210.setTop (mkF m 131 #[.val (.int nq), .val (.long xq), .second, .val (.long yq), .second, .val (.long zq), .second, .val (.int (3 : Int32)), .val (.int a0'), .val (.int a1), .val (.int a2), .val (.int i103), .val (.int i107), .val (.int i111), .val (.ref b204), .val (.ref b210), .val (.int i219), .unset, .unset, .unset, .unset, .unset, .unset] [])) _
      refine XS.iload X210.here hx rfl (hb hby at_131) rfl ?_
      show Steps p.tables e below (T210.setTop (mkF m 133 #[.val (.int nq), .val (.long xq), .second, .val (.long yq), .second, .val (.long zq), .second, .val (.int (3 : Int32)), .val (.int a0'), .val (.int a1), .val (.int a2), .val (.int i103), .val (.int i107), .val (.int i111), .val (.ref b204), .val (.ref b210), .val (.int i219), .unset, .unset, .unset, .unset, .unset, .unset] [(.int a1)])) _
      refine XS.iload X210.here hx rfl (hb hby at_133) rfl ?_
      exact k)
    obtain ⟨i223, hi223⟩ : ∃ z : Int32, z = (if i107 < a1 then (0 : Int32) else (1 : Int32)) := ⟨_, rfl⟩
    have k224 : ∀ t, Steps p.tables e below (T210.setTop (mkF m 143 #[.val (.int nq), .val (.long xq), .second, .val (.long yq), .second, .val (.long zq), .second, .val (.int (3 : Int32)), .val (.int a0'), .val (.int a1), .val (.int a2), .val (.int i103), .val (.int i107), .val (.int i111), .val (.ref b204), .val (.ref b210), .val (.int i219), .unset, .unset, .unset, .unset, .unset, .unset] [(.int i223)])) t → Steps p.tables e below (s₁.setTop (entryFrame m #[(.int nq), (.long xq), (.long yq), (.long zq)] maxLocals)) t := fun t k => k221 t (by
      by_cases c222 : i107 < a1
      · rw [if_pos c222] at hi223
        show Steps p.tables e below (T210.setTop (mkF m 135 #[.val (.int nq), .val (.long xq), .second, .val (.long yq), .second, .val (.long zq), .second, .val (.int (3 : Int32)), .val (.int a0'), .val (.int a1), .val (.int a2), .val (.int i103), .val (.int i107), .val (.int i111), .val (.ref b204), .val (.ref b210), .val (.int i219), .unset, .unset, .unset, .unset, .unset, .unset] [(.int i107), (.int a1)])) _
        refine XS.icmpYes X210.here hx rfl (pc0 := 135) (pc' := 142) rfl (hb hby at_135) rfl (tlt c222).2.2.1 (by decide) (by decide) ?_
        show Steps p.tables e below (T210.setTop (mkF m 142 #[.val (.int nq), .val (.long xq), .second, .val (.long yq), .second, .val (.long zq), .second, .val (.int (3 : Int32)), .val (.int a0'), .val (.int a1), .val (.int a2), .val (.int i103), .val (.int i107), .val (.int i111), .val (.ref b204), .val (.ref b210), .val (.int i219), .unset, .unset, .unset, .unset, .unset, .unset] [])) _
        refine XS.iconst X210.here hx rfl (hb hby at_142) ?_
        show Steps p.tables e below (T210.setTop (mkF m 143 #[.val (.int nq), .val (.long xq), .second, .val (.long yq), .second, .val (.long zq), .second, .val (.int (3 : Int32)), .val (.int a0'), .val (.int a1), .val (.int a2), .val (.int i103), .val (.int i107), .val (.int i111), .val (.ref b204), .val (.ref b210), .val (.int i219), .unset, .unset, .unset, .unset, .unset, .unset] [(.int (0 : Int32))])) _
        exact castTop (by rw [hi223]) k
      · rw [if_neg c222] at hi223
        show Steps p.tables e below (T210.setTop (mkF m 135 #[.val (.int nq), .val (.long xq), .second, .val (.long yq), .second, .val (.long zq), .second, .val (.int (3 : Int32)), .val (.int a0'), .val (.int a1), .val (.int a2), .val (.int i103), .val (.int i107), .val (.int i111), .val (.ref b204), .val (.ref b210), .val (.int i219), .unset, .unset, .unset, .unset, .unset, .unset] [(.int i107), (.int a1)])) _
        refine XS.icmpNo X210.here hx rfl (hb hby at_135) rfl (flt c222).2.2.1 ?_
        show Steps p.tables e below (T210.setTop (mkF m 138 #[.val (.int nq), .val (.long xq), .second, .val (.long yq), .second, .val (.long zq), .second, .val (.int (3 : Int32)), .val (.int a0'), .val (.int a1), .val (.int a2), .val (.int i103), .val (.int i107), .val (.int i111), .val (.ref b204), .val (.ref b210), .val (.int i219), .unset, .unset, .unset, .unset, .unset, .unset] [])) _
        refine XS.iconst X210.here hx rfl (hb hby at_138) ?_
        show Steps p.tables e below (T210.setTop (mkF m 139 #[.val (.int nq), .val (.long xq), .second, .val (.long yq), .second, .val (.long zq), .second, .val (.int (3 : Int32)), .val (.int a0'), .val (.int a1), .val (.int a2), .val (.int i103), .val (.int i107), .val (.int i111), .val (.ref b204), .val (.ref b210), .val (.int i219), .unset, .unset, .unset, .unset, .unset, .unset] [(.int (1 : Int32))])) _
        refine XS.goto X210.here hx rfl (pc0 := 139) (pc' := 143) rfl (hb hby at_139) (by decide) (by decide) ?_
        show Steps p.tables e below (T210.setTop (mkF m 143 #[.val (.int nq), .val (.long xq), .second, .val (.long yq), .second, .val (.long zq), .second, .val (.int (3 : Int32)), .val (.int a0'), .val (.int a1), .val (.int a2), .val (.int i103), .val (.int i107), .val (.int i111), .val (.ref b204), .val (.ref b210), .val (.int i219), .unset, .unset, .unset, .unset, .unset, .unset] [(.int (1 : Int32))])) _
        exact castTop (by rw [hi223]) k)
    have k225 : ∀ t, Steps p.tables e below (T210.setTop (mkF m 155 #[.val (.int nq), .val (.long xq), .second, .val (.long yq), .second, .val (.long zq), .second, .val (.int (3 : Int32)), .val (.int a0'), .val (.int a1), .val (.int a2), .val (.int i103), .val (.int i107), .val (.int i111), .val (.ref b204), .val (.ref b210), .val (.int i219), .val (.int i223), .unset, .unset, .unset, .unset, .unset] [(.int i111), (.int a2)])) t → Steps p.tables e below (s₁.setTop (entryFrame m #[(.int nq), (.long xq), (.long yq), (.long zq)] maxLocals)) t := fun t k => k224 t (by
      show Steps p.tables e below (T210.setTop (mkF m 143 #[.val (.int nq), .val (.long xq), .second, .val (.long yq), .second, .val (.long zq), .second, .val (.int (3 : Int32)), .val (.int a0'), .val (.int a1), .val (.int a2), .val (.int i103), .val (.int i107), .val (.int i111), .val (.ref b204), .val (.ref b210), .val (.int i219), .unset, .unset, .unset, .unset, .unset, .unset] [(.int i223)])) _
      refine XS.istore X210.here hx rfl (hb hby at_143) rfl (l' := #[.val (.int nq), .val (.long xq), .second, .val (.long yq), .second, .val (.long zq), .second, .val (.int (3 : Int32)), .val (.int a0'), .val (.int a1), .val (.int a2), .val (.int i103), .val (.int i107), .val (.int i111), .val (.ref b204), .val (.ref b210), .val (.int i219), .val (.int i223), .unset, .unset, .unset, .unset, .unset]) rfl ?_
      show Steps p.tables e below (T210.setTop (mkF m 145 #[.val (.int nq), .val (.long xq), .second, .val (.long yq), .second, .val (.long zq), .second, .val (.int (3 : Int32)), .val (.int a0'), .val (.int a1), .val (.int a2), .val (.int i103), .val (.int i107), .val (.int i111), .val (.ref b204), .val (.ref b210), .val (.int i219), .val (.int i223), .unset, .unset, .unset, .unset, .unset] [])) _
      refine XS.iload X210.here hx rfl (hb hby at_145) rfl ?_
      show Steps p.tables e below (T210.setTop (mkF m 147 #[.val (.int nq), .val (.long xq), .second, .val (.long yq), .second, .val (.long zq), .second, .val (.int (3 : Int32)), .val (.int a0'), .val (.int a1), .val (.int a2), .val (.int i103), .val (.int i107), .val (.int i111), .val (.ref b204), .val (.ref b210), .val (.int i219), .val (.int i223), .unset, .unset, .unset, .unset, .unset] [(.int (3 : Int32))])) _
      refine XS.iconst X210.here hx rfl (hb hby at_147) ?_
      show Steps p.tables e below (T210.setTop (mkF m 148 #[.val (.int nq), .val (.long xq), .second, .val (.long yq), .second, .val (.long zq), .second, .val (.int (3 : Int32)), .val (.int a0'), .val (.int a1), .val (.int a2), .val (.int i103), .val (.int i107), .val (.int i111), .val (.ref b204), .val (.ref b210), .val (.int i219), .val (.int i223), .unset, .unset, .unset, .unset, .unset] [(.int (3 : Int32)), (.int (3 : Int32))])) _
      refine XS.icmpNo X210.here hx rfl (hb hby at_148) rfl (flt (by decide)).1 ?_
      show Steps p.tables e below (T210.setTop (mkF m 151 #[.val (.int nq), .val (.long xq), .second, .val (.long yq), .second, .val (.long zq), .second, .val (.int (3 : Int32)), .val (.int a0'), .val (.int a1), .val (.int a2), .val (.int i103), .val (.int i107), .val (.int i111), .val (.ref b204), .val (.ref b210), .val (.int i219), .val (.int i223), .unset, .unset, .unset, .unset, .unset] [])) _
      refine XS.iload X210.here hx rfl (hb hby at_151) rfl ?_
      show Steps p.tables e below (T210.setTop (mkF m 153 #[.val (.int nq), .val (.long xq), .second, .val (.long yq), .second, .val (.long zq), .second, .val (.int (3 : Int32)), .val (.int a0'), .val (.int a1), .val (.int a2), .val (.int i103), .val (.int i107), .val (.int i111), .val (.ref b204), .val (.ref b210), .val (.int i219), .val (.int i223), .unset, .unset, .unset, .unset, .unset] [(.int a2)])) _
      refine XS.iload X210.here hx rfl (hb hby at_153) rfl ?_
      exact k)
    obtain ⟨i227, hi227⟩ : ∃ z : Int32, z = (if i111 < a2 then (0 : Int32) else (1 : Int32)) := ⟨_, rfl⟩
    have k228 : ∀ t, Steps p.tables e below (T210.setTop (mkF m 163 #[.val (.int nq), .val (.long xq), .second, .val (.long yq), .second, .val (.long zq), .second, .val (.int (3 : Int32)), .val (.int a0'), .val (.int a1), .val (.int a2), .val (.int i103), .val (.int i107), .val (.int i111), .val (.ref b204), .val (.ref b210), .val (.int i219), .val (.int i223), .unset, .unset, .unset, .unset, .unset] [(.int i227)])) t → Steps p.tables e below (s₁.setTop (entryFrame m #[(.int nq), (.long xq), (.long yq), (.long zq)] maxLocals)) t := fun t k => k225 t (by
      by_cases c226 : i111 < a2
      · rw [if_pos c226] at hi227
        show Steps p.tables e below (T210.setTop (mkF m 155 #[.val (.int nq), .val (.long xq), .second, .val (.long yq), .second, .val (.long zq), .second, .val (.int (3 : Int32)), .val (.int a0'), .val (.int a1), .val (.int a2), .val (.int i103), .val (.int i107), .val (.int i111), .val (.ref b204), .val (.ref b210), .val (.int i219), .val (.int i223), .unset, .unset, .unset, .unset, .unset] [(.int i111), (.int a2)])) _
        refine XS.icmpYes X210.here hx rfl (pc0 := 155) (pc' := 162) rfl (hb hby at_155) rfl (tlt c226).2.2.1 (by decide) (by decide) ?_
        show Steps p.tables e below (T210.setTop (mkF m 162 #[.val (.int nq), .val (.long xq), .second, .val (.long yq), .second, .val (.long zq), .second, .val (.int (3 : Int32)), .val (.int a0'), .val (.int a1), .val (.int a2), .val (.int i103), .val (.int i107), .val (.int i111), .val (.ref b204), .val (.ref b210), .val (.int i219), .val (.int i223), .unset, .unset, .unset, .unset, .unset] [])) _
        refine XS.iconst X210.here hx rfl (hb hby at_162) ?_
        show Steps p.tables e below (T210.setTop (mkF m 163 #[.val (.int nq), .val (.long xq), .second, .val (.long yq), .second, .val (.long zq), .second, .val (.int (3 : Int32)), .val (.int a0'), .val (.int a1), .val (.int a2), .val (.int i103), .val (.int i107), .val (.int i111), .val (.ref b204), .val (.ref b210), .val (.int i219), .val (.int i223), .unset, .unset, .unset, .unset, .unset] [(.int (0 : Int32))])) _
        exact castTop (by rw [hi227]) k
      · rw [if_neg c226] at hi227
        show Steps p.tables e below (T210.setTop (mkF m 155 #[.val (.int nq), .val (.long xq), .second, .val (.long yq), .second, .val (.long zq), .second, .val (.int (3 : Int32)), .val (.int a0'), .val (.int a1), .val (.int a2), .val (.int i103), .val (.int i107), .val (.int i111), .val (.ref b204), .val (.ref b210), .val (.int i219), .val (.int i223), .unset, .unset, .unset, .unset, .unset] [(.int i111), (.int a2)])) _
        refine XS.icmpNo X210.here hx rfl (hb hby at_155) rfl (flt c226).2.2.1 ?_
        show Steps p.tables e below (T210.setTop (mkF m 158 #[.val (.int nq), .val (.long xq), .second, .val (.long yq), .second, .val (.long zq), .second, .val (.int (3 : Int32)), .val (.int a0'), .val (.int a1), .val (.int a2), .val (.int i103), .val (.int i107), .val (.int i111), .val (.ref b204), .val (.ref b210), .val (.int i219), .val (.int i223), .unset, .unset, .unset, .unset, .unset] [])) _
        refine XS.iconst X210.here hx rfl (hb hby at_158) ?_
        show Steps p.tables e below (T210.setTop (mkF m 159 #[.val (.int nq), .val (.long xq), .second, .val (.long yq), .second, .val (.long zq), .second, .val (.int (3 : Int32)), .val (.int a0'), .val (.int a1), .val (.int a2), .val (.int i103), .val (.int i107), .val (.int i111), .val (.ref b204), .val (.ref b210), .val (.int i219), .val (.int i223), .unset, .unset, .unset, .unset, .unset] [(.int (1 : Int32))])) _
        refine XS.goto X210.here hx rfl (pc0 := 159) (pc' := 163) rfl (hb hby at_159) (by decide) (by decide) ?_
        show Steps p.tables e below (T210.setTop (mkF m 163 #[.val (.int nq), .val (.long xq), .second, .val (.long yq), .second, .val (.long zq), .second, .val (.int (3 : Int32)), .val (.int a0'), .val (.int a1), .val (.int a2), .val (.int i103), .val (.int i107), .val (.int i111), .val (.ref b204), .val (.ref b210), .val (.int i219), .val (.int i223), .unset, .unset, .unset, .unset, .unset] [(.int (1 : Int32))])) _
        exact castTop (by rw [hi227]) k)
    have k229 : ∀ t, Steps p.tables e below (T210.setTop (mkF m 175 #[.val (.int nq), .val (.long xq), .second, .val (.long yq), .second, .val (.long zq), .second, .val (.int (3 : Int32)), .val (.int a0'), .val (.int a1), .val (.int a2), .val (.int i103), .val (.int i107), .val (.int i111), .val (.ref b204), .val (.ref b210), .val (.int i219), .val (.int i223), .val (.int i227), .unset, .unset, .unset, .unset] [(.int i103), (.int a0')])) t → Steps p.tables e below (s₁.setTop (entryFrame m #[(.int nq), (.long xq), (.long yq), (.long zq)] maxLocals)) t := fun t k => k228 t (by
      show Steps p.tables e below (T210.setTop (mkF m 163 #[.val (.int nq), .val (.long xq), .second, .val (.long yq), .second, .val (.long zq), .second, .val (.int (3 : Int32)), .val (.int a0'), .val (.int a1), .val (.int a2), .val (.int i103), .val (.int i107), .val (.int i111), .val (.ref b204), .val (.ref b210), .val (.int i219), .val (.int i223), .unset, .unset, .unset, .unset, .unset] [(.int i227)])) _
      refine XS.istore X210.here hx rfl (hb hby at_163) rfl (l' := #[.val (.int nq), .val (.long xq), .second, .val (.long yq), .second, .val (.long zq), .second, .val (.int (3 : Int32)), .val (.int a0'), .val (.int a1), .val (.int a2), .val (.int i103), .val (.int i107), .val (.int i111), .val (.ref b204), .val (.ref b210), .val (.int i219), .val (.int i223), .val (.int i227), .unset, .unset, .unset, .unset]) rfl ?_
      show Steps p.tables e below (T210.setTop (mkF m 165 #[.val (.int nq), .val (.long xq), .second, .val (.long yq), .second, .val (.long zq), .second, .val (.int (3 : Int32)), .val (.int a0'), .val (.int a1), .val (.int a2), .val (.int i103), .val (.int i107), .val (.int i111), .val (.ref b204), .val (.ref b210), .val (.int i219), .val (.int i223), .val (.int i227), .unset, .unset, .unset, .unset] [])) _
      refine XS.iload X210.here hx rfl (hb hby at_165) rfl ?_
      show Steps p.tables e below (T210.setTop (mkF m 167 #[.val (.int nq), .val (.long xq), .second, .val (.long yq), .second, .val (.long zq), .second, .val (.int (3 : Int32)), .val (.int a0'), .val (.int a1), .val (.int a2), .val (.int i103), .val (.int i107), .val (.int i111), .val (.ref b204), .val (.ref b210), .val (.int i219), .val (.int i223), .val (.int i227), .unset, .unset, .unset, .unset] [(.int (3 : Int32))])) _
      refine XS.iconst X210.here hx rfl (hb hby at_167) ?_
      show Steps p.tables e below (T210.setTop (mkF m 168 #[.val (.int nq), .val (.long xq), .second, .val (.long yq), .second, .val (.long zq), .second, .val (.int (3 : Int32)), .val (.int a0'), .val (.int a1), .val (.int a2), .val (.int i103), .val (.int i107), .val (.int i111), .val (.ref b204), .val (.ref b210), .val (.int i219), .val (.int i223), .val (.int i227), .unset, .unset, .unset, .unset] [(.int (1 : Int32)), (.int (3 : Int32))])) _
      refine XS.icmpNo X210.here hx rfl (hb hby at_168) rfl (flt (by decide)).1 ?_
      show Steps p.tables e below (T210.setTop (mkF m 171 #[.val (.int nq), .val (.long xq), .second, .val (.long yq), .second, .val (.long zq), .second, .val (.int (3 : Int32)), .val (.int a0'), .val (.int a1), .val (.int a2), .val (.int i103), .val (.int i107), .val (.int i111), .val (.ref b204), .val (.ref b210), .val (.int i219), .val (.int i223), .val (.int i227), .unset, .unset, .unset, .unset] [])) _
      refine XS.iload X210.here hx rfl (hb hby at_171) rfl ?_
      show Steps p.tables e below (T210.setTop (mkF m 173 #[.val (.int nq), .val (.long xq), .second, .val (.long yq), .second, .val (.long zq), .second, .val (.int (3 : Int32)), .val (.int a0'), .val (.int a1), .val (.int a2), .val (.int i103), .val (.int i107), .val (.int i111), .val (.ref b204), .val (.ref b210), .val (.int i219), .val (.int i223), .val (.int i227), .unset, .unset, .unset, .unset] [(.int a0')])) _
      refine XS.iload X210.here hx rfl (hb hby at_173) rfl ?_
      exact k)
    obtain ⟨i231, hi231⟩ : ∃ z : Int32, z = (if a0' < i103 then (1 : Int32) else (0 : Int32)) := ⟨_, rfl⟩
    have k232 : ∀ t, Steps p.tables e below (T210.setTop (mkF m 183 #[.val (.int nq), .val (.long xq), .second, .val (.long yq), .second, .val (.long zq), .second, .val (.int (3 : Int32)), .val (.int a0'), .val (.int a1), .val (.int a2), .val (.int i103), .val (.int i107), .val (.int i111), .val (.ref b204), .val (.ref b210), .val (.int i219), .val (.int i223), .val (.int i227), .unset, .unset, .unset, .unset] [(.int i231)])) t → Steps p.tables e below (s₁.setTop (entryFrame m #[(.int nq), (.long xq), (.long yq), (.long zq)] maxLocals)) t := fun t k => k229 t (by
      by_cases c230 : a0' < i103
      · rw [if_pos c230] at hi231
        show Steps p.tables e below (T210.setTop (mkF m 175 #[.val (.int nq), .val (.long xq), .second, .val (.long yq), .second, .val (.long zq), .second, .val (.int (3 : Int32)), .val (.int a0'), .val (.int a1), .val (.int a2), .val (.int i103), .val (.int i107), .val (.int i111), .val (.ref b204), .val (.ref b210), .val (.int i219), .val (.int i223), .val (.int i227), .unset, .unset, .unset, .unset] [(.int i103), (.int a0')])) _
        refine XS.icmpNo X210.here hx rfl (hb hby at_175) rfl (tlt c230).2.1 ?_
        show Steps p.tables e below (T210.setTop (mkF m 178 #[.val (.int nq), .val (.long xq), .second, .val (.long yq), .second, .val (.long zq), .second, .val (.int (3 : Int32)), .val (.int a0'), .val (.int a1), .val (.int a2), .val (.int i103), .val (.int i107), .val (.int i111), .val (.ref b204), .val (.ref b210), .val (.int i219), .val (.int i223), .val (.int i227), .unset, .unset, .unset, .unset] [])) _
        refine XS.iconst X210.here hx rfl (hb hby at_178) ?_
        show Steps p.tables e below (T210.setTop (mkF m 179 #[.val (.int nq), .val (.long xq), .second, .val (.long yq), .second, .val (.long zq), .second, .val (.int (3 : Int32)), .val (.int a0'), .val (.int a1), .val (.int a2), .val (.int i103), .val (.int i107), .val (.int i111), .val (.ref b204), .val (.ref b210), .val (.int i219), .val (.int i223), .val (.int i227), .unset, .unset, .unset, .unset] [(.int (1 : Int32))])) _
        refine XS.goto X210.here hx rfl (pc0 := 179) (pc' := 183) rfl (hb hby at_179) (by decide) (by decide) ?_
        show Steps p.tables e below (T210.setTop (mkF m 183 #[.val (.int nq), .val (.long xq), .second, .val (.long yq), .second, .val (.long zq), .second, .val (.int (3 : Int32)), .val (.int a0'), .val (.int a1), .val (.int a2), .val (.int i103), .val (.int i107), .val (.int i111), .val (.ref b204), .val (.ref b210), .val (.int i219), .val (.int i223), .val (.int i227), .unset, .unset, .unset, .unset] [(.int (1 : Int32))])) _
        exact castTop (by rw [hi231]) k
      · rw [if_neg c230] at hi231
        show Steps p.tables e below (T210.setTop (mkF m 175 #[.val (.int nq), .val (.long xq), .second, .val (.long yq), .second, .val (.long zq), .second, .val (.int (3 : Int32)), .val (.int a0'), .val (.int a1), .val (.int a2), .val (.int i103), .val (.int i107), .val (.int i111), .val (.ref b204), .val (.ref b210), .val (.int i219), .val (.int i223), .val (.int i227), .unset, .unset, .unset, .unset] [(.int i103), (.int a0')])) _
        refine XS.icmpYes X210.here hx rfl (pc0 := 175) (pc' := 182) rfl (hb hby at_175) rfl (flt c230).2.1 (by decide) (by decide) ?_
        show Steps p.tables e below (T210.setTop (mkF m 182 #[.val (.int nq), .val (.long xq), .second, .val (.long yq), .second, .val (.long zq), .second, .val (.int (3 : Int32)), .val (.int a0'), .val (.int a1), .val (.int a2), .val (.int i103), .val (.int i107), .val (.int i111), .val (.ref b204), .val (.ref b210), .val (.int i219), .val (.int i223), .val (.int i227), .unset, .unset, .unset, .unset] [])) _
        refine XS.iconst X210.here hx rfl (hb hby at_182) ?_
        show Steps p.tables e below (T210.setTop (mkF m 183 #[.val (.int nq), .val (.long xq), .second, .val (.long yq), .second, .val (.long zq), .second, .val (.int (3 : Int32)), .val (.int a0'), .val (.int a1), .val (.int a2), .val (.int i103), .val (.int i107), .val (.int i111), .val (.ref b204), .val (.ref b210), .val (.int i219), .val (.int i223), .val (.int i227), .unset, .unset, .unset, .unset] [(.int (0 : Int32))])) _
        exact castTop (by rw [hi231]) k)
    have k233 : ∀ t, Steps p.tables e below (T210.setTop (mkF m 195 #[.val (.int nq), .val (.long xq), .second, .val (.long yq), .second, .val (.long zq), .second, .val (.int (3 : Int32)), .val (.int a0'), .val (.int a1), .val (.int a2), .val (.int i103), .val (.int i107), .val (.int i111), .val (.ref b204), .val (.ref b210), .val (.int i219), .val (.int i223), .val (.int i227), .val (.int i231), .unset, .unset, .unset] [(.int i107), (.int a1)])) t → Steps p.tables e below (s₁.setTop (entryFrame m #[(.int nq), (.long xq), (.long yq), (.long zq)] maxLocals)) t := fun t k => k232 t (by
      show Steps p.tables e below (T210.setTop (mkF m 183 #[.val (.int nq), .val (.long xq), .second, .val (.long yq), .second, .val (.long zq), .second, .val (.int (3 : Int32)), .val (.int a0'), .val (.int a1), .val (.int a2), .val (.int i103), .val (.int i107), .val (.int i111), .val (.ref b204), .val (.ref b210), .val (.int i219), .val (.int i223), .val (.int i227), .unset, .unset, .unset, .unset] [(.int i231)])) _
      refine XS.istore X210.here hx rfl (hb hby at_183) rfl (l' := #[.val (.int nq), .val (.long xq), .second, .val (.long yq), .second, .val (.long zq), .second, .val (.int (3 : Int32)), .val (.int a0'), .val (.int a1), .val (.int a2), .val (.int i103), .val (.int i107), .val (.int i111), .val (.ref b204), .val (.ref b210), .val (.int i219), .val (.int i223), .val (.int i227), .val (.int i231), .unset, .unset, .unset]) rfl ?_
      show Steps p.tables e below (T210.setTop (mkF m 185 #[.val (.int nq), .val (.long xq), .second, .val (.long yq), .second, .val (.long zq), .second, .val (.int (3 : Int32)), .val (.int a0'), .val (.int a1), .val (.int a2), .val (.int i103), .val (.int i107), .val (.int i111), .val (.ref b204), .val (.ref b210), .val (.int i219), .val (.int i223), .val (.int i227), .val (.int i231), .unset, .unset, .unset] [])) _
      refine XS.iload X210.here hx rfl (hb hby at_185) rfl ?_
      show Steps p.tables e below (T210.setTop (mkF m 187 #[.val (.int nq), .val (.long xq), .second, .val (.long yq), .second, .val (.long zq), .second, .val (.int (3 : Int32)), .val (.int a0'), .val (.int a1), .val (.int a2), .val (.int i103), .val (.int i107), .val (.int i111), .val (.ref b204), .val (.ref b210), .val (.int i219), .val (.int i223), .val (.int i227), .val (.int i231), .unset, .unset, .unset] [(.int (3 : Int32))])) _
      refine XS.iconst X210.here hx rfl (hb hby at_187) ?_
      show Steps p.tables e below (T210.setTop (mkF m 188 #[.val (.int nq), .val (.long xq), .second, .val (.long yq), .second, .val (.long zq), .second, .val (.int (3 : Int32)), .val (.int a0'), .val (.int a1), .val (.int a2), .val (.int i103), .val (.int i107), .val (.int i111), .val (.ref b204), .val (.ref b210), .val (.int i219), .val (.int i223), .val (.int i227), .val (.int i231), .unset, .unset, .unset] [(.int (2 : Int32)), (.int (3 : Int32))])) _
      refine XS.icmpNo X210.here hx rfl (hb hby at_188) rfl (flt (by decide)).1 ?_
      show Steps p.tables e below (T210.setTop (mkF m 191 #[.val (.int nq), .val (.long xq), .second, .val (.long yq), .second, .val (.long zq), .second, .val (.int (3 : Int32)), .val (.int a0'), .val (.int a1), .val (.int a2), .val (.int i103), .val (.int i107), .val (.int i111), .val (.ref b204), .val (.ref b210), .val (.int i219), .val (.int i223), .val (.int i227), .val (.int i231), .unset, .unset, .unset] [])) _
      refine XS.iload X210.here hx rfl (hb hby at_191) rfl ?_
      show Steps p.tables e below (T210.setTop (mkF m 193 #[.val (.int nq), .val (.long xq), .second, .val (.long yq), .second, .val (.long zq), .second, .val (.int (3 : Int32)), .val (.int a0'), .val (.int a1), .val (.int a2), .val (.int i103), .val (.int i107), .val (.int i111), .val (.ref b204), .val (.ref b210), .val (.int i219), .val (.int i223), .val (.int i227), .val (.int i231), .unset, .unset, .unset] [(.int a1)])) _
      refine XS.iload X210.here hx rfl (hb hby at_193) rfl ?_
      exact k)
    obtain ⟨i235, hi235⟩ : ∃ z : Int32, z = (if a1 < i107 then (1 : Int32) else (0 : Int32)) := ⟨_, rfl⟩
    have k236 : ∀ t, Steps p.tables e below (T210.setTop (mkF m 203 #[.val (.int nq), .val (.long xq), .second, .val (.long yq), .second, .val (.long zq), .second, .val (.int (3 : Int32)), .val (.int a0'), .val (.int a1), .val (.int a2), .val (.int i103), .val (.int i107), .val (.int i111), .val (.ref b204), .val (.ref b210), .val (.int i219), .val (.int i223), .val (.int i227), .val (.int i231), .unset, .unset, .unset] [(.int i235)])) t → Steps p.tables e below (s₁.setTop (entryFrame m #[(.int nq), (.long xq), (.long yq), (.long zq)] maxLocals)) t := fun t k => k233 t (by
      by_cases c234 : a1 < i107
      · rw [if_pos c234] at hi235
        show Steps p.tables e below (T210.setTop (mkF m 195 #[.val (.int nq), .val (.long xq), .second, .val (.long yq), .second, .val (.long zq), .second, .val (.int (3 : Int32)), .val (.int a0'), .val (.int a1), .val (.int a2), .val (.int i103), .val (.int i107), .val (.int i111), .val (.ref b204), .val (.ref b210), .val (.int i219), .val (.int i223), .val (.int i227), .val (.int i231), .unset, .unset, .unset] [(.int i107), (.int a1)])) _
        refine XS.icmpNo X210.here hx rfl (hb hby at_195) rfl (tlt c234).2.1 ?_
        show Steps p.tables e below (T210.setTop (mkF m 198 #[.val (.int nq), .val (.long xq), .second, .val (.long yq), .second, .val (.long zq), .second, .val (.int (3 : Int32)), .val (.int a0'), .val (.int a1), .val (.int a2), .val (.int i103), .val (.int i107), .val (.int i111), .val (.ref b204), .val (.ref b210), .val (.int i219), .val (.int i223), .val (.int i227), .val (.int i231), .unset, .unset, .unset] [])) _
        refine XS.iconst X210.here hx rfl (hb hby at_198) ?_
        show Steps p.tables e below (T210.setTop (mkF m 199 #[.val (.int nq), .val (.long xq), .second, .val (.long yq), .second, .val (.long zq), .second, .val (.int (3 : Int32)), .val (.int a0'), .val (.int a1), .val (.int a2), .val (.int i103), .val (.int i107), .val (.int i111), .val (.ref b204), .val (.ref b210), .val (.int i219), .val (.int i223), .val (.int i227), .val (.int i231), .unset, .unset, .unset] [(.int (1 : Int32))])) _
        refine XS.goto X210.here hx rfl (pc0 := 199) (pc' := 203) rfl (hb hby at_199) (by decide) (by decide) ?_
        show Steps p.tables e below (T210.setTop (mkF m 203 #[.val (.int nq), .val (.long xq), .second, .val (.long yq), .second, .val (.long zq), .second, .val (.int (3 : Int32)), .val (.int a0'), .val (.int a1), .val (.int a2), .val (.int i103), .val (.int i107), .val (.int i111), .val (.ref b204), .val (.ref b210), .val (.int i219), .val (.int i223), .val (.int i227), .val (.int i231), .unset, .unset, .unset] [(.int (1 : Int32))])) _
        exact castTop (by rw [hi235]) k
      · rw [if_neg c234] at hi235
        show Steps p.tables e below (T210.setTop (mkF m 195 #[.val (.int nq), .val (.long xq), .second, .val (.long yq), .second, .val (.long zq), .second, .val (.int (3 : Int32)), .val (.int a0'), .val (.int a1), .val (.int a2), .val (.int i103), .val (.int i107), .val (.int i111), .val (.ref b204), .val (.ref b210), .val (.int i219), .val (.int i223), .val (.int i227), .val (.int i231), .unset, .unset, .unset] [(.int i107), (.int a1)])) _
        refine XS.icmpYes X210.here hx rfl (pc0 := 195) (pc' := 202) rfl (hb hby at_195) rfl (flt c234).2.1 (by decide) (by decide) ?_
        show Steps p.tables e below (T210.setTop (mkF m 202 #[.val (.int nq), .val (.long xq), .second, .val (.long yq), .second, .val (.long zq), .second, .val (.int (3 : Int32)), .val (.int a0'), .val (.int a1), .val (.int a2), .val (.int i103), .val (.int i107), .val (.int i111), .val (.ref b204), .val (.ref b210), .val (.int i219), .val (.int i223), .val (.int i227), .val (.int i231), .unset, .unset, .unset] [])) _
        refine XS.iconst X210.here hx rfl (hb hby at_202) ?_
        show Steps p.tables e below (T210.setTop (mkF m 203 #[.val (.int nq), .val (.long xq), .second, .val (.long yq), .second, .val (.long zq), .second, .val (.int (3 : Int32)), .val (.int a0'), .val (.int a1), .val (.int a2), .val (.int i103), .val (.int i107), .val (.int i111), .val (.ref b204), .val (.ref b210), .val (.int i219), .val (.int i223), .val (.int i227), .val (.int i231), .unset, .unset, .unset] [(.int (0 : Int32))])) _
        exact castTop (by rw [hi235]) k)
    have k237 : ∀ t, Steps p.tables e below (T210.setTop (mkF m 215 #[.val (.int nq), .val (.long xq), .second, .val (.long yq), .second, .val (.long zq), .second, .val (.int (3 : Int32)), .val (.int a0'), .val (.int a1), .val (.int a2), .val (.int i103), .val (.int i107), .val (.int i111), .val (.ref b204), .val (.ref b210), .val (.int i219), .val (.int i223), .val (.int i227), .val (.int i231), .val (.int i235), .unset, .unset] [(.int i111), (.int a2)])) t → Steps p.tables e below (s₁.setTop (entryFrame m #[(.int nq), (.long xq), (.long yq), (.long zq)] maxLocals)) t := fun t k => k236 t (by
      show Steps p.tables e below (T210.setTop (mkF m 203 #[.val (.int nq), .val (.long xq), .second, .val (.long yq), .second, .val (.long zq), .second, .val (.int (3 : Int32)), .val (.int a0'), .val (.int a1), .val (.int a2), .val (.int i103), .val (.int i107), .val (.int i111), .val (.ref b204), .val (.ref b210), .val (.int i219), .val (.int i223), .val (.int i227), .val (.int i231), .unset, .unset, .unset] [(.int i235)])) _
      refine XS.istore X210.here hx rfl (hb hby at_203) rfl (l' := #[.val (.int nq), .val (.long xq), .second, .val (.long yq), .second, .val (.long zq), .second, .val (.int (3 : Int32)), .val (.int a0'), .val (.int a1), .val (.int a2), .val (.int i103), .val (.int i107), .val (.int i111), .val (.ref b204), .val (.ref b210), .val (.int i219), .val (.int i223), .val (.int i227), .val (.int i231), .val (.int i235), .unset, .unset]) rfl ?_
      show Steps p.tables e below (T210.setTop (mkF m 205 #[.val (.int nq), .val (.long xq), .second, .val (.long yq), .second, .val (.long zq), .second, .val (.int (3 : Int32)), .val (.int a0'), .val (.int a1), .val (.int a2), .val (.int i103), .val (.int i107), .val (.int i111), .val (.ref b204), .val (.ref b210), .val (.int i219), .val (.int i223), .val (.int i227), .val (.int i231), .val (.int i235), .unset, .unset] [])) _
      refine XS.iload X210.here hx rfl (hb hby at_205) rfl ?_
      show Steps p.tables e below (T210.setTop (mkF m 207 #[.val (.int nq), .val (.long xq), .second, .val (.long yq), .second, .val (.long zq), .second, .val (.int (3 : Int32)), .val (.int a0'), .val (.int a1), .val (.int a2), .val (.int i103), .val (.int i107), .val (.int i111), .val (.ref b204), .val (.ref b210), .val (.int i219), .val (.int i223), .val (.int i227), .val (.int i231), .val (.int i235), .unset, .unset] [(.int (3 : Int32))])) _
      refine XS.iconst X210.here hx rfl (hb hby at_207) ?_
      show Steps p.tables e below (T210.setTop (mkF m 208 #[.val (.int nq), .val (.long xq), .second, .val (.long yq), .second, .val (.long zq), .second, .val (.int (3 : Int32)), .val (.int a0'), .val (.int a1), .val (.int a2), .val (.int i103), .val (.int i107), .val (.int i111), .val (.ref b204), .val (.ref b210), .val (.int i219), .val (.int i223), .val (.int i227), .val (.int i231), .val (.int i235), .unset, .unset] [(.int (3 : Int32)), (.int (3 : Int32))])) _
      refine XS.icmpNo X210.here hx rfl (hb hby at_208) rfl (flt (by decide)).1 ?_
      show Steps p.tables e below (T210.setTop (mkF m 211 #[.val (.int nq), .val (.long xq), .second, .val (.long yq), .second, .val (.long zq), .second, .val (.int (3 : Int32)), .val (.int a0'), .val (.int a1), .val (.int a2), .val (.int i103), .val (.int i107), .val (.int i111), .val (.ref b204), .val (.ref b210), .val (.int i219), .val (.int i223), .val (.int i227), .val (.int i231), .val (.int i235), .unset, .unset] [])) _
      refine XS.iload X210.here hx rfl (hb hby at_211) rfl ?_
      show Steps p.tables e below (T210.setTop (mkF m 213 #[.val (.int nq), .val (.long xq), .second, .val (.long yq), .second, .val (.long zq), .second, .val (.int (3 : Int32)), .val (.int a0'), .val (.int a1), .val (.int a2), .val (.int i103), .val (.int i107), .val (.int i111), .val (.ref b204), .val (.ref b210), .val (.int i219), .val (.int i223), .val (.int i227), .val (.int i231), .val (.int i235), .unset, .unset] [(.int a2)])) _
      refine XS.iload X210.here hx rfl (hb hby at_213) rfl ?_
      exact k)
    obtain ⟨i239, hi239⟩ : ∃ z : Int32, z = (if a2 < i111 then (1 : Int32) else (0 : Int32)) := ⟨_, rfl⟩
    have k240 : ∀ t, Steps p.tables e below (T210.setTop (mkF m 223 #[.val (.int nq), .val (.long xq), .second, .val (.long yq), .second, .val (.long zq), .second, .val (.int (3 : Int32)), .val (.int a0'), .val (.int a1), .val (.int a2), .val (.int i103), .val (.int i107), .val (.int i111), .val (.ref b204), .val (.ref b210), .val (.int i219), .val (.int i223), .val (.int i227), .val (.int i231), .val (.int i235), .unset, .unset] [(.int i239)])) t → Steps p.tables e below (s₁.setTop (entryFrame m #[(.int nq), (.long xq), (.long yq), (.long zq)] maxLocals)) t := fun t k => k237 t (by
      by_cases c238 : a2 < i111
      · rw [if_pos c238] at hi239
        show Steps p.tables e below (T210.setTop (mkF m 215 #[.val (.int nq), .val (.long xq), .second, .val (.long yq), .second, .val (.long zq), .second, .val (.int (3 : Int32)), .val (.int a0'), .val (.int a1), .val (.int a2), .val (.int i103), .val (.int i107), .val (.int i111), .val (.ref b204), .val (.ref b210), .val (.int i219), .val (.int i223), .val (.int i227), .val (.int i231), .val (.int i235), .unset, .unset] [(.int i111), (.int a2)])) _
        refine XS.icmpNo X210.here hx rfl (hb hby at_215) rfl (tlt c238).2.1 ?_
        show Steps p.tables e below (T210.setTop (mkF m 218 #[.val (.int nq), .val (.long xq), .second, .val (.long yq), .second, .val (.long zq), .second, .val (.int (3 : Int32)), .val (.int a0'), .val (.int a1), .val (.int a2), .val (.int i103), .val (.int i107), .val (.int i111), .val (.ref b204), .val (.ref b210), .val (.int i219), .val (.int i223), .val (.int i227), .val (.int i231), .val (.int i235), .unset, .unset] [])) _
        refine XS.iconst X210.here hx rfl (hb hby at_218) ?_
        show Steps p.tables e below (T210.setTop (mkF m 219 #[.val (.int nq), .val (.long xq), .second, .val (.long yq), .second, .val (.long zq), .second, .val (.int (3 : Int32)), .val (.int a0'), .val (.int a1), .val (.int a2), .val (.int i103), .val (.int i107), .val (.int i111), .val (.ref b204), .val (.ref b210), .val (.int i219), .val (.int i223), .val (.int i227), .val (.int i231), .val (.int i235), .unset, .unset] [(.int (1 : Int32))])) _
        refine XS.goto X210.here hx rfl (pc0 := 219) (pc' := 223) rfl (hb hby at_219) (by decide) (by decide) ?_
        show Steps p.tables e below (T210.setTop (mkF m 223 #[.val (.int nq), .val (.long xq), .second, .val (.long yq), .second, .val (.long zq), .second, .val (.int (3 : Int32)), .val (.int a0'), .val (.int a1), .val (.int a2), .val (.int i103), .val (.int i107), .val (.int i111), .val (.ref b204), .val (.ref b210), .val (.int i219), .val (.int i223), .val (.int i227), .val (.int i231), .val (.int i235), .unset, .unset] [(.int (1 : Int32))])) _
        exact castTop (by rw [hi239]) k
      · rw [if_neg c238] at hi239
        show Steps p.tables e below (T210.setTop (mkF m 215 #[.val (.int nq), .val (.long xq), .second, .val (.long yq), .second, .val (.long zq), .second, .val (.int (3 : Int32)), .val (.int a0'), .val (.int a1), .val (.int a2), .val (.int i103), .val (.int i107), .val (.int i111), .val (.ref b204), .val (.ref b210), .val (.int i219), .val (.int i223), .val (.int i227), .val (.int i231), .val (.int i235), .unset, .unset] [(.int i111), (.int a2)])) _
        refine XS.icmpYes X210.here hx rfl (pc0 := 215) (pc' := 222) rfl (hb hby at_215) rfl (flt c238).2.1 (by decide) (by decide) ?_
        show Steps p.tables e below (T210.setTop (mkF m 222 #[.val (.int nq), .val (.long xq), .second, .val (.long yq), .second, .val (.long zq), .second, .val (.int (3 : Int32)), .val (.int a0'), .val (.int a1), .val (.int a2), .val (.int i103), .val (.int i107), .val (.int i111), .val (.ref b204), .val (.ref b210), .val (.int i219), .val (.int i223), .val (.int i227), .val (.int i231), .val (.int i235), .unset, .unset] [])) _
        refine XS.iconst X210.here hx rfl (hb hby at_222) ?_
        show Steps p.tables e below (T210.setTop (mkF m 223 #[.val (.int nq), .val (.long xq), .second, .val (.long yq), .second, .val (.long zq), .second, .val (.int (3 : Int32)), .val (.int a0'), .val (.int a1), .val (.int a2), .val (.int i103), .val (.int i107), .val (.int i111), .val (.ref b204), .val (.ref b210), .val (.int i219), .val (.int i223), .val (.int i227), .val (.int i231), .val (.int i235), .unset, .unset] [(.int (0 : Int32))])) _
        exact castTop (by rw [hi239]) k)
    have k241 : ∀ t, Steps p.tables e below (T210.setTop (mkF m 227 #[.val (.int nq), .val (.long xq), .second, .val (.long yq), .second, .val (.long zq), .second, .val (.int (3 : Int32)), .val (.int a0'), .val (.int a1), .val (.int a2), .val (.int i103), .val (.int i107), .val (.int i111), .val (.ref b204), .val (.ref b210), .val (.int i219), .val (.int i223), .val (.int i227), .val (.int i231), .val (.int i235), .val (.int i239), .unset] [(.int i219)])) t → Steps p.tables e below (s₁.setTop (entryFrame m #[(.int nq), (.long xq), (.long yq), (.long zq)] maxLocals)) t := fun t k => k240 t (by
      show Steps p.tables e below (T210.setTop (mkF m 223 #[.val (.int nq), .val (.long xq), .second, .val (.long yq), .second, .val (.long zq), .second, .val (.int (3 : Int32)), .val (.int a0'), .val (.int a1), .val (.int a2), .val (.int i103), .val (.int i107), .val (.int i111), .val (.ref b204), .val (.ref b210), .val (.int i219), .val (.int i223), .val (.int i227), .val (.int i231), .val (.int i235), .unset, .unset] [(.int i239)])) _
      refine XS.istore X210.here hx rfl (hb hby at_223) rfl (l' := #[.val (.int nq), .val (.long xq), .second, .val (.long yq), .second, .val (.long zq), .second, .val (.int (3 : Int32)), .val (.int a0'), .val (.int a1), .val (.int a2), .val (.int i103), .val (.int i107), .val (.int i111), .val (.ref b204), .val (.ref b210), .val (.int i219), .val (.int i223), .val (.int i227), .val (.int i231), .val (.int i235), .val (.int i239), .unset]) rfl ?_
      show Steps p.tables e below (T210.setTop (mkF m 225 #[.val (.int nq), .val (.long xq), .second, .val (.long yq), .second, .val (.long zq), .second, .val (.int (3 : Int32)), .val (.int a0'), .val (.int a1), .val (.int a2), .val (.int i103), .val (.int i107), .val (.int i111), .val (.ref b204), .val (.ref b210), .val (.int i219), .val (.int i223), .val (.int i227), .val (.int i231), .val (.int i235), .val (.int i239), .unset] [])) _
      refine XS.iload X210.here hx rfl (hb hby at_225) rfl ?_
      exact k)
    obtain ⟨i248, hi248⟩ : ∃ z : Int32, z = (if i219 = (0 : Int32) then (0 : Int32) else (if i223 = (0 : Int32) then (0 : Int32) else (if i227 = (0 : Int32) then (0 : Int32) else (if i231 = (0 : Int32) then (if i235 = (0 : Int32) then (if i239 = (0 : Int32) then (0 : Int32) else (1 : Int32)) else (1 : Int32)) else (1 : Int32))))) := ⟨_, rfl⟩
    have k249 : ∀ t, Steps p.tables e below (T210.setTop (mkF m 260 #[.val (.int nq), .val (.long xq), .second, .val (.long yq), .second, .val (.long zq), .second, .val (.int (3 : Int32)), .val (.int a0'), .val (.int a1), .val (.int a2), .val (.int i103), .val (.int i107), .val (.int i111), .val (.ref b204), .val (.ref b210), .val (.int i219), .val (.int i223), .val (.int i227), .val (.int i231), .val (.int i235), .val (.int i239), .unset] [(.int i248)])) t → Steps p.tables e below (s₁.setTop (entryFrame m #[(.int nq), (.long xq), (.long yq), (.long zq)] maxLocals)) t := fun t k => k241 t (by
      by_cases c242 : i219 = (0 : Int32)
      · rw [if_pos c242] at hi248
        show Steps p.tables e below (T210.setTop (mkF m 227 #[.val (.int nq), .val (.long xq), .second, .val (.long yq), .second, .val (.long zq), .second, .val (.int (3 : Int32)), .val (.int a0'), .val (.int a1), .val (.int a2), .val (.int i103), .val (.int i107), .val (.int i111), .val (.ref b204), .val (.ref b210), .val (.int i219), .val (.int i223), .val (.int i227), .val (.int i231), .val (.int i235), .val (.int i239), .unset] [(.int i219)])) _
        refine XS.ifYes X210.here hx rfl (pc0 := 227) (pc' := 259) rfl (hb hby at_227) rfl ((if0 _ _).trans (teq c242).1) (by decide) (by decide) ?_
        show Steps p.tables e below (T210.setTop (mkF m 259 #[.val (.int nq), .val (.long xq), .second, .val (.long yq), .second, .val (.long zq), .second, .val (.int (3 : Int32)), .val (.int a0'), .val (.int a1), .val (.int a2), .val (.int i103), .val (.int i107), .val (.int i111), .val (.ref b204), .val (.ref b210), .val (.int i219), .val (.int i223), .val (.int i227), .val (.int i231), .val (.int i235), .val (.int i239), .unset] [])) _
        refine XS.iconst X210.here hx rfl (hb hby at_259) ?_
        show Steps p.tables e below (T210.setTop (mkF m 260 #[.val (.int nq), .val (.long xq), .second, .val (.long yq), .second, .val (.long zq), .second, .val (.int (3 : Int32)), .val (.int a0'), .val (.int a1), .val (.int a2), .val (.int i103), .val (.int i107), .val (.int i111), .val (.ref b204), .val (.ref b210), .val (.int i219), .val (.int i223), .val (.int i227), .val (.int i231), .val (.int i235), .val (.int i239), .unset] [(.int (0 : Int32))])) _
        exact castTop (by rw [hi248]) k
      · rw [if_neg c242] at hi248
        show Steps p.tables e below (T210.setTop (mkF m 227 #[.val (.int nq), .val (.long xq), .second, .val (.long yq), .second, .val (.long zq), .second, .val (.int (3 : Int32)), .val (.int a0'), .val (.int a1), .val (.int a2), .val (.int i103), .val (.int i107), .val (.int i111), .val (.ref b204), .val (.ref b210), .val (.int i219), .val (.int i223), .val (.int i227), .val (.int i231), .val (.int i235), .val (.int i239), .unset] [(.int i219)])) _
        refine XS.ifNo X210.here hx rfl (hb hby at_227) rfl ((if0 _ _).trans (feq c242).1) ?_
        show Steps p.tables e below (T210.setTop (mkF m 230 #[.val (.int nq), .val (.long xq), .second, .val (.long yq), .second, .val (.long zq), .second, .val (.int (3 : Int32)), .val (.int a0'), .val (.int a1), .val (.int a2), .val (.int i103), .val (.int i107), .val (.int i111), .val (.ref b204), .val (.ref b210), .val (.int i219), .val (.int i223), .val (.int i227), .val (.int i231), .val (.int i235), .val (.int i239), .unset] [])) _
        refine XS.iload X210.here hx rfl (hb hby at_230) rfl ?_
        by_cases c243 : i223 = (0 : Int32)
        · rw [if_pos c243] at hi248
          show Steps p.tables e below (T210.setTop (mkF m 232 #[.val (.int nq), .val (.long xq), .second, .val (.long yq), .second, .val (.long zq), .second, .val (.int (3 : Int32)), .val (.int a0'), .val (.int a1), .val (.int a2), .val (.int i103), .val (.int i107), .val (.int i111), .val (.ref b204), .val (.ref b210), .val (.int i219), .val (.int i223), .val (.int i227), .val (.int i231), .val (.int i235), .val (.int i239), .unset] [(.int i223)])) _
          refine XS.ifYes X210.here hx rfl (pc0 := 232) (pc' := 259) rfl (hb hby at_232) rfl ((if0 _ _).trans (teq c243).1) (by decide) (by decide) ?_
          show Steps p.tables e below (T210.setTop (mkF m 259 #[.val (.int nq), .val (.long xq), .second, .val (.long yq), .second, .val (.long zq), .second, .val (.int (3 : Int32)), .val (.int a0'), .val (.int a1), .val (.int a2), .val (.int i103), .val (.int i107), .val (.int i111), .val (.ref b204), .val (.ref b210), .val (.int i219), .val (.int i223), .val (.int i227), .val (.int i231), .val (.int i235), .val (.int i239), .unset] [])) _
          refine XS.iconst X210.here hx rfl (hb hby at_259) ?_
          show Steps p.tables e below (T210.setTop (mkF m 260 #[.val (.int nq), .val (.long xq), .second, .val (.long yq), .second, .val (.long zq), .second, .val (.int (3 : Int32)), .val (.int a0'), .val (.int a1), .val (.int a2), .val (.int i103), .val (.int i107), .val (.int i111), .val (.ref b204), .val (.ref b210), .val (.int i219), .val (.int i223), .val (.int i227), .val (.int i231), .val (.int i235), .val (.int i239), .unset] [(.int (0 : Int32))])) _
          exact castTop (by rw [hi248]) k
        · rw [if_neg c243] at hi248
          show Steps p.tables e below (T210.setTop (mkF m 232 #[.val (.int nq), .val (.long xq), .second, .val (.long yq), .second, .val (.long zq), .second, .val (.int (3 : Int32)), .val (.int a0'), .val (.int a1), .val (.int a2), .val (.int i103), .val (.int i107), .val (.int i111), .val (.ref b204), .val (.ref b210), .val (.int i219), .val (.int i223), .val (.int i227), .val (.int i231), .val (.int i235), .val (.int i239), .unset] [(.int i223)])) _
          refine XS.ifNo X210.here hx rfl (hb hby at_232) rfl ((if0 _ _).trans (feq c243).1) ?_
          show Steps p.tables e below (T210.setTop (mkF m 235 #[.val (.int nq), .val (.long xq), .second, .val (.long yq), .second, .val (.long zq), .second, .val (.int (3 : Int32)), .val (.int a0'), .val (.int a1), .val (.int a2), .val (.int i103), .val (.int i107), .val (.int i111), .val (.ref b204), .val (.ref b210), .val (.int i219), .val (.int i223), .val (.int i227), .val (.int i231), .val (.int i235), .val (.int i239), .unset] [])) _
          refine XS.iload X210.here hx rfl (hb hby at_235) rfl ?_
          by_cases c244 : i227 = (0 : Int32)
          · rw [if_pos c244] at hi248
            show Steps p.tables e below (T210.setTop (mkF m 237 #[.val (.int nq), .val (.long xq), .second, .val (.long yq), .second, .val (.long zq), .second, .val (.int (3 : Int32)), .val (.int a0'), .val (.int a1), .val (.int a2), .val (.int i103), .val (.int i107), .val (.int i111), .val (.ref b204), .val (.ref b210), .val (.int i219), .val (.int i223), .val (.int i227), .val (.int i231), .val (.int i235), .val (.int i239), .unset] [(.int i227)])) _
            refine XS.ifYes X210.here hx rfl (pc0 := 237) (pc' := 259) rfl (hb hby at_237) rfl ((if0 _ _).trans (teq c244).1) (by decide) (by decide) ?_
            show Steps p.tables e below (T210.setTop (mkF m 259 #[.val (.int nq), .val (.long xq), .second, .val (.long yq), .second, .val (.long zq), .second, .val (.int (3 : Int32)), .val (.int a0'), .val (.int a1), .val (.int a2), .val (.int i103), .val (.int i107), .val (.int i111), .val (.ref b204), .val (.ref b210), .val (.int i219), .val (.int i223), .val (.int i227), .val (.int i231), .val (.int i235), .val (.int i239), .unset] [])) _
            refine XS.iconst X210.here hx rfl (hb hby at_259) ?_
            show Steps p.tables e below (T210.setTop (mkF m 260 #[.val (.int nq), .val (.long xq), .second, .val (.long yq), .second, .val (.long zq), .second, .val (.int (3 : Int32)), .val (.int a0'), .val (.int a1), .val (.int a2), .val (.int i103), .val (.int i107), .val (.int i111), .val (.ref b204), .val (.ref b210), .val (.int i219), .val (.int i223), .val (.int i227), .val (.int i231), .val (.int i235), .val (.int i239), .unset] [(.int (0 : Int32))])) _
            exact castTop (by rw [hi248]) k
          · rw [if_neg c244] at hi248
            show Steps p.tables e below (T210.setTop (mkF m 237 #[.val (.int nq), .val (.long xq), .second, .val (.long yq), .second, .val (.long zq), .second, .val (.int (3 : Int32)), .val (.int a0'), .val (.int a1), .val (.int a2), .val (.int i103), .val (.int i107), .val (.int i111), .val (.ref b204), .val (.ref b210), .val (.int i219), .val (.int i223), .val (.int i227), .val (.int i231), .val (.int i235), .val (.int i239), .unset] [(.int i227)])) _
            refine XS.ifNo X210.here hx rfl (hb hby at_237) rfl ((if0 _ _).trans (feq c244).1) ?_
            show Steps p.tables e below (T210.setTop (mkF m 240 #[.val (.int nq), .val (.long xq), .second, .val (.long yq), .second, .val (.long zq), .second, .val (.int (3 : Int32)), .val (.int a0'), .val (.int a1), .val (.int a2), .val (.int i103), .val (.int i107), .val (.int i111), .val (.ref b204), .val (.ref b210), .val (.int i219), .val (.int i223), .val (.int i227), .val (.int i231), .val (.int i235), .val (.int i239), .unset] [])) _
            refine XS.iload X210.here hx rfl (hb hby at_240) rfl ?_
            by_cases c245 : i231 = (0 : Int32)
            · rw [if_pos c245] at hi248
              show Steps p.tables e below (T210.setTop (mkF m 242 #[.val (.int nq), .val (.long xq), .second, .val (.long yq), .second, .val (.long zq), .second, .val (.int (3 : Int32)), .val (.int a0'), .val (.int a1), .val (.int a2), .val (.int i103), .val (.int i107), .val (.int i111), .val (.ref b204), .val (.ref b210), .val (.int i219), .val (.int i223), .val (.int i227), .val (.int i231), .val (.int i235), .val (.int i239), .unset] [(.int i231)])) _
              refine XS.ifNo X210.here hx rfl (hb hby at_242) rfl ((if0 _ _).trans (teq c245).2) ?_
              show Steps p.tables e below (T210.setTop (mkF m 245 #[.val (.int nq), .val (.long xq), .second, .val (.long yq), .second, .val (.long zq), .second, .val (.int (3 : Int32)), .val (.int a0'), .val (.int a1), .val (.int a2), .val (.int i103), .val (.int i107), .val (.int i111), .val (.ref b204), .val (.ref b210), .val (.int i219), .val (.int i223), .val (.int i227), .val (.int i231), .val (.int i235), .val (.int i239), .unset] [])) _
              refine XS.iload X210.here hx rfl (hb hby at_245) rfl ?_
              by_cases c246 : i235 = (0 : Int32)
              · rw [if_pos c246] at hi248
                show Steps p.tables e below (T210.setTop (mkF m 247 #[.val (.int nq), .val (.long xq), .second, .val (.long yq), .second, .val (.long zq), .second, .val (.int (3 : Int32)), .val (.int a0'), .val (.int a1), .val (.int a2), .val (.int i103), .val (.int i107), .val (.int i111), .val (.ref b204), .val (.ref b210), .val (.int i219), .val (.int i223), .val (.int i227), .val (.int i231), .val (.int i235), .val (.int i239), .unset] [(.int i235)])) _
                refine XS.ifNo X210.here hx rfl (hb hby at_247) rfl ((if0 _ _).trans (teq c246).2) ?_
                show Steps p.tables e below (T210.setTop (mkF m 250 #[.val (.int nq), .val (.long xq), .second, .val (.long yq), .second, .val (.long zq), .second, .val (.int (3 : Int32)), .val (.int a0'), .val (.int a1), .val (.int a2), .val (.int i103), .val (.int i107), .val (.int i111), .val (.ref b204), .val (.ref b210), .val (.int i219), .val (.int i223), .val (.int i227), .val (.int i231), .val (.int i235), .val (.int i239), .unset] [])) _
                refine XS.iload X210.here hx rfl (hb hby at_250) rfl ?_
                by_cases c247 : i239 = (0 : Int32)
                · rw [if_pos c247] at hi248
                  show Steps p.tables e below (T210.setTop (mkF m 252 #[.val (.int nq), .val (.long xq), .second, .val (.long yq), .second, .val (.long zq), .second, .val (.int (3 : Int32)), .val (.int a0'), .val (.int a1), .val (.int a2), .val (.int i103), .val (.int i107), .val (.int i111), .val (.ref b204), .val (.ref b210), .val (.int i219), .val (.int i223), .val (.int i227), .val (.int i231), .val (.int i235), .val (.int i239), .unset] [(.int i239)])) _
                  refine XS.ifYes X210.here hx rfl (pc0 := 252) (pc' := 259) rfl (hb hby at_252) rfl ((if0 _ _).trans (teq c247).1) (by decide) (by decide) ?_
                  show Steps p.tables e below (T210.setTop (mkF m 259 #[.val (.int nq), .val (.long xq), .second, .val (.long yq), .second, .val (.long zq), .second, .val (.int (3 : Int32)), .val (.int a0'), .val (.int a1), .val (.int a2), .val (.int i103), .val (.int i107), .val (.int i111), .val (.ref b204), .val (.ref b210), .val (.int i219), .val (.int i223), .val (.int i227), .val (.int i231), .val (.int i235), .val (.int i239), .unset] [])) _
                  refine XS.iconst X210.here hx rfl (hb hby at_259) ?_
                  show Steps p.tables e below (T210.setTop (mkF m 260 #[.val (.int nq), .val (.long xq), .second, .val (.long yq), .second, .val (.long zq), .second, .val (.int (3 : Int32)), .val (.int a0'), .val (.int a1), .val (.int a2), .val (.int i103), .val (.int i107), .val (.int i111), .val (.ref b204), .val (.ref b210), .val (.int i219), .val (.int i223), .val (.int i227), .val (.int i231), .val (.int i235), .val (.int i239), .unset] [(.int (0 : Int32))])) _
                  exact castTop (by rw [hi248]) k
                · rw [if_neg c247] at hi248
                  show Steps p.tables e below (T210.setTop (mkF m 252 #[.val (.int nq), .val (.long xq), .second, .val (.long yq), .second, .val (.long zq), .second, .val (.int (3 : Int32)), .val (.int a0'), .val (.int a1), .val (.int a2), .val (.int i103), .val (.int i107), .val (.int i111), .val (.ref b204), .val (.ref b210), .val (.int i219), .val (.int i223), .val (.int i227), .val (.int i231), .val (.int i235), .val (.int i239), .unset] [(.int i239)])) _
                  refine XS.ifNo X210.here hx rfl (hb hby at_252) rfl ((if0 _ _).trans (feq c247).1) ?_
                  show Steps p.tables e below (T210.setTop (mkF m 255 #[.val (.int nq), .val (.long xq), .second, .val (.long yq), .second, .val (.long zq), .second, .val (.int (3 : Int32)), .val (.int a0'), .val (.int a1), .val (.int a2), .val (.int i103), .val (.int i107), .val (.int i111), .val (.ref b204), .val (.ref b210), .val (.int i219), .val (.int i223), .val (.int i227), .val (.int i231), .val (.int i235), .val (.int i239), .unset] [])) _
                  refine XS.iconst X210.here hx rfl (hb hby at_255) ?_
                  show Steps p.tables e below (T210.setTop (mkF m 256 #[.val (.int nq), .val (.long xq), .second, .val (.long yq), .second, .val (.long zq), .second, .val (.int (3 : Int32)), .val (.int a0'), .val (.int a1), .val (.int a2), .val (.int i103), .val (.int i107), .val (.int i111), .val (.ref b204), .val (.ref b210), .val (.int i219), .val (.int i223), .val (.int i227), .val (.int i231), .val (.int i235), .val (.int i239), .unset] [(.int (1 : Int32))])) _
                  refine XS.goto X210.here hx rfl (pc0 := 256) (pc' := 260) rfl (hb hby at_256) (by decide) (by decide) ?_
                  show Steps p.tables e below (T210.setTop (mkF m 260 #[.val (.int nq), .val (.long xq), .second, .val (.long yq), .second, .val (.long zq), .second, .val (.int (3 : Int32)), .val (.int a0'), .val (.int a1), .val (.int a2), .val (.int i103), .val (.int i107), .val (.int i111), .val (.ref b204), .val (.ref b210), .val (.int i219), .val (.int i223), .val (.int i227), .val (.int i231), .val (.int i235), .val (.int i239), .unset] [(.int (1 : Int32))])) _
                  exact castTop (by rw [hi248]) k
              · rw [if_neg c246] at hi248
                show Steps p.tables e below (T210.setTop (mkF m 247 #[.val (.int nq), .val (.long xq), .second, .val (.long yq), .second, .val (.long zq), .second, .val (.int (3 : Int32)), .val (.int a0'), .val (.int a1), .val (.int a2), .val (.int i103), .val (.int i107), .val (.int i111), .val (.ref b204), .val (.ref b210), .val (.int i219), .val (.int i223), .val (.int i227), .val (.int i231), .val (.int i235), .val (.int i239), .unset] [(.int i235)])) _
                refine XS.ifYes X210.here hx rfl (pc0 := 247) (pc' := 255) rfl (hb hby at_247) rfl ((if0 _ _).trans (feq c246).2) (by decide) (by decide) ?_
                show Steps p.tables e below (T210.setTop (mkF m 255 #[.val (.int nq), .val (.long xq), .second, .val (.long yq), .second, .val (.long zq), .second, .val (.int (3 : Int32)), .val (.int a0'), .val (.int a1), .val (.int a2), .val (.int i103), .val (.int i107), .val (.int i111), .val (.ref b204), .val (.ref b210), .val (.int i219), .val (.int i223), .val (.int i227), .val (.int i231), .val (.int i235), .val (.int i239), .unset] [])) _
                refine XS.iconst X210.here hx rfl (hb hby at_255) ?_
                show Steps p.tables e below (T210.setTop (mkF m 256 #[.val (.int nq), .val (.long xq), .second, .val (.long yq), .second, .val (.long zq), .second, .val (.int (3 : Int32)), .val (.int a0'), .val (.int a1), .val (.int a2), .val (.int i103), .val (.int i107), .val (.int i111), .val (.ref b204), .val (.ref b210), .val (.int i219), .val (.int i223), .val (.int i227), .val (.int i231), .val (.int i235), .val (.int i239), .unset] [(.int (1 : Int32))])) _
                refine XS.goto X210.here hx rfl (pc0 := 256) (pc' := 260) rfl (hb hby at_256) (by decide) (by decide) ?_
                show Steps p.tables e below (T210.setTop (mkF m 260 #[.val (.int nq), .val (.long xq), .second, .val (.long yq), .second, .val (.long zq), .second, .val (.int (3 : Int32)), .val (.int a0'), .val (.int a1), .val (.int a2), .val (.int i103), .val (.int i107), .val (.int i111), .val (.ref b204), .val (.ref b210), .val (.int i219), .val (.int i223), .val (.int i227), .val (.int i231), .val (.int i235), .val (.int i239), .unset] [(.int (1 : Int32))])) _
                exact castTop (by rw [hi248]) k
            · rw [if_neg c245] at hi248
              show Steps p.tables e below (T210.setTop (mkF m 242 #[.val (.int nq), .val (.long xq), .second, .val (.long yq), .second, .val (.long zq), .second, .val (.int (3 : Int32)), .val (.int a0'), .val (.int a1), .val (.int a2), .val (.int i103), .val (.int i107), .val (.int i111), .val (.ref b204), .val (.ref b210), .val (.int i219), .val (.int i223), .val (.int i227), .val (.int i231), .val (.int i235), .val (.int i239), .unset] [(.int i231)])) _
              refine XS.ifYes X210.here hx rfl (pc0 := 242) (pc' := 255) rfl (hb hby at_242) rfl ((if0 _ _).trans (feq c245).2) (by decide) (by decide) ?_
              show Steps p.tables e below (T210.setTop (mkF m 255 #[.val (.int nq), .val (.long xq), .second, .val (.long yq), .second, .val (.long zq), .second, .val (.int (3 : Int32)), .val (.int a0'), .val (.int a1), .val (.int a2), .val (.int i103), .val (.int i107), .val (.int i111), .val (.ref b204), .val (.ref b210), .val (.int i219), .val (.int i223), .val (.int i227), .val (.int i231), .val (.int i235), .val (.int i239), .unset] [])) _
              refine XS.iconst X210.here hx rfl (hb hby at_255) ?_
              show Steps p.tables e below (T210.setTop (mkF m 256 #[.val (.int nq), .val (.long xq), .second, .val (.long yq), .second, .val (.long zq), .second, .val (.int (3 : Int32)), .val (.int a0'), .val (.int a1), .val (.int a2), .val (.int i103), .val (.int i107), .val (.int i111), .val (.ref b204), .val (.ref b210), .val (.int i219), .val (.int i223), .val (.int i227), .val (.int i231), .val (.int i235), .val (.int i239), .unset] [(.int (1 : Int32))])) _
              refine XS.goto X210.here hx rfl (pc0 := 256) (pc' := 260) rfl (hb hby at_256) (by decide) (by decide) ?_
              show Steps p.tables e below (T210.setTop (mkF m 260 #[.val (.int nq), .val (.long xq), .second, .val (.long yq), .second, .val (.long zq), .second, .val (.int (3 : Int32)), .val (.int a0'), .val (.int a1), .val (.int a2), .val (.int i103), .val (.int i107), .val (.int i111), .val (.ref b204), .val (.ref b210), .val (.int i219), .val (.int i223), .val (.int i227), .val (.int i231), .val (.int i235), .val (.int i239), .unset] [(.int (1 : Int32))])) _
              exact castTop (by rw [hi248]) k)
    have k250 : ∀ t, Steps p.tables e below (T210.setTop (mkF m 266 #[.val (.int nq), .val (.long xq), .second, .val (.long yq), .second, .val (.long zq), .second, .val (.int (3 : Int32)), .val (.int a0'), .val (.int a1), .val (.int a2), .val (.int i103), .val (.int i107), .val (.int i111), .val (.ref b204), .val (.ref b210), .val (.int i219), .val (.int i223), .val (.int i227), .val (.int i231), .val (.int i235), .val (.int i239), .val (.int i248)] [(.ref b210), (.ref b204)])) t → Steps p.tables e below (s₁.setTop (entryFrame m #[(.int nq), (.long xq), (.long yq), (.long zq)] maxLocals)) t := fun t k => k249 t (by
      show Steps p.tables e below (T210.setTop (mkF m 260 #[.val (.int nq), .val (.long xq), .second, .val (.long yq), .second, .val (.long zq), .second, .val (.int (3 : Int32)), .val (.int a0'), .val (.int a1), .val (.int a2), .val (.int i103), .val (.int i107), .val (.int i111), .val (.ref b204), .val (.ref b210), .val (.int i219), .val (.int i223), .val (.int i227), .val (.int i231), .val (.int i235), .val (.int i239), .unset] [(.int i248)])) _
      refine XS.istore X210.here hx rfl (hb hby at_260) rfl (l' := #[.val (.int nq), .val (.long xq), .second, .val (.long yq), .second, .val (.long zq), .second, .val (.int (3 : Int32)), .val (.int a0'), .val (.int a1), .val (.int a2), .val (.int i103), .val (.int i107), .val (.int i111), .val (.ref b204), .val (.ref b210), .val (.int i219), .val (.int i223), .val (.int i227), .val (.int i231), .val (.int i235), .val (.int i239), .val (.int i248)]) rfl ?_
      show Steps p.tables e below (T210.setTop (mkF m 262 #[.val (.int nq), .val (.long xq), .second, .val (.long yq), .second, .val (.long zq), .second, .val (.int (3 : Int32)), .val (.int a0'), .val (.int a1), .val (.int a2), .val (.int i103), .val (.int i107), .val (.int i111), .val (.ref b204), .val (.ref b210), .val (.int i219), .val (.int i223), .val (.int i227), .val (.int i231), .val (.int i235), .val (.int i239), .val (.int i248)] [])) _
      refine XS.aload X210.here hx rfl (hb hby at_262) rfl rfl ?_
      show Steps p.tables e below (T210.setTop (mkF m 264 #[.val (.int nq), .val (.long xq), .second, .val (.long yq), .second, .val (.long zq), .second, .val (.int (3 : Int32)), .val (.int a0'), .val (.int a1), .val (.int a2), .val (.int i103), .val (.int i107), .val (.int i111), .val (.ref b204), .val (.ref b210), .val (.int i219), .val (.int i223), .val (.int i227), .val (.int i231), .val (.int i235), .val (.int i239), .val (.int i248)] [(.ref b204)])) _
      refine XS.aload X210.here hx rfl (hb hby at_264) rfl rfl ?_
      exact k)
    obtain ⟨_, _, ⟨T251, L251, k251, n251⟩, -, X251, ⟨Lc251, hQ251, l251, y251, z251⟩, st251⟩ := Jvm.LawKit.callS X210 hx (y := (⟨"com/example/frontweave/frontweave/selection/Fronts", "dominates", "([D[D)Z"⟩ : MethodName)) hown (mvT hZ (hw _ (List.mem_of_getElem? (i := 5) rfl))) (mvT hZ (hw _ (List.mem_of_getElem? (i := 6) rfl))) (mvT hZ (hw _ (List.mem_of_getElem? (i := 7) rfl))) (mvT hZ (hw _ (List.mem_of_getElem? (i := 8) rfl))) (by decide) (backOf (W := 0) (dom3 l Z a0 hw [] b204 b210 kk204 kk210 a0' a1 a2 i103 i107 i111 h210 n0 Z216 F215 V210) hZ (hw _ (List.mem_of_getElem? (i := 8) rfl)) (hw _ (List.mem_of_getElem? (i := 7) rfl)) (by decide) (by decide)) (g := (mkF m 266 #[.val (.int nq), .val (.long xq), .second, .val (.long yq), .second, .val (.long zq), .second, .val (.int (3 : Int32)), .val (.int a0'), .val (.int a1), .val (.int a2), .val (.int i103), .val (.int i107), .val (.int i111), .val (.ref b204), .val (.ref b210), .val (.int i219), .val (.int i223), .val (.int i227), .val (.int i231), .val (.int i235), .val (.int i239), .val (.int i248)] [(.ref b210), (.ref b204)])) rfl (by rw [hml]; rfl) (argsL := [(.ref b204), (.ref b210)]) (rest := []) (lenOf pd__28_5bD_5bD_29Z rfl) rfl (by show 2 * 0 + _ ≤ _; exact Nat.le_of_eq rfl) (hb hby at_266) (fun _ _ => ⟨rfl, e210, (by decide : 2 + 0 ≤ _), (by decide : 6 + 0 ≤ _)⟩)
    dsimp only [Pt.U, Pt.locs, Pt.cells, Pt.slots] at X251 l251 y251 z251 st251 hQ251
    subst l251 y251 z251
    obtain ⟨rfl, N251q, e251⟩ := hQ251
    have N252 := Fr.app N211 N251q
    have k253 : ∀ t, Steps p.tables e below (T251.setTop (mkF m 269 #[.val (.int nq), .val (.long xq), .second, .val (.long yq), .second, .val (.long zq), .second, .val (.int (3 : Int32)), .val (.int a0'), .val (.int a1), .val (.int a2), .val (.int i103), .val (.int i107), .val (.int i111), .val (.ref b204), .val (.ref b210), .val (.int i219), .val (.int i223), .val (.int i227), .val (.int i231), .val (.int i235), .val (.int i239), .val (.int i248)] [(.int (own_dom [(a0', i103), (a1, i107), (a2, i111)] 0))])) t → Steps p.tables e below (s₁.setTop (entryFrame m #[(.int nq), (.long xq), (.long yq), (.long zq)] maxLocals)) t := fun t k => k250 t (st251 t k)
    have hfin : (own_dom [(a0', i103), (a1, i107), (a2, i111)] 0) = i248 := by
      rw [hi248]
      simp only [hi219, hi223, hi227, hi231, hi235, hi239]
      rcases own_tri a0' i103 with ⟨t0, s0⟩ | ⟨t0, s0⟩ | ⟨t0, s0⟩ <;> rcases own_tri a1 i107 with ⟨t1, s1⟩ | ⟨t1, s1⟩ | ⟨t1, s1⟩ <;> rcases own_tri a2 i111 with ⟨t2, s2⟩ | ⟨t2, s2⟩ | ⟨t2, s2⟩ <;> simp [own_dom, t0, s0, t1, s1, t2, s2]
    have k254 : ∀ t, Steps p.tables e below (T251.setTop (mkF m 279 #[.val (.int nq), .val (.long xq), .second, .val (.long yq), .second, .val (.long zq), .second, .val (.int (3 : Int32)), .val (.int a0'), .val (.int a1), .val (.int a2), .val (.int i103), .val (.int i107), .val (.int i111), .val (.ref b204), .val (.ref b210), .val (.int i219), .val (.int i223), .val (.int i227), .val (.int i231), .val (.int i235), .val (.int i239), .val (.int i248)] [(.int (1 : Int32))])) t → Steps p.tables e below (s₁.setTop (entryFrame m #[(.int nq), (.long xq), (.long yq), (.long zq)] maxLocals)) t := fun t k => k253 t (by
      show Steps p.tables e below (T251.setTop (mkF m 269 #[.val (.int nq), .val (.long xq), .second, .val (.long yq), .second, .val (.long zq), .second, .val (.int (3 : Int32)), .val (.int a0'), .val (.int a1), .val (.int a2), .val (.int i103), .val (.int i107), .val (.int i111), .val (.ref b204), .val (.ref b210), .val (.int i219), .val (.int i223), .val (.int i227), .val (.int i231), .val (.int i235), .val (.int i239), .val (.int i248)] [(.int (own_dom [(a0', i103), (a1, i107), (a2, i111)] 0))])) _
      refine XS.iload X251.here hx rfl (hb hby at_269) rfl ?_
      show Steps p.tables e below (T251.setTop (mkF m 271 #[.val (.int nq), .val (.long xq), .second, .val (.long yq), .second, .val (.long zq), .second, .val (.int (3 : Int32)), .val (.int a0'), .val (.int a1), .val (.int a2), .val (.int i103), .val (.int i107), .val (.int i111), .val (.ref b204), .val (.ref b210), .val (.int i219), .val (.int i223), .val (.int i227), .val (.int i231), .val (.int i235), .val (.int i239), .val (.int i248)] [(.int i248), (.int (own_dom [(a0', i103), (a1, i107), (a2, i111)] 0))])) _
      refine XS.icmpNo X251.here hx rfl (hb hby at_271) rfl (teq hfin).2 ?_
      show Steps p.tables e below (T251.setTop (mkF m 274 #[.val (.int nq), .val (.long xq), .second, .val (.long yq), .second, .val (.long zq), .second, .val (.int (3 : Int32)), .val (.int a0'), .val (.int a1), .val (.int a2), .val (.int i103), .val (.int i107), .val (.int i111), .val (.ref b204), .val (.ref b210), .val (.int i219), .val (.int i223), .val (.int i227), .val (.int i231), .val (.int i235), .val (.int i239), .val (.int i248)] [])) _
      refine XS.iconst X251.here hx rfl (hb hby at_274) ?_
      show Steps p.tables e below (T251.setTop (mkF m 275 #[.val (.int nq), .val (.long xq), .second, .val (.long yq), .second, .val (.long zq), .second, .val (.int (3 : Int32)), .val (.int a0'), .val (.int a1), .val (.int a2), .val (.int i103), .val (.int i107), .val (.int i111), .val (.ref b204), .val (.ref b210), .val (.int i219), .val (.int i223), .val (.int i227), .val (.int i231), .val (.int i235), .val (.int i239), .val (.int i248)] [(.int (1 : Int32))])) _
      refine XS.goto X251.here hx rfl (pc0 := 275) (pc' := 279) rfl (hb hby at_275) (by decide) (by decide) ?_
      exact k)
    obtain ⟨fs, hr, hrun, hended, hW, hsame⟩ := X251.leave (v := some (.int (1 : Int32))) (fun h => by rw [Bd.returns] at h; cases h)
    refine ⟨_, _, k254 _ (retOut X251 hx (t := .boolean) Bd.returns rfl (Or.inl ⟨rfl, Or.inr (Or.inl rfl), _, rfl⟩) (hb hby at_279) hr), hrun, hended, _, _, rfl, ?_, ⟨_, rfl⟩, hW, hsame.mono (by decide) (by decide)⟩
    show Q_rm0 Z nq xq yq zq h0 n0 _ T251.heap _
    rw [e251]
    exact ⟨rfl, N252⟩
set_option maxRecDepth 65536 in
set_option maxHeartbeats 40000000 in
theorem comes_1 {Post : Tables → Env → Array Value → State → Outcome → State → Prop} (hpost : ∀ tb e args s v u, (limb_1_1.after args s (.returned v) u = true ∧ limb_1_2.after args s (.returned v) u = true ∧ True) → FrameEnd s (.returned v) u (Jvm.fieldLocs frame_1_writes args s ++ Jvm.arrayLocs frame_1_arrays args s ++ Jvm.staticLocs frame_1_statics s) 16 128 → Post tb e args s (.returned v) u) :
    ArmFor flags0 classFile x code maxLocals ret World_1 tables_1 room_1 Calls_1 rest_1 Pre_1 Post := by
  intro l hfl _ _ p e ha hc hk s m args below hf hA hF happ hP
  obtain ⟨hcalls, hrest, hpre⟩ := hP
  obtain ⟨-, -, -, hnamed, -, -, -, hat⟩ := (Spec.applies_iff hf).mp happ
  obtain ⟨hg, hn⟩ := and_e (Cond.before_iff.mp (show (Jvm.Cond.and given_1 narrow_1).before args s = true from hpre))
  obtain ⟨g1, g2⟩ := and_e hg
  obtain ⟨g3, g4⟩ := and_e g2
  obtain ⟨g5, g6⟩ := and_e g4
  obtain ⟨g7, g8⟩ := and_e g6
  obtain ⟨w0, w1, w2, w3, rfl⟩ : ∃ w0 w1 w2 w3 : Value, args = #[w0, w1, w2, w3] := by
    have hs : args.size = 4 := by simpa [Cond.value, given_1] using g1
    obtain ⟨L⟩ := args
    match L, hs with
    | [w0, w1, w2, w3], _ => exact ⟨w0, w1, w2, w3, rfl⟩
  have hw := fun d (hd : d ∈ tables_1) => atoms_spec (ws := Jvm.Cond.code x code maxLocals ret :: tables_1) hat d (List.mem_cons_of_mem _ hd)
  obtain ⟨i0, ei0⟩ := is_v g3
  obtain rfl : w0 = (.int i0) := Option.some.inj ei0
  obtain ⟨i1, ei1⟩ := isL_v g5
  obtain rfl : w1 = (.long i1) := Option.some.inj ei1
  obtain ⟨i2, ei2⟩ := isL_v g7
  obtain rfl : w2 = (.long i2) := Option.some.inj ei2
  obtain ⟨i3, ei3⟩ := isL_v g8
  obtain rfl : w3 = (.long i3) := Option.some.inj ei3
  obtain ⟨n, o, h1, h2, h3, _, L, rfl, ⟨rfl, N⟩, hq⟩ := rm0 l s _ hw tables_1 i0 i1 i2 i3 s.heap s.heap.size (Nat.le_refl _) p e ha hc hk s m _ below hf ((Spec.applies_iff_loose hf).mp happ).1 ⟨rfl, State.Warmed39.refl s, rfl⟩ trivial
  refine ⟨n, _, h1, h2, h3, hpost _ _ _ _ _ _ ⟨Cond.after_iff.mpr rfl, Cond.after_iff.mpr (eq_i res_at (Term.int_eval (1)) rfl), trivial⟩ ⟨hq.1, hq.2.1, (hq.2.2.sift fun y hy => Or.inr (N y hy)).mono (by decide) (by decide)⟩⟩
theorem main_1_1 : Claimed_1_1 := comes_1 fun _ _ _ _ _ _ h hF => ⟨h.1, hF⟩
theorem main_1_2 : Claimed_1_2 := comes_1 fun _ _ _ _ _ _ h hF => ⟨h.2.1, hF⟩
end Jvm.Pilot.@@N@@
namespace Jvm.Pilot.@@N@@
open Jvm Jvm.ClassFile Sem Op Lib Jvm.Free Jvm.Stand Jvm.Pilot.@@N@@.Jvm.D
/-! MADE BY PROGRAM (witnessworld.py) out of the Statement's table words and the real class files: 11 classes; the members and pool entries that the words name. The judged class is class 1, her method 1. -/
namespace start1
open Jvm.ClassFile
def u (s : String) : CpInfo := .utf8 (stringToUtf16 s)
/-- a pool by its gaps: so many unusable entries, then the entry; so many at the end -/
def gap : Nat → List CpInfo → List CpInfo
  | 0, r => r
  | n + 1, r => .unusable :: gap n r
def poolList (es : List (Nat × CpInfo)) (last : Nat) : List CpInfo := es.foldr (fun e r => gap e.1 (e.2 :: r)) (gap last [])
def pool (es : List (Nat × CpInfo)) (last : Nat) : Array CpInfo := ⟨poolList es last⟩
def fileOf (pool : Array CpInfo) (this : Nat) (attrs : Array Attribute := #[]) (ms : Array MethodInfo := #[]) (fl : Nat := 33) (sup : Nat := 0) (ifs : Array Nat := #[]) (fds : Array FieldInfo := #[]) : ClassFile where
  minorVersion := 0
  majorVersion := 65
  constantPool := pool
  accessFlags := fl
  thisClass := this
  superClass := sup
  interfaces := ifs
  fields := fds
  methods := ms
  attributes := attrs
def plain (name : String) (sup : Option ClassId) : Class where
  name := name
  kind := .ordinary
  loader := none
  accessFlags := 33
  super := sup
  interfaces := #[]
  cf := none
  fields := #[]
  methods := #[]
  instanceTypes := #[]
  staticTypes := #[]
  resolved := #[]
  callSites := []
  init := .initialized
  statics := none
  mirror := none

def pool0 : Array CpInfo := pool [(5, u "<init>"), (0, u "()V"), (1, .class_ 10), (1, u "java/lang/Object")] 113

def k0m0 : Method := { name := "<init>", desc := "()V", sig := { parameters := [], returnType := none }, accessFlags := 1, code := none }
/-- java/lang/Object -/
def k0 : Class := { plain "java/lang/Object" none with
  accessFlags := 33
  interfaces := #[]
  cf := some (fileOf pool0 8 #[] #[{ accessFlags := 1, nameIndex := 5, descriptorIndex := 6, attributes := #[] }] 33 0 #[] #[])
  fields := #[]
  methods := #[k0m0]
  instanceTypes := #[]
  staticTypes := #[]
  resolved := Array.replicate 124 none
  statics := none }

def pool1 : Array CpInfo := pool [(2, .class_ 4), (1, u "java/lang/Object"), (0, u "<init>"), (0, u "()V"), (0, .methodref 8 9), (0, .class_ 10), (0, .nameAndType 11 12), (0, u "com/example/frontweave/frontweave/selection/FrontsDominatesPinLaw"), (0, u "vec"), (0, u "(IIII)[D"), (0, .methodref 14 15), (0, .class_ 16), (0, .nameAndType 17 18), (0, u "com/example/frontweave/frontweave/selection/Fronts"), (0, u "dominates"), (0, u "([D[D)Z"), (2, u "law"), (0, u "(IJJJ)Z")] 5

def k1m0 : Method := { name := "<init>", desc := "()V", sig := { parameters := [], returnType := none }, accessFlags := 2, code := none }
def k1c1 : Code := { maxStack := 4, maxLocals := 23, code := code, exceptionTable := #[], attributes := #[] }
def k1m1 : Method := { name := "law", desc := "(IJJJ)Z", sig := { parameters := [.int, .long, .long, .long], returnType := some .boolean }, accessFlags := 9, code := some k1c1 }
def k1c2 : Code := { maxStack := 5, maxLocals := 4, code := method_3_code, exceptionTable := #[], attributes := #[] }
def k1m2 : Method := { name := "vec", desc := "(IIII)[D", sig := { parameters := [.int, .int, .int, .int], returnType := some (.array .double) }, accessFlags := 10, code := some k1c2 }
/-- com/example/frontweave/frontweave/selection/FrontsDominatesPinLaw -/
def k1 : Class := { plain "com/example/frontweave/frontweave/selection/FrontsDominatesPinLaw" (some 0) with
  accessFlags := 49
  interfaces := #[]
  cf := some (fileOf pool1 8 #[] #[{ accessFlags := 2, nameIndex := 5, descriptorIndex := 6, attributes := #[] }, { accessFlags := 9, nameIndex := 21, descriptorIndex := 22, attributes := #[] }, { accessFlags := 10, nameIndex := 11, descriptorIndex := 12, attributes := #[] }] 49 2 #[] #[])
  fields := #[]
  methods := #[k1m0, k1m1, k1m2]
  instanceTypes := #[]
  staticTypes := #[]
  resolved := Array.replicate 28 none
  statics := none }

def pool2 : Array CpInfo := pool [(2, .class_ 4), (1, u "java/lang/Object"), (0, u "<init>"), (0, u "()V"), (1, .class_ 10), (1, u "com/example/frontweave/frontweave/selection/Fronts"), (123, u "dominates"), (0, u "([D[D)Z")] 88

def k2m0 : Method := { name := "<init>", desc := "()V", sig := { parameters := [], returnType := none }, accessFlags := 2, code := none }
def k2c1 : Code := { maxStack := 5, maxLocals := 4, code := prog_59_method_2_code, exceptionTable := #[], attributes := #[] }
def k2m1 : Method := { name := "dominates", desc := "([D[D)Z", sig := { parameters := [(.array .double), (.array .double)], returnType := some .boolean }, accessFlags := 9, code := some k2c1 }
/-- com/example/frontweave/frontweave/selection/Fronts -/
def k2 : Class := { plain "com/example/frontweave/frontweave/selection/Fronts" (some 0) with
  accessFlags := 49
  interfaces := #[]
  cf := some (fileOf pool2 8 #[] #[{ accessFlags := 2, nameIndex := 5, descriptorIndex := 6, attributes := #[] }, { accessFlags := 9, nameIndex := 134, descriptorIndex := 135, attributes := #[] }] 49 2 #[] #[])
  fields := #[]
  methods := #[k2m0, k2m1]
  instanceTypes := #[]
  staticTypes := #[]
  resolved := Array.replicate 224 none
  statics := none }

def pool3 : Array CpInfo := pool [(1, u "java/lang/Cloneable"), (0, .class_ 1), (0, u "java/lang/Object"), (0, .class_ 3)] 3

/-- java/lang/Cloneable -/
def k3 : Class := { plain "java/lang/Cloneable" (some 0) with
  accessFlags := 1537
  interfaces := #[]
  cf := some (fileOf pool3 2 #[] #[] 1537 4 #[] #[])
  fields := #[]
  methods := #[]
  instanceTypes := #[]
  staticTypes := #[]
  resolved := Array.replicate 8 none
  statics := none }

def pool4 : Array CpInfo := pool [(1, u "java/io/Serializable"), (0, .class_ 1), (0, u "java/lang/Object"), (0, .class_ 3)] 3

/-- java/io/Serializable -/
def k4 : Class := { plain "java/io/Serializable" (some 0) with
  accessFlags := 1537
  interfaces := #[]
  cf := some (fileOf pool4 2 #[] #[] 1537 4 #[] #[])
  fields := #[]
  methods := #[]
  instanceTypes := #[]
  staticTypes := #[]
  resolved := Array.replicate 8 none
  statics := none }

/-- the primitive byte -/
def k5 : Class := { plain "byte" none with kind := .primitive 'B', accessFlags := 0x411 }
/-- [B -/
def k6 : Class := { plain "[B" (some 0) with kind := .array 5 .byte, interfaces := #[3, 4], accessFlags := 1041 }

/-- the primitive double -/
def k7 : Class := { plain "double" none with kind := .primitive 'D', accessFlags := 0x411 }
/-- [D -/
def k8 : Class := { plain "[D" (some 0) with kind := .array 7 .double, interfaces := #[3, 4], accessFlags := 1041 }

/-- the primitive int -/
def k9 : Class := { plain "int" none with kind := .primitive 'I', accessFlags := 0x411 }
/-- [I -/
def k10 : Class := { plain "[I" (some 0) with kind := .array 9 .int, interfaces := #[3, 4], accessFlags := 1041 }

def heap : Heap := #[]
def classes : Array Class := #[k0, k1, k2, k3, k4, k5, k6, k7, k8, k9, k10]
def interned : List (Array UInt16 × Addr) := []
def slotsUsed : Nat := 0
def theMethod : MethodId := ⟨1, 1⟩
def args0 : Array Value := #[.int 7, .long 77777777777, .long 123456789012, .long 5]
def aboutOver (below : List Frame) : State where
  vm := { classes := classes, interned := interned.toArray }
  heap := heap
  slotsUsed := slotsUsed
  threads := #[{ frames := .invoking theMethod args0 :: below }]
def below0 : List Frame := [.native { method := ⟨0, 0⟩, args := #[] }]
def about1 : State := aboutOver below0
def p0 : Program := .bare "" "" ""
def e0 : Env := launch0.env 0 0 0
theorem w_frames : about1.frames = Frame.invoking theMethod args0 :: below0 := rfl
set_option maxRecDepth 65536 in
theorem w_args : argsFit about1.vm theMethod args0 = true := by decide +kernel
set_option maxRecDepth 65536 in
theorem w_heap : heapFits about1 = true := by decide +kernel
set_option maxRecDepth 65536 in
theorem w_runnable : about1.curStatus? = some .runnable := by decide +kernel
set_option maxRecDepth 65536 in
theorem w_alone : about1.alone = true := by decide +kernel
set_option maxRecDepth 65536 in
theorem w_named : about1.methodNamed? x = some theMethod := by decide +kernel
set_option maxRecDepth 65536 in
theorem w_hears : about1.hears theMethod below0 = true := by decide +kernel
set_option maxRecDepth 65536 in
theorem w_ripe : about1.ripe theMethod args0 below0 = true := by decide +kernel
theorem w_running : about1.status = .running := rfl
set_option maxRecDepth 65536 in
theorem w_room : about1.hasRoom e0.platform room_1 = true :=
  launch0.hasRoom_least _ room_1 (by decide +kernel) (by decide +kernel) (by decide +kernel) (by decide +kernel) (by decide +kernel) (by decide +kernel)
theorem allAtoms_all (ts : List Jvm.Cond) (a : Array Jvm.Value) (st : Jvm.State) : (allAtoms ts).before a st = ts.all (fun c => c.before a st) := by
  induction ts with
  | nil => rfl
  | cons c t ih =>
    show (Jvm.Cond.and c (allAtoms t)).before a st = _
    rw [Jvm.Cond.before_and, ih, List.all_cons]
def words1 : List Jvm.Cond := Jvm.Cond.code x code maxLocals ret :: tables_1
/-- a 'code' word, met by the world's own term for the bytes: nothing is compared byte by byte -/
theorem code_word {y : MethodName} {bytes : ByteArray} {mx : Nat} {rt : Option FieldType} {a : Array Value} {s : State} {m : MethodId} {meth : Method} {c : Code} (h1 : s.methodNamed? y = some m) (h2 : s.vm.method? m = some meth) (h3 : meth.code = some c) (h4 : c.code = bytes)
    (h5 : (c.maxLocals == mx && c.exceptionTable.isEmpty && decide (c.maxStack ≤ mostOperands) && decide (meth.sig.returnType = rt) && !meth.locks && decide (parseMethodDescriptor y.desc = some meth.sig)) = true) : (Jvm.Cond.code y bytes mx rt).before a s = true := by
  simp only [Bool.and_eq_true, beq_iff_eq, Bool.not_eq_true', decide_eq_true_eq] at h5
  obtain ⟨⟨⟨⟨⟨g1, g2⟩, g3⟩, g4⟩, g5⟩, g6⟩ := h5
  simp [Cond.before, Cond.holds, Cond.value, h1, h2, h3, h4, g1, g2, g3, g4, g5, g6]
def isCode : Jvm.Cond → Bool
  | .code _ _ _ _ => true
  | _ => false
theorem all_split {L : List Jvm.Cond} {P : Jvm.Cond → Bool} (h1 : L.all (fun c => isCode c || P c) = true) (h2 : ∀ c ∈ L.filter isCode, P c = true) : L.all P = true := by
  refine List.all_eq_true.mpr fun c hc => ?_
  have h := List.all_eq_true.mp h1 c hc
  rcases Bool.eq_false_or_eq_true (isCode c) with hi | hi
  · exact h2 c (List.mem_filter.mpr ⟨hc, hi⟩)
  · simpa [hi] using h
set_option maxRecDepth 65536 in
theorem w_c0 : (Jvm.Cond.code x code maxLocals ret).before args0 about1 = true := code_word (m := ⟨1, 1⟩) (meth := k1m1) (c := k1c1) (by decide +kernel) rfl rfl rfl (by decide +kernel)
set_option maxRecDepth 65536 in
theorem w_c1 : (Jvm.Cond.code ({ cls := "com/example/frontweave/frontweave/selection/FrontsDominatesPinLaw", name := "vec", desc := "(IIII)[D" } : Jvm.MethodName) method_3_code (4 : Nat) (Option.some (Jvm.ClassFile.FieldType.array Jvm.ClassFile.FieldType.double))).before args0 about1 = true := code_word (m := ⟨1, 2⟩) (meth := k1m2) (c := k1c2) (by decide +kernel) rfl rfl rfl (by decide +kernel)
set_option maxRecDepth 65536 in
theorem w_c2 : (Jvm.Cond.code ({ cls := "com/example/frontweave/frontweave/selection/Fronts", name := "dominates", desc := "([D[D)Z" } : Jvm.MethodName) prog_59_method_2_code (4 : Nat) (Option.some Jvm.ClassFile.FieldType.boolean)).before args0 about1 = true := code_word (m := ⟨2, 1⟩) (meth := k2m1) (c := k2c1) (by decide +kernel) rfl rfl rfl (by decide +kernel)
def codes1 : List Jvm.Cond := [Jvm.Cond.code x code maxLocals ret, Jvm.Cond.code ({ cls := "com/example/frontweave/frontweave/selection/FrontsDominatesPinLaw", name := "vec", desc := "(IIII)[D" } : Jvm.MethodName) method_3_code (4 : Nat) (Option.some (Jvm.ClassFile.FieldType.array Jvm.ClassFile.FieldType.double)), Jvm.Cond.code ({ cls := "com/example/frontweave/frontweave/selection/Fronts", name := "dominates", desc := "([D[D)Z" } : Jvm.MethodName) prog_59_method_2_code (4 : Nat) (Option.some Jvm.ClassFile.FieldType.boolean)]
set_option maxRecDepth 65536 in
theorem codes_eq : words1.filter isCode = codes1 := rfl
theorem w_codes : ∀ c ∈ words1.filter isCode, c.before args0 about1 = true := by
  rw [codes_eq]
  intro c hc
  simp only [codes1, List.mem_cons, List.not_mem_nil, or_false] at hc
  rcases hc with rfl | rfl | rfl
  · exact w_c0
  · exact w_c1
  · exact w_c2
set_option maxRecDepth 65536 in
theorem w_t1 : words1.all (fun c => isCode c || c.before args0 about1) = true := by decide +kernel
theorem w_tables : (allAtoms (Jvm.Cond.code x code maxLocals ret :: tables_1)).before args0 about1 = true := by
  rw [allAtoms_all]
  show words1.all (fun c => c.before args0 about1) = true
  refine all_split ?_ w_codes
  rw [w_t1]
set_option maxRecDepth 65536 in
theorem w_case : (Jvm.Cond.and given_1 narrow_1).before args0 about1 = true := by decide +kernel
theorem w_applies : (headSpec (Jvm.Cond.code x code maxLocals ret :: tables_1) room_1).applies x e0.platform about1 = true :=
  (Spec.applies_iff w_frames).mpr ⟨w_running, w_runnable, w_alone, w_named, w_hears, w_ripe, w_room, w_tables⟩
theorem atStart : AtStart classFile x code maxLocals ret World_1 tables_1 room_1 Calls_1 rest_1 Pre_1 launch0 p0 e0 about1 theMethod args0 below0 :=
  ⟨lists_1, trivial, launch0.admits_env _ _ _, launch0.least_env, fairChoices_fair.cas, fairChoices_fair.clock, w_frames, w_args, w_heap, w_applies, trivial, trivial, w_case⟩
end start1
theorem witness_1 : WitnessClaimed_1 := ⟨start1.p0, start1.e0, start1.about1, start1.theMethod, start1.args0, start1.below0, start1.atStart⟩
end Jvm.Pilot.@@N@@
