import JvmDerived
import JvmDerived.Pilot.@@N@@Statement
import JvmDerived.Pilot.@@N@@Code
set_option linter.unusedVariables false
set_option linter.unusedSimpArgs false
namespace Jvm.OwnFp
open Jvm.FP.Core Op
/-! own: exact values. `Dyf f i k d`: the datum d is finite and worth i / 2^k. -/
def Dyf (f : Fmt) (i : Int) (k : Nat) (d : Datum) : Prop := (∃ s c q, d = .fin s c q) ∧ zval f d * 2 ^ k = i * 2 ^ (-f.qmin).toNat
theorem pw_pos (n : Nat) : (0 : Int) < 2 ^ n := Int.pow_pos (by decide)
theorem pw_cast (n : Nat) : ((2 ^ n : Nat) : Int) = 2 ^ n := by simp
theorem signed_abs (i : Int) : signed (decide (i < 0)) i.natAbs = i := by
  unfold signed
  by_cases h : i < 0 <;> simp [h] <;> omega
theorem signed_mulI (s : Bool) (c k : Nat) : signed s (c * 2 ^ k) = signed s c * 2 ^ k := by
  rw [signed_mul, pw_cast]
theorem vex {f : Fmt} (hf : Good f) {i : Int} {k : Nat} (hi : i.natAbs < 2 ^ f.p) (hk : (k : Int) ≤ -f.qmin) (hq : 0 ≤ f.qmax) :
    ∃ s c q, FP.Core.fits f (.fin s c q) ∧ zval f (.fin s c q) * 2 ^ k = i * 2 ^ (-f.qmin).toNat := by
  obtain ⟨c', q', h, hu⟩ := round_exact hf (decide (i < 0)) (c := i.natAbs) (q := -(k : Int)) hi (by omega) (by omega)
  refine ⟨_, c', q', h ▸ round_fits hf _, ?_⟩
  show signed (decide (i < 0)) (inUnits c' q' f.qmin) * 2 ^ k = _
  rw [hu]
  unfold inUnits
  rw [signed_mulI, signed_abs, Int.mul_assoc, ← Int.pow_add, show (-(k : Int) - f.qmin).toNat + k = (-f.qmin).toNat by omega]
theorem dyf_of_zval {f : Fmt} (hf : Good f) {s : Bool} {A B : Nat} {e : Int} {s' : Bool} {c' : Nat} {q' : Int} (hV : FP.Core.fits f (.fin s' c' q'))
    (hz : zval f (roundRatio f s A B e) = zval f (.fin s' c' q')) : ∃ s₀ c₀ q₀, roundRatio f s A B e = .fin s₀ c₀ q₀ := by
  rcases roundRatio_cases f s A B e with ⟨c, q, h⟩ | h
  · exact ⟨s, c, q, h⟩
  · exfalso
    rw [h] at hz
    have h1 := zmag_lt_top hf hV
    have h2 := congrArg Int.natAbs hz
    unfold zval at h2
    rw [natAbs_signed, natAbs_signed] at h2
    have h3 : zmag f (.inf s) = f.tails * 2 ^ (f.exps - 2) := rfl
    have h4 : zmag f (.fin s' c' q') = inUnits c' q' f.qmin := rfl
    omega
/-- an exact result that the format holds is not rounded -/
theorem rnd {f : Fmt} (hf : Good f) (hq : 0 ≤ f.qmax) {s : Bool} {c : Nat} {q e0 : Int} (h0 : e0 ≤ f.qmin) (h0e : e0 ≤ q) {i : Int} {k : Nat} (hi : i.natAbs < 2 ^ f.p) (hk : (k : Int) ≤ -f.qmin)
    (h : signed s (inUnits c q e0) * 2 ^ k = i * 2 ^ (-f.qmin).toNat * 2 ^ (f.qmin - e0).toNat) : Dyf f i k (round f (.fin s c q)) := by
  obtain ⟨s', c', q', hV, hv⟩ := vex hf hi hk hq
  have hn : Datum.fin s' c' q' ≠ .nan := nofun
  have he : zval f (.fin s' c' q') * ((2 ^ (f.qmin - e0).toNat : Nat) : Int) = signed s (inUnits c q e0) := by
    refine Int.eq_of_mul_eq_mul_right (Int.ne_of_gt (pw_pos k)) ?_
    rw [h, ← hv, pw_cast]; ac_rfl
  have hz : zval f (round f (.fin s c q)) = zval f (.fin s' c' q') :=
    Int.le_antisymm (zval_round_le hf hV hn h0 h0e (Int.le_of_eq he.symm)) (zval_round_ge hf hV hn h0 h0e (Int.le_of_eq he))
  exact ⟨dyf_of_zval hf hV hz, by rw [hz]; exact hv⟩
theorem Dyf.fit {f : Fmt} {i : Int} {k : Nat} {d : Datum} (h : Dyf f i k d) : ∃ s c q, d = .fin s c q := h.1
theorem Dyf.up {f : Fmt} {i : Int} {k : Nat} {d : Datum} (h : Dyf f i k d) (l : Nat) : Dyf f (i * 2 ^ l) (k + l) d :=
  ⟨h.1, by rw [Int.pow_add, ← Int.mul_assoc, h.2]; ac_rfl⟩
theorem Dyf.to {f : Fmt} {i j : Int} {k l : Nat} {d : Datum} (h : Dyf f i k d) (e : i * 2 ^ l = j * 2 ^ k) : Dyf f j l d := by
  refine ⟨h.1, Int.eq_of_mul_eq_mul_right (Int.ne_of_gt (pw_pos k)) ?_⟩
  calc zval f d * 2 ^ l * 2 ^ k = (zval f d * 2 ^ k) * 2 ^ l := by ac_rfl
    _ = (i * 2 ^ l) * 2 ^ (-f.qmin).toNat := by rw [h.2]; ac_rfl
    _ = j * 2 ^ (-f.qmin).toNat * 2 ^ k := by rw [e]; ac_rfl
theorem Dyf.sum {f : Fmt} (hf : Good f) (hq : 0 ≤ f.qmax) {i j : Int} {k : Nat} {x y : Datum} (fx : FP.Core.fits f x) (fy : FP.Core.fits f y) (hx : Dyf f i k x) (hy : Dyf f j k y) (hi : (i + j).natAbs < 2 ^ f.p) (hk : (k : Int) ≤ -f.qmin) :
    Dyf f (i + j) k (round f (exactSum x y)) := by
  obtain ⟨⟨s, c, q, rfl⟩, hx⟩ := hx
  obtain ⟨⟨t, d, r, rfl⟩, hy⟩ := hy
  obtain ⟨sg, n, e, he, hle, hu⟩ := sum_units fx fy
  rw [he]
  refine rnd hf hq (Int.le_refl _) hle hi hk ?_
  rw [hu, Int.add_mul, hx, hy, Int.add_mul, Int.sub_self]
  simp
theorem Dyf.neg {f : Fmt} {i : Int} {k : Nat} {x : Datum} (hx : Dyf f i k x) : Dyf f (-i) k (negate x) := by
  obtain ⟨⟨s, c, q, rfl⟩, hx⟩ := hx
  refine ⟨⟨_, _, _, rfl⟩, ?_⟩
  rw [zval_negate, Int.neg_mul, hx, Int.neg_mul]
theorem Dyf.prod {f : Fmt} (hf : Good f) (hq : 0 ≤ f.qmax) {i j : Int} {k l : Nat} {x y : Datum} (fx : FP.Core.fits f x) (fy : FP.Core.fits f y) (hx : Dyf f i k x) (hy : Dyf f j l y) (hi : (i * j).natAbs < 2 ^ f.p) (hk : ((k + l : Nat) : Int) ≤ -f.qmin) :
    Dyf f (i * j) (k + l) (round f (exactProduct x y)) := by
  obtain ⟨⟨s, c, q, rfl⟩, hx⟩ := hx
  obtain ⟨⟨t, d, r, rfl⟩, hy⟩ := hy
  obtain ⟨he, hle, hu⟩ := product_units fx fy
  rw [he]
  have hn := qmin_neg hf
  refine rnd hf hq (e0 := 2 * f.qmin) (by omega) hle hi hk ?_
  rw [hu, signed_xor, show (f.qmin - 2 * f.qmin).toNat = (-f.qmin).toNat by omega, Int.pow_add]
  calc zval f (.fin s c q) * zval f (.fin t d r) * (2 ^ k * 2 ^ l) = (zval f (.fin s c q) * 2 ^ k) * (zval f (.fin t d r) * 2 ^ l) := by ac_rfl
    _ = _ := by rw [hx, hy]; ac_rfl
theorem natAbs_pow (n : Nat) : ((2 : Int) ^ n).natAbs = 2 ^ n := by rw [Int.natAbs_pow]; rfl
theorem natAbs_zval (f : Fmt) (d : Datum) : (zval f d).natAbs = zmag f d := natAbs_signed _ _
/-- an exact quotient that the format holds is not rounded -/
theorem Dyf.quot {f : Fmt} (hf : Good f) (hq : 0 ≤ f.qmax) {i j n : Int} {k l m : Nat} {x y : Datum} (fx : FP.Core.fits f x) (fy : FP.Core.fits f y) (hx : Dyf f i k x) (hy : Dyf f j l y) (hj : j ≠ 0) (hi : n.natAbs < 2 ^ f.p) (hm : (m : Int) ≤ -f.qmin)
    (e : i * 2 ^ l * 2 ^ m = n * j * 2 ^ k) : Dyf f n m (quotient f x y) := by
  obtain ⟨⟨s, c, q, rfl⟩, hx⟩ := hx
  obtain ⟨⟨t, d, r, rfl⟩, hy⟩ := hy
  obtain ⟨s', c', q', hV, hv⟩ := vex hf hi hm hq
  have hn : Datum.fin s' c' q' ≠ .nan := nofun
  have hqm := qmin_neg hf
  have fx1 := fx.2.1
  have fy1 := fy.2.1
  -- the signed equation
  have hz : zval f (.fin s c q) * 2 ^ (-f.qmin).toNat = zval f (.fin s' c' q') * zval f (.fin t d r) := by
    refine Int.eq_of_mul_eq_mul_right (Int.ne_of_gt (Int.mul_pos (Int.mul_pos (pw_pos k) (pw_pos l)) (pw_pos m))) ?_
    calc zval f (.fin s c q) * 2 ^ (-f.qmin).toNat * (2 ^ k * 2 ^ l * 2 ^ m) = (zval f (.fin s c q) * 2 ^ k) * (2 ^ l * 2 ^ m) * 2 ^ (-f.qmin).toNat := by ac_rfl
      _ = (i * 2 ^ l * 2 ^ m) * 2 ^ (-f.qmin).toNat * 2 ^ (-f.qmin).toNat := by rw [hx]; ac_rfl
      _ = (n * 2 ^ (-f.qmin).toNat) * (j * 2 ^ (-f.qmin).toNat) * 2 ^ k := by rw [e]; ac_rfl
      _ = (zval f (.fin s' c' q') * 2 ^ m) * (zval f (.fin t d r) * 2 ^ l) * 2 ^ k := by rw [hv, hy]
      _ = _ := by ac_rfl
  have hzb : zval f (.fin t d r) ≠ 0 := by
    intro h0
    rw [h0, Int.zero_mul] at hy
    rcases Int.mul_eq_zero.mp hy.symm with h | h
    · exact hj h
    · exact absurd h (Int.ne_of_gt (pw_pos _))
  have hd : d ≠ 0 := by
    rintro rfl
    apply hzb
    show signed t (inUnits 0 r f.qmin) = 0
    unfold inUnits; rw [Nat.zero_mul, signed_zero]
  have hmag : zmag f (.fin s c q) * 2 ^ (-f.qmin).toNat = zmag f (.fin s' c' q') * zmag f (.fin t d r) := by
    have h2 := congrArg Int.natAbs hz
    rw [Int.natAbs_mul, Int.natAbs_mul, natAbs_pow, natAbs_zval, natAbs_zval, natAbs_zval] at h2
    exact h2
  have hun : inUnits c (q - r) (2 * f.qmin - r) = zmag f (.fin s' c' q') * 2 ^ (f.qmin - (2 * f.qmin - r)).toNat * d := by
    have a1 : inUnits c (q - r) (2 * f.qmin - r) = zmag f (.fin s c q) * 2 ^ (-f.qmin).toNat := by
      show c * 2 ^ _ = c * 2 ^ _ * 2 ^ _
      rw [Nat.mul_assoc, ← Nat.pow_add, show (q - r - (2 * f.qmin - r)).toNat = (q - f.qmin).toNat + (-f.qmin).toNat by omega]
    rw [a1, hmag, show (f.qmin - (2 * f.qmin - r)).toNat = (r - f.qmin).toNat by omega]
    show _ * (d * 2 ^ _) = _
    ac_rfl
  have hqt : quotient f (.fin s c q) (.fin t d r) = roundRatio f (s != t) c d (q - r) := by
    show (if d = 0 then _ else _) = _
    rw [if_neg hd]
  have hm2 : zmag f (roundRatio f (s != t) c d (q - r)) = zmag f (.fin s' c' q') :=
    Nat.le_antisymm (zmag_roundRatio_le hf (e0 := 2 * f.qmin - r) (Nat.pos_of_ne_zero hd) hV hn (by omega) (by omega) (Nat.le_of_eq hun))
      (zmag_roundRatio_ge hf (e0 := 2 * f.qmin - r) (Nat.pos_of_ne_zero hd) hV (by omega) (by omega) (Nat.le_of_eq hun.symm))
  have hsg : signed (s != t) (zmag f (.fin s' c' q')) = zval f (.fin s' c' q') := by
    have p0 : zmag f (.fin s c q) = inUnits c q f.qmin := rfl
    have hS : zval f (.fin s c q) * 2 ^ (-f.qmin).toNat * zval f (.fin t d r) = zval f (.fin s' c' q') * (zval f (.fin t d r) * zval f (.fin t d r)) := by rw [hz]; ac_rfl
    by_cases h0 : zmag f (.fin s' c' q') = 0
    · unfold zval; rw [h0, signed_zero, signed_zero]
    · have hbb : 0 < zval f (.fin t d r) * zval f (.fin t d r) := by
        rcases Int.lt_or_gt_of_ne hzb with h | h
        · exact Int.mul_pos_of_neg_of_neg h h
        · exact Int.mul_pos h h
      have hst : zval f (.fin s c q) * zval f (.fin t d r) = signed (s != t) (zmag f (.fin s c q) * zmag f (.fin t d r)) := by
        rw [signed_xor]; rfl
      have e1 : zval f (.fin s' c' q') * (zval f (.fin t d r) * zval f (.fin t d r)) = signed (s != t) (zmag f (.fin s c q) * zmag f (.fin t d r)) * 2 ^ (-f.qmin).toNat := by
        rw [← hS, ← hst]; ac_rfl
      have e2 : signed (s != t) (zmag f (.fin s c q) * zmag f (.fin t d r)) * 2 ^ (-f.qmin).toNat = signed (s != t) (zmag f (.fin s' c' q')) * (zval f (.fin t d r) * zval f (.fin t d r)) := by
        rw [← signed_mulI, show zmag f (.fin s c q) * zmag f (.fin t d r) * 2 ^ (-f.qmin).toNat = zmag f (.fin s' c' q') * (zmag f (.fin t d r) * zmag f (.fin t d r)) by rw [Nat.mul_right_comm, hmag]; ac_rfl, signed_mul]
        congr 1
        unfold zval
        rw [Int.natCast_mul]
        cases (sgn (.fin t d r)) <;> simp [signed, Int.neg_mul_neg]
      exact Int.eq_of_mul_eq_mul_right (Int.ne_of_gt hbb) (e2.symm.trans e1.symm)
  have hzz : zval f (roundRatio f (s != t) c d (q - r)) = zval f (.fin s' c' q') := by
    rw [← hsg]
    show signed (sgn (roundRatio f (s != t) c d (q - r))) (zmag f (roundRatio f (s != t) c d (q - r))) = _
    rw [sgn_roundRatio, hm2]
  rw [hqt]
  exact ⟨dyf_of_zval hf hV hzz, by rw [hzz]; exact hv⟩
theorem Dyf.ofInt {f : Fmt} (hf : Good f) (hq : 0 ≤ f.qmax) {i : Int} (hi : i.natAbs < 2 ^ f.p) : Dyf f i 0 (round f (FP.Core.ofInt i)) := by
  have hn := qmin_neg hf
  refine rnd hf hq (Int.le_refl _) (by omega) hi (by omega) ?_
  unfold inUnits
  rw [signed_mulI, signed_abs, Int.sub_self]
  simp
theorem Dyf.order {f : Fmt} (hf : Good f) {i j : Int} {k : Nat} {x y : Datum} (fx : FP.Core.fits f x) (fy : FP.Core.fits f y) (hx : Dyf f i k x) (hy : Dyf f j k y) : order x y = some (compare i j) := by
  obtain ⟨⟨s, c, q, rfl⟩, hx⟩ := hx
  obtain ⟨⟨t, d, r, rfl⟩, hy⟩ := hy
  rw [order_zval hf fx fy nofun nofun, ← compare_mul_pos _ _ _ (pw_pos k), hx, hy, compare_mul_pos _ _ _ (pw_pos _)]
/-! doubles -/
def Dy (i : Int) (k : Nat) (a : UInt64) : Prop := Dyf b64 i k (val64 a)
theorem qm64 : (0 : Int) ≤ b64.qmax := by decide
theorem Dy.fin {i : Int} {k : Nat} {a : UInt64} (h : Dy i k a) : DFin a := h.1
theorem Dy.nn {i : Int} {k : Nat} {a : UInt64} (h : Dy i k a) : Jvm.Free.Fl.NoNaN64 a := (Jvm.Free.Fl.fin64_core.mpr h.1).noNaN
theorem Dy.to {i j : Int} {k l : Nat} {a : UInt64} (h : Dy i k a) (e : i * 2 ^ l = j * 2 ^ k) : Dy j l a := Dyf.to h e
theorem Dy.up {i : Int} {k : Nat} {a : UInt64} (h : Dy i k a) (l : Nat) : Dy (i * 2 ^ l) (k + l) a := Dyf.up h l
theorem Dy.add {i j : Int} {k : Nat} {a b : UInt64} (ha : Dy i k a) (hb : Dy j k b) (hi : (i + j).natAbs < 9007199254740992) (hk : k ≤ 1074) : Dy (i + j) k (FP.dadd a b) := by
  show Dyf b64 _ _ (val64 (dadd a b))
  rw [val64_dadd]
  exact Dyf.sum good_b64 qm64 (val64_fits a) (val64_fits b) ha hb hi (by rw [qmin_b64]; omega)
theorem Dy.sub {i j : Int} {k : Nat} {a b : UInt64} (ha : Dy i k a) (hb : Dy j k b) (hi : (i - j).natAbs < 9007199254740992) (hk : k ≤ 1074) : Dy (i - j) k (FP.dsub a b) := by
  show Dyf b64 _ _ (val64 (dsub a b))
  rw [val64_dsub]
  exact Dyf.sum good_b64 qm64 (val64_fits a) (negate_fits (val64_fits b)) ha hb.neg hi (by rw [qmin_b64]; omega)
theorem Dy.mul {i j : Int} {k l : Nat} {a b : UInt64} (ha : Dy i k a) (hb : Dy j l b) (hi : (i * j).natAbs < 9007199254740992) (hk : k + l ≤ 1074) : Dy (i * j) (k + l) (FP.dmul a b) := by
  show Dyf b64 _ _ (val64 (dmul a b))
  rw [val64_dmul]
  exact Dyf.prod good_b64 qm64 (val64_fits a) (val64_fits b) ha hb hi (by rw [qmin_b64]; omega)
theorem Dy.div {i j n : Int} {k l m : Nat} {a b : UInt64} (ha : Dy i k a) (hb : Dy j l b) (hj : j ≠ 0) (hi : n.natAbs < 9007199254740992) (hk : m ≤ 1074) (e : i * 2 ^ l * 2 ^ m = n * j * 2 ^ k) : Dy n m (FP.ddiv a b) := by
  show Dyf b64 _ _ (val64 (ddiv a b))
  rw [val64_ddiv]
  exact Dyf.quot good_b64 qm64 (val64_fits a) (val64_fits b) ha hb hj hi (by rw [qmin_b64]; omega) e
theorem Dy.neg {i : Int} {k : Nat} {a : UInt64} (ha : Dy i k a) : Dy (-i) k (FP.dneg a) := by
  show Dyf b64 _ _ (val64 (FP.dneg a))
  rw [Jvm.FP.val64_dneg]
  exact Dyf.neg ha
theorem Dy.i2d (x : Int32) : Dy x.toInt 0 (FP.i2d x) := by
  show Dyf b64 _ _ (val64 (FP.Core.i2d x))
  rw [val64_i2d]
  exact Dyf.ofInt good_b64 qm64 (by have := int32_abs x; show _ < 2 ^ 53; omega)
theorem Dy.l2d {x : Int64} (h : x.toInt.natAbs < 9007199254740992) : Dy x.toInt 0 (FP.l2d x) := by
  show Dyf b64 _ _ (val64 (FP.Core.l2d x))
  rw [val64_l2d]
  exact Dyf.ofInt good_b64 qm64 h
theorem Dy.cmp {i j : Int} {k : Nat} {a b : UInt64} (ha : Dy i k a) (hb : Dy j k b) : FP.dcmp a b = some (compare i j) :=
  Dyf.order good_b64 (val64_fits a) (val64_fits b) ha hb
theorem Dy.cmp_eq {i j : Int} {k : Nat} {a b : UInt64} (ha : Dy i k a) (hb : Dy j k b) (e : i = j) (o : ClassFile.CmpOp) : cmpValue (FP.dcmp a b) o = 0 := by
  rw [ha.cmp hb, e, compare_self_int]; rfl
theorem Dy.cmp_lt {i j : Int} {k : Nat} {a b : UInt64} (ha : Dy i k a) (hb : Dy j k b) (e : i < j) (o : ClassFile.CmpOp) : cmpValue (FP.dcmp a b) o = -1 := by
  rw [ha.cmp hb, show compare i j = .lt by rw [compare_ite, if_pos e]]; rfl
theorem Dy.cmp_gt {i j : Int} {k : Nat} {a b : UInt64} (ha : Dy i k a) (hb : Dy j k b) (e : j < i) (o : ClassFile.CmpOp) : cmpValue (FP.dcmp a b) o = 1 := by
  rw [ha.cmp hb, show compare i j = .gt by rw [compare_ite, if_neg (by omega), if_neg (by omega)]]; rfl
theorem dy_of {i : Int} {k : Nat} {a : UInt64} {s : Bool} {c : Nat} {q : Int} (h : val64 a = .fin s c q) (e : zval b64 (.fin s c q) * 2 ^ k = i * 2 ^ 1074) : Dy i k a :=
  ⟨⟨s, c, q, h⟩, by rw [h, e]; rfl⟩
theorem dy0 (k : Nat) : Dy 0 k (0 : UInt64) := dy_of (s := false) (c := 0) (q := -1074) (by decide +kernel) (by
  rw [show zval b64 (.fin false 0 (-1074)) = 0 from rfl, Int.zero_mul, Int.zero_mul])
theorem dy1 (k : Nat) : Dy (2 ^ k) k (4607182418800017408 : UInt64) := dy_of (s := false) (c := 2 ^ 52) (q := -52) (by decide +kernel) (by
  rw [show zval b64 (.fin false (2 ^ 52) (-52)) = 2 ^ 1074 by decide +kernel, Int.mul_comm])
theorem Dy.ge {i j : Int} {k : Nat} {a b : UInt64} (ha : Dy i k a) (hb : Dy j k b) (e : j ≤ i) (o : ClassFile.CmpOp) : ¬ (cmpValue (FP.dcmp a b) o < (0 : Int32)) := by
  rcases Int.lt_or_eq_of_le e with h | h
  · rw [ha.cmp_gt hb h]; decide
  · rw [ha.cmp_eq hb h.symm]; decide
theorem Dy.le {i j : Int} {k : Nat} {a b : UInt64} (ha : Dy i k a) (hb : Dy j k b) (e : i ≤ j) (o : ClassFile.CmpOp) : ¬ ((0 : Int32) < cmpValue (FP.dcmp a b) o) := by
  rcases Int.lt_or_eq_of_le e with h | h
  · rw [ha.cmp_lt hb h]; decide
  · rw [ha.cmp_eq hb h]; decide
theorem Dy.lt_inf {i : Int} {k : Nat} {a : UInt64} (ha : Dy i k a) (o : ClassFile.CmpOp) : cmpValue (FP.dcmp a (9218868437227405312 : UInt64)) o < (0 : Int32) := by
  rw [Jvm.RoadKit.dcmp_pinf (Jvm.Free.Fl.fin64_core.mpr ha.1)]; decide
theorem isfin {a : UInt64} (h : DFin a) : ¬ ((0 : Int32) < cmpValue (FP.dcmp (a &&& 0x7fffffffffffffff) (9218868437227405311 : UInt64)) .g) := by
  have hn : dIsNaN a = false := (notNaN_iff a).mpr (by obtain ⟨s, c, q, e⟩ := h; rw [e]; exact nofun)
  rcases (le_max hn).mpr h with e | e <;> rw [show FP.dcmp (a &&& 0x7fffffffffffffff) (9218868437227405311 : UInt64) = _ from e] <;> decide
theorem since0 (s : State) : s.Since s.vm 0 := ⟨State.Warmed39.refl s, fun j p h1 h2 => by
  rw [Array.getElem?_eq_none h1] at h2; cases h2⟩
theorem i2d_nz {v : Int32} (h : v ≠ 0) : ¬ DZero (FP.i2d v) := fun q => i2d_ne_zero h ((zero_bits2 _).mp q)
theorem nn_of {x : UInt64} (h : dIsNaN x = false) : Jvm.Free.Fl.NoNaN64 x := Jvm.Free.Fl.noNaN64_no.mpr h
theorem no_of {x : UInt64} (h : Jvm.Free.Fl.NoNaN64 x) : dIsNaN x = false := Jvm.Free.Fl.noNaN64_no.mp h
theorem no_fin {x : UInt64} (h : DFin x) : dIsNaN x = false := (notNaN_iff x).mpr (by obtain ⟨s, c, q, e⟩ := h; rw [e]; exact nofun)
theorem nn_div {a : UInt64} {v : Int32} (ha : dIsNaN a = false) (h : v ≠ 0) : Jvm.Free.Fl.NoNaN64 (FP.ddiv a (FP.i2d v)) := nn_of (ddiv_out ha (i2d_fin v) (i2d_nz h))
theorem fin_div (a : Int32) {v : Int32} (h : v ≠ 0) : DFin (FP.ddiv (FP.i2d a) (FP.i2d v)) := by
  have h1 := i2d_mag a
  have h2 := i2d_big (v := v) (fun q => h (Int32.toInt_inj.mp q))
  exact fin_of_lt (ddiv_mag h1 h2.1 h2.2 (by decide) (by decide)) (by decide)
end Jvm.OwnFp
namespace Jvm.Pilot.@@N@@
open Jvm Jvm.ClassFile Sem Op Lib Jvm.Free Jvm.Stand Jvm.LawKit Jvm.RoadKit Bundle Jvm.Pilot.@@N@@.Jvm.D
open Jvm.OwnFp
theorem own_n (x n : Int32) (h : n = ((x &&& (2147483647 : Int32)) % (4 : Int32))) : n = 0 ∨ n = 1 ∨ n = 2 ∨ n = 3 := by
  have j1 := c_and x 2147483647 (by decide)
  have m := (c_irem (x &&& 2147483647) 4 4 (by decide)).1 j1.1
  rw [← h] at m
  have e : n = Int32.ofInt n.toInt := (Int32.ofInt_toInt n).symm
  have : n.toInt = 0 ∨ n.toInt = 1 ∨ n.toInt = 2 ∨ n.toInt = 3 := by omega
  rcases this with q | q | q | q <;> rw [q] at e <;> simp [e] <;> decide
theorem own_sx (x : Int32) : -1048576 ≤ (x >>> ((11 : Int32) &&& 31)).toInt64.toInt ∧ (x >>> ((11 : Int32) &&& 31)).toInt64.toInt ≤ 1048575 := by
  have e := c_ishr x 11 11 (by decide)
  have r := rng32 x
  rw [c_i2l, e]
  omega
theorem own_sq (x y : Int) : (x - y) * (x - y) = (y - x) * (y - x) := by
  rw [← Int.neg_sub y x, Int.neg_mul_neg]
theorem own_absmul {x y : Int} {A B : Nat} (hx : x.natAbs ≤ A) (hy : y.natAbs ≤ B) : (x * y).natAbs ≤ A * B := by
  rw [Int.natAbs_mul]; exact Nat.mul_le_mul hx hy
theorem own_p {a b : Int} (A : -1048576 ≤ a ∧ a ≤ 1048575) (B : -1048576 ≤ b ∧ b ≤ 1048575) : ((a - b) * (a - b)).natAbs ≤ 4398046511104 := own_absmul (A := 2097152) (B := 2097152) (by omega) (by omega)
theorem own_sub {a b : Int64} (A : -1048576 ≤ a.toInt ∧ a.toInt ≤ 1048575) (B : -1048576 ≤ b.toInt ∧ b.toInt ≤ 1048575) : (a - b).toInt = a.toInt - b.toInt := by
  have q := c_lsub a b; have r := rng64 (a - b); omega
theorem own_refb1 {a0 b0 : Int64} (A0 : -1048576 ≤ a0.toInt ∧ a0.toInt ≤ 1048575) (B0 : -1048576 ≤ b0.toInt ∧ b0.toInt ≤ 1048575) : (0 + (a0.toInt - b0.toInt) * (a0.toInt - b0.toInt)).natAbs < 9007199254740992 := by
  have p0 := own_p A0 B0
  omega
theorem own_ref1 {a0 b0 : Int64} (A0 : -1048576 ≤ a0.toInt ∧ a0.toInt ≤ 1048575) (B0 : -1048576 ≤ b0.toInt ∧ b0.toInt ≤ 1048575) : ((0 : Int64) + ((a0 - b0) * (a0 - b0))).toInt = 0 + (a0.toInt - b0.toInt) * (a0.toInt - b0.toInt) := by
  have p0 := own_p A0 B0
  have m0 := c_lmul (a0 - b0) (a0 - b0); rw [own_sub A0 B0] at m0
  have s0 := c_ladd ((0 : Int64)) ((a0 - b0) * (a0 - b0))
  have z : (0 : Int64).toInt = 0 := by decide
  have r := rng64 ((0 : Int64) + ((a0 - b0) * (a0 - b0)))
  omega
theorem own_dist1 {a0 b0 : Int64} {u0 w0 : UInt64} (A0 : -1048576 ≤ a0.toInt ∧ a0.toInt ≤ 1048575) (B0 : -1048576 ≤ b0.toInt ∧ b0.toInt ≤ 1048575) (d0 : Dy a0.toInt 0 u0) (e0 : Dy b0.toInt 0 w0) :
    Dy (a0.toInt - b0.toInt) 0 (FP.dsub u0 w0) ∧ Dy ((a0.toInt - b0.toInt) * (a0.toInt - b0.toInt)) 0 (FP.dmul (FP.dsub u0 w0) (FP.dsub u0 w0)) ∧ Dy (0 + (a0.toInt - b0.toInt) * (a0.toInt - b0.toInt)) 0 (FP.dadd (0 : UInt64) (FP.dmul (FP.dsub u0 w0) (FP.dsub u0 w0))) := by
  have p0 := own_p A0 B0
  have t0 : Dy (a0.toInt - b0.toInt) 0 (FP.dsub u0 w0) := Dy.sub d0 e0 (by omega) (by decide)
  have m0 : Dy ((a0.toInt - b0.toInt) * (a0.toInt - b0.toInt)) 0 (FP.dmul (FP.dsub u0 w0) (FP.dsub u0 w0)) := Dy.mul t0 t0 (by omega) (by decide)
  have s0 : Dy (0 + (a0.toInt - b0.toInt) * (a0.toInt - b0.toInt)) 0 (FP.dadd (0 : UInt64) (FP.dmul (FP.dsub u0 w0) (FP.dsub u0 w0))) := Dy.add (dy0 0) m0 (by omega) (by decide)
  exact ⟨t0, m0, s0⟩
theorem own_refb2 {a0 b0 a1 b1 : Int64} (A0 : -1048576 ≤ a0.toInt ∧ a0.toInt ≤ 1048575) (A1 : -1048576 ≤ a1.toInt ∧ a1.toInt ≤ 1048575) (B0 : -1048576 ≤ b0.toInt ∧ b0.toInt ≤ 1048575) (B1 : -1048576 ≤ b1.toInt ∧ b1.toInt ≤ 1048575) : (0 + (a0.toInt - b0.toInt) * (a0.toInt - b0.toInt) + (a1.toInt - b1.toInt) * (a1.toInt - b1.toInt)).natAbs < 9007199254740992 := by
  have p0 := own_p A0 B0; have p1 := own_p A1 B1
  omega
theorem own_ref2 {a0 b0 a1 b1 : Int64} (A0 : -1048576 ≤ a0.toInt ∧ a0.toInt ≤ 1048575) (A1 : -1048576 ≤ a1.toInt ∧ a1.toInt ≤ 1048575) (B0 : -1048576 ≤ b0.toInt ∧ b0.toInt ≤ 1048575) (B1 : -1048576 ≤ b1.toInt ∧ b1.toInt ≤ 1048575) : (((0 : Int64) + ((a0 - b0) * (a0 - b0))) + ((a1 - b1) * (a1 - b1))).toInt = 0 + (a0.toInt - b0.toInt) * (a0.toInt - b0.toInt) + (a1.toInt - b1.toInt) * (a1.toInt - b1.toInt) := by
  have p0 := own_p A0 B0; have p1 := own_p A1 B1
  have m0 := c_lmul (a0 - b0) (a0 - b0); rw [own_sub A0 B0] at m0; have m1 := c_lmul (a1 - b1) (a1 - b1); rw [own_sub A1 B1] at m1
  have s0 := c_ladd ((0 : Int64)) ((a0 - b0) * (a0 - b0)); have s1 := c_ladd (((0 : Int64) + ((a0 - b0) * (a0 - b0)))) ((a1 - b1) * (a1 - b1))
  have z : (0 : Int64).toInt = 0 := by decide
  have r := rng64 (((0 : Int64) + ((a0 - b0) * (a0 - b0))) + ((a1 - b1) * (a1 - b1)))
  omega
theorem own_dist2 {a0 b0 a1 b1 : Int64} {u0 w0 u1 w1 : UInt64} (A0 : -1048576 ≤ a0.toInt ∧ a0.toInt ≤ 1048575) (A1 : -1048576 ≤ a1.toInt ∧ a1.toInt ≤ 1048575) (B0 : -1048576 ≤ b0.toInt ∧ b0.toInt ≤ 1048575) (B1 : -1048576 ≤ b1.toInt ∧ b1.toInt ≤ 1048575) (d0 : Dy a0.toInt 0 u0) (d1 : Dy a1.toInt 0 u1) (e0 : Dy b0.toInt 0 w0) (e1 : Dy b1.toInt 0 w1) :
    Dy (a0.toInt - b0.toInt) 0 (FP.dsub u0 w0) ∧ Dy ((a0.toInt - b0.toInt) * (a0.toInt - b0.toInt)) 0 (FP.dmul (FP.dsub u0 w0) (FP.dsub u0 w0)) ∧ Dy (0 + (a0.toInt - b0.toInt) * (a0.toInt - b0.toInt)) 0 (FP.dadd (0 : UInt64) (FP.dmul (FP.dsub u0 w0) (FP.dsub u0 w0))) ∧ Dy (a1.toInt - b1.toInt) 0 (FP.dsub u1 w1) ∧ Dy ((a1.toInt - b1.toInt) * (a1.toInt - b1.toInt)) 0 (FP.dmul (FP.dsub u1 w1) (FP.dsub u1 w1)) ∧ Dy (0 + (a0.toInt - b0.toInt) * (a0.toInt - b0.toInt) + (a1.toInt - b1.toInt) * (a1.toInt - b1.toInt)) 0 (FP.dadd (FP.dadd (0 : UInt64) (FP.dmul (FP.dsub u0 w0) (FP.dsub u0 w0))) (FP.dmul (FP.dsub u1 w1) (FP.dsub u1 w1))) := by
  have p0 := own_p A0 B0; have p1 := own_p A1 B1
  have t0 : Dy (a0.toInt - b0.toInt) 0 (FP.dsub u0 w0) := Dy.sub d0 e0 (by omega) (by decide)
  have m0 : Dy ((a0.toInt - b0.toInt) * (a0.toInt - b0.toInt)) 0 (FP.dmul (FP.dsub u0 w0) (FP.dsub u0 w0)) := Dy.mul t0 t0 (by omega) (by decide)
  have s0 : Dy (0 + (a0.toInt - b0.toInt) * (a0.toInt - b0.toInt)) 0 (FP.dadd (0 : UInt64) (FP.dmul (FP.dsub u0 w0) (FP.dsub u0 w0))) := Dy.add (dy0 0) m0 (by omega) (by decide)
  have t1 : Dy (a1.toInt - b1.toInt) 0 (FP.dsub u1 w1) := Dy.sub d1 e1 (by omega) (by decide)
  have m1 : Dy ((a1.toInt - b1.toInt) * (a1.toInt - b1.toInt)) 0 (FP.dmul (FP.dsub u1 w1) (FP.dsub u1 w1)) := Dy.mul t1 t1 (by omega) (by decide)
  have s1 : Dy (0 + (a0.toInt - b0.toInt) * (a0.toInt - b0.toInt) + (a1.toInt - b1.toInt) * (a1.toInt - b1.toInt)) 0 (FP.dadd (FP.dadd (0 : UInt64) (FP.dmul (FP.dsub u0 w0) (FP.dsub u0 w0))) (FP.dmul (FP.dsub u1 w1) (FP.dsub u1 w1))) := Dy.add s0 m1 (by omega) (by decide)
  exact ⟨t0, m0, s0, t1, m1, s1⟩
theorem own_refb3 {a0 b0 a1 b1 a2 b2 : Int64} (A0 : -1048576 ≤ a0.toInt ∧ a0.toInt ≤ 1048575) (A1 : -1048576 ≤ a1.toInt ∧ a1.toInt ≤ 1048575) (A2 : -1048576 ≤ a2.toInt ∧ a2.toInt ≤ 1048575) (B0 : -1048576 ≤ b0.toInt ∧ b0.toInt ≤ 1048575) (B1 : -1048576 ≤ b1.toInt ∧ b1.toInt ≤ 1048575) (B2 : -1048576 ≤ b2.toInt ∧ b2.toInt ≤ 1048575) : (0 + (a0.toInt - b0.toInt) * (a0.toInt - b0.toInt) + (a1.toInt - b1.toInt) * (a1.toInt - b1.toInt) + (a2.toInt - b2.toInt) * (a2.toInt - b2.toInt)).natAbs < 9007199254740992 := by
  have p0 := own_p A0 B0; have p1 := own_p A1 B1; have p2 := own_p A2 B2
  omega
theorem own_ref3 {a0 b0 a1 b1 a2 b2 : Int64} (A0 : -1048576 ≤ a0.toInt ∧ a0.toInt ≤ 1048575) (A1 : -1048576 ≤ a1.toInt ∧ a1.toInt ≤ 1048575) (A2 : -1048576 ≤ a2.toInt ∧ a2.toInt ≤ 1048575) (B0 : -1048576 ≤ b0.toInt ∧ b0.toInt ≤ 1048575) (B1 : -1048576 ≤ b1.toInt ∧ b1.toInt ≤ 1048575) (B2 : -1048576 ≤ b2.toInt ∧ b2.toInt ≤ 1048575) : ((((0 : Int64) + ((a0 - b0) * (a0 - b0))) + ((a1 - b1) * (a1 - b1))) + ((a2 - b2) * (a2 - b2))).toInt = 0 + (a0.toInt - b0.toInt) * (a0.toInt - b0.toInt) + (a1.toInt - b1.toInt) * (a1.toInt - b1.toInt) + (a2.toInt - b2.toInt) * (a2.toInt - b2.toInt) := by
  have p0 := own_p A0 B0; have p1 := own_p A1 B1; have p2 := own_p A2 B2
  have m0 := c_lmul (a0 - b0) (a0 - b0); rw [own_sub A0 B0] at m0; have m1 := c_lmul (a1 - b1) (a1 - b1); rw [own_sub A1 B1] at m1; have m2 := c_lmul (a2 - b2) (a2 - b2); rw [own_sub A2 B2] at m2
  have s0 := c_ladd ((0 : Int64)) ((a0 - b0) * (a0 - b0)); have s1 := c_ladd (((0 : Int64) + ((a0 - b0) * (a0 - b0)))) ((a1 - b1) * (a1 - b1)); have s2 := c_ladd ((((0 : Int64) + ((a0 - b0) * (a0 - b0))) + ((a1 - b1) * (a1 - b1)))) ((a2 - b2) * (a2 - b2))
  have z : (0 : Int64).toInt = 0 := by decide
  have r := rng64 ((((0 : Int64) + ((a0 - b0) * (a0 - b0))) + ((a1 - b1) * (a1 - b1))) + ((a2 - b2) * (a2 - b2)))
  omega
theorem own_dist3 {a0 b0 a1 b1 a2 b2 : Int64} {u0 w0 u1 w1 u2 w2 : UInt64} (A0 : -1048576 ≤ a0.toInt ∧ a0.toInt ≤ 1048575) (A1 : -1048576 ≤ a1.toInt ∧ a1.toInt ≤ 1048575) (A2 : -1048576 ≤ a2.toInt ∧ a2.toInt ≤ 1048575) (B0 : -1048576 ≤ b0.toInt ∧ b0.toInt ≤ 1048575) (B1 : -1048576 ≤ b1.toInt ∧ b1.toInt ≤ 1048575) (B2 : -1048576 ≤ b2.toInt ∧ b2.toInt ≤ 1048575) (d0 : Dy a0.toInt 0 u0) (d1 : Dy a1.toInt 0 u1) (d2 : Dy a2.toInt 0 u2) (e0 : Dy b0.toInt 0 w0) (e1 : Dy b1.toInt 0 w1) (e2 : Dy b2.toInt 0 w2) :
    Dy (a0.toInt - b0.toInt) 0 (FP.dsub u0 w0) ∧ Dy ((a0.toInt - b0.toInt) * (a0.toInt - b0.toInt)) 0 (FP.dmul (FP.dsub u0 w0) (FP.dsub u0 w0)) ∧ Dy (0 + (a0.toInt - b0.toInt) * (a0.toInt - b0.toInt)) 0 (FP.dadd (0 : UInt64) (FP.dmul (FP.dsub u0 w0) (FP.dsub u0 w0))) ∧ Dy (a1.toInt - b1.toInt) 0 (FP.dsub u1 w1) ∧ Dy ((a1.toInt - b1.toInt) * (a1.toInt - b1.toInt)) 0 (FP.dmul (FP.dsub u1 w1) (FP.dsub u1 w1)) ∧ Dy (0 + (a0.toInt - b0.toInt) * (a0.toInt - b0.toInt) + (a1.toInt - b1.toInt) * (a1.toInt - b1.toInt)) 0 (FP.dadd (FP.dadd (0 : UInt64) (FP.dmul (FP.dsub u0 w0) (FP.dsub u0 w0))) (FP.dmul (FP.dsub u1 w1) (FP.dsub u1 w1))) ∧ Dy (a2.toInt - b2.toInt) 0 (FP.dsub u2 w2) ∧ Dy ((a2.toInt - b2.toInt) * (a2.toInt - b2.toInt)) 0 (FP.dmul (FP.dsub u2 w2) (FP.dsub u2 w2)) ∧ Dy (0 + (a0.toInt - b0.toInt) * (a0.toInt - b0.toInt) + (a1.toInt - b1.toInt) * (a1.toInt - b1.toInt) + (a2.toInt - b2.toInt) * (a2.toInt - b2.toInt)) 0 (FP.dadd (FP.dadd (FP.dadd (0 : UInt64) (FP.dmul (FP.dsub u0 w0) (FP.dsub u0 w0))) (FP.dmul (FP.dsub u1 w1) (FP.dsub u1 w1))) (FP.dmul (FP.dsub u2 w2) (FP.dsub u2 w2))) := by
  have p0 := own_p A0 B0; have p1 := own_p A1 B1; have p2 := own_p A2 B2
  have t0 : Dy (a0.toInt - b0.toInt) 0 (FP.dsub u0 w0) := Dy.sub d0 e0 (by omega) (by decide)
  have m0 : Dy ((a0.toInt - b0.toInt) * (a0.toInt - b0.toInt)) 0 (FP.dmul (FP.dsub u0 w0) (FP.dsub u0 w0)) := Dy.mul t0 t0 (by omega) (by decide)
  have s0 : Dy (0 + (a0.toInt - b0.toInt) * (a0.toInt - b0.toInt)) 0 (FP.dadd (0 : UInt64) (FP.dmul (FP.dsub u0 w0) (FP.dsub u0 w0))) := Dy.add (dy0 0) m0 (by omega) (by decide)
  have t1 : Dy (a1.toInt - b1.toInt) 0 (FP.dsub u1 w1) := Dy.sub d1 e1 (by omega) (by decide)
  have m1 : Dy ((a1.toInt - b1.toInt) * (a1.toInt - b1.toInt)) 0 (FP.dmul (FP.dsub u1 w1) (FP.dsub u1 w1)) := Dy.mul t1 t1 (by omega) (by decide)
  have s1 : Dy (0 + (a0.toInt - b0.toInt) * (a0.toInt - b0.toInt) + (a1.toInt - b1.toInt) * (a1.toInt - b1.toInt)) 0 (FP.dadd (FP.dadd (0 : UInt64) (FP.dmul (FP.dsub u0 w0) (FP.dsub u0 w0))) (FP.dmul (FP.dsub u1 w1) (FP.dsub u1 w1))) := Dy.add s0 m1 (by omega) (by decide)
  have t2 : Dy (a2.toInt - b2.toInt) 0 (FP.dsub u2 w2) := Dy.sub d2 e2 (by omega) (by decide)
  have m2 : Dy ((a2.toInt - b2.toInt) * (a2.toInt - b2.toInt)) 0 (FP.dmul (FP.dsub u2 w2) (FP.dsub u2 w2)) := Dy.mul t2 t2 (by omega) (by decide)
  have s2 : Dy (0 + (a0.toInt - b0.toInt) * (a0.toInt - b0.toInt) + (a1.toInt - b1.toInt) * (a1.toInt - b1.toInt) + (a2.toInt - b2.toInt) * (a2.toInt - b2.toInt)) 0 (FP.dadd (FP.dadd (FP.dadd (0 : UInt64) (FP.dmul (FP.dsub u0 w0) (FP.dsub u0 w0))) (FP.dmul (FP.dsub u1 w1) (FP.dsub u1 w1))) (FP.dmul (FP.dsub u2 w2) (FP.dsub u2 w2))) := Dy.add s1 m2 (by omega) (by decide)
  exact ⟨t0, m0, s0, t1, m1, s1, t2, m2, s2⟩
theorem ef_1_RR (m : MethodId) (x0 : Addr) (x1 : Addr) : entryFrame m #[(.ref x0), (.ref x1)] 5 = mkF m 0 #[.val (.ref x0), .val (.ref x1), .unset, .unset, .unset] [] := by first | (simp [entryFrame, mkF, argsToLocals, Value.category]; done) | rfl
theorem d1_0 : decode prog_29_method_3_code 0 = .ok (.dconst 0, 1) := by decide +kernel
theorem d1_1 : decode prog_29_method_3_code 1 = .ok (.dstore_n 2, 1) := by decide +kernel
theorem d1_2 : decode prog_29_method_3_code 2 = .ok (.iconst 0, 1) := by decide +kernel
theorem d1_3 : decode prog_29_method_3_code 3 = .ok (.istore 4, 2) := by decide +kernel
theorem d1_5 : decode prog_29_method_3_code 5 = .ok (.iload 4, 2) := by decide +kernel
theorem d1_7 : decode prog_29_method_3_code 7 = .ok (.aload_n 0, 1) := by decide +kernel
theorem d1_8 : decode prog_29_method_3_code 8 = .ok (.arraylength, 1) := by decide +kernel
theorem d1_9 : decode prog_29_method_3_code 9 = .ok (.if_icmp .ge 31, 3) := by decide +kernel
theorem d1_40 : decode prog_29_method_3_code 40 = .ok (.dload_n 2, 1) := by decide +kernel
theorem d1_41 : decode prog_29_method_3_code 41 = .ok (.dreturn, 1) := by decide +kernel
def Q_dist0 (Z : State) (a1 : Addr) (a2 : Addr) (k1 : ClassId) (k2 : ClassId) (h0 : Heap) (n0 : Nat) (v : Option Value) (h : Heap) (L : List Loc) : Prop := v = some (.double (0 : UInt64)) ∧ Fr n0 L ∧ h = h0
theorem pn_com_2fexample_2ffrontweave_2ffrontweave_2fclustering_2fVectors : plainName "com/example/frontweave/frontweave/clustering/Vectors" = true := by first | (simp [plainName, overriddenIn]; done) | decide +kernel
set_option maxRecDepth 65536 in
set_option maxHeartbeats 40000000 in
theorem dist0 (l : Launch) (Z : State) (a0 : Array Value) (hw : ∀ d ∈ tables_1, d.before a0 Z = true) (ws : List Jvm.Cond) (a1 : Addr) (a2 : Addr) (k1 : ClassId) (k2 : ClassId) (h0 : Heap) (n0 : Nat) (Z0 : n0 ≤ h0.size) (V1 : Arv Z h0 a1 k1 .double (0 : Int32) [] (.double (0 : UInt64))) (V2 : Arv Z h0 a2 k2 .double (0 : Int32) [] (.double (0 : UInt64))) :
    MetFree l (⟨"com/example/frontweave/frontweave/clustering/Vectors", "distanceSquared", "([D[D)D"⟩ : MethodName) (head1 (Jvm.Cond.code (⟨"com/example/frontweave/frontweave/clustering/Vectors", "distanceSquared", "([D[D)D"⟩ : MethodName) prog_29_method_3_code 5 (some .double) :: ws) ({ frames := 0, cells := 0, slots := 0, locals := 0 } : Room)) (fun a U => a = #[(.ref a1), (.ref a2)] ∧ Z.Warmed39 U.vm ∧ U.heap = h0) (fun _ _ _ _ _ => True) (fun _ U o U' => ∃ v L, o = .returned v ∧ Q_dist0 Z a1 a2 k1 k2 h0 n0 v U'.heap L ∧ FrameEnd U o U' L ({ frames := 0, cells := 0, slots := 0, locals := 0 } : Room).cells ({ frames := 0, cells := 0, slots := 0, locals := 0 } : Room).slots) := by
  refine MetFree.of_bodySF (plainFor_of_name pn_com_2fexample_2ffrontweave_2ffrontweave_2fclustering_2fVectors) hisR ?_
  intro p e s m args below meth c s₁ Bd hml0 hP hK
  obtain ⟨rfl, hZ, hh⟩ := hP
  have hx := Bd.exec
  have hby := Bd.bytes
  have hml : c.maxLocals = 5 := hml0
  have hown : s.vm.findClass "com/example/frontweave/frontweave/clustering/Vectors" = some m.cls := findClass_of_methodNamed Bd.named
  have hnm := (name_of_methodNamed Bd.named Bd.method).1
  have X0 : Stand p l e ({ frames := 0, cells := 0, slots := 0, locals := 0 } : Room) s m #[(.ref a1), (.ref a2)] below meth c s₁ [] 0 0 := Stand.of_body Bd
  have e0 : s₁.heap = h0 := by rw [← hh, Bd.state]; rfl
  have N0 := Fr.nil n0
  have k0 : ∀ t, Steps p.tables e below (s₁.setTop (mkF m 0 #[.val (.ref a1), .val (.ref a2), .unset, .unset, .unset] [])) t → Steps p.tables e below (s₁.setTop (entryFrame m #[(.ref a1), (.ref a2)] 5)) t := fun t k => castTop (ef_1_RR m a1 a2) k
  have k101 : ∀ t, Steps p.tables e below (s₁.setTop (mkF m 8 #[.val (.ref a1), .val (.ref a2), .val (.double (0 : UInt64)), .second, .val (.int (0 : Int32))] [(.ref a1), (.int (0 : Int32))])) t → Steps p.tables e below (s₁.setTop (entryFrame m #[(.ref a1), (.ref a2)] 5)) t := fun t k => k0 t (by
    show Steps p.tables e below (s₁.setTop (mkF m 0 #[.val (.ref a1), .val (.ref a2), .unset, .unset, .unset] [])) _
    refine XS.dconst0 X0.here hx rfl (hb hby d1_0) (v := (0 : UInt64)) rfl ?_
    show Steps p.tables e below (s₁.setTop (mkF m 1 #[.val (.ref a1), .val (.ref a2), .unset, .unset, .unset] [(.double (0 : UInt64))])) _
    refine XS.dstoreN X0.here hx rfl (hb hby d1_1) rfl (l' := #[.val (.ref a1), .val (.ref a2), .val (.double (0 : UInt64)), .second, .unset]) rfl ?_
    show Steps p.tables e below (s₁.setTop (mkF m 2 #[.val (.ref a1), .val (.ref a2), .val (.double (0 : UInt64)), .second, .unset] [])) _
    refine XS.iconst X0.here hx rfl (hb hby d1_2) ?_
    show Steps p.tables e below (s₁.setTop (mkF m 3 #[.val (.ref a1), .val (.ref a2), .val (.double (0 : UInt64)), .second, .unset] [(.int (0 : Int32))])) _
    refine XS.istore X0.here hx rfl (hb hby d1_3) rfl (l' := #[.val (.ref a1), .val (.ref a2), .val (.double (0 : UInt64)), .second, .val (.int (0 : Int32))]) rfl ?_
    show Steps p.tables e below (s₁.setTop (mkF m 5 #[.val (.ref a1), .val (.ref a2), .val (.double (0 : UInt64)), .second, .val (.int (0 : Int32))] [])) _
    refine XS.iload X0.here hx rfl (hb hby d1_5) rfl ?_
    show Steps p.tables e below (s₁.setTop (mkF m 7 #[.val (.ref a1), .val (.ref a2), .val (.double (0 : UInt64)), .second, .val (.int (0 : Int32))] [(.int (0 : Int32))])) _
    refine XS.aloadN X0.here hx rfl (hb hby d1_7) rfl rfl ?_
    exact k)
  obtain ⟨c102, Ar102, -, As102, An102, -, -⟩ := id V1
  have k103 : ∀ t, Steps p.tables e below (s₁.setTop (mkF m 41 #[.val (.ref a1), .val (.ref a2), .val (.double (0 : UInt64)), .second, .val (.int (0 : Int32))] [(.double (0 : UInt64))])) t → Steps p.tables e below (s₁.setTop (entryFrame m #[(.ref a1), (.ref a2)] 5)) t := fun t k => k101 t (by
    show Steps p.tables e below (s₁.setTop (mkF m 8 #[.val (.ref a1), .val (.ref a2), .val (.double (0 : UInt64)), .second, .val (.int (0 : Int32))] [(.ref a1), (.int (0 : Int32))])) _
    refine X0.arraylength hx (by rw [e0]; exact Ar102.1) (State.isArrayOf_alike hZ.alike Ar102.2.1) (g := (mkF m 8 #[.val (.ref a1), .val (.ref a2), .val (.double (0 : UInt64)), .second, .val (.int (0 : Int32))] [(.ref a1), (.int (0 : Int32))])) rfl rfl (hb hby d1_8) _ ?_
    rw [len_of As102 An102]
    show Steps p.tables e below (s₁.setTop (mkF m 9 #[.val (.ref a1), .val (.ref a2), .val (.double (0 : UInt64)), .second, .val (.int (0 : Int32))] [(.int (0 : Int32)), (.int (0 : Int32))])) _
    refine XS.icmpYes X0.here hx rfl (pc0 := 9) (pc' := 40) rfl (hb hby d1_9) rfl (flt (by decide)).2.1 (by decide) (by decide) ?_
    show Steps p.tables e below (s₁.setTop (mkF m 40 #[.val (.ref a1), .val (.ref a2), .val (.double (0 : UInt64)), .second, .val (.int (0 : Int32))] [])) _
    refine XS.dloadN X0.here hx rfl (hb hby d1_40) rfl ?_
    exact k)
  obtain ⟨fs, hr, hrun, hended, hW, hsame⟩ := X0.leave (v := some (.double (0 : UInt64))) (fun h => by rw [Bd.returns] at h; cases h)
  refine ⟨_, _, k103 _ (retOut X0 hx (t := .double) Bd.returns rfl (Or.inr (Or.inr (Or.inl ⟨rfl, rfl, _, rfl⟩))) (hb hby d1_41) hr), hrun, hended, _, _, rfl, ?_, ⟨_, rfl⟩, hW, hsame.mono (by decide) (by decide)⟩
  show Q_dist0 Z a1 a2 k1 k2 h0 n0 _ s₁.heap _
  rw [e0]
  exact ⟨rfl, N0, rfl⟩
theorem d1_12 : decode prog_29_method_3_code 12 = .ok (.dload_n 2, 1) := by decide +kernel
theorem d1_13 : decode prog_29_method_3_code 13 = .ok (.aload_n 0, 1) := by decide +kernel
theorem d1_14 : decode prog_29_method_3_code 14 = .ok (.iload 4, 2) := by decide +kernel
theorem d1_16 : decode prog_29_method_3_code 16 = .ok (.daload, 1) := by decide +kernel
theorem d1_17 : decode prog_29_method_3_code 17 = .ok (.aload_n 1, 1) := by decide +kernel
theorem d1_18 : decode prog_29_method_3_code 18 = .ok (.iload 4, 2) := by decide +kernel
theorem d1_20 : decode prog_29_method_3_code 20 = .ok (.daload, 1) := by decide +kernel
theorem d1_21 : decode prog_29_method_3_code 21 = .ok (.dsub, 1) := by decide +kernel
theorem d1_22 : decode prog_29_method_3_code 22 = .ok (.aload_n 0, 1) := by decide +kernel
theorem d1_23 : decode prog_29_method_3_code 23 = .ok (.iload 4, 2) := by decide +kernel
theorem d1_25 : decode prog_29_method_3_code 25 = .ok (.daload, 1) := by decide +kernel
theorem d1_26 : decode prog_29_method_3_code 26 = .ok (.aload_n 1, 1) := by decide +kernel
theorem d1_27 : decode prog_29_method_3_code 27 = .ok (.iload 4, 2) := by decide +kernel
theorem d1_29 : decode prog_29_method_3_code 29 = .ok (.daload, 1) := by decide +kernel
theorem d1_30 : decode prog_29_method_3_code 30 = .ok (.dsub, 1) := by decide +kernel
theorem d1_31 : decode prog_29_method_3_code 31 = .ok (.dmul, 1) := by decide +kernel
theorem d1_32 : decode prog_29_method_3_code 32 = .ok (.dadd, 1) := by decide +kernel
theorem d1_33 : decode prog_29_method_3_code 33 = .ok (.dstore_n 2, 1) := by decide +kernel
theorem d1_34 : decode prog_29_method_3_code 34 = .ok (.iinc 4 1, 3) := by decide +kernel
theorem d1_37 : decode prog_29_method_3_code 37 = .ok (.goto (-32), 3) := by decide +kernel
def Q_dist1 (Z : State) (a1 : Addr) (a2 : Addr) (k1 : ClassId) (k2 : ClassId) (u1 : UInt64) (w1 : UInt64) (h0 : Heap) (n0 : Nat) (v : Option Value) (h : Heap) (L : List Loc) : Prop := v = some (.double (FP.dadd (0 : UInt64) (FP.dmul (FP.dsub u1 w1) (FP.dsub u1 w1)))) ∧ Fr n0 L ∧ h = h0
set_option maxRecDepth 65536 in
set_option maxHeartbeats 40000000 in
theorem dist1 (l : Launch) (Z : State) (a0 : Array Value) (hw : ∀ d ∈ tables_1, d.before a0 Z = true) (ws : List Jvm.Cond) (a1 : Addr) (a2 : Addr) (k1 : ClassId) (k2 : ClassId) (u1 : UInt64) (w1 : UInt64) (h0 : Heap) (n0 : Nat) (Z0 : n0 ≤ h0.size) (V1 : Arv Z h0 a1 k1 .double (1 : Int32) [(.double u1)] (.double (0 : UInt64))) (V2 : Arv Z h0 a2 k2 .double (1 : Int32) [(.double w1)] (.double (0 : UInt64))) (ns0 : Jvm.Free.Fl.NoNaN64 (FP.dsub u1 w1)) (nm0 : Jvm.Free.Fl.NoNaN64 (FP.dmul (FP.dsub u1 w1) (FP.dsub u1 w1))) (na0 : Jvm.Free.Fl.NoNaN64 (FP.dadd (0 : UInt64) (FP.dmul (FP.dsub u1 w1) (FP.dsub u1 w1)))) :
    MetFree l (⟨"com/example/frontweave/frontweave/clustering/Vectors", "distanceSquared", "([D[D)D"⟩ : MethodName) (head1 (Jvm.Cond.code (⟨"com/example/frontweave/frontweave/clustering/Vectors", "distanceSquared", "([D[D)D"⟩ : MethodName) prog_29_method_3_code 5 (some .double) :: ws) ({ frames := 0, cells := 0, slots := 0, locals := 0 } : Room)) (fun a U => a = #[(.ref a1), (.ref a2)] ∧ Z.Warmed39 U.vm ∧ U.heap = h0) (fun _ _ _ _ _ => True) (fun _ U o U' => ∃ v L, o = .returned v ∧ Q_dist1 Z a1 a2 k1 k2 u1 w1 h0 n0 v U'.heap L ∧ FrameEnd U o U' L ({ frames := 0, cells := 0, slots := 0, locals := 0 } : Room).cells ({ frames := 0, cells := 0, slots := 0, locals := 0 } : Room).slots) := by
  refine MetFree.of_bodySF (plainFor_of_name pn_com_2fexample_2ffrontweave_2ffrontweave_2fclustering_2fVectors) hisR ?_
  intro p e s m args below meth c s₁ Bd hml0 hP hK
  obtain ⟨rfl, hZ, hh⟩ := hP
  have hx := Bd.exec
  have hby := Bd.bytes
  have hml : c.maxLocals = 5 := hml0
  have hown : s.vm.findClass "com/example/frontweave/frontweave/clustering/Vectors" = some m.cls := findClass_of_methodNamed Bd.named
  have hnm := (name_of_methodNamed Bd.named Bd.method).1
  have X0 : Stand p l e ({ frames := 0, cells := 0, slots := 0, locals := 0 } : Room) s m #[(.ref a1), (.ref a2)] below meth c s₁ [] 0 0 := Stand.of_body Bd
  have e0 : s₁.heap = h0 := by rw [← hh, Bd.state]; rfl
  have N0 := Fr.nil n0
  have k0 : ∀ t, Steps p.tables e below (s₁.setTop (mkF m 0 #[.val (.ref a1), .val (.ref a2), .unset, .unset, .unset] [])) t → Steps p.tables e below (s₁.setTop (entryFrame m #[(.ref a1), (.ref a2)] 5)) t := fun t k => castTop (ef_1_RR m a1 a2) k
  have k101 : ∀ t, Steps p.tables e below (s₁.setTop (mkF m 8 #[.val (.ref a1), .val (.ref a2), .val (.double (0 : UInt64)), .second, .val (.int (0 : Int32))] [(.ref a1), (.int (0 : Int32))])) t → Steps p.tables e below (s₁.setTop (entryFrame m #[(.ref a1), (.ref a2)] 5)) t := fun t k => k0 t (by
    show Steps p.tables e below (s₁.setTop (mkF m 0 #[.val (.ref a1), .val (.ref a2), .unset, .unset, .unset] [])) _
    refine XS.dconst0 X0.here hx rfl (hb hby d1_0) (v := (0 : UInt64)) rfl ?_
    show Steps p.tables e below (s₁.setTop (mkF m 1 #[.val (.ref a1), .val (.ref a2), .unset, .unset, .unset] [(.double (0 : UInt64))])) _
    refine XS.dstoreN X0.here hx rfl (hb hby d1_1) rfl (l' := #[.val (.ref a1), .val (.ref a2), .val (.double (0 : UInt64)), .second, .unset]) rfl ?_
    show Steps p.tables e below (s₁.setTop (mkF m 2 #[.val (.ref a1), .val (.ref a2), .val (.double (0 : UInt64)), .second, .unset] [])) _
    refine XS.iconst X0.here hx rfl (hb hby d1_2) ?_
    show Steps p.tables e below (s₁.setTop (mkF m 3 #[.val (.ref a1), .val (.ref a2), .val (.double (0 : UInt64)), .second, .unset] [(.int (0 : Int32))])) _
    refine XS.istore X0.here hx rfl (hb hby d1_3) rfl (l' := #[.val (.ref a1), .val (.ref a2), .val (.double (0 : UInt64)), .second, .val (.int (0 : Int32))]) rfl ?_
    show Steps p.tables e below (s₁.setTop (mkF m 5 #[.val (.ref a1), .val (.ref a2), .val (.double (0 : UInt64)), .second, .val (.int (0 : Int32))] [])) _
    refine XS.iload X0.here hx rfl (hb hby d1_5) rfl ?_
    show Steps p.tables e below (s₁.setTop (mkF m 7 #[.val (.ref a1), .val (.ref a2), .val (.double (0 : UInt64)), .second, .val (.int (0 : Int32))] [(.int (0 : Int32))])) _
    refine XS.aloadN X0.here hx rfl (hb hby d1_7) rfl rfl ?_
    exact k)
  obtain ⟨c102, Ar102, -, As102, An102, -, -⟩ := id V1
  have k103 : ∀ t, Steps p.tables e below (s₁.setTop (mkF m 16 #[.val (.ref a1), .val (.ref a2), .val (.double (0 : UInt64)), .second, .val (.int (0 : Int32))] [(.int (0 : Int32)), (.ref a1), (.double (0 : UInt64))])) t → Steps p.tables e below (s₁.setTop (entryFrame m #[(.ref a1), (.ref a2)] 5)) t := fun t k => k101 t (by
    show Steps p.tables e below (s₁.setTop (mkF m 8 #[.val (.ref a1), .val (.ref a2), .val (.double (0 : UInt64)), .second, .val (.int (0 : Int32))] [(.ref a1), (.int (0 : Int32))])) _
    refine X0.arraylength hx (by rw [e0]; exact Ar102.1) (State.isArrayOf_alike hZ.alike Ar102.2.1) (g := (mkF m 8 #[.val (.ref a1), .val (.ref a2), .val (.double (0 : UInt64)), .second, .val (.int (0 : Int32))] [(.ref a1), (.int (0 : Int32))])) rfl rfl (hb hby d1_8) _ ?_
    rw [len_of As102 An102]
    show Steps p.tables e below (s₁.setTop (mkF m 9 #[.val (.ref a1), .val (.ref a2), .val (.double (0 : UInt64)), .second, .val (.int (0 : Int32))] [(.int (1 : Int32)), (.int (0 : Int32))])) _
    refine XS.icmpNo X0.here hx rfl (hb hby d1_9) rfl (tlt (by decide)).2.1 ?_
    show Steps p.tables e below (s₁.setTop (mkF m 12 #[.val (.ref a1), .val (.ref a2), .val (.double (0 : UInt64)), .second, .val (.int (0 : Int32))] [])) _
    refine XS.dloadN X0.here hx rfl (hb hby d1_12) rfl ?_
    show Steps p.tables e below (s₁.setTop (mkF m 13 #[.val (.ref a1), .val (.ref a2), .val (.double (0 : UInt64)), .second, .val (.int (0 : Int32))] [(.double (0 : UInt64))])) _
    refine XS.aloadN X0.here hx rfl (hb hby d1_13) rfl rfl ?_
    show Steps p.tables e below (s₁.setTop (mkF m 14 #[.val (.ref a1), .val (.ref a2), .val (.double (0 : UInt64)), .second, .val (.int (0 : Int32))] [(.ref a1), (.double (0 : UInt64))])) _
    refine XS.iload X0.here hx rfl (hb hby d1_14) rfl ?_
    exact k)
  obtain ⟨c104, Ar104, -, As104, An104, Ah104, -⟩ := id V1
  have hin104 : ¬ ((0 : Int32) < 0 ∨ c104.slots.size ≤ ((0 : Int32)).toNatClampNeg) := inb_of As104 ⟨by decide, by decide⟩
  have hat104 : c104.slots[((0 : Int32)).toNatClampNeg]? = some (.double u1) := Has.at Ah104 hin104 rfl
  have k105 : ∀ t, Steps p.tables e below (s₁.setTop (mkF m 20 #[.val (.ref a1), .val (.ref a2), .val (.double (0 : UInt64)), .second, .val (.int (0 : Int32))] [(.int (0 : Int32)), (.ref a2), (.double u1), (.double (0 : UInt64))])) t → Steps p.tables e below (s₁.setTop (entryFrame m #[(.ref a1), (.ref a2)] 5)) t := fun t k => k103 t (by
    show Steps p.tables e below (s₁.setTop (mkF m 16 #[.val (.ref a1), .val (.ref a2), .val (.double (0 : UInt64)), .second, .val (.int (0 : Int32))] [(.int (0 : Int32)), (.ref a1), (.double (0 : UInt64))])) _
    refine X0.daload hx (j := (0 : Int32)) (v := (.double u1)) (by rw [e0]; exact Ar104.1) (State.isArrayOf_alike hZ.alike Ar104.2.1) Ar104.2.2 hin104 hat104 (g := (mkF m 16 #[.val (.ref a1), .val (.ref a2), .val (.double (0 : UInt64)), .second, .val (.int (0 : Int32))] [(.int (0 : Int32)), (.ref a1), (.double (0 : UInt64))])) rfl rfl (hb hby d1_16) _ ?_
    show Steps p.tables e below (s₁.setTop (mkF m 17 #[.val (.ref a1), .val (.ref a2), .val (.double (0 : UInt64)), .second, .val (.int (0 : Int32))] [(.double u1), (.double (0 : UInt64))])) _
    refine XS.aloadN X0.here hx rfl (hb hby d1_17) rfl rfl ?_
    show Steps p.tables e below (s₁.setTop (mkF m 18 #[.val (.ref a1), .val (.ref a2), .val (.double (0 : UInt64)), .second, .val (.int (0 : Int32))] [(.ref a2), (.double u1), (.double (0 : UInt64))])) _
    refine XS.iload X0.here hx rfl (hb hby d1_18) rfl ?_
    exact k)
  obtain ⟨c106, Ar106, -, As106, An106, Ah106, -⟩ := id V2
  have hin106 : ¬ ((0 : Int32) < 0 ∨ c106.slots.size ≤ ((0 : Int32)).toNatClampNeg) := inb_of As106 ⟨by decide, by decide⟩
  have hat106 : c106.slots[((0 : Int32)).toNatClampNeg]? = some (.double w1) := Has.at Ah106 hin106 rfl
  have k107 : ∀ t, Steps p.tables e below (s₁.setTop (mkF m 25 #[.val (.ref a1), .val (.ref a2), .val (.double (0 : UInt64)), .second, .val (.int (0 : Int32))] [(.int (0 : Int32)), (.ref a1), (.double (FP.dsub u1 w1)), (.double (0 : UInt64))])) t → Steps p.tables e below (s₁.setTop (entryFrame m #[(.ref a1), (.ref a2)] 5)) t := fun t k => k105 t (by
    show Steps p.tables e below (s₁.setTop (mkF m 20 #[.val (.ref a1), .val (.ref a2), .val (.double (0 : UInt64)), .second, .val (.int (0 : Int32))] [(.int (0 : Int32)), (.ref a2), (.double u1), (.double (0 : UInt64))])) _
    refine X0.daload hx (j := (0 : Int32)) (v := (.double w1)) (by rw [e0]; exact Ar106.1) (State.isArrayOf_alike hZ.alike Ar106.2.1) Ar106.2.2 hin106 hat106 (g := (mkF m 20 #[.val (.ref a1), .val (.ref a2), .val (.double (0 : UInt64)), .second, .val (.int (0 : Int32))] [(.int (0 : Int32)), (.ref a2), (.double u1), (.double (0 : UInt64))])) rfl rfl (hb hby d1_20) _ ?_
    show Steps p.tables e below (s₁.setTop (mkF m 21 #[.val (.ref a1), .val (.ref a2), .val (.double (0 : UInt64)), .second, .val (.int (0 : Int32))] [(.double w1), (.double u1), (.double (0 : UInt64))])) _
    refine XS.dsubS X0.here hx rfl (hb hby d1_21) rfl (ns0) rfl ?_
    show Steps p.tables e below (s₁.setTop (mkF m 22 #[.val (.ref a1), .val (.ref a2), .val (.double (0 : UInt64)), .second, .val (.int (0 : Int32))] [(.double (FP.dsub u1 w1)), (.double (0 : UInt64))])) _
    refine XS.aloadN X0.here hx rfl (hb hby d1_22) rfl rfl ?_
    show Steps p.tables e below (s₁.setTop (mkF m 23 #[.val (.ref a1), .val (.ref a2), .val (.double (0 : UInt64)), .second, .val (.int (0 : Int32))] [(.ref a1), (.double (FP.dsub u1 w1)), (.double (0 : UInt64))])) _
    refine XS.iload X0.here hx rfl (hb hby d1_23) rfl ?_
    exact k)
  obtain ⟨c108, Ar108, -, As108, An108, Ah108, -⟩ := id V1
  have hin108 : ¬ ((0 : Int32) < 0 ∨ c108.slots.size ≤ ((0 : Int32)).toNatClampNeg) := inb_of As108 ⟨by decide, by decide⟩
  have hat108 : c108.slots[((0 : Int32)).toNatClampNeg]? = some (.double u1) := Has.at Ah108 hin108 rfl
  have k109 : ∀ t, Steps p.tables e below (s₁.setTop (mkF m 29 #[.val (.ref a1), .val (.ref a2), .val (.double (0 : UInt64)), .second, .val (.int (0 : Int32))] [(.int (0 : Int32)), (.ref a2), (.double u1), (.double (FP.dsub u1 w1)), (.double (0 : UInt64))])) t → Steps p.tables e below (s₁.setTop (entryFrame m #[(.ref a1), (.ref a2)] 5)) t := fun t k => k107 t (by
    show Steps p.tables e below (s₁.setTop (mkF m 25 #[.val (.ref a1), .val (.ref a2), .val (.double (0 : UInt64)), .second, .val (.int (0 : Int32))] [(.int (0 : Int32)), (.ref a1), (.double (FP.dsub u1 w1)), (.double (0 : UInt64))])) _
    refine X0.daload hx (j := (0 : Int32)) (v := (.double u1)) (by rw [e0]; exact Ar108.1) (State.isArrayOf_alike hZ.alike Ar108.2.1) Ar108.2.2 hin108 hat108 (g := (mkF m 25 #[.val (.ref a1), .val (.ref a2), .val (.double (0 : UInt64)), .second, .val (.int (0 : Int32))] [(.int (0 : Int32)), (.ref a1), (.double (FP.dsub u1 w1)), (.double (0 : UInt64))])) rfl rfl (hb hby d1_25) _ ?_
    show Steps p.tables e below (s₁.setTop (mkF m 26 #[.val (.ref a1), .val (.ref a2), .val (.double (0 : UInt64)), .second, .val (.int (0 : Int32))] [(.double u1), (.double (FP.dsub u1 w1)), (.double (0 : UInt64))])) _
    refine XS.aloadN X0.here hx rfl (hb hby d1_26) rfl rfl ?_
    show Steps p.tables e below (s₁.setTop (mkF m 27 #[.val (.ref a1), .val (.ref a2), .val (.double (0 : UInt64)), .second, .val (.int (0 : Int32))] [(.ref a2), (.double u1), (.double (FP.dsub u1 w1)), (.double (0 : UInt64))])) _
    refine XS.iload X0.here hx rfl (hb hby d1_27) rfl ?_
    exact k)
  obtain ⟨c110, Ar110, -, As110, An110, Ah110, -⟩ := id V2
  have hin110 : ¬ ((0 : Int32) < 0 ∨ c110.slots.size ≤ ((0 : Int32)).toNatClampNeg) := inb_of As110 ⟨by decide, by decide⟩
  have hat110 : c110.slots[((0 : Int32)).toNatClampNeg]? = some (.double w1) := Has.at Ah110 hin110 rfl
  have k111 : ∀ t, Steps p.tables e below (s₁.setTop (mkF m 8 #[.val (.ref a1), .val (.ref a2), .val (.double (FP.dadd (0 : UInt64) (FP.dmul (FP.dsub u1 w1) (FP.dsub u1 w1)))), .second, .val (.int (1 : Int32))] [(.ref a1), (.int (1 : Int32))])) t → Steps p.tables e below (s₁.setTop (entryFrame m #[(.ref a1), (.ref a2)] 5)) t := fun t k => k109 t (by
    show Steps p.tables e below (s₁.setTop (mkF m 29 #[.val (.ref a1), .val (.ref a2), .val (.double (0 : UInt64)), .second, .val (.int (0 : Int32))] [(.int (0 : Int32)), (.ref a2), (.double u1), (.double (FP.dsub u1 w1)), (.double (0 : UInt64))])) _
    refine X0.daload hx (j := (0 : Int32)) (v := (.double w1)) (by rw [e0]; exact Ar110.1) (State.isArrayOf_alike hZ.alike Ar110.2.1) Ar110.2.2 hin110 hat110 (g := (mkF m 29 #[.val (.ref a1), .val (.ref a2), .val (.double (0 : UInt64)), .second, .val (.int (0 : Int32))] [(.int (0 : Int32)), (.ref a2), (.double u1), (.double (FP.dsub u1 w1)), (.double (0 : UInt64))])) rfl rfl (hb hby d1_29) _ ?_
    show Steps p.tables e below (s₁.setTop (mkF m 30 #[.val (.ref a1), .val (.ref a2), .val (.double (0 : UInt64)), .second, .val (.int (0 : Int32))] [(.double w1), (.double u1), (.double (FP.dsub u1 w1)), (.double (0 : UInt64))])) _
    refine XS.dsubS X0.here hx rfl (hb hby d1_30) rfl (ns0) rfl ?_
    show Steps p.tables e below (s₁.setTop (mkF m 31 #[.val (.ref a1), .val (.ref a2), .val (.double (0 : UInt64)), .second, .val (.int (0 : Int32))] [(.double (FP.dsub u1 w1)), (.double (FP.dsub u1 w1)), (.double (0 : UInt64))])) _
    refine XS.dmulS X0.here hx rfl (hb hby d1_31) rfl (nm0) rfl ?_
    show Steps p.tables e below (s₁.setTop (mkF m 32 #[.val (.ref a1), .val (.ref a2), .val (.double (0 : UInt64)), .second, .val (.int (0 : Int32))] [(.double (FP.dmul (FP.dsub u1 w1) (FP.dsub u1 w1))), (.double (0 : UInt64))])) _
    refine XS.daddS X0.here hx rfl (hb hby d1_32) rfl (na0) rfl ?_
    show Steps p.tables e below (s₁.setTop (mkF m 33 #[.val (.ref a1), .val (.ref a2), .val (.double (0 : UInt64)), .second, .val (.int (0 : Int32))] [(.double (FP.dadd (0 : UInt64) (FP.dmul (FP.dsub u1 w1) (FP.dsub u1 w1))))])) _
    refine XS.dstoreN X0.here hx rfl (hb hby d1_33) rfl (l' := #[.val (.ref a1), .val (.ref a2), .val (.double (FP.dadd (0 : UInt64) (FP.dmul (FP.dsub u1 w1) (FP.dsub u1 w1)))), .second, .val (.int (0 : Int32))]) rfl ?_
    show Steps p.tables e below (s₁.setTop (mkF m 34 #[.val (.ref a1), .val (.ref a2), .val (.double (FP.dadd (0 : UInt64) (FP.dmul (FP.dsub u1 w1) (FP.dsub u1 w1)))), .second, .val (.int (0 : Int32))] [])) _
    refine XS.iinc X0.here hx rfl (hb hby d1_34) rfl (l' := #[.val (.ref a1), .val (.ref a2), .val (.double (FP.dadd (0 : UInt64) (FP.dmul (FP.dsub u1 w1) (FP.dsub u1 w1)))), .second, .val (.int (1 : Int32))]) rfl ?_
    show Steps p.tables e below (s₁.setTop (mkF m 37 #[.val (.ref a1), .val (.ref a2), .val (.double (FP.dadd (0 : UInt64) (FP.dmul (FP.dsub u1 w1) (FP.dsub u1 w1)))), .second, .val (.int (1 : Int32))] [])) _
    refine XS.goto X0.here hx rfl (pc0 := 37) (pc' := 5) rfl (hb hby d1_37) (by decide) (by decide) ?_
    show Steps p.tables e below (s₁.setTop (mkF m 5 #[.val (.ref a1), .val (.ref a2), .val (.double (FP.dadd (0 : UInt64) (FP.dmul (FP.dsub u1 w1) (FP.dsub u1 w1)))), .second, .val (.int (1 : Int32))] [])) _
    refine XS.iload X0.here hx rfl (hb hby d1_5) rfl ?_
    show Steps p.tables e below (s₁.setTop (mkF m 7 #[.val (.ref a1), .val (.ref a2), .val (.double (FP.dadd (0 : UInt64) (FP.dmul (FP.dsub u1 w1) (FP.dsub u1 w1)))), .second, .val (.int (1 : Int32))] [(.int (1 : Int32))])) _
    refine XS.aloadN X0.here hx rfl (hb hby d1_7) rfl rfl ?_
    exact k)
  obtain ⟨c112, Ar112, -, As112, An112, -, -⟩ := id V1
  have k113 : ∀ t, Steps p.tables e below (s₁.setTop (mkF m 41 #[.val (.ref a1), .val (.ref a2), .val (.double (FP.dadd (0 : UInt64) (FP.dmul (FP.dsub u1 w1) (FP.dsub u1 w1)))), .second, .val (.int (1 : Int32))] [(.double (FP.dadd (0 : UInt64) (FP.dmul (FP.dsub u1 w1) (FP.dsub u1 w1))))])) t → Steps p.tables e below (s₁.setTop (entryFrame m #[(.ref a1), (.ref a2)] 5)) t := fun t k => k111 t (by
    show Steps p.tables e below (s₁.setTop (mkF m 8 #[.val (.ref a1), .val (.ref a2), .val (.double (FP.dadd (0 : UInt64) (FP.dmul (FP.dsub u1 w1) (FP.dsub u1 w1)))), .second, .val (.int (1 : Int32))] [(.ref a1), (.int (1 : Int32))])) _
    refine X0.arraylength hx (by rw [e0]; exact Ar112.1) (State.isArrayOf_alike hZ.alike Ar112.2.1) (g := (mkF m 8 #[.val (.ref a1), .val (.ref a2), .val (.double (FP.dadd (0 : UInt64) (FP.dmul (FP.dsub u1 w1) (FP.dsub u1 w1)))), .second, .val (.int (1 : Int32))] [(.ref a1), (.int (1 : Int32))])) rfl rfl (hb hby d1_8) _ ?_
    rw [len_of As112 An112]
    show Steps p.tables e below (s₁.setTop (mkF m 9 #[.val (.ref a1), .val (.ref a2), .val (.double (FP.dadd (0 : UInt64) (FP.dmul (FP.dsub u1 w1) (FP.dsub u1 w1)))), .second, .val (.int (1 : Int32))] [(.int (1 : Int32)), (.int (1 : Int32))])) _
    refine XS.icmpYes X0.here hx rfl (pc0 := 9) (pc' := 40) rfl (hb hby d1_9) rfl (flt (by decide)).2.1 (by decide) (by decide) ?_
    show Steps p.tables e below (s₁.setTop (mkF m 40 #[.val (.ref a1), .val (.ref a2), .val (.double (FP.dadd (0 : UInt64) (FP.dmul (FP.dsub u1 w1) (FP.dsub u1 w1)))), .second, .val (.int (1 : Int32))] [])) _
    refine XS.dloadN X0.here hx rfl (hb hby d1_40) rfl ?_
    exact k)
  obtain ⟨fs, hr, hrun, hended, hW, hsame⟩ := X0.leave (v := some (.double (FP.dadd (0 : UInt64) (FP.dmul (FP.dsub u1 w1) (FP.dsub u1 w1))))) (fun h => by rw [Bd.returns] at h; cases h)
  refine ⟨_, _, k113 _ (retOut X0 hx (t := .double) Bd.returns rfl (Or.inr (Or.inr (Or.inl ⟨rfl, rfl, _, rfl⟩))) (hb hby d1_41) hr), hrun, hended, _, _, rfl, ?_, ⟨_, rfl⟩, hW, hsame.mono (by decide) (by decide)⟩
  show Q_dist1 Z a1 a2 k1 k2 u1 w1 h0 n0 _ s₁.heap _
  rw [e0]
  exact ⟨rfl, N0, rfl⟩
def Q_dist2 (Z : State) (a1 : Addr) (a2 : Addr) (k1 : ClassId) (k2 : ClassId) (u1 : UInt64) (u2 : UInt64) (w1 : UInt64) (w2 : UInt64) (h0 : Heap) (n0 : Nat) (v : Option Value) (h : Heap) (L : List Loc) : Prop := v = some (.double (FP.dadd (FP.dadd (0 : UInt64) (FP.dmul (FP.dsub u1 w1) (FP.dsub u1 w1))) (FP.dmul (FP.dsub u2 w2) (FP.dsub u2 w2)))) ∧ Fr n0 L ∧ h = h0
set_option maxRecDepth 65536 in
set_option maxHeartbeats 40000000 in
theorem dist2 (l : Launch) (Z : State) (a0 : Array Value) (hw : ∀ d ∈ tables_1, d.before a0 Z = true) (ws : List Jvm.Cond) (a1 : Addr) (a2 : Addr) (k1 : ClassId) (k2 : ClassId) (u1 : UInt64) (u2 : UInt64) (w1 : UInt64) (w2 : UInt64) (h0 : Heap) (n0 : Nat) (Z0 : n0 ≤ h0.size) (V1 : Arv Z h0 a1 k1 .double (2 : Int32) [(.double u1), (.double u2)] (.double (0 : UInt64))) (V2 : Arv Z h0 a2 k2 .double (2 : Int32) [(.double w1), (.double w2)] (.double (0 : UInt64))) (ns0 : Jvm.Free.Fl.NoNaN64 (FP.dsub u1 w1)) (nm0 : Jvm.Free.Fl.NoNaN64 (FP.dmul (FP.dsub u1 w1) (FP.dsub u1 w1))) (na0 : Jvm.Free.Fl.NoNaN64 (FP.dadd (0 : UInt64) (FP.dmul (FP.dsub u1 w1) (FP.dsub u1 w1)))) (ns1 : Jvm.Free.Fl.NoNaN64 (FP.dsub u2 w2)) (nm1 : Jvm.Free.Fl.NoNaN64 (FP.dmul (FP.dsub u2 w2) (FP.dsub u2 w2))) (na1 : Jvm.Free.Fl.NoNaN64 (FP.dadd (FP.dadd (0 : UInt64) (FP.dmul (FP.dsub u1 w1) (FP.dsub u1 w1))) (FP.dmul (FP.dsub u2 w2) (FP.dsub u2 w2)))) :
    MetFree l (⟨"com/example/frontweave/frontweave/clustering/Vectors", "distanceSquared", "([D[D)D"⟩ : MethodName) (head1 (Jvm.Cond.code (⟨"com/example/frontweave/frontweave/clustering/Vectors", "distanceSquared", "([D[D)D"⟩ : MethodName) prog_29_method_3_code 5 (some .double) :: ws) ({ frames := 0, cells := 0, slots := 0, locals := 0 } : Room)) (fun a U => a = #[(.ref a1), (.ref a2)] ∧ Z.Warmed39 U.vm ∧ U.heap = h0) (fun _ _ _ _ _ => True) (fun _ U o U' => ∃ v L, o = .returned v ∧ Q_dist2 Z a1 a2 k1 k2 u1 u2 w1 w2 h0 n0 v U'.heap L ∧ FrameEnd U o U' L ({ frames := 0, cells := 0, slots := 0, locals := 0 } : Room).cells ({ frames := 0, cells := 0, slots := 0, locals := 0 } : Room).slots) := by
  refine MetFree.of_bodySF (plainFor_of_name pn_com_2fexample_2ffrontweave_2ffrontweave_2fclustering_2fVectors) hisR ?_
  intro p e s m args below meth c s₁ Bd hml0 hP hK
  obtain ⟨rfl, hZ, hh⟩ := hP
  have hx := Bd.exec
  have hby := Bd.bytes
  have hml : c.maxLocals = 5 := hml0
  have hown : s.vm.findClass "com/example/frontweave/frontweave/clustering/Vectors" = some m.cls := findClass_of_methodNamed Bd.named
  have hnm := (name_of_methodNamed Bd.named Bd.method).1
  have X0 : Stand p l e ({ frames := 0, cells := 0, slots := 0, locals := 0 } : Room) s m #[(.ref a1), (.ref a2)] below meth c s₁ [] 0 0 := Stand.of_body Bd
  have e0 : s₁.heap = h0 := by rw [← hh, Bd.state]; rfl
  have N0 := Fr.nil n0
  have k0 : ∀ t, Steps p.tables e below (s₁.setTop (mkF m 0 #[.val (.ref a1), .val (.ref a2), .unset, .unset, .unset] [])) t → Steps p.tables e below (s₁.setTop (entryFrame m #[(.ref a1), (.ref a2)] 5)) t := fun t k => castTop (ef_1_RR m a1 a2) k
  have k101 : ∀ t, Steps p.tables e below (s₁.setTop (mkF m 8 #[.val (.ref a1), .val (.ref a2), .val (.double (0 : UInt64)), .second, .val (.int (0 : Int32))] [(.ref a1), (.int (0 : Int32))])) t → Steps p.tables e below (s₁.setTop (entryFrame m #[(.ref a1), (.ref a2)] 5)) t := fun t k => k0 t (by
    show Steps p.tables e below (s₁.setTop (mkF m 0 #[.val (.ref a1), .val (.ref a2), .unset, .unset, .unset] [])) _
    refine XS.dconst0 X0.here hx rfl (hb hby d1_0) (v := (0 : UInt64)) rfl ?_
    show Steps p.tables e below (s₁.setTop (mkF m 1 #[.val (.ref a1), .val (.ref a2), .unset, .unset, .unset] [(.double (0 : UInt64))])) _
    refine XS.dstoreN X0.here hx rfl (hb hby d1_1) rfl (l' := #[.val (.ref a1), .val (.ref a2), .val (.double (0 : UInt64)), .second, .unset]) rfl ?_
    show Steps p.tables e below (s₁.setTop (mkF m 2 #[.val (.ref a1), .val (.ref a2), .val (.double (0 : UInt64)), .second, .unset] [])) _
    refine XS.iconst X0.here hx rfl (hb hby d1_2) ?_
    show Steps p.tables e below (s₁.setTop (mkF m 3 #[.val (.ref a1), .val (.ref a2), .val (.double (0 : UInt64)), .second, .unset] [(.int (0 : Int32))])) _
    refine XS.istore X0.here hx rfl (hb hby d1_3) rfl (l' := #[.val (.ref a1), .val (.ref a2), .val (.double (0 : UInt64)), .second, .val (.int (0 : Int32))]) rfl ?_
    show Steps p.tables e below (s₁.setTop (mkF m 5 #[.val (.ref a1), .val (.ref a2), .val (.double (0 : UInt64)), .second, .val (.int (0 : Int32))] [])) _
    refine XS.iload X0.here hx rfl (hb hby d1_5) rfl ?_
    show Steps p.tables e below (s₁.setTop (mkF m 7 #[.val (.ref a1), .val (.ref a2), .val (.double (0 : UInt64)), .second, .val (.int (0 : Int32))] [(.int (0 : Int32))])) _
    refine XS.aloadN X0.here hx rfl (hb hby d1_7) rfl rfl ?_
    exact k)
  obtain ⟨c102, Ar102, -, As102, An102, -, -⟩ := id V1
  have k103 : ∀ t, Steps p.tables e below (s₁.setTop (mkF m 16 #[.val (.ref a1), .val (.ref a2), .val (.double (0 : UInt64)), .second, .val (.int (0 : Int32))] [(.int (0 : Int32)), (.ref a1), (.double (0 : UInt64))])) t → Steps p.tables e below (s₁.setTop (entryFrame m #[(.ref a1), (.ref a2)] 5)) t := fun t k => k101 t (by
    show Steps p.tables e below (s₁.setTop (mkF m 8 #[.val (.ref a1), .val (.ref a2), .val (.double (0 : UInt64)), .second, .val (.int (0 : Int32))] [(.ref a1), (.int (0 : Int32))])) _
    refine X0.arraylength hx (by rw [e0]; exact Ar102.1) (State.isArrayOf_alike hZ.alike Ar102.2.1) (g := (mkF m 8 #[.val (.ref a1), .val (.ref a2), .val (.double (0 : UInt64)), .second, .val (.int (0 : Int32))] [(.ref a1), (.int (0 : Int32))])) rfl rfl (hb hby d1_8) _ ?_
    rw [len_of As102 An102]
    show Steps p.tables e below (s₁.setTop (mkF m 9 #[.val (.ref a1), .val (.ref a2), .val (.double (0 : UInt64)), .second, .val (.int (0 : Int32))] [(.int (2 : Int32)), (.int (0 : Int32))])) _
    refine XS.icmpNo X0.here hx rfl (hb hby d1_9) rfl (tlt (by decide)).2.1 ?_
    show Steps p.tables e below (s₁.setTop (mkF m 12 #[.val (.ref a1), .val (.ref a2), .val (.double (0 : UInt64)), .second, .val (.int (0 : Int32))] [])) _
    refine XS.dloadN X0.here hx rfl (hb hby d1_12) rfl ?_
    show Steps p.tables e below (s₁.setTop (mkF m 13 #[.val (.ref a1), .val (.ref a2), .val (.double (0 : UInt64)), .second, .val (.int (0 : Int32))] [(.double (0 : UInt64))])) _
    refine XS.aloadN X0.here hx rfl (hb hby d1_13) rfl rfl ?_
    show Steps p.tables e below (s₁.setTop (mkF m 14 #[.val (.ref a1), .val (.ref a2), .val (.double (0 : UInt64)), .second, .val (.int (0 : Int32))] [(.ref a1), (.double (0 : UInt64))])) _
    refine XS.iload X0.here hx rfl (hb hby d1_14) rfl ?_
    exact k)
  obtain ⟨c104, Ar104, -, As104, An104, Ah104, -⟩ := id V1
  have hin104 : ¬ ((0 : Int32) < 0 ∨ c104.slots.size ≤ ((0 : Int32)).toNatClampNeg) := inb_of As104 ⟨by decide, by decide⟩
  have hat104 : c104.slots[((0 : Int32)).toNatClampNeg]? = some (.double u1) := Has.at Ah104 hin104 rfl
  have k105 : ∀ t, Steps p.tables e below (s₁.setTop (mkF m 20 #[.val (.ref a1), .val (.ref a2), .val (.double (0 : UInt64)), .second, .val (.int (0 : Int32))] [(.int (0 : Int32)), (.ref a2), (.double u1), (.double (0 : UInt64))])) t → Steps p.tables e below (s₁.setTop (entryFrame m #[(.ref a1), (.ref a2)] 5)) t := fun t k => k103 t (by
    show Steps p.tables e below (s₁.setTop (mkF m 16 #[.val (.ref a1), .val (.ref a2), .val (.double (0 : UInt64)), .second, .val (.int (0 : Int32))] [(.int (0 : Int32)), (.ref a1), (.double (0 : UInt64))])) _
    refine X0.daload hx (j := (0 : Int32)) (v := (.double u1)) (by rw [e0]; exact Ar104.1) (State.isArrayOf_alike hZ.alike Ar104.2.1) Ar104.2.2 hin104 hat104 (g := (mkF m 16 #[.val (.ref a1), .val (.ref a2), .val (.double (0 : UInt64)), .second, .val (.int (0 : Int32))] [(.int (0 : Int32)), (.ref a1), (.double (0 : UInt64))])) rfl rfl (hb hby d1_16) _ ?_
    show Steps p.tables e below (s₁.setTop (mkF m 17 #[.val (.ref a1), .val (.ref a2), .val (.double (0 : UInt64)), .second, .val (.int (0 : Int32))] [(.double u1), (.double (0 : UInt64))])) _
    refine XS.aloadN X0.here hx rfl (hb hby d1_17) rfl rfl ?_
    show Steps p.tables e below (s₁.setTop (mkF m 18 #[.val (.ref a1), .val (.ref a2), .val (.double (0 : UInt64)), .second, .val (.int (0 : Int32))] [(.ref a2), (.double u1), (.double (0 : UInt64))])) _
    refine XS.iload X0.here hx rfl (hb hby d1_18) rfl ?_
    exact k)
  obtain ⟨c106, Ar106, -, As106, An106, Ah106, -⟩ := id V2
  have hin106 : ¬ ((0 : Int32) < 0 ∨ c106.slots.size ≤ ((0 : Int32)).toNatClampNeg) := inb_of As106 ⟨by decide, by decide⟩
  have hat106 : c106.slots[((0 : Int32)).toNatClampNeg]? = some (.double w1) := Has.at Ah106 hin106 rfl
  have k107 : ∀ t, Steps p.tables e below (s₁.setTop (mkF m 25 #[.val (.ref a1), .val (.ref a2), .val (.double (0 : UInt64)), .second, .val (.int (0 : Int32))] [(.int (0 : Int32)), (.ref a1), (.double (FP.dsub u1 w1)), (.double (0 : UInt64))])) t → Steps p.tables e below (s₁.setTop (entryFrame m #[(.ref a1), (.ref a2)] 5)) t := fun t k => k105 t (by
    show Steps p.tables e below (s₁.setTop (mkF m 20 #[.val (.ref a1), .val (.ref a2), .val (.double (0 : UInt64)), .second, .val (.int (0 : Int32))] [(.int (0 : Int32)), (.ref a2), (.double u1), (.double (0 : UInt64))])) _
    refine X0.daload hx (j := (0 : Int32)) (v := (.double w1)) (by rw [e0]; exact Ar106.1) (State.isArrayOf_alike hZ.alike Ar106.2.1) Ar106.2.2 hin106 hat106 (g := (mkF m 20 #[.val (.ref a1), .val (.ref a2), .val (.double (0 : UInt64)), .second, .val (.int (0 : Int32))] [(.int (0 : Int32)), (.ref a2), (.double u1), (.double (0 : UInt64))])) rfl rfl (hb hby d1_20) _ ?_
    show Steps p.tables e below (s₁.setTop (mkF m 21 #[.val (.ref a1), .val (.ref a2), .val (.double (0 : UInt64)), .second, .val (.int (0 : Int32))] [(.double w1), (.double u1), (.double (0 : UInt64))])) _
    refine XS.dsubS X0.here hx rfl (hb hby d1_21) rfl (ns0) rfl ?_
    show Steps p.tables e below (s₁.setTop (mkF m 22 #[.val (.ref a1), .val (.ref a2), .val (.double (0 : UInt64)), .second, .val (.int (0 : Int32))] [(.double (FP.dsub u1 w1)), (.double (0 : UInt64))])) _
    refine XS.aloadN X0.here hx rfl (hb hby d1_22) rfl rfl ?_
    show Steps p.tables e below (s₁.setTop (mkF m 23 #[.val (.ref a1), .val (.ref a2), .val (.double (0 : UInt64)), .second, .val (.int (0 : Int32))] [(.ref a1), (.double (FP.dsub u1 w1)), (.double (0 : UInt64))])) _
    refine XS.iload X0.here hx rfl (hb hby d1_23) rfl ?_
    exact k)
  obtain ⟨c108, Ar108, -, As108, An108, Ah108, -⟩ := id V1
  have hin108 : ¬ ((0 : Int32) < 0 ∨ c108.slots.size ≤ ((0 : Int32)).toNatClampNeg) := inb_of As108 ⟨by decide, by decide⟩
  have hat108 : c108.slots[((0 : Int32)).toNatClampNeg]? = some (.double u1) := Has.at Ah108 hin108 rfl
  have k109 : ∀ t, Steps p.tables e below (s₁.setTop (mkF m 29 #[.val (.ref a1), .val (.ref a2), .val (.double (0 : UInt64)), .second, .val (.int (0 : Int32))] [(.int (0 : Int32)), (.ref a2), (.double u1), (.double (FP.dsub u1 w1)), (.double (0 : UInt64))])) t → Steps p.tables e below (s₁.setTop (entryFrame m #[(.ref a1), (.ref a2)] 5)) t := fun t k => k107 t (by
    show Steps p.tables e below (s₁.setTop (mkF m 25 #[.val (.ref a1), .val (.ref a2), .val (.double (0 : UInt64)), .second, .val (.int (0 : Int32))] [(.int (0 : Int32)), (.ref a1), (.double (FP.dsub u1 w1)), (.double (0 : UInt64))])) _
    refine X0.daload hx (j := (0 : Int32)) (v := (.double u1)) (by rw [e0]; exact Ar108.1) (State.isArrayOf_alike hZ.alike Ar108.2.1) Ar108.2.2 hin108 hat108 (g := (mkF m 25 #[.val (.ref a1), .val (.ref a2), .val (.double (0 : UInt64)), .second, .val (.int (0 : Int32))] [(.int (0 : Int32)), (.ref a1), (.double (FP.dsub u1 w1)), (.double (0 : UInt64))])) rfl rfl (hb hby d1_25) _ ?_
    show Steps p.tables e below (s₁.setTop (mkF m 26 #[.val (.ref a1), .val (.ref a2), .val (.double (0 : UInt64)), .second, .val (.int (0 : Int32))] [(.double u1), (.double (FP.dsub u1 w1)), (.double (0 : UInt64))])) _
    refine XS.aloadN X0.here hx rfl (hb hby d1_26) rfl rfl ?_
    show Steps p.tables e below (s₁.setTop (mkF m 27 #[.val (.ref a1), .val (.ref a2), .val (.double (0 : UInt64)), .second, .val (.int (0 : Int32))] [(.ref a2), (.double u1), (.double (FP.dsub u1 w1)), (.double (0 : UInt64))])) _
    refine XS.iload X0.here hx rfl (hb hby d1_27) rfl ?_
    exact k)
  obtain ⟨c110, Ar110, -, As110, An110, Ah110, -⟩ := id V2
  have hin110 : ¬ ((0 : Int32) < 0 ∨ c110.slots.size ≤ ((0 : Int32)).toNatClampNeg) := inb_of As110 ⟨by decide, by decide⟩
  have hat110 : c110.slots[((0 : Int32)).toNatClampNeg]? = some (.double w1) := Has.at Ah110 hin110 rfl
  have k111 : ∀ t, Steps p.tables e below (s₁.setTop (mkF m 8 #[.val (.ref a1), .val (.ref a2), .val (.double (FP.dadd (0 : UInt64) (FP.dmul (FP.dsub u1 w1) (FP.dsub u1 w1)))), .second, .val (.int (1 : Int32))] [(.ref a1), (.int (1 : Int32))])) t → Steps p.tables e below (s₁.setTop (entryFrame m #[(.ref a1), (.ref a2)] 5)) t := fun t k => k109 t (by
    show Steps p.tables e below (s₁.setTop (mkF m 29 #[.val (.ref a1), .val (.ref a2), .val (.double (0 : UInt64)), .second, .val (.int (0 : Int32))] [(.int (0 : Int32)), (.ref a2), (.double u1), (.double (FP.dsub u1 w1)), (.double (0 : UInt64))])) _
    refine X0.daload hx (j := (0 : Int32)) (v := (.double w1)) (by rw [e0]; exact Ar110.1) (State.isArrayOf_alike hZ.alike Ar110.2.1) Ar110.2.2 hin110 hat110 (g := (mkF m 29 #[.val (.ref a1), .val (.ref a2), .val (.double (0 : UInt64)), .second, .val (.int (0 : Int32))] [(.int (0 : Int32)), (.ref a2), (.double u1), (.double (FP.dsub u1 w1)), (.double (0 : UInt64))])) rfl rfl (hb hby d1_29) _ ?_
    show Steps p.tables e below (s₁.setTop (mkF m 30 #[.val (.ref a1), .val (.ref a2), .val (.double (0 : UInt64)), .second, .val (.int (0 : Int32))] [(.double w1), (.double u1), (.double (FP.dsub u1 w1)), (.double (0 : UInt64))])) _
    refine XS.dsubS X0.here hx rfl (hb hby d1_30) rfl (ns0) rfl ?_
    show Steps p.tables e below (s₁.setTop (mkF m 31 #[.val (.ref a1), .val (.ref a2), .val (.double (0 : UInt64)), .second, .val (.int (0 : Int32))] [(.double (FP.dsub u1 w1)), (.double (FP.dsub u1 w1)), (.double (0 : UInt64))])) _
    refine XS.dmulS X0.here hx rfl (hb hby d1_31) rfl (nm0) rfl ?_
    show Steps p.tables e below (s₁.setTop (mkF m 32 #[.val (.ref a1), .val (.ref a2), .val (.double (0 : UInt64)), .second, .val (.int (0 : Int32))] [(.double (FP.dmul (FP.dsub u1 w1) (FP.dsub u1 w1))), (.double (0 : UInt64))])) _
    refine XS.daddS X0.here hx rfl (hb hby d1_32) rfl (na0) rfl ?_
    show Steps p.tables e below (s₁.setTop (mkF m 33 #[.val (.ref a1), .val (.ref a2), .val (.double (0 : UInt64)), .second, .val (.int (0 : Int32))] [(.double (FP.dadd (0 : UInt64) (FP.dmul (FP.dsub u1 w1) (FP.dsub u1 w1))))])) _
    refine XS.dstoreN X0.here hx rfl (hb hby d1_33) rfl (l' := #[.val (.ref a1), .val (.ref a2), .val (.double (FP.dadd (0 : UInt64) (FP.dmul (FP.dsub u1 w1) (FP.dsub u1 w1)))), .second, .val (.int (0 : Int32))]) rfl ?_
    show Steps p.tables e below (s₁.setTop (mkF m 34 #[.val (.ref a1), .val (.ref a2), .val (.double (FP.dadd (0 : UInt64) (FP.dmul (FP.dsub u1 w1) (FP.dsub u1 w1)))), .second, .val (.int (0 : Int32))] [])) _
    refine XS.iinc X0.here hx rfl (hb hby d1_34) rfl (l' := #[.val (.ref a1), .val (.ref a2), .val (.double (FP.dadd (0 : UInt64) (FP.dmul (FP.dsub u1 w1) (FP.dsub u1 w1)))), .second, .val (.int (1 : Int32))]) rfl ?_
    show Steps p.tables e below (s₁.setTop (mkF m 37 #[.val (.ref a1), .val (.ref a2), .val (.double (FP.dadd (0 : UInt64) (FP.dmul (FP.dsub u1 w1) (FP.dsub u1 w1)))), .second, .val (.int (1 : Int32))] [])) _
    refine XS.goto X0.here hx rfl (pc0 := 37) (pc' := 5) rfl (hb hby d1_37) (by decide) (by decide) ?_
    show Steps p.tables e below (s₁.setTop (mkF m 5 #[.val (.ref a1), .val (.ref a2), .val (.double (FP.dadd (0 : UInt64) (FP.dmul (FP.dsub u1 w1) (FP.dsub u1 w1)))), .second, .val (.int (1 : Int32))] [])) _
    refine XS.iload X0.here hx rfl (hb hby d1_5) rfl ?_
    show Steps p.tables e below (s₁.setTop (mkF m 7 #[.val (.ref a1), .val (.ref a2), .val (.double (FP.dadd (0 : UInt64) (FP.dmul (FP.dsub u1 w1) (FP.dsub u1 w1)))), .second, .val (.int (1 : Int32))] [(.int (1 : Int32))])) _
    refine XS.aloadN X0.here hx rfl (hb hby d1_7) rfl rfl ?_
    exact k)
  obtain ⟨c112, Ar112, -, As112, An112, -, -⟩ := id V1
  have k113 : ∀ t, Steps p.tables e below (s₁.setTop (mkF m 16 #[.val (.ref a1), .val (.ref a2), .val (.double (FP.dadd (0 : UInt64) (FP.dmul (FP.dsub u1 w1) (FP.dsub u1 w1)))), .second, .val (.int (1 : Int32))] [(.int (1 : Int32)), (.ref a1), (.double (FP.dadd (0 : UInt64) (FP.dmul (FP.dsub u1 w1) (FP.dsub u1 w1))))])) t → Steps p.tables e below (s₁.setTop (entryFrame m #[(.ref a1), (.ref a2)] 5)) t := fun t k => k111 t (by
    show Steps p.tables e below (s₁.setTop (mkF m 8 #[.val (.ref a1), .val (.ref a2), .val (.double (FP.dadd (0 : UInt64) (FP.dmul (FP.dsub u1 w1) (FP.dsub u1 w1)))), .second, .val (.int (1 : Int32))] [(.ref a1), (.int (1 : Int32))])) _
    refine X0.arraylength hx (by rw [e0]; exact Ar112.1) (State.isArrayOf_alike hZ.alike Ar112.2.1) (g := (mkF m 8 #[.val (.ref a1), .val (.ref a2), .val (.double (FP.dadd (0 : UInt64) (FP.dmul (FP.dsub u1 w1) (FP.dsub u1 w1)))), .second, .val (.int (1 : Int32))] [(.ref a1), (.int (1 : Int32))])) rfl rfl (hb hby d1_8) _ ?_
    rw [len_of As112 An112]
    show Steps p.tables e below (s₁.setTop (mkF m 9 #[.val (.ref a1), .val (.ref a2), .val (.double (FP.dadd (0 : UInt64) (FP.dmul (FP.dsub u1 w1) (FP.dsub u1 w1)))), .second, .val (.int (1 : Int32))] [(.int (2 : Int32)), (.int (1 : Int32))])) _
    refine XS.icmpNo X0.here hx rfl (hb hby d1_9) rfl (tlt (by decide)).2.1 ?_
    show Steps p.tables e below (s₁.setTop (mkF m 12 #[.val (.ref a1), .val (.ref a2), .val (.double (FP.dadd (0 : UInt64) (FP.dmul (FP.dsub u1 w1) (FP.dsub u1 w1)))), .second, .val (.int (1 : Int32))] [])) _
    refine XS.dloadN X0.here hx rfl (hb hby d1_12) rfl ?_
    show Steps p.tables e below (s₁.setTop (mkF m 13 #[.val (.ref a1), .val (.ref a2), .val (.double (FP.dadd (0 : UInt64) (FP.dmul (FP.dsub u1 w1) (FP.dsub u1 w1)))), .second, .val (.int (1 : Int32))] [(.double (FP.dadd (0 : UInt64) (FP.dmul (FP.dsub u1 w1) (FP.dsub u1 w1))))])) _
    refine XS.aloadN X0.here hx rfl (hb hby d1_13) rfl rfl ?_
    show Steps p.tables e below (s₁.setTop (mkF m 14 #[.val (.ref a1), .val (.ref a2), .val (.double (FP.dadd (0 : UInt64) (FP.dmul (FP.dsub u1 w1) (FP.dsub u1 w1)))), .second, .val (.int (1 : Int32))] [(.ref a1), (.double (FP.dadd (0 : UInt64) (FP.dmul (FP.dsub u1 w1) (FP.dsub u1 w1))))])) _
    refine XS.iload X0.here hx rfl (hb hby d1_14) rfl ?_
    exact k)
  obtain ⟨c114, Ar114, -, As114, An114, Ah114, -⟩ := id V1
  have hin114 : ¬ ((1 : Int32) < 0 ∨ c114.slots.size ≤ ((1 : Int32)).toNatClampNeg) := inb_of As114 ⟨by decide, by decide⟩
  have hat114 : c114.slots[((1 : Int32)).toNatClampNeg]? = some (.double u2) := Has.at Ah114 hin114 rfl
  have k115 : ∀ t, Steps p.tables e below (s₁.setTop (mkF m 20 #[.val (.ref a1), .val (.ref a2), .val (.double (FP.dadd (0 : UInt64) (FP.dmul (FP.dsub u1 w1) (FP.dsub u1 w1)))), .second, .val (.int (1 : Int32))] [(.int (1 : Int32)), (.ref a2), (.double u2), (.double (FP.dadd (0 : UInt64) (FP.dmul (FP.dsub u1 w1) (FP.dsub u1 w1))))])) t → Steps p.tables e below (s₁.setTop (entryFrame m #[(.ref a1), (.ref a2)] 5)) t := fun t k => k113 t (by
    show Steps p.tables e below (s₁.setTop (mkF m 16 #[.val (.ref a1), .val (.ref a2), .val (.double (FP.dadd (0 : UInt64) (FP.dmul (FP.dsub u1 w1) (FP.dsub u1 w1)))), .second, .val (.int (1 : Int32))] [(.int (1 : Int32)), (.ref a1), (.double (FP.dadd (0 : UInt64) (FP.dmul (FP.dsub u1 w1) (FP.dsub u1 w1))))])) _
    refine X0.daload hx (j := (1 : Int32)) (v := (.double u2)) (by rw [e0]; exact Ar114.1) (State.isArrayOf_alike hZ.alike Ar114.2.1) Ar114.2.2 hin114 hat114 (g := (mkF m 16 #[.val (.ref a1), .val (.ref a2), .val (.double (FP.dadd (0 : UInt64) (FP.dmul (FP.dsub u1 w1) (FP.dsub u1 w1)))), .second, .val (.int (1 : Int32))] [(.int (1 : Int32)), (.ref a1), (.double (FP.dadd (0 : UInt64) (FP.dmul (FP.dsub u1 w1) (FP.dsub u1 w1))))])) rfl rfl (hb hby d1_16) _ ?_
    show Steps p.tables e below (s₁.setTop (mkF m 17 #[.val (.ref a1), .val (.ref a2), .val (.double (FP.dadd (0 : UInt64) (FP.dmul (FP.dsub u1 w1) (FP.dsub u1 w1)))), .second, .val (.int (1 : Int32))] [(.double u2), (.double (FP.dadd (0 : UInt64) (FP.dmul (FP.dsub u1 w1) (FP.dsub u1 w1))))])) _
    refine XS.aloadN X0.here hx rfl (hb hby d1_17) rfl rfl ?_
    show Steps p.tables e below (s₁.setTop (mkF m 18 #[.val (.ref a1), .val (.ref a2), .val (.double (FP.dadd (0 : UInt64) (FP.dmul (FP.dsub u1 w1) (FP.dsub u1 w1)))), .second, .val (.int (1 : Int32))] [(.ref a2), (.double u2), (.double (FP.dadd (0 : UInt64) (FP.dmul (FP.dsub u1 w1) (FP.dsub u1 w1))))])) _
    refine XS.iload X0.here hx rfl (hb hby d1_18) rfl ?_
    exact k)
  obtain ⟨c116, Ar116, -, As116, An116, Ah116, -⟩ := id V2
  have hin116 : ¬ ((1 : Int32) < 0 ∨ c116.slots.size ≤ ((1 : Int32)).toNatClampNeg) := inb_of As116 ⟨by decide, by decide⟩
  have hat116 : c116.slots[((1 : Int32)).toNatClampNeg]? = some (.double w2) := Has.at Ah116 hin116 rfl
  have k117 : ∀ t, Steps p.tables e below (s₁.setTop (mkF m 25 #[.val (.ref a1), .val (.ref a2), .val (.double (FP.dadd (0 : UInt64) (FP.dmul (FP.dsub u1 w1) (FP.dsub u1 w1)))), .second, .val (.int (1 : Int32))] [(.int (1 : Int32)), (.ref a1), (.double (FP.dsub u2 w2)), (.double (FP.dadd (0 : UInt64) (FP.dmul (FP.dsub u1 w1) (FP.dsub u1 w1))))])) t → Steps p.tables e below (s₁.setTop (entryFrame m #[(.ref a1), (.ref a2)] 5)) t := fun t k => k115 t (by
    show Steps p.tables e below (s₁.setTop (mkF m 20 #[.val (.ref a1), .val (.ref a2), .val (.double (FP.dadd (0 : UInt64) (FP.dmul (FP.dsub u1 w1) (FP.dsub u1 w1)))), .second, .val (.int (1 : Int32))] [(.int (1 : Int32)), (.ref a2), (.double u2), (.double (FP.dadd (0 : UInt64) (FP.dmul (FP.dsub u1 w1) (FP.dsub u1 w1))))])) _
    refine X0.daload hx (j := (1 : Int32)) (v := (.double w2)) (by rw [e0]; exact Ar116.1) (State.isArrayOf_alike hZ.alike Ar116.2.1) Ar116.2.2 hin116 hat116 (g := (mkF m 20 #[.val (.ref a1), .val (.ref a2), .val (.double (FP.dadd (0 : UInt64) (FP.dmul (FP.dsub u1 w1) (FP.dsub u1 w1)))), .second, .val (.int (1 : Int32))] [(.int (1 : Int32)), (.ref a2), (.double u2), (.double (FP.dadd (0 : UInt64) (FP.dmul (FP.dsub u1 w1) (FP.dsub u1 w1))))])) rfl rfl (hb hby d1_20) _ ?_
    show Steps p.tables e below (s₁.setTop (mkF m 21 #[.val (.ref a1), .val (.ref a2), .val (.double (FP.dadd (0 : UInt64) (FP.dmul (FP.dsub u1 w1) (FP.dsub u1 w1)))), .second, .val (.int (1 : Int32))] [(.double w2), (.double u2), (.double (FP.dadd (0 : UInt64) (FP.dmul (FP.dsub u1 w1) (FP.dsub u1 w1))))])) _
    refine XS.dsubS X0.here hx rfl (hb hby d1_21) rfl (ns1) rfl ?_
    show Steps p.tables e below (s₁.setTop (mkF m 22 #[.val (.ref a1), .val (.ref a2), .val (.double (FP.dadd (0 : UInt64) (FP.dmul (FP.dsub u1 w1) (FP.dsub u1 w1)))), .second, .val (.int (1 : Int32))] [(.double (FP.dsub u2 w2)), (.double (FP.dadd (0 : UInt64) (FP.dmul (FP.dsub u1 w1) (FP.dsub u1 w1))))])) _
    refine XS.aloadN X0.here hx rfl (hb hby d1_22) rfl rfl ?_
    show Steps p.tables e below (s₁.setTop (mkF m 23 #[.val (.ref a1), .val (.ref a2), .val (.double (FP.dadd (0 : UInt64) (FP.dmul (FP.dsub u1 w1) (FP.dsub u1 w1)))), .second, .val (.int (1 : Int32))] [(.ref a1), (.double (FP.dsub u2 w2)), (.double (FP.dadd (0 : UInt64) (FP.dmul (FP.dsub u1 w1) (FP.dsub u1 w1))))])) _
    refine XS.iload X0.here hx rfl (hb hby d1_23) rfl ?_
    exact k)
  obtain ⟨c118, Ar118, -, As118, An118, Ah118, -⟩ := id V1
  have hin118 : ¬ ((1 : Int32) < 0 ∨ c118.slots.size ≤ ((1 : Int32)).toNatClampNeg) := inb_of As118 ⟨by decide, by decide⟩
  have hat118 : c118.slots[((1 : Int32)).toNatClampNeg]? = some (.double u2) := Has.at Ah118 hin118 rfl
  have k119 : ∀ t, Steps p.tables e below (s₁.setTop (mkF m 29 #[.val (.ref a1), .val (.ref a2), .val (.double (FP.dadd (0 : UInt64) (FP.dmul (FP.dsub u1 w1) (FP.dsub u1 w1)))), .second, .val (.int (1 : Int32))] [(.int (1 : Int32)), (.ref a2), (.double u2), (.double (FP.dsub u2 w2)), (.double (FP.dadd (0 : UInt64) (FP.dmul (FP.dsub u1 w1) (FP.dsub u1 w1))))])) t → Steps p.tables e below (s₁.setTop (entryFrame m #[(.ref a1), (.ref a2)] 5)) t := fun t k => k117 t (by
    show Steps p.tables e below (s₁.setTop (mkF m 25 #[.val (.ref a1), .val (.ref a2), .val (.double (FP.dadd (0 : UInt64) (FP.dmul (FP.dsub u1 w1) (FP.dsub u1 w1)))), .second, .val (.int (1 : Int32))] [(.int (1 : Int32)), (.ref a1), (.double (FP.dsub u2 w2)), (.double (FP.dadd (0 : UInt64) (FP.dmul (FP.dsub u1 w1) (FP.dsub u1 w1))))])) _
    refine X0.daload hx (j := (1 : Int32)) (v := (.double u2)) (by rw [e0]; exact Ar118.1) (State.isArrayOf_alike hZ.alike Ar118.2.1) Ar118.2.2 hin118 hat118 (g := (mkF m 25 #[.val (.ref a1), .val (.ref a2), .val (.double (FP.dadd (0 : UInt64) (FP.dmul (FP.dsub u1 w1) (FP.dsub u1 w1)))), .second, .val (.int (1 : Int32))] [(.int (1 : Int32)), (.ref a1), (.double (FP.dsub u2 w2)), (.double (FP.dadd (0 : UInt64) (FP.dmul (FP.dsub u1 w1) (FP.dsub u1 w1))))])) rfl rfl (hb hby d1_25) _ ?_
    show Steps p.tables e below (s₁.setTop (mkF m 26 #[.val (.ref a1), .val (.ref a2), .val (.double (FP.dadd (0 : UInt64) (FP.dmul (FP.dsub u1 w1) (FP.dsub u1 w1)))), .second, .val (.int (1 : Int32))] [(.double u2), (.double (FP.dsub u2 w2)), (.double (FP.dadd (0 : UInt64) (FP.dmul (FP.dsub u1 w1) (FP.dsub u1 w1))))])) _
    refine XS.aloadN X0.here hx rfl (hb hby d1_26) rfl rfl ?_
    show Steps p.tables e below (s₁.setTop (mkF m 27 #[.val (.ref a1), .val (.ref a2), .val (.double (FP.dadd (0 : UInt64) (FP.dmul (FP.dsub u1 w1) (FP.dsub u1 w1)))), .second, .val (.int (1 : Int32))] [(.ref a2), (.double u2), (.double (FP.dsub u2 w2)), (.double (FP.dadd (0 : UInt64) (FP.dmul (FP.dsub u1 w1) (FP.dsub u1 w1))))])) _
    refine XS.iload X0.here hx rfl (hb hby d1_27) rfl ?_
    exact k)
  obtain ⟨c120, Ar120, -, As120, An120, Ah120, -⟩ := id V2
  have hin120 : ¬ ((1 : Int32) < 0 ∨ c120.slots.size ≤ ((1 : Int32)).toNatClampNeg) := inb_of As120 ⟨by decide, by decide⟩
  have hat120 : c120.slots[((1 : Int32)).toNatClampNeg]? = some (.double w2) := Has.at Ah120 hin120 rfl
  have k121 : ∀ t, Steps p.tables e below (s₁.setTop (mkF m 8 #[.val (.ref a1), .val (.ref a2), .val (.double (FP.dadd (FP.dadd (0 : UInt64) (FP.dmul (FP.dsub u1 w1) (FP.dsub u1 w1))) (FP.dmul (FP.dsub u2 w2) (FP.dsub u2 w2)))), .second, .val (.int (2 : Int32))] [(.ref a1), (.int (2 : Int32))])) t → Steps p.tables e below (s₁.setTop (entryFrame m #[(.ref a1), (.ref a2)] 5)) t := fun t k => k119 t (by
    show Steps p.tables e below (s₁.setTop (mkF m 29 #[.val (.ref a1), .val (.ref a2), .val (.double (FP.dadd (0 : UInt64) (FP.dmul (FP.dsub u1 w1) (FP.dsub u1 w1)))), .second, .val (.int (1 : Int32))] [(.int (1 : Int32)), (.ref a2), (.double u2), (.double (FP.dsub u2 w2)), (.double (FP.dadd (0 : UInt64) (FP.dmul (FP.dsub u1 w1) (FP.dsub u1 w1))))])) _
    refine X0.daload hx (j := (1 : Int32)) (v := (.double w2)) (by rw [e0]; exact Ar120.1) (State.isArrayOf_alike hZ.alike Ar120.2.1) Ar120.2.2 hin120 hat120 (g := (mkF m 29 #[.val (.ref a1), .val (.ref a2), .val (.double (FP.dadd (0 : UInt64) (FP.dmul (FP.dsub u1 w1) (FP.dsub u1 w1)))), .second, .val (.int (1 : Int32))] [(.int (1 : Int32)), (.ref a2), (.double u2), (.double (FP.dsub u2 w2)), (.double (FP.dadd (0 : UInt64) (FP.dmul (FP.dsub u1 w1) (FP.dsub u1 w1))))])) rfl rfl (hb hby d1_29) _ ?_
    show Steps p.tables e below (s₁.setTop (mkF m 30 #[.val (.ref a1), .val (.ref a2), .val (.double (FP.dadd (0 : UInt64) (FP.dmul (FP.dsub u1 w1) (FP.dsub u1 w1)))), .second, .val (.int (1 : Int32))] [(.double w2), (.double u2), (.double (FP.dsub u2 w2)), (.double (FP.dadd (0 : UInt64) (FP.dmul (FP.dsub u1 w1) (FP.dsub u1 w1))))])) _
    refine XS.dsubS X0.here hx rfl (hb hby d1_30) rfl (ns1) rfl ?_
    show Steps p.tables e below (s₁.setTop (mkF m 31 #[.val (.ref a1), .val (.ref a2), .val (.double (FP.dadd (0 : UInt64) (FP.dmul (FP.dsub u1 w1) (FP.dsub u1 w1)))), .second, .val (.int (1 : Int32))] [(.double (FP.dsub u2 w2)), (.double (FP.dsub u2 w2)), (.double (FP.dadd (0 : UInt64) (FP.dmul (FP.dsub u1 w1) (FP.dsub u1 w1))))])) _
    refine XS.dmulS X0.here hx rfl (hb hby d1_31) rfl (nm1) rfl ?_
    show Steps p.tables e below (s₁.setTop (mkF m 32 #[.val (.ref a1), .val (.ref a2), .val (.double (FP.dadd (0 : UInt64) (FP.dmul (FP.dsub u1 w1) (FP.dsub u1 w1)))), .second, .val (.int (1 : Int32))] [(.double (FP.dmul (FP.dsub u2 w2) (FP.dsub u2 w2))), (.double (FP.dadd (0 : UInt64) (FP.dmul (FP.dsub u1 w1) (FP.dsub u1 w1))))])) _
    refine XS.daddS X0.here hx rfl (hb hby d1_32) rfl (na1) rfl ?_
    show Steps p.tables e below (s₁.setTop (mkF m 33 #[.val (.ref a1), .val (.ref a2), .val (.double (FP.dadd (0 : UInt64) (FP.dmul (FP.dsub u1 w1) (FP.dsub u1 w1)))), .second, .val (.int (1 : Int32))] [(.double (FP.dadd (FP.dadd (0 : UInt64) (FP.dmul (FP.dsub u1 w1) (FP.dsub u1 w1))) (FP.dmul (FP.dsub u2 w2) (FP.dsub u2 w2))))])) _
    refine XS.dstoreN X0.here hx rfl (hb hby d1_33) rfl (l' := #[.val (.ref a1), .val (.ref a2), .val (.double (FP.dadd (FP.dadd (0 : UInt64) (FP.dmul (FP.dsub u1 w1) (FP.dsub u1 w1))) (FP.dmul (FP.dsub u2 w2) (FP.dsub u2 w2)))), .second, .val (.int (1 : Int32))]) rfl ?_
    show Steps p.tables e below (s₁.setTop (mkF m 34 #[.val (.ref a1), .val (.ref a2), .val (.double (FP.dadd (FP.dadd (0 : UInt64) (FP.dmul (FP.dsub u1 w1) (FP.dsub u1 w1))) (FP.dmul (FP.dsub u2 w2) (FP.dsub u2 w2)))), .second, .val (.int (1 : Int32))] [])) _
    refine XS.iinc X0.here hx rfl (hb hby d1_34) rfl (l' := #[.val (.ref a1), .val (.ref a2), .val (.double (FP.dadd (FP.dadd (0 : UInt64) (FP.dmul (FP.dsub u1 w1) (FP.dsub u1 w1))) (FP.dmul (FP.dsub u2 w2) (FP.dsub u2 w2)))), .second, .val (.int (2 : Int32))]) rfl ?_
    show Steps p.tables e below (s₁.setTop (mkF m 37 #[.val (.ref a1), .val (.ref a2), .val (.double (FP.dadd (FP.dadd (0 : UInt64) (FP.dmul (FP.dsub u1 w1) (FP.dsub u1 w1))) (FP.dmul (FP.dsub u2 w2) (FP.dsub u2 w2)))), .second, .val (.int (2 : Int32))] [])) _
    refine XS.goto X0.here hx rfl (pc0 := 37) (pc' := 5) rfl (hb hby d1_37) (by decide) (by decide) ?_
    show Steps p.tables e below (s₁.setTop (mkF m 5 #[.val (.ref a1), .val (.ref a2), .val (.double (FP.dadd (FP.dadd (0 : UInt64) (FP.dmul (FP.dsub u1 w1) (FP.dsub u1 w1))) (FP.dmul (FP.dsub u2 w2) (FP.dsub u2 w2)))), .second, .val (.int (2 : Int32))] [])) _
    refine XS.iload X0.here hx rfl (hb hby d1_5) rfl ?_
    show Steps p.tables e below (s₁.setTop (mkF m 7 #[.val (.ref a1), .val (.ref a2), .val (.double (FP.dadd (FP.dadd (0 : UInt64) (FP.dmul (FP.dsub u1 w1) (FP.dsub u1 w1))) (FP.dmul (FP.dsub u2 w2) (FP.dsub u2 w2)))), .second, .val (.int (2 : Int32))] [(.int (2 : Int32))])) _
    refine XS.aloadN X0.here hx rfl (hb hby d1_7) rfl rfl ?_
    exact k)
  obtain ⟨c122, Ar122, -, As122, An122, -, -⟩ := id V1
  have k123 : ∀ t, Steps p.tables e below (s₁.setTop (mkF m 41 #[.val (.ref a1), .val (.ref a2), .val (.double (FP.dadd (FP.dadd (0 : UInt64) (FP.dmul (FP.dsub u1 w1) (FP.dsub u1 w1))) (FP.dmul (FP.dsub u2 w2) (FP.dsub u2 w2)))), .second, .val (.int (2 : Int32))] [(.double (FP.dadd (FP.dadd (0 : UInt64) (FP.dmul (FP.dsub u1 w1) (FP.dsub u1 w1))) (FP.dmul (FP.dsub u2 w2) (FP.dsub u2 w2))))])) t → Steps p.tables e below (s₁.setTop (entryFrame m #[(.ref a1), (.ref a2)] 5)) t := fun t k => k121 t (by
    show Steps p.tables e below (s₁.setTop (mkF m 8 #[.val (.ref a1), .val (.ref a2), .val (.double (FP.dadd (FP.dadd (0 : UInt64) (FP.dmul (FP.dsub u1 w1) (FP.dsub u1 w1))) (FP.dmul (FP.dsub u2 w2) (FP.dsub u2 w2)))), .second, .val (.int (2 : Int32))] [(.ref a1), (.int (2 : Int32))])) _
    refine X0.arraylength hx (by rw [e0]; exact Ar122.1) (State.isArrayOf_alike hZ.alike Ar122.2.1) (g := (mkF m 8 #[.val (.ref a1), .val (.ref a2), .val (.double (FP.dadd (FP.dadd (0 : UInt64) (FP.dmul (FP.dsub u1 w1) (FP.dsub u1 w1))) (FP.dmul (FP.dsub u2 w2) (FP.dsub u2 w2)))), .second, .val (.int (2 : Int32))] [(.ref a1), (.int (2 : Int32))])) rfl rfl (hb hby d1_8) _ ?_
    rw [len_of As122 An122]
    show Steps p.tables e below (s₁.setTop (mkF m 9 #[.val (.ref a1), .val (.ref a2), .val (.double (FP.dadd (FP.dadd (0 : UInt64) (FP.dmul (FP.dsub u1 w1) (FP.dsub u1 w1))) (FP.dmul (FP.dsub u2 w2) (FP.dsub u2 w2)))), .second, .val (.int (2 : Int32))] [(.int (2 : Int32)), (.int (2 : Int32))])) _
    refine XS.icmpYes X0.here hx rfl (pc0 := 9) (pc' := 40) rfl (hb hby d1_9) rfl (flt (by decide)).2.1 (by decide) (by decide) ?_
    show Steps p.tables e below (s₁.setTop (mkF m 40 #[.val (.ref a1), .val (.ref a2), .val (.double (FP.dadd (FP.dadd (0 : UInt64) (FP.dmul (FP.dsub u1 w1) (FP.dsub u1 w1))) (FP.dmul (FP.dsub u2 w2) (FP.dsub u2 w2)))), .second, .val (.int (2 : Int32))] [])) _
    refine XS.dloadN X0.here hx rfl (hb hby d1_40) rfl ?_
    exact k)
  obtain ⟨fs, hr, hrun, hended, hW, hsame⟩ := X0.leave (v := some (.double (FP.dadd (FP.dadd (0 : UInt64) (FP.dmul (FP.dsub u1 w1) (FP.dsub u1 w1))) (FP.dmul (FP.dsub u2 w2) (FP.dsub u2 w2))))) (fun h => by rw [Bd.returns] at h; cases h)
  refine ⟨_, _, k123 _ (retOut X0 hx (t := .double) Bd.returns rfl (Or.inr (Or.inr (Or.inl ⟨rfl, rfl, _, rfl⟩))) (hb hby d1_41) hr), hrun, hended, _, _, rfl, ?_, ⟨_, rfl⟩, hW, hsame.mono (by decide) (by decide)⟩
  show Q_dist2 Z a1 a2 k1 k2 u1 u2 w1 w2 h0 n0 _ s₁.heap _
  rw [e0]
  exact ⟨rfl, N0, rfl⟩
def Q_dist3 (Z : State) (a1 : Addr) (a2 : Addr) (k1 : ClassId) (k2 : ClassId) (u1 : UInt64) (u2 : UInt64) (u3 : UInt64) (w1 : UInt64) (w2 : UInt64) (w3 : UInt64) (h0 : Heap) (n0 : Nat) (v : Option Value) (h : Heap) (L : List Loc) : Prop := v = some (.double (FP.dadd (FP.dadd (FP.dadd (0 : UInt64) (FP.dmul (FP.dsub u1 w1) (FP.dsub u1 w1))) (FP.dmul (FP.dsub u2 w2) (FP.dsub u2 w2))) (FP.dmul (FP.dsub u3 w3) (FP.dsub u3 w3)))) ∧ Fr n0 L ∧ h = h0
set_option maxRecDepth 65536 in
set_option maxHeartbeats 40000000 in
theorem dist3 (l : Launch) (Z : State) (a0 : Array Value) (hw : ∀ d ∈ tables_1, d.before a0 Z = true) (ws : List Jvm.Cond) (a1 : Addr) (a2 : Addr) (k1 : ClassId) (k2 : ClassId) (u1 : UInt64) (u2 : UInt64) (u3 : UInt64) (w1 : UInt64) (w2 : UInt64) (w3 : UInt64) (h0 : Heap) (n0 : Nat) (Z0 : n0 ≤ h0.size) (V1 : Arv Z h0 a1 k1 .double (3 : Int32) [(.double u1), (.double u2), (.double u3)] (.double (0 : UInt64))) (V2 : Arv Z h0 a2 k2 .double (3 : Int32) [(.double w1), (.double w2), (.double w3)] (.double (0 : UInt64))) (ns0 : Jvm.Free.Fl.NoNaN64 (FP.dsub u1 w1)) (nm0 : Jvm.Free.Fl.NoNaN64 (FP.dmul (FP.dsub u1 w1) (FP.dsub u1 w1))) (na0 : Jvm.Free.Fl.NoNaN64 (FP.dadd (0 : UInt64) (FP.dmul (FP.dsub u1 w1) (FP.dsub u1 w1)))) (ns1 : Jvm.Free.Fl.NoNaN64 (FP.dsub u2 w2)) (nm1 : Jvm.Free.Fl.NoNaN64 (FP.dmul (FP.dsub u2 w2) (FP.dsub u2 w2))) (na1 : Jvm.Free.Fl.NoNaN64 (FP.dadd (FP.dadd (0 : UInt64) (FP.dmul (FP.dsub u1 w1) (FP.dsub u1 w1))) (FP.dmul (FP.dsub u2 w2) (FP.dsub u2 w2)))) (ns2 : Jvm.Free.Fl.NoNaN64 (FP.dsub u3 w3)) (nm2 : Jvm.Free.Fl.NoNaN64 (FP.dmul (FP.dsub u3 w3) (FP.dsub u3 w3))) (na2 : Jvm.Free.Fl.NoNaN64 (FP.dadd (FP.dadd (FP.dadd (0 : UInt64) (FP.dmul (FP.dsub u1 w1) (FP.dsub u1 w1))) (FP.dmul (FP.dsub u2 w2) (FP.dsub u2 w2))) (FP.dmul (FP.dsub u3 w3) (FP.dsub u3 w3)))) :
    MetFree l (⟨"com/example/frontweave/frontweave/clustering/Vectors", "distanceSquared", "([D[D)D"⟩ : MethodName) (head1 (Jvm.Cond.code (⟨"com/example/frontweave/frontweave/clustering/Vectors", "distanceSquared", "([D[D)D"⟩ : MethodName) prog_29_method_3_code 5 (some .double) :: ws) ({ frames := 0, cells := 0, slots := 0, locals := 0 } : Room)) (fun a U => a = #[(.ref a1), (.ref a2)] ∧ Z.Warmed39 U.vm ∧ U.heap = h0) (fun _ _ _ _ _ => True) (fun _ U o U' => ∃ v L, o = .returned v ∧ Q_dist3 Z a1 a2 k1 k2 u1 u2 u3 w1 w2 w3 h0 n0 v U'.heap L ∧ FrameEnd U o U' L ({ frames := 0, cells := 0, slots := 0, locals := 0 } : Room).cells ({ frames := 0, cells := 0, slots := 0, locals := 0 } : Room).slots) := by
  refine MetFree.of_bodySF (plainFor_of_name pn_com_2fexample_2ffrontweave_2ffrontweave_2fclustering_2fVectors) hisR ?_
  intro p e s m args below meth c s₁ Bd hml0 hP hK
  obtain ⟨rfl, hZ, hh⟩ := hP
  have hx := Bd.exec
  have hby := Bd.bytes
  have hml : c.maxLocals = 5 := hml0
  have hown : s.vm.findClass "com/example/frontweave/frontweave/clustering/Vectors" = some m.cls := findClass_of_methodNamed Bd.named
  have hnm := (name_of_methodNamed Bd.named Bd.method).1
  have X0 : Stand p l e ({ frames := 0, cells := 0, slots := 0, locals := 0 } : Room) s m #[(.ref a1), (.ref a2)] below meth c s₁ [] 0 0 := Stand.of_body Bd
  have e0 : s₁.heap = h0 := by rw [← hh, Bd.state]; rfl
  have N0 := Fr.nil n0
  have k0 : ∀ t, Steps p.tables e below (s₁.setTop (mkF m 0 #[.val (.ref a1), .val (.ref a2), .unset, .unset, .unset] [])) t → Steps p.tables e below (s₁.setTop (entryFrame m #[(.ref a1), (.ref a2)] 5)) t := fun t k => castTop (ef_1_RR m a1 a2) k
  have k101 : ∀ t, Steps p.tables e below (s₁.setTop (mkF m 8 #[.val (.ref a1), .val (.ref a2), .val (.double (0 : UInt64)), .second, .val (.int (0 : Int32))] [(.ref a1), (.int (0 : Int32))])) t → Steps p.tables e below (s₁.setTop (entryFrame m #[(.ref a1), (.ref a2)] 5)) t := fun t k => k0 t (by
    show Steps p.tables e below (s₁.setTop (mkF m 0 #[.val (.ref a1), .val (.ref a2), .unset, .unset, .unset] [])) _
    refine XS.dconst0 X0.here hx rfl (hb hby d1_0) (v := (0 : UInt64)) rfl ?_
    show Steps p.tables e below (s₁.setTop (mkF m 1 #[.val (.ref a1), .val (.ref a2), .unset, .unset, .unset] [(.double (0 : UInt64))])) _
    refine XS.dstoreN X0.here hx rfl (hb hby d1_1) rfl (l' := #[.val (.ref a1), .val (.ref a2), .val (.double (0 : UInt64)), .second, .unset]) rfl ?_
    show Steps p.tables e below (s₁.setTop (mkF m 2 #[.val (.ref a1), .val (.ref a2), .val (.double (0 : UInt64)), .second, .unset] [])) _
    refine XS.iconst X0.here hx rfl (hb hby d1_2) ?_
    show Steps p.tables e below (s₁.setTop (mkF m 3 #[.val (.ref a1), .val (.ref a2), .val (.double (0 : UInt64)), .second, .unset] [(.int (0 : Int32))])) _
    refine XS.istore X0.here hx rfl (hb hby d1_3) rfl (l' := #[.val (.ref a1), .val (.ref a2), .val (.double (0 : UInt64)), .second, .val (.int (0 : Int32))]) rfl ?_
    show Steps p.tables e below (s₁.setTop (mkF m 5 #[.val (.ref a1), .val (.ref a2), .val (.double (0 : UInt64)), .second, .val (.int (0 : Int32))] [])) _
    refine XS.iload X0.here hx rfl (hb hby d1_5) rfl ?_
    show Steps p.tables e below (s₁.setTop (mkF m 7 #[.val (.ref a1), .val (.ref a2), .val (.double (0 : UInt64)), .second, .val (.int (0 : Int32))] [(.int (0 : Int32))])) _
    refine XS.aloadN X0.here hx rfl (hb hby d1_7) rfl rfl ?_
    exact k)
  obtain ⟨c102, Ar102, -, As102, An102, -, -⟩ := id V1
  have k103 : ∀ t, Steps p.tables e below (s₁.setTop (mkF m 16 #[.val (.ref a1), .val (.ref a2), .val (.double (0 : UInt64)), .second, .val (.int (0 : Int32))] [(.int (0 : Int32)), (.ref a1), (.double (0 : UInt64))])) t → Steps p.tables e below (s₁.setTop (entryFrame m #[(.ref a1), (.ref a2)] 5)) t := fun t k => k101 t (by
    show Steps p.tables e below (s₁.setTop (mkF m 8 #[.val (.ref a1), .val (.ref a2), .val (.double (0 : UInt64)), .second, .val (.int (0 : Int32))] [(.ref a1), (.int (0 : Int32))])) _
    refine X0.arraylength hx (by rw [e0]; exact Ar102.1) (State.isArrayOf_alike hZ.alike Ar102.2.1) (g := (mkF m 8 #[.val (.ref a1), .val (.ref a2), .val (.double (0 : UInt64)), .second, .val (.int (0 : Int32))] [(.ref a1), (.int (0 : Int32))])) rfl rfl (hb hby d1_8) _ ?_
    rw [len_of As102 An102]
    show Steps p.tables e below (s₁.setTop (mkF m 9 #[.val (.ref a1), .val (.ref a2), .val (.double (0 : UInt64)), .second, .val (.int (0 : Int32))] [(.int (3 : Int32)), (.int (0 : Int32))])) _
    refine XS.icmpNo X0.here hx rfl (hb hby d1_9) rfl (tlt (by decide)).2.1 ?_
    show Steps p.tables e below (s₁.setTop (mkF m 12 #[.val (.ref a1), .val (.ref a2), .val (.double (0 : UInt64)), .second, .val (.int (0 : Int32))] [])) _
    refine XS.dloadN X0.here hx rfl (hb hby d1_12) rfl ?_
    show Steps p.tables e below (s₁.setTop (mkF m 13 #[.val (.ref a1), .val (.ref a2), .val (.double (0 : UInt64)), .second, .val (.int (0 : Int32))] [(.double (0 : UInt64))])) _
    refine XS.aloadN X0.here hx rfl (hb hby d1_13) rfl rfl ?_
    show Steps p.tables e below (s₁.setTop (mkF m 14 #[.val (.ref a1), .val (.ref a2), .val (.double (0 : UInt64)), .second, .val (.int (0 : Int32))] [(.ref a1), (.double (0 : UInt64))])) _
    refine XS.iload X0.here hx rfl (hb hby d1_14) rfl ?_
    exact k)
  obtain ⟨c104, Ar104, -, As104, An104, Ah104, -⟩ := id V1
  have hin104 : ¬ ((0 : Int32) < 0 ∨ c104.slots.size ≤ ((0 : Int32)).toNatClampNeg) := inb_of As104 ⟨by decide, by decide⟩
  have hat104 : c104.slots[((0 : Int32)).toNatClampNeg]? = some (.double u1) := Has.at Ah104 hin104 rfl
  have k105 : ∀ t, Steps p.tables e below (s₁.setTop (mkF m 20 #[.val (.ref a1), .val (.ref a2), .val (.double (0 : UInt64)), .second, .val (.int (0 : Int32))] [(.int (0 : Int32)), (.ref a2), (.double u1), (.double (0 : UInt64))])) t → Steps p.tables e below (s₁.setTop (entryFrame m #[(.ref a1), (.ref a2)] 5)) t := fun t k => k103 t (by
    show Steps p.tables e below (s₁.setTop (mkF m 16 #[.val (.ref a1), .val (.ref a2), .val (.double (0 : UInt64)), .second, .val (.int (0 : Int32))] [(.int (0 : Int32)), (.ref a1), (.double (0 : UInt64))])) _
    refine X0.daload hx (j := (0 : Int32)) (v := (.double u1)) (by rw [e0]; exact Ar104.1) (State.isArrayOf_alike hZ.alike Ar104.2.1) Ar104.2.2 hin104 hat104 (g := (mkF m 16 #[.val (.ref a1), .val (.ref a2), .val (.double (0 : UInt64)), .second, .val (.int (0 : Int32))] [(.int (0 : Int32)), (.ref a1), (.double (0 : UInt64))])) rfl rfl (hb hby d1_16) _ ?_
    show Steps p.tables e below (s₁.setTop (mkF m 17 #[.val (.ref a1), .val (.ref a2), .val (.double (0 : UInt64)), .second, .val (.int (0 : Int32))] [(.double u1), (.double (0 : UInt64))])) _
    refine XS.aloadN X0.here hx rfl (hb hby d1_17) rfl rfl ?_
    show Steps p.tables e below (s₁.setTop (mkF m 18 #[.val (.ref a1), .val (.ref a2), .val (.double (0 : UInt64)), .second, .val (.int (0 : Int32))] [(.ref a2), (.double u1), (.double (0 : UInt64))])) _
    refine XS.iload X0.here hx rfl (hb hby d1_18) rfl ?_
    exact k)
  obtain ⟨c106, Ar106, -, As106, An106, Ah106, -⟩ := id V2
  have hin106 : ¬ ((0 : Int32) < 0 ∨ c106.slots.size ≤ ((0 : Int32)).toNatClampNeg) := inb_of As106 ⟨by decide, by decide⟩
  have hat106 : c106.slots[((0 : Int32)).toNatClampNeg]? = some (.double w1) := Has.at Ah106 hin106 rfl
  have k107 : ∀ t, Steps p.tables e below (s₁.setTop (mkF m 25 #[.val (.ref a1), .val (.ref a2), .val (.double (0 : UInt64)), .second, .val (.int (0 : Int32))] [(.int (0 : Int32)), (.ref a1), (.double (FP.dsub u1 w1)), (.double (0 : UInt64))])) t → Steps p.tables e below (s₁.setTop (entryFrame m #[(.ref a1), (.ref a2)] 5)) t := fun t k => k105 t (by
    show Steps p.tables e below (s₁.setTop (mkF m 20 #[.val (.ref a1), .val (.ref a2), .val (.double (0 : UInt64)), .second, .val (.int (0 : Int32))] [(.int (0 : Int32)), (.ref a2), (.double u1), (.double (0 : UInt64))])) _
    refine X0.daload hx (j := (0 : Int32)) (v := (.double w1)) (by rw [e0]; exact Ar106.1) (State.isArrayOf_alike hZ.alike Ar106.2.1) Ar106.2.2 hin106 hat106 (g := (mkF m 20 #[.val (.ref a1), .val (.ref a2), .val (.double (0 : UInt64)), .second, .val (.int (0 : Int32))] [(.int (0 : Int32)), (.ref a2), (.double u1), (.double (0 : UInt64))])) rfl rfl (hb hby d1_20) _ ?_
    show Steps p.tables e below (s₁.setTop (mkF m 21 #[.val (.ref a1), .val (.ref a2), .val (.double (0 : UInt64)), .second, .val (.int (0 : Int32))] [(.double w1), (.double u1), (.double (0 : UInt64))])) _
    refine XS.dsubS X0.here hx rfl (hb hby d1_21) rfl (ns0) rfl ?_
    show Steps p.tables e below (s₁.setTop (mkF m 22 #[.val (.ref a1), .val (.ref a2), .val (.double (0 : UInt64)), .second, .val (.int (0 : Int32))] [(.double (FP.dsub u1 w1)), (.double (0 : UInt64))])) _
    refine XS.aloadN X0.here hx rfl (hb hby d1_22) rfl rfl ?_
    show Steps p.tables e below (s₁.setTop (mkF m 23 #[.val (.ref a1), .val (.ref a2), .val (.double (0 : UInt64)), .second, .val (.int (0 : Int32))] [(.ref a1), (.double (FP.dsub u1 w1)), (.double (0 : UInt64))])) _
    refine XS.iload X0.here hx rfl (hb hby d1_23) rfl ?_
    exact k)
  obtain ⟨c108, Ar108, -, As108, An108, Ah108, -⟩ := id V1
  have hin108 : ¬ ((0 : Int32) < 0 ∨ c108.slots.size ≤ ((0 : Int32)).toNatClampNeg) := inb_of As108 ⟨by decide, by decide⟩
  have hat108 : c108.slots[((0 : Int32)).toNatClampNeg]? = some (.double u1) := Has.at Ah108 hin108 rfl
  have k109 : ∀ t, Steps p.tables e below (s₁.setTop (mkF m 29 #[.val (.ref a1), .val (.ref a2), .val (.double (0 : UInt64)), .second, .val (.int (0 : Int32))] [(.int (0 : Int32)), (.ref a2), (.double u1), (.double (FP.dsub u1 w1)), (.double (0 : UInt64))])) t → Steps p.tables e below (s₁.setTop (entryFrame m #[(.ref a1), (.ref a2)] 5)) t := fun t k => k107 t (by
    show Steps p.tables e below (s₁.setTop (mkF m 25 #[.val (.ref a1), .val (.ref a2), .val (.double (0 : UInt64)), .second, .val (.int (0 : Int32))] [(.int (0 : Int32)), (.ref a1), (.double (FP.dsub u1 w1)), (.double (0 : UInt64))])) _
    refine X0.daload hx (j := (0 : Int32)) (v := (.double u1)) (by rw [e0]; exact Ar108.1) (State.isArrayOf_alike hZ.alike Ar108.2.1) Ar108.2.2 hin108 hat108 (g := (mkF m 25 #[.val (.ref a1), .val (.ref a2), .val (.double (0 : UInt64)), .second, .val (.int (0 : Int32))] [(.int (0 : Int32)), (.ref a1), (.double (FP.dsub u1 w1)), (.double (0 : UInt64))])) rfl rfl (hb hby d1_25) _ ?_
    show Steps p.tables e below (s₁.setTop (mkF m 26 #[.val (.ref a1), .val (.ref a2), .val (.double (0 : UInt64)), .second, .val (.int (0 : Int32))] [(.double u1), (.double (FP.dsub u1 w1)), (.double (0 : UInt64))])) _
    refine XS.aloadN X0.here hx rfl (hb hby d1_26) rfl rfl ?_
    show Steps p.tables e below (s₁.setTop (mkF m 27 #[.val (.ref a1), .val (.ref a2), .val (.double (0 : UInt64)), .second, .val (.int (0 : Int32))] [(.ref a2), (.double u1), (.double (FP.dsub u1 w1)), (.double (0 : UInt64))])) _
    refine XS.iload X0.here hx rfl (hb hby d1_27) rfl ?_
    exact k)
  obtain ⟨c110, Ar110, -, As110, An110, Ah110, -⟩ := id V2
  have hin110 : ¬ ((0 : Int32) < 0 ∨ c110.slots.size ≤ ((0 : Int32)).toNatClampNeg) := inb_of As110 ⟨by decide, by decide⟩
  have hat110 : c110.slots[((0 : Int32)).toNatClampNeg]? = some (.double w1) := Has.at Ah110 hin110 rfl
  have k111 : ∀ t, Steps p.tables e below (s₁.setTop (mkF m 8 #[.val (.ref a1), .val (.ref a2), .val (.double (FP.dadd (0 : UInt64) (FP.dmul (FP.dsub u1 w1) (FP.dsub u1 w1)))), .second, .val (.int (1 : Int32))] [(.ref a1), (.int (1 : Int32))])) t → Steps p.tables e below (s₁.setTop (entryFrame m #[(.ref a1), (.ref a2)] 5)) t := fun t k => k109 t (by
    show Steps p.tables e below (s₁.setTop (mkF m 29 #[.val (.ref a1), .val (.ref a2), .val (.double (0 : UInt64)), .second, .val (.int (0 : Int32))] [(.int (0 : Int32)), (.ref a2), (.double u1), (.double (FP.dsub u1 w1)), (.double (0 : UInt64))])) _
    refine X0.daload hx (j := (0 : Int32)) (v := (.double w1)) (by rw [e0]; exact Ar110.1) (State.isArrayOf_alike hZ.alike Ar110.2.1) Ar110.2.2 hin110 hat110 (g := (mkF m 29 #[.val (.ref a1), .val (.ref a2), .val (.double (0 : UInt64)), .second, .val (.int (0 : Int32))] [(.int (0 : Int32)), (.ref a2), (.double u1), (.double (FP.dsub u1 w1)), (.double (0 : UInt64))])) rfl rfl (hb hby d1_29) _ ?_
    show Steps p.tables e below (s₁.setTop (mkF m 30 #[.val (.ref a1), .val (.ref a2), .val (.double (0 : UInt64)), .second, .val (.int (0 : Int32))] [(.double w1), (.double u1), (.double (FP.dsub u1 w1)), (.double (0 : UInt64))])) _
    refine XS.dsubS X0.here hx rfl (hb hby d1_30) rfl (ns0) rfl ?_
    show Steps p.tables e below (s₁.setTop (mkF m 31 #[.val (.ref a1), .val (.ref a2), .val (.double (0 : UInt64)), .second, .val (.int (0 : Int32))] [(.double (FP.dsub u1 w1)), (.double (FP.dsub u1 w1)), (.double (0 : UInt64))])) _
    refine XS.dmulS X0.here hx rfl (hb hby d1_31) rfl (nm0) rfl ?_
    show Steps p.tables e below (s₁.setTop (mkF m 32 #[.val (.ref a1), .val (.ref a2), .val (.double (0 : UInt64)), .second, .val (.int (0 : Int32))] [(.double (FP.dmul (FP.dsub u1 w1) (FP.dsub u1 w1))), (.double (0 : UInt64))])) _
    refine XS.daddS X0.here hx rfl (hb hby d1_32) rfl (na0) rfl ?_
    show Steps p.tables e below (s₁.setTop (mkF m 33 #[.val (.ref a1), .val (.ref a2), .val (.double (0 : UInt64)), .second, .val (.int (0 : Int32))] [(.double (FP.dadd (0 : UInt64) (FP.dmul (FP.dsub u1 w1) (FP.dsub u1 w1))))])) _
    refine XS.dstoreN X0.here hx rfl (hb hby d1_33) rfl (l' := #[.val (.ref a1), .val (.ref a2), .val (.double (FP.dadd (0 : UInt64) (FP.dmul (FP.dsub u1 w1) (FP.dsub u1 w1)))), .second, .val (.int (0 : Int32))]) rfl ?_
    show Steps p.tables e below (s₁.setTop (mkF m 34 #[.val (.ref a1), .val (.ref a2), .val (.double (FP.dadd (0 : UInt64) (FP.dmul (FP.dsub u1 w1) (FP.dsub u1 w1)))), .second, .val (.int (0 : Int32))] [])) _
    refine XS.iinc X0.here hx rfl (hb hby d1_34) rfl (l' := #[.val (.ref a1), .val (.ref a2), .val (.double (FP.dadd (0 : UInt64) (FP.dmul (FP.dsub u1 w1) (FP.dsub u1 w1)))), .second, .val (.int (1 : Int32))]) rfl ?_
    show Steps p.tables e below (s₁.setTop (mkF m 37 #[.val (.ref a1), .val (.ref a2), .val (.double (FP.dadd (0 : UInt64) (FP.dmul (FP.dsub u1 w1) (FP.dsub u1 w1)))), .second, .val (.int (1 : Int32))] [])) _
    refine XS.goto X0.here hx rfl (pc0 := 37) (pc' := 5) rfl (hb hby d1_37) (by decide) (by decide) ?_
    show Steps p.tables e below (s₁.setTop (mkF m 5 #[.val (.ref a1), .val (.ref a2), .val (.double (FP.dadd (0 : UInt64) (FP.dmul (FP.dsub u1 w1) (FP.dsub u1 w1)))), .second, .val (.int (1 : Int32))] [])) _
    refine XS.iload X0.here hx rfl (hb hby d1_5) rfl ?_
    show Steps p.tables e below (s₁.setTop (mkF m 7 #[.val (.ref a1), .val (.ref a2), .val (.double (FP.dadd (0 : UInt64) (FP.dmul (FP.dsub u1 w1) (FP.dsub u1 w1)))), .second, .val (.int (1 : Int32))] [(.int (1 : Int32))])) _
    refine XS.aloadN X0.here hx rfl (hb hby d1_7) rfl rfl ?_
    exact k)
  obtain ⟨c112, Ar112, -, As112, An112, -, -⟩ := id V1
  have k113 : ∀ t, Steps p.tables e below (s₁.setTop (mkF m 16 #[.val (.ref a1), .val (.ref a2), .val (.double (FP.dadd (0 : UInt64) (FP.dmul (FP.dsub u1 w1) (FP.dsub u1 w1)))), .second, .val (.int (1 : Int32))] [(.int (1 : Int32)), (.ref a1), (.double (FP.dadd (0 : UInt64) (FP.dmul (FP.dsub u1 w1) (FP.dsub u1 w1))))])) t → Steps p.tables e below (s₁.setTop (entryFrame m #[(.ref a1), (.ref a2)] 5)) t := fun t k => k111 t (by
    show Steps p.tables e below (s₁.setTop (mkF m 8 #[.val (.ref a1), .val (.ref a2), .val (.double (FP.dadd (0 : UInt64) (FP.dmul (FP.dsub u1 w1) (FP.dsub u1 w1)))), .second, .val (.int (1 : Int32))] [(.ref a1), (.int (1 : Int32))])) _
    refine X0.arraylength hx (by rw [e0]; exact Ar112.1) (State.isArrayOf_alike hZ.alike Ar112.2.1) (g := (mkF m 8 #[.val (.ref a1), .val (.ref a2), .val (.double (FP.dadd (0 : UInt64) (FP.dmul (FP.dsub u1 w1) (FP.dsub u1 w1)))), .second, .val (.int (1 : Int32))] [(.ref a1), (.int (1 : Int32))])) rfl rfl (hb hby d1_8) _ ?_
    rw [len_of As112 An112]
    show Steps p.tables e below (s₁.setTop (mkF m 9 #[.val (.ref a1), .val (.ref a2), .val (.double (FP.dadd (0 : UInt64) (FP.dmul (FP.dsub u1 w1) (FP.dsub u1 w1)))), .second, .val (.int (1 : Int32))] [(.int (3 : Int32)), (.int (1 : Int32))])) _
    refine XS.icmpNo X0.here hx rfl (hb hby d1_9) rfl (tlt (by decide)).2.1 ?_
    show Steps p.tables e below (s₁.setTop (mkF m 12 #[.val (.ref a1), .val (.ref a2), .val (.double (FP.dadd (0 : UInt64) (FP.dmul (FP.dsub u1 w1) (FP.dsub u1 w1)))), .second, .val (.int (1 : Int32))] [])) _
    refine XS.dloadN X0.here hx rfl (hb hby d1_12) rfl ?_
    show Steps p.tables e below (s₁.setTop (mkF m 13 #[.val (.ref a1), .val (.ref a2), .val (.double (FP.dadd (0 : UInt64) (FP.dmul (FP.dsub u1 w1) (FP.dsub u1 w1)))), .second, .val (.int (1 : Int32))] [(.double (FP.dadd (0 : UInt64) (FP.dmul (FP.dsub u1 w1) (FP.dsub u1 w1))))])) _
    refine XS.aloadN X0.here hx rfl (hb hby d1_13) rfl rfl ?_
    show Steps p.tables e below (s₁.setTop (mkF m 14 #[.val (.ref a1), .val (.ref a2), .val (.double (FP.dadd (0 : UInt64) (FP.dmul (FP.dsub u1 w1) (FP.dsub u1 w1)))), .second, .val (.int (1 : Int32))] [(.ref a1), (.double (FP.dadd (0 : UInt64) (FP.dmul (FP.dsub u1 w1) (FP.dsub u1 w1))))])) _
    refine XS.iload X0.here hx rfl (hb hby d1_14) rfl ?_
    exact k)
  obtain ⟨c114, Ar114, -, As114, An114, Ah114, -⟩ := id V1
  have hin114 : ¬ ((1 : Int32) < 0 ∨ c114.slots.size ≤ ((1 : Int32)).toNatClampNeg) := inb_of As114 ⟨by decide, by decide⟩
  have hat114 : c114.slots[((1 : Int32)).toNatClampNeg]? = some (.double u2) := Has.at Ah114 hin114 rfl
  have k115 : ∀ t, Steps p.tables e below (s₁.setTop (mkF m 20 #[.val (.ref a1), .val (.ref a2), .val (.double (FP.dadd (0 : UInt64) (FP.dmul (FP.dsub u1 w1) (FP.dsub u1 w1)))), .second, .val (.int (1 : Int32))] [(.int (1 : Int32)), (.ref a2), (.double u2), (.double (FP.dadd (0 : UInt64) (FP.dmul (FP.dsub u1 w1) (FP.dsub u1 w1))))])) t → Steps p.tables e below (s₁.setTop (entryFrame m #[(.ref a1), (.ref a2)] 5)) t := fun t k => k113 t (by
    show Steps p.tables e below (s₁.setTop (mkF m 16 #[.val (.ref a1), .val (.ref a2), .val (.double (FP.dadd (0 : UInt64) (FP.dmul (FP.dsub u1 w1) (FP.dsub u1 w1)))), .second, .val (.int (1 : Int32))] [(.int (1 : Int32)), (.ref a1), (.double (FP.dadd (0 : UInt64) (FP.dmul (FP.dsub u1 w1) (FP.dsub u1 w1))))])) _
    refine X0.daload hx (j := (1 : Int32)) (v := (.double u2)) (by rw [e0]; exact Ar114.1) (State.isArrayOf_alike hZ.alike Ar114.2.1) Ar114.2.2 hin114 hat114 (g := (mkF m 16 #[.val (.ref a1), .val (.ref a2), .val (.double (FP.dadd (0 : UInt64) (FP.dmul (FP.dsub u1 w1) (FP.dsub u1 w1)))), .second, .val (.int (1 : Int32))] [(.int (1 : Int32)), (.ref a1), (.double (FP.dadd (0 : UInt64) (FP.dmul (FP.dsub u1 w1) (FP.dsub u1 w1))))])) rfl rfl (hb hby d1_16) _ ?_
    show Steps p.tables e below (s₁.setTop (mkF m 17 #[.val (.ref a1), .val (.ref a2), .val (.double (FP.dadd (0 : UInt64) (FP.dmul (FP.dsub u1 w1) (FP.dsub u1 w1)))), .second, .val (.int (1 : Int32))] [(.double u2), (.double (FP.dadd (0 : UInt64) (FP.dmul (FP.dsub u1 w1) (FP.dsub u1 w1))))])) _
    refine XS.aloadN X0.here hx rfl (hb hby d1_17) rfl rfl ?_
    show Steps p.tables e below (s₁.setTop (mkF m 18 #[.val (.ref a1), .val (.ref a2), .val (.double (FP.dadd (0 : UInt64) (FP.dmul (FP.dsub u1 w1) (FP.dsub u1 w1)))), .second, .val (.int (1 : Int32))] [(.ref a2), (.double u2), (.double (FP.dadd (0 : UInt64) (FP.dmul (FP.dsub u1 w1) (FP.dsub u1 w1))))])) _
    refine XS.iload X0.here hx rfl (hb hby d1_18) rfl ?_
    exact k)
  obtain ⟨c116, Ar116, -, As116, An116, Ah116, -⟩ := id V2
  have hin116 : ¬ ((1 : Int32) < 0 ∨ c116.slots.size ≤ ((1 : Int32)).toNatClampNeg) := inb_of As116 ⟨by decide, by decide⟩
  have hat116 : c116.slots[((1 : Int32)).toNatClampNeg]? = some (.double w2) := Has.at Ah116 hin116 rfl
  have k117 : ∀ t, Steps p.tables e below (s₁.setTop (mkF m 25 #[.val (.ref a1), .val (.ref a2), .val (.double (FP.dadd (0 : UInt64) (FP.dmul (FP.dsub u1 w1) (FP.dsub u1 w1)))), .second, .val (.int (1 : Int32))] [(.int (1 : Int32)), (.ref a1), (.double (FP.dsub u2 w2)), (.double (FP.dadd (0 : UInt64) (FP.dmul (FP.dsub u1 w1) (FP.dsub u1 w1))))])) t → Steps p.tables e below (s₁.setTop (entryFrame m #[(.ref a1), (.ref a2)] 5)) t := fun t k => k115 t (by
    show Steps p.tables e below (s₁.setTop (mkF m 20 #[.val (.ref a1), .val (.ref a2), .val (.double (FP.dadd (0 : UInt64) (FP.dmul (FP.dsub u1 w1) (FP.dsub u1 w1)))), .second, .val (.int (1 : Int32))] [(.int (1 : Int32)), (.ref a2), (.double u2), (.double (FP.dadd (0 : UInt64) (FP.dmul (FP.dsub u1 w1) (FP.dsub u1 w1))))])) _
    refine X0.daload hx (j := (1 : Int32)) (v := (.double w2)) (by rw [e0]; exact Ar116.1) (State.isArrayOf_alike hZ.alike Ar116.2.1) Ar116.2.2 hin116 hat116 (g := (mkF m 20 #[.val (.ref a1), .val (.ref a2), .val (.double (FP.dadd (0 : UInt64) (FP.dmul (FP.dsub u1 w1) (FP.dsub u1 w1)))), .second, .val (.int (1 : Int32))] [(.int (1 : Int32)), (.ref a2), (.double u2), (.double (FP.dadd (0 : UInt64) (FP.dmul (FP.dsub u1 w1) (FP.dsub u1 w1))))])) rfl rfl (hb hby d1_20) _ ?_
    show Steps p.tables e below (s₁.setTop (mkF m 21 #[.val (.ref a1), .val (.ref a2), .val (.double (FP.dadd (0 : UInt64) (FP.dmul (FP.dsub u1 w1) (FP.dsub u1 w1)))), .second, .val (.int (1 : Int32))] [(.double w2), (.double u2), (.double (FP.dadd (0 : UInt64) (FP.dmul (FP.dsub u1 w1) (FP.dsub u1 w1))))])) _
    refine XS.dsubS X0.here hx rfl (hb hby d1_21) rfl (ns1) rfl ?_
    show Steps p.tables e below (s₁.setTop (mkF m 22 #[.val (.ref a1), .val (.ref a2), .val (.double (FP.dadd (0 : UInt64) (FP.dmul (FP.dsub u1 w1) (FP.dsub u1 w1)))), .second, .val (.int (1 : Int32))] [(.double (FP.dsub u2 w2)), (.double (FP.dadd (0 : UInt64) (FP.dmul (FP.dsub u1 w1) (FP.dsub u1 w1))))])) _
    refine XS.aloadN X0.here hx rfl (hb hby d1_22) rfl rfl ?_
    show Steps p.tables e below (s₁.setTop (mkF m 23 #[.val (.ref a1), .val (.ref a2), .val (.double (FP.dadd (0 : UInt64) (FP.dmul (FP.dsub u1 w1) (FP.dsub u1 w1)))), .second, .val (.int (1 : Int32))] [(.ref a1), (.double (FP.dsub u2 w2)), (.double (FP.dadd (0 : UInt64) (FP.dmul (FP.dsub u1 w1) (FP.dsub u1 w1))))])) _
    refine XS.iload X0.here hx rfl (hb hby d1_23) rfl ?_
    exact k)
  obtain ⟨c118, Ar118, -, As118, An118, Ah118, -⟩ := id V1
  have hin118 : ¬ ((1 : Int32) < 0 ∨ c118.slots.size ≤ ((1 : Int32)).toNatClampNeg) := inb_of As118 ⟨by decide, by decide⟩
  have hat118 : c118.slots[((1 : Int32)).toNatClampNeg]? = some (.double u2) := Has.at Ah118 hin118 rfl
  have k119 : ∀ t, Steps p.tables e below (s₁.setTop (mkF m 29 #[.val (.ref a1), .val (.ref a2), .val (.double (FP.dadd (0 : UInt64) (FP.dmul (FP.dsub u1 w1) (FP.dsub u1 w1)))), .second, .val (.int (1 : Int32))] [(.int (1 : Int32)), (.ref a2), (.double u2), (.double (FP.dsub u2 w2)), (.double (FP.dadd (0 : UInt64) (FP.dmul (FP.dsub u1 w1) (FP.dsub u1 w1))))])) t → Steps p.tables e below (s₁.setTop (entryFrame m #[(.ref a1), (.ref a2)] 5)) t := fun t k => k117 t (by
    show Steps p.tables e below (s₁.setTop (mkF m 25 #[.val (.ref a1), .val (.ref a2), .val (.double (FP.dadd (0 : UInt64) (FP.dmul (FP.dsub u1 w1) (FP.dsub u1 w1)))), .second, .val (.int (1 : Int32))] [(.int (1 : Int32)), (.ref a1), (.double (FP.dsub u2 w2)), (.double (FP.dadd (0 : UInt64) (FP.dmul (FP.dsub u1 w1) (FP.dsub u1 w1))))])) _
    refine X0.daload hx (j := (1 : Int32)) (v := (.double u2)) (by rw [e0]; exact Ar118.1) (State.isArrayOf_alike hZ.alike Ar118.2.1) Ar118.2.2 hin118 hat118 (g := (mkF m 25 #[.val (.ref a1), .val (.ref a2), .val (.double (FP.dadd (0 : UInt64) (FP.dmul (FP.dsub u1 w1) (FP.dsub u1 w1)))), .second, .val (.int (1 : Int32))] [(.int (1 : Int32)), (.ref a1), (.double (FP.dsub u2 w2)), (.double (FP.dadd (0 : UInt64) (FP.dmul (FP.dsub u1 w1) (FP.dsub u1 w1))))])) rfl rfl (hb hby d1_25) _ ?_
    show Steps p.tables e below (s₁.setTop (mkF m 26 #[.val (.ref a1), .val (.ref a2), .val (.double (FP.dadd (0 : UInt64) (FP.dmul (FP.dsub u1 w1) (FP.dsub u1 w1)))), .second, .val (.int (1 : Int32))] [(.double u2), (.double (FP.dsub u2 w2)), (.double (FP.dadd (0 : UInt64) (FP.dmul (FP.dsub u1 w1) (FP.dsub u1 w1))))])) _
    refine XS.aloadN X0.here hx rfl (hb hby d1_26) rfl rfl ?_
    show Steps p.tables e below (s₁.setTop (mkF m 27 #[.val (.ref a1), .val (.ref a2), .val (.double (FP.dadd (0 : UInt64) (FP.dmul (FP.dsub u1 w1) (FP.dsub u1 w1)))), .second, .val (.int (1 : Int32))] [(.ref a2), (.double u2), (.double (FP.dsub u2 w2)), (.double (FP.dadd (0 : UInt64) (FP.dmul (FP.dsub u1 w1) (FP.dsub u1 w1))))])) _
    refine XS.iload X0.here hx rfl (hb hby d1_27) rfl ?_
    exact k)
  obtain ⟨c120, Ar120, -, As120, An120, Ah120, -⟩ := id V2
  have hin120 : ¬ ((1 : Int32) < 0 ∨ c120.slots.size ≤ ((1 : Int32)).toNatClampNeg) := inb_of As120 ⟨by decide, by decide⟩
  have hat120 : c120.slots[((1 : Int32)).toNatClampNeg]? = some (.double w2) := Has.at Ah120 hin120 rfl
  have k121 : ∀ t, Steps p.tables e below (s₁.setTop (mkF m 8 #[.val (.ref a1), .val (.ref a2), .val (.double (FP.dadd (FP.dadd (0 : UInt64) (FP.dmul (FP.dsub u1 w1) (FP.dsub u1 w1))) (FP.dmul (FP.dsub u2 w2) (FP.dsub u2 w2)))), .second, .val (.int (2 : Int32))] [(.ref a1), (.int (2 : Int32))])) t → Steps p.tables e below (s₁.setTop (entryFrame m #[(.ref a1), (.ref a2)] 5)) t := fun t k => k119 t (by
    show Steps p.tables e below (s₁.setTop (mkF m 29 #[.val (.ref a1), .val (.ref a2), .val (.double (FP.dadd (0 : UInt64) (FP.dmul (FP.dsub u1 w1) (FP.dsub u1 w1)))), .second, .val (.int (1 : Int32))] [(.int (1 : Int32)), (.ref a2), (.double u2), (.double (FP.dsub u2 w2)), (.double (FP.dadd (0 : UInt64) (FP.dmul (FP.dsub u1 w1) (FP.dsub u1 w1))))])) _
    refine X0.daload hx (j := (1 : Int32)) (v := (.double w2)) (by rw [e0]; exact Ar120.1) (State.isArrayOf_alike hZ.alike Ar120.2.1) Ar120.2.2 hin120 hat120 (g := (mkF m 29 #[.val (.ref a1), .val (.ref a2), .val (.double (FP.dadd (0 : UInt64) (FP.dmul (FP.dsub u1 w1) (FP.dsub u1 w1)))), .second, .val (.int (1 : Int32))] [(.int (1 : Int32)), (.ref a2), (.double u2), (.double (FP.dsub u2 w2)), (.double (FP.dadd (0 : UInt64) (FP.dmul (FP.dsub u1 w1) (FP.dsub u1 w1))))])) rfl rfl (hb hby d1_29) _ ?_
    show Steps p.tables e below (s₁.setTop (mkF m 30 #[.val (.ref a1), .val (.ref a2), .val (.double (FP.dadd (0 : UInt64) (FP.dmul (FP.dsub u1 w1) (FP.dsub u1 w1)))), .second, .val (.int (1 : Int32))] [(.double w2), (.double u2), (.double (FP.dsub u2 w2)), (.double (FP.dadd (0 : UInt64) (FP.dmul (FP.dsub u1 w1) (FP.dsub u1 w1))))])) _
    refine XS.dsubS X0.here hx rfl (hb hby d1_30) rfl (ns1) rfl ?_
    show Steps p.tables e below (s₁.setTop (mkF m 31 #[.val (.ref a1), .val (.ref a2), .val (.double (FP.dadd (0 : UInt64) (FP.dmul (FP.dsub u1 w1) (FP.dsub u1 w1)))), .second, .val (.int (1 : Int32))] [(.double (FP.dsub u2 w2)), (.double (FP.dsub u2 w2)), (.double (FP.dadd (0 : UInt64) (FP.dmul (FP.dsub u1 w1) (FP.dsub u1 w1))))])) _
    refine XS.dmulS X0.here hx rfl (hb hby d1_31) rfl (nm1) rfl ?_
    show Steps p.tables e below (s₁.setTop (mkF m 32 #[.val (.ref a1), .val (.ref a2), .val (.double (FP.dadd (0 : UInt64) (FP.dmul (FP.dsub u1 w1) (FP.dsub u1 w1)))), .second, .val (.int (1 : Int32))] [(.double (FP.dmul (FP.dsub u2 w2) (FP.dsub u2 w2))), (.double (FP.dadd (0 : UInt64) (FP.dmul (FP.dsub u1 w1) (FP.dsub u1 w1))))])) _
    refine XS.daddS X0.here hx rfl (hb hby d1_32) rfl (na1) rfl ?_
    show Steps p.tables e below (s₁.setTop (mkF m 33 #[.val (.ref a1), .val (.ref a2), .val (.double (FP.dadd (0 : UInt64) (FP.dmul (FP.dsub u1 w1) (FP.dsub u1 w1)))), .second, .val (.int (1 : Int32))] [(.double (FP.dadd (FP.dadd (0 : UInt64) (FP.dmul (FP.dsub u1 w1) (FP.dsub u1 w1))) (FP.dmul (FP.dsub u2 w2) (FP.dsub u2 w2))))])) _
    refine XS.dstoreN X0.here hx rfl (hb hby d1_33) rfl (l' := #[.val (.ref a1), .val (.ref a2), .val (.double (FP.dadd (FP.dadd (0 : UInt64) (FP.dmul (FP.dsub u1 w1) (FP.dsub u1 w1))) (FP.dmul (FP.dsub u2 w2) (FP.dsub u2 w2)))), .second, .val (.int (1 : Int32))]) rfl ?_
    show Steps p.tables e below (s₁.setTop (mkF m 34 #[.val (.ref a1), .val (.ref a2), .val (.double (FP.dadd (FP.dadd (0 : UInt64) (FP.dmul (FP.dsub u1 w1) (FP.dsub u1 w1))) (FP.dmul (FP.dsub u2 w2) (FP.dsub u2 w2)))), .second, .val (.int (1 : Int32))] [])) _
    refine XS.iinc X0.here hx rfl (hb hby d1_34) rfl (l' := #[.val (.ref a1), .val (.ref a2), .val (.double (FP.dadd (FP.dadd (0 : UInt64) (FP.dmul (FP.dsub u1 w1) (FP.dsub u1 w1))) (FP.dmul (FP.dsub u2 w2) (FP.dsub u2 w2)))), .second, .val (.int (2 : Int32))]) rfl ?_
    show Steps p.tables e below (s₁.setTop (mkF m 37 #[.val (.ref a1), .val (.ref a2), .val (.double (FP.dadd (FP.dadd (0 : UInt64) (FP.dmul (FP.dsub u1 w1) (FP.dsub u1 w1))) (FP.dmul (FP.dsub u2 w2) (FP.dsub u2 w2)))), .second, .val (.int (2 : Int32))] [])) _
    refine XS.goto X0.here hx rfl (pc0 := 37) (pc' := 5) rfl (hb hby d1_37) (by decide) (by decide) ?_
    show Steps p.tables e below (s₁.setTop (mkF m 5 #[.val (.ref a1), .val (.ref a2), .val (.double (FP.dadd (FP.dadd (0 : UInt64) (FP.dmul (FP.dsub u1 w1) (FP.dsub u1 w1))) (FP.dmul (FP.dsub u2 w2) (FP.dsub u2 w2)))), .second, .val (.int (2 : Int32))] [])) _
    refine XS.iload X0.here hx rfl (hb hby d1_5) rfl ?_
    show Steps p.tables e below (s₁.setTop (mkF m 7 #[.val (.ref a1), .val (.ref a2), .val (.double (FP.dadd (FP.dadd (0 : UInt64) (FP.dmul (FP.dsub u1 w1) (FP.dsub u1 w1))) (FP.dmul (FP.dsub u2 w2) (FP.dsub u2 w2)))), .second, .val (.int (2 : Int32))] [(.int (2 : Int32))])) _
    refine XS.aloadN X0.here hx rfl (hb hby d1_7) rfl rfl ?_
    exact k)
  obtain ⟨c122, Ar122, -, As122, An122, -, -⟩ := id V1
  have k123 : ∀ t, Steps p.tables e below (s₁.setTop (mkF m 16 #[.val (.ref a1), .val (.ref a2), .val (.double (FP.dadd (FP.dadd (0 : UInt64) (FP.dmul (FP.dsub u1 w1) (FP.dsub u1 w1))) (FP.dmul (FP.dsub u2 w2) (FP.dsub u2 w2)))), .second, .val (.int (2 : Int32))] [(.int (2 : Int32)), (.ref a1), (.double (FP.dadd (FP.dadd (0 : UInt64) (FP.dmul (FP.dsub u1 w1) (FP.dsub u1 w1))) (FP.dmul (FP.dsub u2 w2) (FP.dsub u2 w2))))])) t → Steps p.tables e below (s₁.setTop (entryFrame m #[(.ref a1), (.ref a2)] 5)) t := fun t k => k121 t (by
    show Steps p.tables e below (s₁.setTop (mkF m 8 #[.val (.ref a1), .val (.ref a2), .val (.double (FP.dadd (FP.dadd (0 : UInt64) (FP.dmul (FP.dsub u1 w1) (FP.dsub u1 w1))) (FP.dmul (FP.dsub u2 w2) (FP.dsub u2 w2)))), .second, .val (.int (2 : Int32))] [(.ref a1), (.int (2 : Int32))])) _
    refine X0.arraylength hx (by rw [e0]; exact Ar122.1) (State.isArrayOf_alike hZ.alike Ar122.2.1) (g := (mkF m 8 #[.val (.ref a1), .val (.ref a2), .val (.double (FP.dadd (FP.dadd (0 : UInt64) (FP.dmul (FP.dsub u1 w1) (FP.dsub u1 w1))) (FP.dmul (FP.dsub u2 w2) (FP.dsub u2 w2)))), .second, .val (.int (2 : Int32))] [(.ref a1), (.int (2 : Int32))])) rfl rfl (hb hby d1_8) _ ?_
    rw [len_of As122 An122]
    show Steps p.tables e below (s₁.setTop (mkF m 9 #[.val (.ref a1), .val (.ref a2), .val (.double (FP.dadd (FP.dadd (0 : UInt64) (FP.dmul (FP.dsub u1 w1) (FP.dsub u1 w1))) (FP.dmul (FP.dsub u2 w2) (FP.dsub u2 w2)))), .second, .val (.int (2 : Int32))] [(.int (3 : Int32)), (.int (2 : Int32))])) _
    refine XS.icmpNo X0.here hx rfl (hb hby d1_9) rfl (tlt (by decide)).2.1 ?_
    show Steps p.tables e below (s₁.setTop (mkF m 12 #[.val (.ref a1), .val (.ref a2), .val (.double (FP.dadd (FP.dadd (0 : UInt64) (FP.dmul (FP.dsub u1 w1) (FP.dsub u1 w1))) (FP.dmul (FP.dsub u2 w2) (FP.dsub u2 w2)))), .second, .val (.int (2 : Int32))] [])) _
    refine XS.dloadN X0.here hx rfl (hb hby d1_12) rfl ?_
    show Steps p.tables e below (s₁.setTop (mkF m 13 #[.val (.ref a1), .val (.ref a2), .val (.double (FP.dadd (FP.dadd (0 : UInt64) (FP.dmul (FP.dsub u1 w1) (FP.dsub u1 w1))) (FP.dmul (FP.dsub u2 w2) (FP.dsub u2 w2)))), .second, .val (.int (2 : Int32))] [(.double (FP.dadd (FP.dadd (0 : UInt64) (FP.dmul (FP.dsub u1 w1) (FP.dsub u1 w1))) (FP.dmul (FP.dsub u2 w2) (FP.dsub u2 w2))))])) _
    refine XS.aloadN X0.here hx rfl (hb hby d1_13) rfl rfl ?_
    show Steps p.tables e below (s₁.setTop (mkF m 14 #[.val (.ref a1), .val (.ref a2), .val (.double (FP.dadd (FP.dadd (0 : UInt64) (FP.dmul (FP.dsub u1 w1) (FP.dsub u1 w1))) (FP.dmul (FP.dsub u2 w2) (FP.dsub u2 w2)))), .second, .val (.int (2 : Int32))] [(.ref a1), (.double (FP.dadd (FP.dadd (0 : UInt64) (FP.dmul (FP.dsub u1 w1) (FP.dsub u1 w1))) (FP.dmul (FP.dsub u2 w2) (FP.dsub u2 w2))))])) _
    refine XS.iload X0.here hx rfl (hb hby d1_14) rfl ?_
    exact k)
  obtain ⟨c124, Ar124, -, As124, An124, Ah124, -⟩ := id V1
  have hin124 : ¬ ((2 : Int32) < 0 ∨ c124.slots.size ≤ ((2 : Int32)).toNatClampNeg) := inb_of As124 ⟨by decide, by decide⟩
  have hat124 : c124.slots[((2 : Int32)).toNatClampNeg]? = some (.double u3) := Has.at Ah124 hin124 rfl
  have k125 : ∀ t, Steps p.tables e below (s₁.setTop (mkF m 20 #[.val (.ref a1), .val (.ref a2), .val (.double (FP.dadd (FP.dadd (0 : UInt64) (FP.dmul (FP.dsub u1 w1) (FP.dsub u1 w1))) (FP.dmul (FP.dsub u2 w2) (FP.dsub u2 w2)))), .second, .val (.int (2 : Int32))] [(.int (2 : Int32)), (.ref a2), (.double u3), (.double (FP.dadd (FP.dadd (0 : UInt64) (FP.dmul (FP.dsub u1 w1) (FP.dsub u1 w1))) (FP.dmul (FP.dsub u2 w2) (FP.dsub u2 w2))))])) t → Steps p.tables e below (s₁.setTop (entryFrame m #[(.ref a1), (.ref a2)] 5)) t := fun t k => k123 t (by
    show Steps p.tables e below (s₁.setTop (mkF m 16 #[.val (.ref a1), .val (.ref a2), .val (.double (FP.dadd (FP.dadd (0 : UInt64) (FP.dmul (FP.dsub u1 w1) (FP.dsub u1 w1))) (FP.dmul (FP.dsub u2 w2) (FP.dsub u2 w2)))), .second, .val (.int (2 : Int32))] [(.int (2 : Int32)), (.ref a1), (.double (FP.dadd (FP.dadd (0 : UInt64) (FP.dmul (FP.dsub u1 w1) (FP.dsub u1 w1))) (FP.dmul (FP.dsub u2 w2) (FP.dsub u2 w2))))])) _
    refine X0.daload hx (j := (2 : Int32)) (v := (.double u3)) (by rw [e0]; exact Ar124.1) (State.isArrayOf_alike hZ.alike Ar124.2.1) Ar124.2.2 hin124 hat124 (g := (mkF m 16 #[.val (.ref a1), .val (.ref a2), .val (.double (FP.dadd (FP.dadd (0 : UInt64) (FP.dmul (FP.dsub u1 w1) (FP.dsub u1 w1))) (FP.dmul (FP.dsub u2 w2) (FP.dsub u2 w2)))), .second, .val (.int (2 : Int32))] [(.int (2 : Int32)), (.ref a1), (.double (FP.dadd (FP.dadd (0 : UInt64) (FP.dmul (FP.dsub u1 w1) (FP.dsub u1 w1))) (FP.dmul (FP.dsub u2 w2) (FP.dsub u2 w2))))])) rfl rfl (hb hby d1_16) _ ?_
    show Steps p.tables e below (s₁.setTop (mkF m 17 #[.val (.ref a1), .val (.ref a2), .val (.double (FP.dadd (FP.dadd (0 : UInt64) (FP.dmul (FP.dsub u1 w1) (FP.dsub u1 w1))) (FP.dmul (FP.dsub u2 w2) (FP.dsub u2 w2)))), .second, .val (.int (2 : Int32))] [(.double u3), (.double (FP.dadd (FP.dadd (0 : UInt64) (FP.dmul (FP.dsub u1 w1) (FP.dsub u1 w1))) (FP.dmul (FP.dsub u2 w2) (FP.dsub u2 w2))))])) _
    refine XS.aloadN X0.here hx rfl (hb hby d1_17) rfl rfl ?_
    show Steps p.tables e below (s₁.setTop (mkF m 18 #[.val (.ref a1), .val (.ref a2), .val (.double (FP.dadd (FP.dadd (0 : UInt64) (FP.dmul (FP.dsub u1 w1) (FP.dsub u1 w1))) (FP.dmul (FP.dsub u2 w2) (FP.dsub u2 w2)))), .second, .val (.int (2 : Int32))] [(.ref a2), (.double u3), (.double (FP.dadd (FP.dadd (0 : UInt64) (FP.dmul (FP.dsub u1 w1) (FP.dsub u1 w1))) (FP.dmul (FP.dsub u2 w2) (FP.dsub u2 w2))))])) _
    refine XS.iload X0.here hx rfl (hb hby d1_18) rfl ?_
    exact k)
  obtain ⟨c126, Ar126, -, As126, An126, Ah126, -⟩ := id V2
  have hin126 : ¬ ((2 : Int32) < 0 ∨ c126.slots.size ≤ ((2 : Int32)).toNatClampNeg) := inb_of As126 ⟨by decide, by decide⟩
  have hat126 : c126.slots[((2 : Int32)).toNatClampNeg]? = some (.double w3) := Has.at Ah126 hin126 rfl
  have k127 : ∀ t, Steps p.tables e below (s₁.setTop (mkF m 25 #[.val (.ref a1), .val (.ref a2), .val (.double (FP.dadd (FP.dadd (0 : UInt64) (FP.dmul (FP.dsub u1 w1) (FP.dsub u1 w1))) (FP.dmul (FP.dsub u2 w2) (FP.dsub u2 w2)))), .second, .val (.int (2 : Int32))] [(.int (2 : Int32)), (.ref a1), (.double (FP.dsub u3 w3)), (.double (FP.dadd (FP.dadd (0 : UInt64) (FP.dmul (FP.dsub u1 w1) (FP.dsub u1 w1))) (FP.dmul (FP.dsub u2 w2) (FP.dsub u2 w2))))])) t → Steps p.tables e below (s₁.setTop (entryFrame m #[(.ref a1), (.ref a2)] 5)) t := fun t k => k125 t (by
    show Steps p.tables e below (s₁.setTop (mkF m 20 #[.val (.ref a1), .val (.ref a2), .val (.double (FP.dadd (FP.dadd (0 : UInt64) (FP.dmul (FP.dsub u1 w1) (FP.dsub u1 w1))) (FP.dmul (FP.dsub u2 w2) (FP.dsub u2 w2)))), .second, .val (.int (2 : Int32))] [(.int (2 : Int32)), (.ref a2), (.double u3), (.double (FP.dadd (FP.dadd (0 : UInt64) (FP.dmul (FP.dsub u1 w1) (FP.dsub u1 w1))) (FP.dmul (FP.dsub u2 w2) (FP.dsub u2 w2))))])) _
    refine X0.daload hx (j := (2 : Int32)) (v := (.double w3)) (by rw [e0]; exact Ar126.1) (State.isArrayOf_alike hZ.alike Ar126.2.1) Ar126.2.2 hin126 hat126 (g := (mkF m 20 #[.val (.ref a1), .val (.ref a2), .val (.double (FP.dadd (FP.dadd (0 : UInt64) (FP.dmul (FP.dsub u1 w1) (FP.dsub u1 w1))) (FP.dmul (FP.dsub u2 w2) (FP.dsub u2 w2)))), .second, .val (.int (2 : Int32))] [(.int (2 : Int32)), (.ref a2), (.double u3), (.double (FP.dadd (FP.dadd (0 : UInt64) (FP.dmul (FP.dsub u1 w1) (FP.dsub u1 w1))) (FP.dmul (FP.dsub u2 w2) (FP.dsub u2 w2))))])) rfl rfl (hb hby d1_20) _ ?_
    show Steps p.tables e below (s₁.setTop (mkF m 21 #[.val (.ref a1), .val (.ref a2), .val (.double (FP.dadd (FP.dadd (0 : UInt64) (FP.dmul (FP.dsub u1 w1) (FP.dsub u1 w1))) (FP.dmul (FP.dsub u2 w2) (FP.dsub u2 w2)))), .second, .val (.int (2 : Int32))] [(.double w3), (.double u3), (.double (FP.dadd (FP.dadd (0 : UInt64) (FP.dmul (FP.dsub u1 w1) (FP.dsub u1 w1))) (FP.dmul (FP.dsub u2 w2) (FP.dsub u2 w2))))])) _
    refine XS.dsubS X0.here hx rfl (hb hby d1_21) rfl (ns2) rfl ?_
    show Steps p.tables e below (s₁.setTop (mkF m 22 #[.val (.ref a1), .val (.ref a2), .val (.double (FP.dadd (FP.dadd (0 : UInt64) (FP.dmul (FP.dsub u1 w1) (FP.dsub u1 w1))) (FP.dmul (FP.dsub u2 w2) (FP.dsub u2 w2)))), .second, .val (.int (2 : Int32))] [(.double (FP.dsub u3 w3)), (.double (FP.dadd (FP.dadd (0 : UInt64) (FP.dmul (FP.dsub u1 w1) (FP.dsub u1 w1))) (FP.dmul (FP.dsub u2 w2) (FP.dsub u2 w2))))])) _
    refine XS.aloadN X0.here hx rfl (hb hby d1_22) rfl rfl ?_
    show Steps p.tables e below (s₁.setTop (mkF m 23 #[.val (.ref a1), .val (.ref a2), .val (.double (FP.dadd (FP.dadd (0 : UInt64) (FP.dmul (FP.dsub u1 w1) (FP.dsub u1 w1))) (FP.dmul (FP.dsub u2 w2) (FP.dsub u2 w2)))), .second, .val (.int (2 : Int32))] [(.ref a1), (.double (FP.dsub u3 w3)), (.double (FP.dadd (FP.dadd (0 : UInt64) (FP.dmul (FP.dsub u1 w1) (FP.dsub u1 w1))) (FP.dmul (FP.dsub u2 w2) (FP.dsub u2 w2))))])) _
    refine XS.iload X0.here hx rfl (hb hby d1_23) rfl ?_
    exact k)
  obtain ⟨c128, Ar128, -, As128, An128, Ah128, -⟩ := id V1
  have hin128 : ¬ ((2 : Int32) < 0 ∨ c128.slots.size ≤ ((2 : Int32)).toNatClampNeg) := inb_of As128 ⟨by decide, by decide⟩
  have hat128 : c128.slots[((2 : Int32)).toNatClampNeg]? = some (.double u3) := Has.at Ah128 hin128 rfl
  have k129 : ∀ t, Steps p.tables e below (s₁.setTop (mkF m 29 #[.val (.ref a1), .val (.ref a2), .val (.double (FP.dadd (FP.dadd (0 : UInt64) (FP.dmul (FP.dsub u1 w1) (FP.dsub u1 w1))) (FP.dmul (FP.dsub u2 w2) (FP.dsub u2 w2)))), .second, .val (.int (2 : Int32))] [(.int (2 : Int32)), (.ref a2), (.double u3), (.double (FP.dsub u3 w3)), (.double (FP.dadd (FP.dadd (0 : UInt64) (FP.dmul (FP.dsub u1 w1) (FP.dsub u1 w1))) (FP.dmul (FP.dsub u2 w2) (FP.dsub u2 w2))))])) t → Steps p.tables e below (s₁.setTop (entryFrame m #[(.ref a1), (.ref a2)] 5)) t := fun t k => k127 t (by
    show Steps p.tables e below (s₁.setTop (mkF m 25 #[.val (.ref a1), .val (.ref a2), .val (.double (FP.dadd (FP.dadd (0 : UInt64) (FP.dmul (FP.dsub u1 w1) (FP.dsub u1 w1))) (FP.dmul (FP.dsub u2 w2) (FP.dsub u2 w2)))), .second, .val (.int (2 : Int32))] [(.int (2 : Int32)), (.ref a1), (.double (FP.dsub u3 w3)), (.double (FP.dadd (FP.dadd (0 : UInt64) (FP.dmul (FP.dsub u1 w1) (FP.dsub u1 w1))) (FP.dmul (FP.dsub u2 w2) (FP.dsub u2 w2))))])) _
    refine X0.daload hx (j := (2 : Int32)) (v := (.double u3)) (by rw [e0]; exact Ar128.1) (State.isArrayOf_alike hZ.alike Ar128.2.1) Ar128.2.2 hin128 hat128 (g := (mkF m 25 #[.val (.ref a1), .val (.ref a2), .val (.double (FP.dadd (FP.dadd (0 : UInt64) (FP.dmul (FP.dsub u1 w1) (FP.dsub u1 w1))) (FP.dmul (FP.dsub u2 w2) (FP.dsub u2 w2)))), .second, .val (.int (2 : Int32))] [(.int (2 : Int32)), (.ref a1), (.double (FP.dsub u3 w3)), (.double (FP.dadd (FP.dadd (0 : UInt64) (FP.dmul (FP.dsub u1 w1) (FP.dsub u1 w1))) (FP.dmul (FP.dsub u2 w2) (FP.dsub u2 w2))))])) rfl rfl (hb hby d1_25) _ ?_
    show Steps p.tables e below (s₁.setTop (mkF m 26 #[.val (.ref a1), .val (.ref a2), .val (.double (FP.dadd (FP.dadd (0 : UInt64) (FP.dmul (FP.dsub u1 w1) (FP.dsub u1 w1))) (FP.dmul (FP.dsub u2 w2) (FP.dsub u2 w2)))), .second, .val (.int (2 : Int32))] [(.double u3), (.double (FP.dsub u3 w3)), (.double (FP.dadd (FP.dadd (0 : UInt64) (FP.dmul (FP.dsub u1 w1) (FP.dsub u1 w1))) (FP.dmul (FP.dsub u2 w2) (FP.dsub u2 w2))))])) _
    refine XS.aloadN X0.here hx rfl (hb hby d1_26) rfl rfl ?_
    show Steps p.tables e below (s₁.setTop (mkF m 27 #[.val (.ref a1), .val (.ref a2), .val (.double (FP.dadd (FP.dadd (0 : UInt64) (FP.dmul (FP.dsub u1 w1) (FP.dsub u1 w1))) (FP.dmul (FP.dsub u2 w2) (FP.dsub u2 w2)))), .second, .val (.int (2 : Int32))] [(.ref a2), (.double u3), (.double (FP.dsub u3 w3)), (.double (FP.dadd (FP.dadd (0 : UInt64) (FP.dmul (FP.dsub u1 w1) (FP.dsub u1 w1))) (FP.dmul (FP.dsub u2 w2) (FP.dsub u2 w2))))])) _
    refine XS.iload X0.here hx rfl (hb hby d1_27) rfl ?_
    exact k)
  obtain ⟨c130, Ar130, -, As130, An130, Ah130, -⟩ := id V2
  have hin130 : ¬ ((2 : Int32) < 0 ∨ c130.slots.size ≤ ((2 : Int32)).toNatClampNeg) := inb_of As130 ⟨by decide, by decide⟩
  have hat130 : c130.slots[((2 : Int32)).toNatClampNeg]? = some (.double w3) := Has.at Ah130 hin130 rfl
  have k131 : ∀ t, Steps p.tables e below (s₁.setTop (mkF m 8 #[.val (.ref a1), .val (.ref a2), .val (.double (FP.dadd (FP.dadd (FP.dadd (0 : UInt64) (FP.dmul (FP.dsub u1 w1) (FP.dsub u1 w1))) (FP.dmul (FP.dsub u2 w2) (FP.dsub u2 w2))) (FP.dmul (FP.dsub u3 w3) (FP.dsub u3 w3)))), .second, .val (.int (3 : Int32))] [(.ref a1), (.int (3 : Int32))])) t → Steps p.tables e below (s₁.setTop (entryFrame m #[(.ref a1), (.ref a2)] 5)) t := fun t k => k129 t (by
    show Steps p.tables e below (s₁.setTop (mkF m 29 #[.val (.ref a1), .val (.ref a2), .val (.double (FP.dadd (FP.dadd (0 : UInt64) (FP.dmul (FP.dsub u1 w1) (FP.dsub u1 w1))) (FP.dmul (FP.dsub u2 w2) (FP.dsub u2 w2)))), .second, .val (.int (2 : Int32))] [(.int (2 : Int32)), (.ref a2), (.double u3), (.double (FP.dsub u3 w3)), (.double (FP.dadd (FP.dadd (0 : UInt64) (FP.dmul (FP.dsub u1 w1) (FP.dsub u1 w1))) (FP.dmul (FP.dsub u2 w2) (FP.dsub u2 w2))))])) _
    refine X0.daload hx (j := (2 : Int32)) (v := (.double w3)) (by rw [e0]; exact Ar130.1) (State.isArrayOf_alike hZ.alike Ar130.2.1) Ar130.2.2 hin130 hat130 (g := (mkF m 29 #[.val (.ref a1), .val (.ref a2), .val (.double (FP.dadd (FP.dadd (0 : UInt64) (FP.dmul (FP.dsub u1 w1) (FP.dsub u1 w1))) (FP.dmul (FP.dsub u2 w2) (FP.dsub u2 w2)))), .second, .val (.int (2 : Int32))] [(.int (2 : Int32)), (.ref a2), (.double u3), (.double (FP.dsub u3 w3)), (.double (FP.dadd (FP.dadd (0 : UInt64) (FP.dmul (FP.dsub u1 w1) (FP.dsub u1 w1))) (FP.dmul (FP.dsub u2 w2) (FP.dsub u2 w2))))])) rfl rfl (hb hby d1_29) _ ?_
    show Steps p.tables e below (s₁.setTop (mkF m 30 #[.val (.ref a1), .val (.ref a2), .val (.double (FP.dadd (FP.dadd (0 : UInt64) (FP.dmul (FP.dsub u1 w1) (FP.dsub u1 w1))) (FP.dmul (FP.dsub u2 w2) (FP.dsub u2 w2)))), .second, .val (.int (2 : Int32))] [(.double w3), (.double u3), (.double (FP.dsub u3 w3)), (.double (FP.dadd (FP.dadd (0 : UInt64) (FP.dmul (FP.dsub u1 w1) (FP.dsub u1 w1))) (FP.dmul (FP.dsub u2 w2) (FP.dsub u2 w2))))])) _
    refine XS.dsubS X0.here hx rfl (hb hby d1_30) rfl (ns2) rfl ?_
    show Steps p.tables e below (s₁.setTop (mkF m 31 #[.val (.ref a1), .val (.ref a2), .val (.double (FP.dadd (FP.dadd (0 : UInt64) (FP.dmul (FP.dsub u1 w1) (FP.dsub u1 w1))) (FP.dmul (FP.dsub u2 w2) (FP.dsub u2 w2)))), .second, .val (.int (2 : Int32))] [(.double (FP.dsub u3 w3)), (.double (FP.dsub u3 w3)), (.double (FP.dadd (FP.dadd (0 : UInt64) (FP.dmul (FP.dsub u1 w1) (FP.dsub u1 w1))) (FP.dmul (FP.dsub u2 w2) (FP.dsub u2 w2))))])) _
    refine XS.dmulS X0.here hx rfl (hb hby d1_31) rfl (nm2) rfl ?_
    show Steps p.tables e below (s₁.setTop (mkF m 32 #[.val (.ref a1), .val (.ref a2), .val (.double (FP.dadd (FP.dadd (0 : UInt64) (FP.dmul (FP.dsub u1 w1) (FP.dsub u1 w1))) (FP.dmul (FP.dsub u2 w2) (FP.dsub u2 w2)))), .second, .val (.int (2 : Int32))] [(.double (FP.dmul (FP.dsub u3 w3) (FP.dsub u3 w3))), (.double (FP.dadd (FP.dadd (0 : UInt64) (FP.dmul (FP.dsub u1 w1) (FP.dsub u1 w1))) (FP.dmul (FP.dsub u2 w2) (FP.dsub u2 w2))))])) _
    refine XS.daddS X0.here hx rfl (hb hby d1_32) rfl (na2) rfl ?_
    show Steps p.tables e below (s₁.setTop (mkF m 33 #[.val (.ref a1), .val (.ref a2), .val (.double (FP.dadd (FP.dadd (0 : UInt64) (FP.dmul (FP.dsub u1 w1) (FP.dsub u1 w1))) (FP.dmul (FP.dsub u2 w2) (FP.dsub u2 w2)))), .second, .val (.int (2 : Int32))] [(.double (FP.dadd (FP.dadd (FP.dadd (0 : UInt64) (FP.dmul (FP.dsub u1 w1) (FP.dsub u1 w1))) (FP.dmul (FP.dsub u2 w2) (FP.dsub u2 w2))) (FP.dmul (FP.dsub u3 w3) (FP.dsub u3 w3))))])) _
    refine XS.dstoreN X0.here hx rfl (hb hby d1_33) rfl (l' := #[.val (.ref a1), .val (.ref a2), .val (.double (FP.dadd (FP.dadd (FP.dadd (0 : UInt64) (FP.dmul (FP.dsub u1 w1) (FP.dsub u1 w1))) (FP.dmul (FP.dsub u2 w2) (FP.dsub u2 w2))) (FP.dmul (FP.dsub u3 w3) (FP.dsub u3 w3)))), .second, .val (.int (2 : Int32))]) rfl ?_
    show Steps p.tables e below (s₁.setTop (mkF m 34 #[.val (.ref a1), .val (.ref a2), .val (.double (FP.dadd (FP.dadd (FP.dadd (0 : UInt64) (FP.dmul (FP.dsub u1 w1) (FP.dsub u1 w1))) (FP.dmul (FP.dsub u2 w2) (FP.dsub u2 w2))) (FP.dmul (FP.dsub u3 w3) (FP.dsub u3 w3)))), .second, .val (.int (2 : Int32))] [])) _
    refine XS.iinc X0.here hx rfl (hb hby d1_34) rfl (l' := #[.val (.ref a1), .val (.ref a2), .val (.double (FP.dadd (FP.dadd (FP.dadd (0 : UInt64) (FP.dmul (FP.dsub u1 w1) (FP.dsub u1 w1))) (FP.dmul (FP.dsub u2 w2) (FP.dsub u2 w2))) (FP.dmul (FP.dsub u3 w3) (FP.dsub u3 w3)))), .second, .val (.int (3 : Int32))]) rfl ?_
    show Steps p.tables e below (s₁.setTop (mkF m 37 #[.val (.ref a1), .val (.ref a2), .val (.double (FP.dadd (FP.dadd (FP.dadd (0 : UInt64) (FP.dmul (FP.dsub u1 w1) (FP.dsub u1 w1))) (FP.dmul (FP.dsub u2 w2) (FP.dsub u2 w2))) (FP.dmul (FP.dsub u3 w3) (FP.dsub u3 w3)))), .second, .val (.int (3 : Int32))] [])) _
    refine XS.goto X0.here hx rfl (pc0 := 37) (pc' := 5) rfl (hb hby d1_37) (by decide) (by decide) ?_
    show Steps p.tables e below (s₁.setTop (mkF m 5 #[.val (.ref a1), .val (.ref a2), .val (.double (FP.dadd (FP.dadd (FP.dadd (0 : UInt64) (FP.dmul (FP.dsub u1 w1) (FP.dsub u1 w1))) (FP.dmul (FP.dsub u2 w2) (FP.dsub u2 w2))) (FP.dmul (FP.dsub u3 w3) (FP.dsub u3 w3)))), .second, .val (.int (3 : Int32))] [])) _
    refine XS.iload X0.here hx rfl (hb hby d1_5) rfl ?_
    show Steps p.tables e below (s₁.setTop (mkF m 7 #[.val (.ref a1), .val (.ref a2), .val (.double (FP.dadd (FP.dadd (FP.dadd (0 : UInt64) (FP.dmul (FP.dsub u1 w1) (FP.dsub u1 w1))) (FP.dmul (FP.dsub u2 w2) (FP.dsub u2 w2))) (FP.dmul (FP.dsub u3 w3) (FP.dsub u3 w3)))), .second, .val (.int (3 : Int32))] [(.int (3 : Int32))])) _
    refine XS.aloadN X0.here hx rfl (hb hby d1_7) rfl rfl ?_
    exact k)
  obtain ⟨c132, Ar132, -, As132, An132, -, -⟩ := id V1
  have k133 : ∀ t, Steps p.tables e below (s₁.setTop (mkF m 41 #[.val (.ref a1), .val (.ref a2), .val (.double (FP.dadd (FP.dadd (FP.dadd (0 : UInt64) (FP.dmul (FP.dsub u1 w1) (FP.dsub u1 w1))) (FP.dmul (FP.dsub u2 w2) (FP.dsub u2 w2))) (FP.dmul (FP.dsub u3 w3) (FP.dsub u3 w3)))), .second, .val (.int (3 : Int32))] [(.double (FP.dadd (FP.dadd (FP.dadd (0 : UInt64) (FP.dmul (FP.dsub u1 w1) (FP.dsub u1 w1))) (FP.dmul (FP.dsub u2 w2) (FP.dsub u2 w2))) (FP.dmul (FP.dsub u3 w3) (FP.dsub u3 w3))))])) t → Steps p.tables e below (s₁.setTop (entryFrame m #[(.ref a1), (.ref a2)] 5)) t := fun t k => k131 t (by
    show Steps p.tables e below (s₁.setTop (mkF m 8 #[.val (.ref a1), .val (.ref a2), .val (.double (FP.dadd (FP.dadd (FP.dadd (0 : UInt64) (FP.dmul (FP.dsub u1 w1) (FP.dsub u1 w1))) (FP.dmul (FP.dsub u2 w2) (FP.dsub u2 w2))) (FP.dmul (FP.dsub u3 w3) (FP.dsub u3 w3)))), .second, .val (.int (3 : Int32))] [(.ref a1), (.int (3 : Int32))])) _
    refine X0.arraylength hx (by rw [e0]; exact Ar132.1) (State.isArrayOf_alike hZ.alike Ar132.2.1) (g := (mkF m 8 #[.val (.ref a1), .val (.ref a2), .val (.double (FP.dadd (FP.dadd (FP.dadd (0 : UInt64) (FP.dmul (FP.dsub u1 w1) (FP.dsub u1 w1))) (FP.dmul (FP.dsub u2 w2) (FP.dsub u2 w2))) (FP.dmul (FP.dsub u3 w3) (FP.dsub u3 w3)))), .second, .val (.int (3 : Int32))] [(.ref a1), (.int (3 : Int32))])) rfl rfl (hb hby d1_8) _ ?_
    rw [len_of As132 An132]
    show Steps p.tables e below (s₁.setTop (mkF m 9 #[.val (.ref a1), .val (.ref a2), .val (.double (FP.dadd (FP.dadd (FP.dadd (0 : UInt64) (FP.dmul (FP.dsub u1 w1) (FP.dsub u1 w1))) (FP.dmul (FP.dsub u2 w2) (FP.dsub u2 w2))) (FP.dmul (FP.dsub u3 w3) (FP.dsub u3 w3)))), .second, .val (.int (3 : Int32))] [(.int (3 : Int32)), (.int (3 : Int32))])) _
    refine XS.icmpYes X0.here hx rfl (pc0 := 9) (pc' := 40) rfl (hb hby d1_9) rfl (flt (by decide)).2.1 (by decide) (by decide) ?_
    show Steps p.tables e below (s₁.setTop (mkF m 40 #[.val (.ref a1), .val (.ref a2), .val (.double (FP.dadd (FP.dadd (FP.dadd (0 : UInt64) (FP.dmul (FP.dsub u1 w1) (FP.dsub u1 w1))) (FP.dmul (FP.dsub u2 w2) (FP.dsub u2 w2))) (FP.dmul (FP.dsub u3 w3) (FP.dsub u3 w3)))), .second, .val (.int (3 : Int32))] [])) _
    refine XS.dloadN X0.here hx rfl (hb hby d1_40) rfl ?_
    exact k)
  obtain ⟨fs, hr, hrun, hended, hW, hsame⟩ := X0.leave (v := some (.double (FP.dadd (FP.dadd (FP.dadd (0 : UInt64) (FP.dmul (FP.dsub u1 w1) (FP.dsub u1 w1))) (FP.dmul (FP.dsub u2 w2) (FP.dsub u2 w2))) (FP.dmul (FP.dsub u3 w3) (FP.dsub u3 w3))))) (fun h => by rw [Bd.returns] at h; cases h)
  refine ⟨_, _, k133 _ (retOut X0 hx (t := .double) Bd.returns rfl (Or.inr (Or.inr (Or.inl ⟨rfl, rfl, _, rfl⟩))) (hb hby d1_41) hr), hrun, hended, _, _, rfl, ?_, ⟨_, rfl⟩, hW, hsame.mono (by decide) (by decide)⟩
  show Q_dist3 Z a1 a2 k1 k2 u1 u2 u3 w1 w2 w3 h0 n0 _ s₁.heap _
  rw [e0]
  exact ⟨rfl, N0, rfl⟩
theorem ef_0_JJIII (m : MethodId) (x0 : Int64) (x1 : Int64) (x2 : Int32) (x3 : Int32) (x4 : Int32) : entryFrame m #[(.long x0), (.long x1), (.int x2), (.int x3), (.int x4)] maxLocals = mkF m 0 #[.val (.long x0), .second, .val (.long x1), .second, .val (.int x2), .val (.int x3), .val (.int x4), .unset, .unset, .unset, .unset, .unset, .unset, .unset, .unset, .unset, .unset, .unset, .unset, .unset, .unset, .unset, .unset, .unset, .unset, .unset, .unset, .unset] [] := by first | (simp [entryFrame, mkF, argsToLocals, Value.category, maxLocals]; done) | rfl
theorem pd__28_5bD_5bD_29D : parseMethodDescriptor "([D[D)D" = some ⟨[(.array .double), (.array .double)], some .double⟩ := by decide +kernel
def Q_rm0 (Z : State) (q0 : Int64) (q1 : Int64) (p0 : Int32) (p1 : Int32) (p2 : Int32) (h0 : Heap) (n0 : Nat) (v : Option Value) (h : Heap) (L : List Loc) : Prop := v = some (.int 1) ∧ Fr n0 L
theorem pn_com_2fexample_2ffrontweave_2ffrontweave_2fclustering_2fVectorsDistanceSquaredPinLaw : plainName "com/example/frontweave/frontweave/clustering/VectorsDistanceSquaredPinLaw" = true := by first | (simp [plainName, overriddenIn]; done) | decide +kernel
set_option maxRecDepth 65536 in
set_option maxHeartbeats 40000000 in
theorem rm0 (l : Launch) (Z : State) (a0 : Array Value) (hw : ∀ d ∈ tables_1, d.before a0 Z = true) (ws : List Jvm.Cond) (q0 : Int64) (q1 : Int64) (p0 : Int32) (p1 : Int32) (p2 : Int32) (h0 : Heap) (n0 : Nat) (Z0 : n0 ≤ h0.size) :
    MetFree l x (head1 (Jvm.Cond.code x code maxLocals ret :: ws) room_1) (fun a U => a = #[(.long q0), (.long q1), (.int p0), (.int p1), (.int p2)] ∧ Z.Warmed39 U.vm ∧ U.heap = h0) (fun _ _ _ _ _ => True) (fun _ U o U' => ∃ v L, o = .returned v ∧ Q_rm0 Z q0 q1 p0 p1 p2 h0 n0 v U'.heap L ∧ FrameEnd U o U' L room_1.cells room_1.slots) := by
  refine MetFree.of_bodySF (plainFor_of_name pn_com_2fexample_2ffrontweave_2ffrontweave_2fclustering_2fVectorsDistanceSquaredPinLaw) hisR ?_
  intro p e s m args below meth c s₁ Bd hml0 hP hK
  obtain ⟨rfl, hZ, hh⟩ := hP
  have hx := Bd.exec
  have hby := Bd.bytes
  have hml : c.maxLocals = 28 := hml0
  have hown : s.vm.findClass "com/example/frontweave/frontweave/clustering/VectorsDistanceSquaredPinLaw" = some m.cls := findClass_of_methodNamed Bd.named
  have hnm := (name_of_methodNamed Bd.named Bd.method).1
  have X0 : Stand p l e room_1 s m #[(.long q0), (.long q1), (.int p0), (.int p1), (.int p2)] below meth c s₁ [] 0 0 := Stand.of_body Bd
  have e0 : s₁.heap = h0 := by rw [← hh, Bd.state]; rfl
  have N0 := Fr.nil n0
  have k0 : ∀ t, Steps p.tables e below (s₁.setTop (mkF m 0 #[.val (.long q0), .second, .val (.long q1), .second, .val (.int p0), .val (.int p1), .val (.int p2), .unset, .unset, .unset, .unset, .unset, .unset, .unset, .unset, .unset, .unset, .unset, .unset, .unset, .unset, .unset, .unset, .unset, .unset, .unset, .unset, .unset] [])) t → Steps p.tables e below (s₁.setTop (entryFrame m #[(.long q0), (.long q1), (.int p0), (.int p1), (.int p2)] maxLocals)) t := fun t k => castTop (ef_0_JJIII m q0 q1 p0 p1 p2) k
  obtain ⟨n, hn⟩ : ∃ z : Int32, z = ((p2 &&& (2147483647 : Int32)) % (4 : Int32)) := ⟨_, rfl⟩
  obtain ⟨la0, hla0⟩ : ∃ z : Int64, z = (((q0.toInt32) >>> ((11 : Int32) &&& 31)).toInt64) := ⟨_, rfl⟩
  obtain ⟨la1, hla1⟩ : ∃ z : Int64, z = (((((q0.toUInt64 >>> ((32 : Int32) &&& 0x3f).toInt64.toUInt64).toInt64).toInt32) >>> ((11 : Int32) &&& 31)).toInt64) := ⟨_, rfl⟩
  obtain ⟨la2, hla2⟩ : ∃ z : Int64, z = ((p0 >>> ((11 : Int32) &&& 31)).toInt64) := ⟨_, rfl⟩
  obtain ⟨lb0, hlb0⟩ : ∃ z : Int64, z = (((q1.toInt32) >>> ((11 : Int32) &&& 31)).toInt64) := ⟨_, rfl⟩
  obtain ⟨lb1, hlb1⟩ : ∃ z : Int64, z = (((((q1.toUInt64 >>> ((32 : Int32) &&& 0x3f).toInt64.toUInt64).toInt64).toInt32) >>> ((11 : Int32) &&& 31)).toInt64) := ⟨_, rfl⟩
  obtain ⟨lb2, hlb2⟩ : ∃ z : Int64, z = ((p1 >>> ((11 : Int32) &&& 31)).toInt64) := ⟨_, rfl⟩
  have k101 : ∀ t, Steps p.tables e below (s₁.setTop (mkF m 63 #[.val (.long q0), .second, .val (.long q1), .second, .val (.int p0), .val (.int p1), .val (.int p2), .val (.int n), .val (.long la0), .second, .val (.long la1), .second, .val (.long la2), .second, .val (.long lb0), .second, .val (.long lb1), .second, .val (.long lb2), .second, .unset, .unset, .unset, .unset, .unset, .unset, .unset, .unset] [])) t → Steps p.tables e below (s₁.setTop (entryFrame m #[(.long q0), (.long q1), (.int p0), (.int p1), (.int p2)] maxLocals)) t := fun t k => k0 t (by
    show Steps p.tables e below (s₁.setTop (mkF m 0 #[.val (.long q0), .second, .val (.long q1), .second, .val (.int p0), .val (.int p1), .val (.int p2), .unset, .unset, .unset, .unset, .unset, .unset, .unset, .unset, .unset, .unset, .unset, .unset, .unset, .unset, .unset, .unset, .unset, .unset, .unset, .unset, .unset] [])) _
    refine XS.iload X0.here hx rfl (hb hby at_0) rfl ?_
    show Steps p.tables e below (s₁.setTop (mkF m 2 #[.val (.long q0), .second, .val (.long q1), .second, .val (.int p0), .val (.int p1), .val (.int p2), .unset, .unset, .unset, .unset, .unset, .unset, .unset, .unset, .unset, .unset, .unset, .unset, .unset, .unset, .unset, .unset, .unset, .unset, .unset, .unset, .unset] [(.int p2)])) _
    refine X0.ldcInt hx hown (mvT hZ (hw _ (List.mem_of_getElem? (i := 0) rfl))) (g := (mkF m 2 #[.val (.long q0), .second, .val (.long q1), .second, .val (.int p0), .val (.int p1), .val (.int p2), .unset, .unset, .unset, .unset, .unset, .unset, .unset, .unset, .unset, .unset, .unset, .unset, .unset, .unset, .unset, .unset, .unset, .unset, .unset, .unset, .unset] [(.int p2)])) rfl (hb hby at_2) _ ?_
    show Steps p.tables e below (s₁.setTop (mkF m 4 #[.val (.long q0), .second, .val (.long q1), .second, .val (.int p0), .val (.int p1), .val (.int p2), .unset, .unset, .unset, .unset, .unset, .unset, .unset, .unset, .unset, .unset, .unset, .unset, .unset, .unset, .unset, .unset, .unset, .unset, .unset, .unset, .unset] [(.int (2147483647 : Int32)), (.int p2)])) _
    refine XS.iand X0.here hx rfl (hb hby at_4) rfl ?_
    show Steps p.tables e below (s₁.setTop (mkF m 5 #[.val (.long q0), .second, .val (.long q1), .second, .val (.int p0), .val (.int p1), .val (.int p2), .unset, .unset, .unset, .unset, .unset, .unset, .unset, .unset, .unset, .unset, .unset, .unset, .unset, .unset, .unset, .unset, .unset, .unset, .unset, .unset, .unset] [(.int (p2 &&& (2147483647 : Int32)))])) _
    refine XS.iconst X0.here hx rfl (hb hby at_5) ?_
    show Steps p.tables e below (s₁.setTop (mkF m 6 #[.val (.long q0), .second, .val (.long q1), .second, .val (.int p0), .val (.int p1), .val (.int p2), .unset, .unset, .unset, .unset, .unset, .unset, .unset, .unset, .unset, .unset, .unset, .unset, .unset, .unset, .unset, .unset, .unset, .unset, .unset, .unset, .unset] [(.int (4 : Int32)), (.int (p2 &&& (2147483647 : Int32)))])) _
    refine iremM X0 hx rfl (hb hby at_6) rfl (by decide) ?_
    show Steps p.tables e below (s₁.setTop (mkF m 7 #[.val (.long q0), .second, .val (.long q1), .second, .val (.int p0), .val (.int p1), .val (.int p2), .unset, .unset, .unset, .unset, .unset, .unset, .unset, .unset, .unset, .unset, .unset, .unset, .unset, .unset, .unset, .unset, .unset, .unset, .unset, .unset, .unset] [(.int ((p2 &&& (2147483647 : Int32)) % (4 : Int32)))])) _
    refine castTop (g' := (mkF m 7 #[.val (.long q0), .second, .val (.long q1), .second, .val (.int p0), .val (.int p1), .val (.int p2), .unset, .unset, .unset, .unset, .unset, .unset, .unset, .unset, .unset, .unset, .unset, .unset, .unset, .unset, .unset, .unset, .unset, .unset, .unset, .unset, .unset] [(.int n)])) (by rw [hn]) ?_
    show Steps p.tables e below (s₁.setTop (mkF m 7 #[.val (.long q0), .second, .val (.long q1), .second, .val (.int p0), .val (.int p1), .val (.int p2), .unset, .unset, .unset, .unset, .unset, .unset, .unset, .unset, .unset, .unset, .unset, .unset, .unset, .unset, .unset, .unset, .unset, .unset, .unset, .unset, .unset] [(.int n)])) _
    refine XS.istore X0.here hx rfl (hb hby at_7) rfl (l' := #[.val (.long q0), .second, .val (.long q1), .second, .val (.int p0), .val (.int p1), .val (.int p2), .val (.int n), .unset, .unset, .unset, .unset, .unset, .unset, .unset, .unset, .unset, .unset, .unset, .unset, .unset, .unset, .unset, .unset, .unset, .unset, .unset, .unset]) rfl ?_
    show Steps p.tables e below (s₁.setTop (mkF m 9 #[.val (.long q0), .second, .val (.long q1), .second, .val (.int p0), .val (.int p1), .val (.int p2), .val (.int n), .unset, .unset, .unset, .unset, .unset, .unset, .unset, .unset, .unset, .unset, .unset, .unset, .unset, .unset, .unset, .unset, .unset, .unset, .unset, .unset] [])) _
    refine XS.lloadN X0.here hx rfl (hb hby at_9) rfl ?_
    show Steps p.tables e below (s₁.setTop (mkF m 10 #[.val (.long q0), .second, .val (.long q1), .second, .val (.int p0), .val (.int p1), .val (.int p2), .val (.int n), .unset, .unset, .unset, .unset, .unset, .unset, .unset, .unset, .unset, .unset, .unset, .unset, .unset, .unset, .unset, .unset, .unset, .unset, .unset, .unset] [(.long q0)])) _
    refine XS.l2i X0.here hx rfl (hb hby at_10) rfl ?_
    show Steps p.tables e below (s₁.setTop (mkF m 11 #[.val (.long q0), .second, .val (.long q1), .second, .val (.int p0), .val (.int p1), .val (.int p2), .val (.int n), .unset, .unset, .unset, .unset, .unset, .unset, .unset, .unset, .unset, .unset, .unset, .unset, .unset, .unset, .unset, .unset, .unset, .unset, .unset, .unset] [(.int (q0.toInt32))])) _
    refine XS.bipush X0.here hx rfl (hb hby at_11) ?_
    show Steps p.tables e below (s₁.setTop (mkF m 13 #[.val (.long q0), .second, .val (.long q1), .second, .val (.int p0), .val (.int p1), .val (.int p2), .val (.int n), .unset, .unset, .unset, .unset, .unset, .unset, .unset, .unset, .unset, .unset, .unset, .unset, .unset, .unset, .unset, .unset, .unset, .unset, .unset, .unset] [(.int (11 : Int32)), (.int (q0.toInt32))])) _
    refine XS.ishr X0.here hx rfl (hb hby at_13) rfl ?_
    show Steps p.tables e below (s₁.setTop (mkF m 14 #[.val (.long q0), .second, .val (.long q1), .second, .val (.int p0), .val (.int p1), .val (.int p2), .val (.int n), .unset, .unset, .unset, .unset, .unset, .unset, .unset, .unset, .unset, .unset, .unset, .unset, .unset, .unset, .unset, .unset, .unset, .unset, .unset, .unset] [(.int ((q0.toInt32) >>> ((11 : Int32) &&& 31)))])) _
    refine XS.i2l X0.here hx rfl (hb hby at_14) rfl ?_
    show Steps p.tables e below (s₁.setTop (mkF m 15 #[.val (.long q0), .second, .val (.long q1), .second, .val (.int p0), .val (.int p1), .val (.int p2), .val (.int n), .unset, .unset, .unset, .unset, .unset, .unset, .unset, .unset, .unset, .unset, .unset, .unset, .unset, .unset, .unset, .unset, .unset, .unset, .unset, .unset] [(.long (((q0.toInt32) >>> ((11 : Int32) &&& 31)).toInt64))])) _
    refine castTop (g' := (mkF m 15 #[.val (.long q0), .second, .val (.long q1), .second, .val (.int p0), .val (.int p1), .val (.int p2), .val (.int n), .unset, .unset, .unset, .unset, .unset, .unset, .unset, .unset, .unset, .unset, .unset, .unset, .unset, .unset, .unset, .unset, .unset, .unset, .unset, .unset] [(.long la0)])) (by rw [hla0]) ?_
    show Steps p.tables e below (s₁.setTop (mkF m 15 #[.val (.long q0), .second, .val (.long q1), .second, .val (.int p0), .val (.int p1), .val (.int p2), .val (.int n), .unset, .unset, .unset, .unset, .unset, .unset, .unset, .unset, .unset, .unset, .unset, .unset, .unset, .unset, .unset, .unset, .unset, .unset, .unset, .unset] [(.long la0)])) _
    refine XS.lstore X0.here hx rfl (hb hby at_15) rfl (l' := #[.val (.long q0), .second, .val (.long q1), .second, .val (.int p0), .val (.int p1), .val (.int p2), .val (.int n), .val (.long la0), .second, .unset, .unset, .unset, .unset, .unset, .unset, .unset, .unset, .unset, .unset, .unset, .unset, .unset, .unset, .unset, .unset, .unset, .unset]) rfl ?_
    show Steps p.tables e below (s₁.setTop (mkF m 17 #[.val (.long q0), .second, .val (.long q1), .second, .val (.int p0), .val (.int p1), .val (.int p2), .val (.int n), .val (.long la0), .second, .unset, .unset, .unset, .unset, .unset, .unset, .unset, .unset, .unset, .unset, .unset, .unset, .unset, .unset, .unset, .unset, .unset, .unset] [])) _
    refine XS.lloadN X0.here hx rfl (hb hby at_17) rfl ?_
    show Steps p.tables e below (s₁.setTop (mkF m 18 #[.val (.long q0), .second, .val (.long q1), .second, .val (.int p0), .val (.int p1), .val (.int p2), .val (.int n), .val (.long la0), .second, .unset, .unset, .unset, .unset, .unset, .unset, .unset, .unset, .unset, .unset, .unset, .unset, .unset, .unset, .unset, .unset, .unset, .unset] [(.long q0)])) _
    refine XS.bipush X0.here hx rfl (hb hby at_18) ?_
    show Steps p.tables e below (s₁.setTop (mkF m 20 #[.val (.long q0), .second, .val (.long q1), .second, .val (.int p0), .val (.int p1), .val (.int p2), .val (.int n), .val (.long la0), .second, .unset, .unset, .unset, .unset, .unset, .unset, .unset, .unset, .unset, .unset, .unset, .unset, .unset, .unset, .unset, .unset, .unset, .unset] [(.int (32 : Int32)), (.long q0)])) _
    refine XS.lushr X0.here hx rfl (hb hby at_20) rfl ?_
    show Steps p.tables e below (s₁.setTop (mkF m 21 #[.val (.long q0), .second, .val (.long q1), .second, .val (.int p0), .val (.int p1), .val (.int p2), .val (.int n), .val (.long la0), .second, .unset, .unset, .unset, .unset, .unset, .unset, .unset, .unset, .unset, .unset, .unset, .unset, .unset, .unset, .unset, .unset, .unset, .unset] [(.long ((q0.toUInt64 >>> ((32 : Int32) &&& 0x3f).toInt64.toUInt64).toInt64))])) _
    refine XS.l2i X0.here hx rfl (hb hby at_21) rfl ?_
    show Steps p.tables e below (s₁.setTop (mkF m 22 #[.val (.long q0), .second, .val (.long q1), .second, .val (.int p0), .val (.int p1), .val (.int p2), .val (.int n), .val (.long la0), .second, .unset, .unset, .unset, .unset, .unset, .unset, .unset, .unset, .unset, .unset, .unset, .unset, .unset, .unset, .unset, .unset, .unset, .unset] [(.int (((q0.toUInt64 >>> ((32 : Int32) &&& 0x3f).toInt64.toUInt64).toInt64).toInt32))])) _
    refine XS.bipush X0.here hx rfl (hb hby at_22) ?_
    show Steps p.tables e below (s₁.setTop (mkF m 24 #[.val (.long q0), .second, .val (.long q1), .second, .val (.int p0), .val (.int p1), .val (.int p2), .val (.int n), .val (.long la0), .second, .unset, .unset, .unset, .unset, .unset, .unset, .unset, .unset, .unset, .unset, .unset, .unset, .unset, .unset, .unset, .unset, .unset, .unset] [(.int (11 : Int32)), (.int (((q0.toUInt64 >>> ((32 : Int32) &&& 0x3f).toInt64.toUInt64).toInt64).toInt32))])) _
    refine XS.ishr X0.here hx rfl (hb hby at_24) rfl ?_
    show Steps p.tables e below (s₁.setTop (mkF m 25 #[.val (.long q0), .second, .val (.long q1), .second, .val (.int p0), .val (.int p1), .val (.int p2), .val (.int n), .val (.long la0), .second, .unset, .unset, .unset, .unset, .unset, .unset, .unset, .unset, .unset, .unset, .unset, .unset, .unset, .unset, .unset, .unset, .unset, .unset] [(.int ((((q0.toUInt64 >>> ((32 : Int32) &&& 0x3f).toInt64.toUInt64).toInt64).toInt32) >>> ((11 : Int32) &&& 31)))])) _
    refine XS.i2l X0.here hx rfl (hb hby at_25) rfl ?_
    show Steps p.tables e below (s₁.setTop (mkF m 26 #[.val (.long q0), .second, .val (.long q1), .second, .val (.int p0), .val (.int p1), .val (.int p2), .val (.int n), .val (.long la0), .second, .unset, .unset, .unset, .unset, .unset, .unset, .unset, .unset, .unset, .unset, .unset, .unset, .unset, .unset, .unset, .unset, .unset, .unset] [(.long (((((q0.toUInt64 >>> ((32 : Int32) &&& 0x3f).toInt64.toUInt64).toInt64).toInt32) >>> ((11 : Int32) &&& 31)).toInt64))])) _
    refine castTop (g' := (mkF m 26 #[.val (.long q0), .second, .val (.long q1), .second, .val (.int p0), .val (.int p1), .val (.int p2), .val (.int n), .val (.long la0), .second, .unset, .unset, .unset, .unset, .unset, .unset, .unset, .unset, .unset, .unset, .unset, .unset, .unset, .unset, .unset, .unset, .unset, .unset] [(.long la1)])) (by rw [hla1]) ?_
    show Steps p.tables e below (s₁.setTop (mkF m 26 #[.val (.long q0), .second, .val (.long q1), .second, .val (.int p0), .val (.int p1), .val (.int p2), .val (.int n), .val (.long la0), .second, .unset, .unset, .unset, .unset, .unset, .unset, .unset, .unset, .unset, .unset, .unset, .unset, .unset, .unset, .unset, .unset, .unset, .unset] [(.long la1)])) _
    refine XS.lstore X0.here hx rfl (hb hby at_26) rfl (l' := #[.val (.long q0), .second, .val (.long q1), .second, .val (.int p0), .val (.int p1), .val (.int p2), .val (.int n), .val (.long la0), .second, .val (.long la1), .second, .unset, .unset, .unset, .unset, .unset, .unset, .unset, .unset, .unset, .unset, .unset, .unset, .unset, .unset, .unset, .unset]) rfl ?_
    show Steps p.tables e below (s₁.setTop (mkF m 28 #[.val (.long q0), .second, .val (.long q1), .second, .val (.int p0), .val (.int p1), .val (.int p2), .val (.int n), .val (.long la0), .second, .val (.long la1), .second, .unset, .unset, .unset, .unset, .unset, .unset, .unset, .unset, .unset, .unset, .unset, .unset, .unset, .unset, .unset, .unset] [])) _
    refine XS.iload X0.here hx rfl (hb hby at_28) rfl ?_
    show Steps p.tables e below (s₁.setTop (mkF m 30 #[.val (.long q0), .second, .val (.long q1), .second, .val (.int p0), .val (.int p1), .val (.int p2), .val (.int n), .val (.long la0), .second, .val (.long la1), .second, .unset, .unset, .unset, .unset, .unset, .unset, .unset, .unset, .unset, .unset, .unset, .unset, .unset, .unset, .unset, .unset] [(.int p0)])) _
    refine XS.bipush X0.here hx rfl (hb hby at_30) ?_
    show Steps p.tables e below (s₁.setTop (mkF m 32 #[.val (.long q0), .second, .val (.long q1), .second, .val (.int p0), .val (.int p1), .val (.int p2), .val (.int n), .val (.long la0), .second, .val (.long la1), .second, .unset, .unset, .unset, .unset, .unset, .unset, .unset, .unset, .unset, .unset, .unset, .unset, .unset, .unset, .unset, .unset] [(.int (11 : Int32)), (.int p0)])) _
    refine XS.ishr X0.here hx rfl (hb hby at_32) rfl ?_
    show Steps p.tables e below (s₁.setTop (mkF m 33 #[.val (.long q0), .second, .val (.long q1), .second, .val (.int p0), .val (.int p1), .val (.int p2), .val (.int n), .val (.long la0), .second, .val (.long la1), .second, .unset, .unset, .unset, .unset, .unset, .unset, .unset, .unset, .unset, .unset, .unset, .unset, .unset, .unset, .unset, .unset] [(.int (p0 >>> ((11 : Int32) &&& 31)))])) _
    refine XS.i2l X0.here hx rfl (hb hby at_33) rfl ?_
    show Steps p.tables e below (s₁.setTop (mkF m 34 #[.val (.long q0), .second, .val (.long q1), .second, .val (.int p0), .val (.int p1), .val (.int p2), .val (.int n), .val (.long la0), .second, .val (.long la1), .second, .unset, .unset, .unset, .unset, .unset, .unset, .unset, .unset, .unset, .unset, .unset, .unset, .unset, .unset, .unset, .unset] [(.long ((p0 >>> ((11 : Int32) &&& 31)).toInt64))])) _
    refine castTop (g' := (mkF m 34 #[.val (.long q0), .second, .val (.long q1), .second, .val (.int p0), .val (.int p1), .val (.int p2), .val (.int n), .val (.long la0), .second, .val (.long la1), .second, .unset, .unset, .unset, .unset, .unset, .unset, .unset, .unset, .unset, .unset, .unset, .unset, .unset, .unset, .unset, .unset] [(.long la2)])) (by rw [hla2]) ?_
    show Steps p.tables e below (s₁.setTop (mkF m 34 #[.val (.long q0), .second, .val (.long q1), .second, .val (.int p0), .val (.int p1), .val (.int p2), .val (.int n), .val (.long la0), .second, .val (.long la1), .second, .unset, .unset, .unset, .unset, .unset, .unset, .unset, .unset, .unset, .unset, .unset, .unset, .unset, .unset, .unset, .unset] [(.long la2)])) _
    refine XS.lstore X0.here hx rfl (hb hby at_34) rfl (l' := #[.val (.long q0), .second, .val (.long q1), .second, .val (.int p0), .val (.int p1), .val (.int p2), .val (.int n), .val (.long la0), .second, .val (.long la1), .second, .val (.long la2), .second, .unset, .unset, .unset, .unset, .unset, .unset, .unset, .unset, .unset, .unset, .unset, .unset, .unset, .unset]) rfl ?_
    show Steps p.tables e below (s₁.setTop (mkF m 36 #[.val (.long q0), .second, .val (.long q1), .second, .val (.int p0), .val (.int p1), .val (.int p2), .val (.int n), .val (.long la0), .second, .val (.long la1), .second, .val (.long la2), .second, .unset, .unset, .unset, .unset, .unset, .unset, .unset, .unset, .unset, .unset, .unset, .unset, .unset, .unset] [])) _
    refine XS.lloadN X0.here hx rfl (hb hby at_36) rfl ?_
    show Steps p.tables e below (s₁.setTop (mkF m 37 #[.val (.long q0), .second, .val (.long q1), .second, .val (.int p0), .val (.int p1), .val (.int p2), .val (.int n), .val (.long la0), .second, .val (.long la1), .second, .val (.long la2), .second, .unset, .unset, .unset, .unset, .unset, .unset, .unset, .unset, .unset, .unset, .unset, .unset, .unset, .unset] [(.long q1)])) _
    refine XS.l2i X0.here hx rfl (hb hby at_37) rfl ?_
    show Steps p.tables e below (s₁.setTop (mkF m 38 #[.val (.long q0), .second, .val (.long q1), .second, .val (.int p0), .val (.int p1), .val (.int p2), .val (.int n), .val (.long la0), .second, .val (.long la1), .second, .val (.long la2), .second, .unset, .unset, .unset, .unset, .unset, .unset, .unset, .unset, .unset, .unset, .unset, .unset, .unset, .unset] [(.int (q1.toInt32))])) _
    refine XS.bipush X0.here hx rfl (hb hby at_38) ?_
    show Steps p.tables e below (s₁.setTop (mkF m 40 #[.val (.long q0), .second, .val (.long q1), .second, .val (.int p0), .val (.int p1), .val (.int p2), .val (.int n), .val (.long la0), .second, .val (.long la1), .second, .val (.long la2), .second, .unset, .unset, .unset, .unset, .unset, .unset, .unset, .unset, .unset, .unset, .unset, .unset, .unset, .unset] [(.int (11 : Int32)), (.int (q1.toInt32))])) _
    refine XS.ishr X0.here hx rfl (hb hby at_40) rfl ?_
    show Steps p.tables e below (s₁.setTop (mkF m 41 #[.val (.long q0), .second, .val (.long q1), .second, .val (.int p0), .val (.int p1), .val (.int p2), .val (.int n), .val (.long la0), .second, .val (.long la1), .second, .val (.long la2), .second, .unset, .unset, .unset, .unset, .unset, .unset, .unset, .unset, .unset, .unset, .unset, .unset, .unset, .unset] [(.int ((q1.toInt32) >>> ((11 : Int32) &&& 31)))])) _
    refine XS.i2l X0.here hx rfl (hb hby at_41) rfl ?_
    show Steps p.tables e below (s₁.setTop (mkF m 42 #[.val (.long q0), .second, .val (.long q1), .second, .val (.int p0), .val (.int p1), .val (.int p2), .val (.int n), .val (.long la0), .second, .val (.long la1), .second, .val (.long la2), .second, .unset, .unset, .unset, .unset, .unset, .unset, .unset, .unset, .unset, .unset, .unset, .unset, .unset, .unset] [(.long (((q1.toInt32) >>> ((11 : Int32) &&& 31)).toInt64))])) _
    refine castTop (g' := (mkF m 42 #[.val (.long q0), .second, .val (.long q1), .second, .val (.int p0), .val (.int p1), .val (.int p2), .val (.int n), .val (.long la0), .second, .val (.long la1), .second, .val (.long la2), .second, .unset, .unset, .unset, .unset, .unset, .unset, .unset, .unset, .unset, .unset, .unset, .unset, .unset, .unset] [(.long lb0)])) (by rw [hlb0]) ?_
    show Steps p.tables e below (s₁.setTop (mkF m 42 #[.val (.long q0), .second, .val (.long q1), .second, .val (.int p0), .val (.int p1), .val (.int p2), .val (.int n), .val (.long la0), .second, .val (.long la1), .second, .val (.long la2), .second, .unset, .unset, .unset, .unset, .unset, .unset, .unset, .unset, .unset, .unset, .unset, .unset, .unset, .unset] [(.long lb0)])) _
    refine XS.lstore X0.here hx rfl (hb hby at_42) rfl (l' := #[.val (.long q0), .second, .val (.long q1), .second, .val (.int p0), .val (.int p1), .val (.int p2), .val (.int n), .val (.long la0), .second, .val (.long la1), .second, .val (.long la2), .second, .val (.long lb0), .second, .unset, .unset, .unset, .unset, .unset, .unset, .unset, .unset, .unset, .unset, .unset, .unset]) rfl ?_
    show Steps p.tables e below (s₁.setTop (mkF m 44 #[.val (.long q0), .second, .val (.long q1), .second, .val (.int p0), .val (.int p1), .val (.int p2), .val (.int n), .val (.long la0), .second, .val (.long la1), .second, .val (.long la2), .second, .val (.long lb0), .second, .unset, .unset, .unset, .unset, .unset, .unset, .unset, .unset, .unset, .unset, .unset, .unset] [])) _
    refine XS.lloadN X0.here hx rfl (hb hby at_44) rfl ?_
    show Steps p.tables e below (s₁.setTop (mkF m 45 #[.val (.long q0), .second, .val (.long q1), .second, .val (.int p0), .val (.int p1), .val (.int p2), .val (.int n), .val (.long la0), .second, .val (.long la1), .second, .val (.long la2), .second, .val (.long lb0), .second, .unset, .unset, .unset, .unset, .unset, .unset, .unset, .unset, .unset, .unset, .unset, .unset] [(.long q1)])) _
    refine XS.bipush X0.here hx rfl (hb hby at_45) ?_
    show Steps p.tables e below (s₁.setTop (mkF m 47 #[.val (.long q0), .second, .val (.long q1), .second, .val (.int p0), .val (.int p1), .val (.int p2), .val (.int n), .val (.long la0), .second, .val (.long la1), .second, .val (.long la2), .second, .val (.long lb0), .second, .unset, .unset, .unset, .unset, .unset, .unset, .unset, .unset, .unset, .unset, .unset, .unset] [(.int (32 : Int32)), (.long q1)])) _
    refine XS.lushr X0.here hx rfl (hb hby at_47) rfl ?_
    show Steps p.tables e below (s₁.setTop (mkF m 48 #[.val (.long q0), .second, .val (.long q1), .second, .val (.int p0), .val (.int p1), .val (.int p2), .val (.int n), .val (.long la0), .second, .val (.long la1), .second, .val (.long la2), .second, .val (.long lb0), .second, .unset, .unset, .unset, .unset, .unset, .unset, .unset, .unset, .unset, .unset, .unset, .unset] [(.long ((q1.toUInt64 >>> ((32 : Int32) &&& 0x3f).toInt64.toUInt64).toInt64))])) _
    refine XS.l2i X0.here hx rfl (hb hby at_48) rfl ?_
    show Steps p.tables e below (s₁.setTop (mkF m 49 #[.val (.long q0), .second, .val (.long q1), .second, .val (.int p0), .val (.int p1), .val (.int p2), .val (.int n), .val (.long la0), .second, .val (.long la1), .second, .val (.long la2), .second, .val (.long lb0), .second, .unset, .unset, .unset, .unset, .unset, .unset, .unset, .unset, .unset, .unset, .unset, .unset] [(.int (((q1.toUInt64 >>> ((32 : Int32) &&& 0x3f).toInt64.toUInt64).toInt64).toInt32))])) _
    refine XS.bipush X0.here hx rfl (hb hby at_49) ?_
    show Steps p.tables e below (s₁.setTop (mkF m 51 #[.val (.long q0), .second, .val (.long q1), .second, .val (.int p0), .val (.int p1), .val (.int p2), .val (.int n), .val (.long la0), .second, .val (.long la1), .second, .val (.long la2), .second, .val (.long lb0), .second, .unset, .unset, .unset, .unset, .unset, .unset, .unset, .unset, .unset, .unset, .unset, .unset] [(.int (11 : Int32)), (.int (((q1.toUInt64 >>> ((32 : Int32) &&& 0x3f).toInt64.toUInt64).toInt64).toInt32))])) _
    refine XS.ishr X0.here hx rfl (hb hby at_51) rfl ?_
    show Steps p.tables e below (s₁.setTop (mkF m 52 #[.val (.long q0), .second, .val (.long q1), .second, .val (.int p0), .val (.int p1), .val (.int p2), .val (.int n), .val (.long la0), .second, .val (.long la1), .second, .val (.long la2), .second, .val (.long lb0), .second, .unset, .unset, .unset, .unset, .unset, .unset, .unset, .unset, .unset, .unset, .unset, .unset] [(.int ((((q1.toUInt64 >>> ((32 : Int32) &&& 0x3f).toInt64.toUInt64).toInt64).toInt32) >>> ((11 : Int32) &&& 31)))])) _
    refine XS.i2l X0.here hx rfl (hb hby at_52) rfl ?_
    show Steps p.tables e below (s₁.setTop (mkF m 53 #[.val (.long q0), .second, .val (.long q1), .second, .val (.int p0), .val (.int p1), .val (.int p2), .val (.int n), .val (.long la0), .second, .val (.long la1), .second, .val (.long la2), .second, .val (.long lb0), .second, .unset, .unset, .unset, .unset, .unset, .unset, .unset, .unset, .unset, .unset, .unset, .unset] [(.long (((((q1.toUInt64 >>> ((32 : Int32) &&& 0x3f).toInt64.toUInt64).toInt64).toInt32) >>> ((11 : Int32) &&& 31)).toInt64))])) _
    refine castTop (g' := (mkF m 53 #[.val (.long q0), .second, .val (.long q1), .second, .val (.int p0), .val (.int p1), .val (.int p2), .val (.int n), .val (.long la0), .second, .val (.long la1), .second, .val (.long la2), .second, .val (.long lb0), .second, .unset, .unset, .unset, .unset, .unset, .unset, .unset, .unset, .unset, .unset, .unset, .unset] [(.long lb1)])) (by rw [hlb1]) ?_
    show Steps p.tables e below (s₁.setTop (mkF m 53 #[.val (.long q0), .second, .val (.long q1), .second, .val (.int p0), .val (.int p1), .val (.int p2), .val (.int n), .val (.long la0), .second, .val (.long la1), .second, .val (.long la2), .second, .val (.long lb0), .second, .unset, .unset, .unset, .unset, .unset, .unset, .unset, .unset, .unset, .unset, .unset, .unset] [(.long lb1)])) _
    refine XS.lstore X0.here hx rfl (hb hby at_53) rfl (l' := #[.val (.long q0), .second, .val (.long q1), .second, .val (.int p0), .val (.int p1), .val (.int p2), .val (.int n), .val (.long la0), .second, .val (.long la1), .second, .val (.long la2), .second, .val (.long lb0), .second, .val (.long lb1), .second, .unset, .unset, .unset, .unset, .unset, .unset, .unset, .unset, .unset, .unset]) rfl ?_
    show Steps p.tables e below (s₁.setTop (mkF m 55 #[.val (.long q0), .second, .val (.long q1), .second, .val (.int p0), .val (.int p1), .val (.int p2), .val (.int n), .val (.long la0), .second, .val (.long la1), .second, .val (.long la2), .second, .val (.long lb0), .second, .val (.long lb1), .second, .unset, .unset, .unset, .unset, .unset, .unset, .unset, .unset, .unset, .unset] [])) _
    refine XS.iload X0.here hx rfl (hb hby at_55) rfl ?_
    show Steps p.tables e below (s₁.setTop (mkF m 57 #[.val (.long q0), .second, .val (.long q1), .second, .val (.int p0), .val (.int p1), .val (.int p2), .val (.int n), .val (.long la0), .second, .val (.long la1), .second, .val (.long la2), .second, .val (.long lb0), .second, .val (.long lb1), .second, .unset, .unset, .unset, .unset, .unset, .unset, .unset, .unset, .unset, .unset] [(.int p1)])) _
    refine XS.bipush X0.here hx rfl (hb hby at_57) ?_
    show Steps p.tables e below (s₁.setTop (mkF m 59 #[.val (.long q0), .second, .val (.long q1), .second, .val (.int p0), .val (.int p1), .val (.int p2), .val (.int n), .val (.long la0), .second, .val (.long la1), .second, .val (.long la2), .second, .val (.long lb0), .second, .val (.long lb1), .second, .unset, .unset, .unset, .unset, .unset, .unset, .unset, .unset, .unset, .unset] [(.int (11 : Int32)), (.int p1)])) _
    refine XS.ishr X0.here hx rfl (hb hby at_59) rfl ?_
    show Steps p.tables e below (s₁.setTop (mkF m 60 #[.val (.long q0), .second, .val (.long q1), .second, .val (.int p0), .val (.int p1), .val (.int p2), .val (.int n), .val (.long la0), .second, .val (.long la1), .second, .val (.long la2), .second, .val (.long lb0), .second, .val (.long lb1), .second, .unset, .unset, .unset, .unset, .unset, .unset, .unset, .unset, .unset, .unset] [(.int (p1 >>> ((11 : Int32) &&& 31)))])) _
    refine XS.i2l X0.here hx rfl (hb hby at_60) rfl ?_
    show Steps p.tables e below (s₁.setTop (mkF m 61 #[.val (.long q0), .second, .val (.long q1), .second, .val (.int p0), .val (.int p1), .val (.int p2), .val (.int n), .val (.long la0), .second, .val (.long la1), .second, .val (.long la2), .second, .val (.long lb0), .second, .val (.long lb1), .second, .unset, .unset, .unset, .unset, .unset, .unset, .unset, .unset, .unset, .unset] [(.long ((p1 >>> ((11 : Int32) &&& 31)).toInt64))])) _
    refine castTop (g' := (mkF m 61 #[.val (.long q0), .second, .val (.long q1), .second, .val (.int p0), .val (.int p1), .val (.int p2), .val (.int n), .val (.long la0), .second, .val (.long la1), .second, .val (.long la2), .second, .val (.long lb0), .second, .val (.long lb1), .second, .unset, .unset, .unset, .unset, .unset, .unset, .unset, .unset, .unset, .unset] [(.long lb2)])) (by rw [hlb2]) ?_
    show Steps p.tables e below (s₁.setTop (mkF m 61 #[.val (.long q0), .second, .val (.long q1), .second, .val (.int p0), .val (.int p1), .val (.int p2), .val (.int n), .val (.long la0), .second, .val (.long la1), .second, .val (.long la2), .second, .val (.long lb0), .second, .val (.long lb1), .second, .unset, .unset, .unset, .unset, .unset, .unset, .unset, .unset, .unset, .unset] [(.long lb2)])) _
    refine XS.lstore X0.here hx rfl (hb hby at_61) rfl (l' := #[.val (.long q0), .second, .val (.long q1), .second, .val (.int p0), .val (.int p1), .val (.int p2), .val (.int n), .val (.long la0), .second, .val (.long la1), .second, .val (.long la2), .second, .val (.long lb0), .second, .val (.long lb1), .second, .val (.long lb2), .second, .unset, .unset, .unset, .unset, .unset, .unset, .unset, .unset]) rfl ?_
    exact k)
  have B_la0 : -1048576 ≤ la0.toInt ∧ la0.toInt ≤ 1048575 := by rw [hla0]; exact own_sx _
  have B_la1 : -1048576 ≤ la1.toInt ∧ la1.toInt ≤ 1048575 := by rw [hla1]; exact own_sx _
  have B_la2 : -1048576 ≤ la2.toInt ∧ la2.toInt ≤ 1048575 := by rw [hla2]; exact own_sx _
  have B_lb0 : -1048576 ≤ lb0.toInt ∧ lb0.toInt ≤ 1048575 := by rw [hlb0]; exact own_sx _
  have B_lb1 : -1048576 ≤ lb1.toInt ∧ lb1.toInt ≤ 1048575 := by rw [hlb1]; exact own_sx _
  have B_lb2 : -1048576 ≤ lb2.toInt ∧ lb2.toInt ≤ 1048575 := by rw [hlb2]; exact own_sx _
  rcases own_n p2 n hn with rfl | rfl | rfl | rfl
  · have k102 : ∀ t, Steps p.tables e below (s₁.setTop (mkF m 65 #[.val (.long q0), .second, .val (.long q1), .second, .val (.int p0), .val (.int p1), .val (.int p2), .val (.int (0 : Int32)), .val (.long la0), .second, .val (.long la1), .second, .val (.long la2), .second, .val (.long lb0), .second, .val (.long lb1), .second, .val (.long lb2), .second, .unset, .unset, .unset, .unset, .unset, .unset, .unset, .unset] [(.int (0 : Int32))])) t → Steps p.tables e below (s₁.setTop (entryFrame m #[(.long q0), (.long q1), (.int p0), (.int p1), (.int p2)] maxLocals)) t := fun t k => k101 t (by
      show Steps p.tables e below (s₁.setTop (mkF m 63 #[.val (.long q0), .second, .val (.long q1), .second, .val (.int p0), .val (.int p1), .val (.int p2), .val (.int (0 : Int32)), .val (.long la0), .second, .val (.long la1), .second, .val (.long la2), .second, .val (.long lb0), .second, .val (.long lb1), .second, .val (.long lb2), .second, .unset, .unset, .unset, .unset, .unset, .unset, .unset, .unset] [])) _
      refine XS.iload X0.here hx rfl (hb hby at_63) rfl ?_
      exact k)
    obtain ⟨T103, h103, k103, X103, e103, E103, A103, st103⟩ := newP X0 hx hZ (hw _ (List.mem_of_getElem? (i := 1) rfl)) e0 (g := (mkF m 65 #[.val (.long q0), .second, .val (.long q1), .second, .val (.int p0), .val (.int p1), .val (.int p2), .val (.int (0 : Int32)), .val (.long la0), .second, .val (.long la1), .second, .val (.long la2), .second, .val (.long lb0), .second, .val (.long lb1), .second, .val (.long lb2), .second, .unset, .unset, .unset, .unset, .unset, .unset, .unset, .unset] [(.int (0 : Int32))])) rfl (hb hby at_65) rfl (by decide) (cap := 0) (by decide) (by decide) (by decide) (by decide)
    obtain ⟨b103, g103⟩ : ∃ z, z = h0.size := ⟨_, rfl⟩
    rw [← g103] at A103 st103
    have g104 : n0 ≤ b103 := Nat.le_trans Z0 (Nat.le_of_eq g103.symm)
    have Z105 : n0 ≤ h103.size := Nat.le_trans Z0 E103.1
    have V106 : Arv Z h103 b103 k103 .double (0 : Int32) [] (.double (0 : UInt64)) := (Arv.new A103 (by decide)).pad (pad_rep [] (.double (0 : UInt64)) 0)
    have k107 : ∀ t, Steps p.tables e below (T103.setTop (mkF m 67 #[.val (.long q0), .second, .val (.long q1), .second, .val (.int p0), .val (.int p1), .val (.int p2), .val (.int (0 : Int32)), .val (.long la0), .second, .val (.long la1), .second, .val (.long la2), .second, .val (.long lb0), .second, .val (.long lb1), .second, .val (.long lb2), .second, .unset, .unset, .unset, .unset, .unset, .unset, .unset, .unset] [(.ref b103)])) t → Steps p.tables e below (s₁.setTop (entryFrame m #[(.long q0), (.long q1), (.int p0), (.int p1), (.int p2)] maxLocals)) t := fun t k => k102 t (st103 t k)
    have k108 : ∀ t, Steps p.tables e below (T103.setTop (mkF m 71 #[.val (.long q0), .second, .val (.long q1), .second, .val (.int p0), .val (.int p1), .val (.int p2), .val (.int (0 : Int32)), .val (.long la0), .second, .val (.long la1), .second, .val (.long la2), .second, .val (.long lb0), .second, .val (.long lb1), .second, .val (.long lb2), .second, .val (.ref b103), .unset, .unset, .unset, .unset, .unset, .unset, .unset] [(.int (0 : Int32))])) t → Steps p.tables e below (s₁.setTop (entryFrame m #[(.long q0), (.long q1), (.int p0), (.int p1), (.int p2)] maxLocals)) t := fun t k => k107 t (by
      show Steps p.tables e below (T103.setTop (mkF m 67 #[.val (.long q0), .second, .val (.long q1), .second, .val (.int p0), .val (.int p1), .val (.int p2), .val (.int (0 : Int32)), .val (.long la0), .second, .val (.long la1), .second, .val (.long la2), .second, .val (.long lb0), .second, .val (.long lb1), .second, .val (.long lb2), .second, .unset, .unset, .unset, .unset, .unset, .unset, .unset, .unset] [(.ref b103)])) _
      refine XS.astore X103.here hx rfl (hb hby at_67) rfl rfl (l' := #[.val (.long q0), .second, .val (.long q1), .second, .val (.int p0), .val (.int p1), .val (.int p2), .val (.int (0 : Int32)), .val (.long la0), .second, .val (.long la1), .second, .val (.long la2), .second, .val (.long lb0), .second, .val (.long lb1), .second, .val (.long lb2), .second, .val (.ref b103), .unset, .unset, .unset, .unset, .unset, .unset, .unset]) rfl ?_
      show Steps p.tables e below (T103.setTop (mkF m 69 #[.val (.long q0), .second, .val (.long q1), .second, .val (.int p0), .val (.int p1), .val (.int p2), .val (.int (0 : Int32)), .val (.long la0), .second, .val (.long la1), .second, .val (.long la2), .second, .val (.long lb0), .second, .val (.long lb1), .second, .val (.long lb2), .second, .val (.ref b103), .unset, .unset, .unset, .unset, .unset, .unset, .unset] [])) _
      refine XS.iload X103.here hx rfl (hb hby at_69) rfl ?_
      exact k)
    obtain ⟨T109, h109, k109, X109, e109, E109, A109, st109⟩ := newP X103 hx hZ (hw _ (List.mem_of_getElem? (i := 1) rfl)) e103 (g := (mkF m 71 #[.val (.long q0), .second, .val (.long q1), .second, .val (.int p0), .val (.int p1), .val (.int p2), .val (.int (0 : Int32)), .val (.long la0), .second, .val (.long la1), .second, .val (.long la2), .second, .val (.long lb0), .second, .val (.long lb1), .second, .val (.long lb2), .second, .val (.ref b103), .unset, .unset, .unset, .unset, .unset, .unset, .unset] [(.int (0 : Int32))])) rfl (hb hby at_71) rfl (by decide) (cap := 0) (by decide) (by decide) (by decide) (by decide)
    obtain ⟨b109, g109⟩ : ∃ z, z = h103.size := ⟨_, rfl⟩
    rw [← g109] at A109 st109
    have n110 : b103 ≠ b109 := Nat.ne_of_lt (Nat.lt_of_lt_of_le V106.lt (Nat.le_of_eq g109.symm))
    have g111 : n0 ≤ b109 := Nat.le_trans Z105 (Nat.le_of_eq g109.symm)
    have F112 := V106.ext E109
    have Z113 : n0 ≤ h109.size := Nat.le_trans Z105 E109.1
    have V114 : Arv Z h109 b109 k109 .double (0 : Int32) [] (.double (0 : UInt64)) := (Arv.new A109 (by decide)).pad (pad_rep [] (.double (0 : UInt64)) 0)
    have k115 : ∀ t, Steps p.tables e below (T109.setTop (mkF m 73 #[.val (.long q0), .second, .val (.long q1), .second, .val (.int p0), .val (.int p1), .val (.int p2), .val (.int (0 : Int32)), .val (.long la0), .second, .val (.long la1), .second, .val (.long la2), .second, .val (.long lb0), .second, .val (.long lb1), .second, .val (.long lb2), .second, .val (.ref b103), .unset, .unset, .unset, .unset, .unset, .unset, .unset] [(.ref b109)])) t → Steps p.tables e below (s₁.setTop (entryFrame m #[(.long q0), (.long q1), (.int p0), (.int p1), (.int p2)] maxLocals)) t := fun t k => k108 t (st109 t k)
    have k116 : ∀ t, Steps p.tables e below (T109.setTop (mkF m 190 #[.val (.long q0), .second, .val (.long q1), .second, .val (.int p0), .val (.int p1), .val (.int p2), .val (.int (0 : Int32)), .val (.long la0), .second, .val (.long la1), .second, .val (.long la2), .second, .val (.long lb0), .second, .val (.long lb1), .second, .val (.long lb2), .second, .val (.ref b103), .val (.ref b109), .val (.long (0 : Int64)), .second, .unset, .unset, .unset, .unset] [(.ref b109), (.ref b103)])) t → Steps p.tables e below (s₁.setTop (entryFrame m #[(.long q0), (.long q1), (.int p0), (.int p1), (.int p2)] maxLocals)) t := fun t k => k115 t (by
      show Steps p.tables e below (T109.setTop (mkF m 73 #[.val (.long q0), .second, .val (.long q1), .second, .val (.int p0), .val (.int p1), .val (.int p2), .val (.int (0 : Int32)), .val (.long la0), .second, .val (.long la1), .second, .val (.long la2), .second, .val (.long lb0), .second, .val (.long lb1), .second, .val (.long lb2), .second, .val (.ref b103), .unset, .unset, .unset, .unset, .unset, .unset, .unset] [(.ref b109)])) _
      refine XS.astore X109.here hx rfl (hb hby at_73) rfl rfl (l' := #[.val (.long q0), .second, .val (.long q1), .second, .val (.int p0), .val (.int p1), .val (.int p2), .val (.int (0 : Int32)), .val (.long la0), .second, .val (.long la1), .second, .val (.long la2), .second, .val (.long lb0), .second, .val (.long lb1), .second, .val (.long lb2), .second, .val (.ref b103), .val (.ref b109), .unset, .unset, .unset, .unset, .unset, .unset]) rfl ?_
      show Steps p.tables e below (T109.setTop (mkF m 75 #[.val (.long q0), .second, .val (.long q1), .second, .val (.int p0), .val (.int p1), .val (.int p2), .val (.int (0 : Int32)), .val (.long la0), .second, .val (.long la1), .second, .val (.long la2), .second, .val (.long lb0), .second, .val (.long lb1), .second, .val (.long lb2), .second, .val (.ref b103), .val (.ref b109), .unset, .unset, .unset, .unset, .unset, .unset] [])) _
      refine XS.lconst X109.here hx rfl (hb hby at_75) ?_
      show Steps p.tables e below (T109.setTop (mkF m 76 #[.val (.long q0), .second, .val (.long q1), .second, .val (.int p0), .val (.int p1), .val (.int p2), .val (.int (0 : Int32)), .val (.long la0), .second, .val (.long la1), .second, .val (.long la2), .second, .val (.long lb0), .second, .val (.long lb1), .second, .val (.long lb2), .second, .val (.ref b103), .val (.ref b109), .unset, .unset, .unset, .unset, .unset, .unset] [(.long (0 : Int64))])) _
      refine XS.lstore X109.here hx rfl (hb hby at_76) rfl (l' := #[.val (.long q0), .second, .val (.long q1), .second, .val (.int p0), .val (.int p1), .val (.int p2), .val (.int (0 : Int32)), .val (.long la0), .second, .val (.long la1), .second, .val (.long la2), .second, .val (.long lb0), .second, .val (.long lb1), .second, .val (.long lb2), .second, .val (.ref b103), .val (.ref b109), .val (.long (0 : Int64)), .second, .unset, .unset, .unset, .unset]) rfl ?_
      show Steps p.tables e below (T109.setTop (mkF m 78 #[.val (.long q0), .second, .val (.long q1), .second, .val (.int p0), .val (.int p1), .val (.int p2), .val (.int (0 : Int32)), .val (.long la0), .second, .val (.long la1), .second, .val (.long la2), .second, .val (.long lb0), .second, .val (.long lb1), .second, .val (.long lb2), .second, .val (.ref b103), .val (.ref b109), .val (.long (0 : Int64)), .second, .unset, .unset, .unset, .unset] [])) _
      refine XS.iload X109.here hx rfl (hb hby at_78) rfl ?_
      show Steps p.tables e below (T109.setTop (mkF m 80 #[.val (.long q0), .second, .val (.long q1), .second, .val (.int p0), .val (.int p1), .val (.int p2), .val (.int (0 : Int32)), .val (.long la0), .second, .val (.long la1), .second, .val (.long la2), .second, .val (.long lb0), .second, .val (.long lb1), .second, .val (.long lb2), .second, .val (.ref b103), .val (.ref b109), .val (.long (0 : Int64)), .second, .unset, .unset, .unset, .unset] [(.int (0 : Int32))])) _
      refine XS.iconst X109.here hx rfl (hb hby at_80) ?_
      show Steps p.tables e below (T109.setTop (mkF m 81 #[.val (.long q0), .second, .val (.long q1), .second, .val (.int p0), .val (.int p1), .val (.int p2), .val (.int (0 : Int32)), .val (.long la0), .second, .val (.long la1), .second, .val (.long la2), .second, .val (.long lb0), .second, .val (.long lb1), .second, .val (.long lb2), .second, .val (.ref b103), .val (.ref b109), .val (.long (0 : Int64)), .second, .unset, .unset, .unset, .unset] [(.int (1 : Int32)), (.int (0 : Int32))])) _
      refine XS.icmpYes X109.here hx rfl (pc0 := 81) (pc' := 114) rfl (hb hby at_81) rfl (tlt (by decide)).1 (by decide) (by decide) ?_
      show Steps p.tables e below (T109.setTop (mkF m 114 #[.val (.long q0), .second, .val (.long q1), .second, .val (.int p0), .val (.int p1), .val (.int p2), .val (.int (0 : Int32)), .val (.long la0), .second, .val (.long la1), .second, .val (.long la2), .second, .val (.long lb0), .second, .val (.long lb1), .second, .val (.long lb2), .second, .val (.ref b103), .val (.ref b109), .val (.long (0 : Int64)), .second, .unset, .unset, .unset, .unset] [])) _
      refine XS.iload X109.here hx rfl (hb hby at_114) rfl ?_
      show Steps p.tables e below (T109.setTop (mkF m 116 #[.val (.long q0), .second, .val (.long q1), .second, .val (.int p0), .val (.int p1), .val (.int p2), .val (.int (0 : Int32)), .val (.long la0), .second, .val (.long la1), .second, .val (.long la2), .second, .val (.long lb0), .second, .val (.long lb1), .second, .val (.long lb2), .second, .val (.ref b103), .val (.ref b109), .val (.long (0 : Int64)), .second, .unset, .unset, .unset, .unset] [(.int (0 : Int32))])) _
      refine XS.iconst X109.here hx rfl (hb hby at_116) ?_
      show Steps p.tables e below (T109.setTop (mkF m 117 #[.val (.long q0), .second, .val (.long q1), .second, .val (.int p0), .val (.int p1), .val (.int p2), .val (.int (0 : Int32)), .val (.long la0), .second, .val (.long la1), .second, .val (.long la2), .second, .val (.long lb0), .second, .val (.long lb1), .second, .val (.long lb2), .second, .val (.ref b103), .val (.ref b109), .val (.long (0 : Int64)), .second, .unset, .unset, .unset, .unset] [(.int (2 : Int32)), (.int (0 : Int32))])) _
      refine XS.icmpYes X109.here hx rfl (pc0 := 117) (pc' := 150) rfl (hb hby at_117) rfl (tlt (by decide)).1 (by decide) (by decide) ?_
      show Steps p.tables e below (T109.setTop (mkF m 150 #[.val (.long q0), .second, .val (.long q1), .second, .val (.int p0), .val (.int p1), .val (.int p2), .val (.int (0 : Int32)), .val (.long la0), .second, .val (.long la1), .second, .val (.long la2), .second, .val (.long lb0), .second, .val (.long lb1), .second, .val (.long lb2), .second, .val (.ref b103), .val (.ref b109), .val (.long (0 : Int64)), .second, .unset, .unset, .unset, .unset] [])) _
      refine XS.iload X109.here hx rfl (hb hby at_150) rfl ?_
      show Steps p.tables e below (T109.setTop (mkF m 152 #[.val (.long q0), .second, .val (.long q1), .second, .val (.int p0), .val (.int p1), .val (.int p2), .val (.int (0 : Int32)), .val (.long la0), .second, .val (.long la1), .second, .val (.long la2), .second, .val (.long lb0), .second, .val (.long lb1), .second, .val (.long lb2), .second, .val (.ref b103), .val (.ref b109), .val (.long (0 : Int64)), .second, .unset, .unset, .unset, .unset] [(.int (0 : Int32))])) _
      refine XS.iconst X109.here hx rfl (hb hby at_152) ?_
      show Steps p.tables e below (T109.setTop (mkF m 153 #[.val (.long q0), .second, .val (.long q1), .second, .val (.int p0), .val (.int p1), .val (.int p2), .val (.int (0 : Int32)), .val (.long la0), .second, .val (.long la1), .second, .val (.long la2), .second, .val (.long lb0), .second, .val (.long lb1), .second, .val (.long lb2), .second, .val (.ref b103), .val (.ref b109), .val (.long (0 : Int64)), .second, .unset, .unset, .unset, .unset] [(.int (3 : Int32)), (.int (0 : Int32))])) _
      refine XS.icmpYes X109.here hx rfl (pc0 := 153) (pc' := 186) rfl (hb hby at_153) rfl (tlt (by decide)).1 (by decide) (by decide) ?_
      show Steps p.tables e below (T109.setTop (mkF m 186 #[.val (.long q0), .second, .val (.long q1), .second, .val (.int p0), .val (.int p1), .val (.int p2), .val (.int (0 : Int32)), .val (.long la0), .second, .val (.long la1), .second, .val (.long la2), .second, .val (.long lb0), .second, .val (.long lb1), .second, .val (.long lb2), .second, .val (.ref b103), .val (.ref b109), .val (.long (0 : Int64)), .second, .unset, .unset, .unset, .unset] [])) _
      refine XS.aload X109.here hx rfl (hb hby at_186) rfl rfl ?_
      show Steps p.tables e below (T109.setTop (mkF m 188 #[.val (.long q0), .second, .val (.long q1), .second, .val (.int p0), .val (.int p1), .val (.int p2), .val (.int (0 : Int32)), .val (.long la0), .second, .val (.long la1), .second, .val (.long la2), .second, .val (.long lb0), .second, .val (.long lb1), .second, .val (.long lb2), .second, .val (.ref b103), .val (.ref b109), .val (.long (0 : Int64)), .second, .unset, .unset, .unset, .unset] [(.ref b103)])) _
      refine XS.aload X109.here hx rfl (hb hby at_188) rfl rfl ?_
      exact k)
    obtain ⟨_, _, ⟨T117, L117, k117, n117⟩, -, X117, ⟨Lc117, hQ117, l117, y117, z117⟩, st117⟩ := Jvm.LawKit.callS X109 hx (y := (⟨"com/example/frontweave/frontweave/clustering/Vectors", "distanceSquared", "([D[D)D"⟩ : MethodName)) hown (mvT hZ (hw _ (List.mem_of_getElem? (i := 2) rfl))) (mvT hZ (hw _ (List.mem_of_getElem? (i := 3) rfl))) (mvT hZ (hw _ (List.mem_of_getElem? (i := 4) rfl))) (mvT hZ (hw _ (List.mem_of_getElem? (i := 5) rfl))) (by decide) (backOf (W := 0) (dist0 l Z a0 hw [] b103 b109 k103 k109 h109 n0 Z113 F112 V114) hZ (hw _ (List.mem_of_getElem? (i := 5) rfl)) (hw _ (List.mem_of_getElem? (i := 4) rfl)) (by decide) (by decide)) (g := (mkF m 190 #[.val (.long q0), .second, .val (.long q1), .second, .val (.int p0), .val (.int p1), .val (.int p2), .val (.int (0 : Int32)), .val (.long la0), .second, .val (.long la1), .second, .val (.long la2), .second, .val (.long lb0), .second, .val (.long lb1), .second, .val (.long lb2), .second, .val (.ref b103), .val (.ref b109), .val (.long (0 : Int64)), .second, .unset, .unset, .unset, .unset] [(.ref b109), (.ref b103)])) rfl (by rw [hml]; rfl) (argsL := [(.ref b103), (.ref b109)]) (rest := []) (lenOf pd__28_5bD_5bD_29D rfl) rfl (by show 2 * 0 + _ ≤ _; exact Nat.le_of_eq rfl) (hb hby at_190) (fun _ _ => ⟨rfl, e109, (by decide : 2 + 0 ≤ _), (by decide : 0 + 0 ≤ _)⟩)
    dsimp only [Pt.U, Pt.locs, Pt.cells, Pt.slots] at X117 l117 y117 z117 st117 hQ117
    subst l117 y117 z117
    obtain ⟨rfl, N117q, e117⟩ := hQ117
    have N118 := Fr.app N0 N117q
    have k119 : ∀ t, Steps p.tables e below (T117.setTop (mkF m 193 #[.val (.long q0), .second, .val (.long q1), .second, .val (.int p0), .val (.int p1), .val (.int p2), .val (.int (0 : Int32)), .val (.long la0), .second, .val (.long la1), .second, .val (.long la2), .second, .val (.long lb0), .second, .val (.long lb1), .second, .val (.long lb2), .second, .val (.ref b103), .val (.ref b109), .val (.long (0 : Int64)), .second, .unset, .unset, .unset, .unset] [(.double (0 : UInt64))])) t → Steps p.tables e below (s₁.setTop (entryFrame m #[(.long q0), (.long q1), (.int p0), (.int p1), (.int p2)] maxLocals)) t := fun t k => k116 t (st117 t k)
    have k120 : ∀ t, Steps p.tables e below (T117.setTop (mkF m 199 #[.val (.long q0), .second, .val (.long q1), .second, .val (.int p0), .val (.int p1), .val (.int p2), .val (.int (0 : Int32)), .val (.long la0), .second, .val (.long la1), .second, .val (.long la2), .second, .val (.long lb0), .second, .val (.long lb1), .second, .val (.long lb2), .second, .val (.ref b103), .val (.ref b109), .val (.long (0 : Int64)), .second, .val (.double (0 : UInt64)), .second, .unset, .unset] [(.ref b103), (.ref b109)])) t → Steps p.tables e below (s₁.setTop (entryFrame m #[(.long q0), (.long q1), (.int p0), (.int p1), (.int p2)] maxLocals)) t := fun t k => k119 t (by
      show Steps p.tables e below (T117.setTop (mkF m 193 #[.val (.long q0), .second, .val (.long q1), .second, .val (.int p0), .val (.int p1), .val (.int p2), .val (.int (0 : Int32)), .val (.long la0), .second, .val (.long la1), .second, .val (.long la2), .second, .val (.long lb0), .second, .val (.long lb1), .second, .val (.long lb2), .second, .val (.ref b103), .val (.ref b109), .val (.long (0 : Int64)), .second, .unset, .unset, .unset, .unset] [(.double (0 : UInt64))])) _
      refine XS.dstore X117.here hx rfl (hb hby at_193) rfl (l' := #[.val (.long q0), .second, .val (.long q1), .second, .val (.int p0), .val (.int p1), .val (.int p2), .val (.int (0 : Int32)), .val (.long la0), .second, .val (.long la1), .second, .val (.long la2), .second, .val (.long lb0), .second, .val (.long lb1), .second, .val (.long lb2), .second, .val (.ref b103), .val (.ref b109), .val (.long (0 : Int64)), .second, .val (.double (0 : UInt64)), .second, .unset, .unset]) rfl ?_
      show Steps p.tables e below (T117.setTop (mkF m 195 #[.val (.long q0), .second, .val (.long q1), .second, .val (.int p0), .val (.int p1), .val (.int p2), .val (.int (0 : Int32)), .val (.long la0), .second, .val (.long la1), .second, .val (.long la2), .second, .val (.long lb0), .second, .val (.long lb1), .second, .val (.long lb2), .second, .val (.ref b103), .val (.ref b109), .val (.long (0 : Int64)), .second, .val (.double (0 : UInt64)), .second, .unset, .unset] [])) _
      refine XS.aload X117.here hx rfl (hb hby at_195) rfl rfl ?_
      show Steps p.tables e below (T117.setTop (mkF m 197 #[.val (.long q0), .second, .val (.long q1), .second, .val (.int p0), .val (.int p1), .val (.int p2), .val (.int (0 : Int32)), .val (.long la0), .second, .val (.long la1), .second, .val (.long la2), .second, .val (.long lb0), .second, .val (.long lb1), .second, .val (.long lb2), .second, .val (.ref b103), .val (.ref b109), .val (.long (0 : Int64)), .second, .val (.double (0 : UInt64)), .second, .unset, .unset] [(.ref b109)])) _
      refine XS.aload X117.here hx rfl (hb hby at_197) rfl rfl ?_
      exact k)
    obtain ⟨_, _, ⟨T121, L121, k121, n121⟩, -, X121, ⟨Lc121, hQ121, l121, y121, z121⟩, st121⟩ := Jvm.LawKit.callS X117 hx (y := (⟨"com/example/frontweave/frontweave/clustering/Vectors", "distanceSquared", "([D[D)D"⟩ : MethodName)) hown (mvT hZ (hw _ (List.mem_of_getElem? (i := 2) rfl))) (mvT hZ (hw _ (List.mem_of_getElem? (i := 3) rfl))) (mvT hZ (hw _ (List.mem_of_getElem? (i := 4) rfl))) (mvT hZ (hw _ (List.mem_of_getElem? (i := 5) rfl))) (by decide) (backOf (W := 0) (dist0 l Z a0 hw [] b109 b103 k109 k103 h109 n0 Z113 V114 F112) hZ (hw _ (List.mem_of_getElem? (i := 5) rfl)) (hw _ (List.mem_of_getElem? (i := 4) rfl)) (by decide) (by decide)) (g := (mkF m 199 #[.val (.long q0), .second, .val (.long q1), .second, .val (.int p0), .val (.int p1), .val (.int p2), .val (.int (0 : Int32)), .val (.long la0), .second, .val (.long la1), .second, .val (.long la2), .second, .val (.long lb0), .second, .val (.long lb1), .second, .val (.long lb2), .second, .val (.ref b103), .val (.ref b109), .val (.long (0 : Int64)), .second, .val (.double (0 : UInt64)), .second, .unset, .unset] [(.ref b103), (.ref b109)])) rfl (by rw [hml]; rfl) (argsL := [(.ref b109), (.ref b103)]) (rest := []) (lenOf pd__28_5bD_5bD_29D rfl) rfl (by show 2 * 0 + _ ≤ _; exact Nat.le_of_eq rfl) (hb hby at_199) (fun _ _ => ⟨rfl, e117, (by decide : 2 + 0 ≤ _), (by decide : 0 + 0 ≤ _)⟩)
    dsimp only [Pt.U, Pt.locs, Pt.cells, Pt.slots] at X121 l121 y121 z121 st121 hQ121
    subst l121 y121 z121
    obtain ⟨rfl, N121q, e121⟩ := hQ121
    have N122 := Fr.app N118 N121q
    have k123 : ∀ t, Steps p.tables e below (T121.setTop (mkF m 202 #[.val (.long q0), .second, .val (.long q1), .second, .val (.int p0), .val (.int p1), .val (.int p2), .val (.int (0 : Int32)), .val (.long la0), .second, .val (.long la1), .second, .val (.long la2), .second, .val (.long lb0), .second, .val (.long lb1), .second, .val (.long lb2), .second, .val (.ref b103), .val (.ref b109), .val (.long (0 : Int64)), .second, .val (.double (0 : UInt64)), .second, .unset, .unset] [(.double (0 : UInt64))])) t → Steps p.tables e below (s₁.setTop (entryFrame m #[(.long q0), (.long q1), (.int p0), (.int p1), (.int p2)] maxLocals)) t := fun t k => k120 t (st121 t k)
    have hr : (0 : Int64).toInt = 0 := by decide
    have hbw : (0 : Int).natAbs < 9007199254740992 := by decide
    obtain ⟨want, hwant⟩ : ∃ z : UInt64, FP.l2d (0 : Int64) = z := ⟨_, rfl⟩
    have Dwant : Dy (0) (0) want := by rw [← hwant]; exact hr ▸ Dy.l2d (by rw [hr]; exact hbw)
    have hf1 : cmpValue (FP.dcmp (0 : UInt64) want) .l = (0 : Int32) := by exact Dy.cmp_eq (dy0 0) Dwant rfl .l
    obtain ⟨want2, hwant2⟩ : ∃ z : UInt64, FP.l2d (0 : Int64) = z := ⟨_, rfl⟩
    have Dwant2 : Dy (0) (0) want2 := by rw [← hwant2]; exact hr ▸ Dy.l2d (by rw [hr]; exact hbw)
    have hf2 : cmpValue (FP.dcmp (0 : UInt64) want2) .l = (0 : Int32) := by exact Dy.cmp_eq (dy0 0) Dwant2 rfl .l
    have k124 : ∀ t, Steps p.tables e below (T121.setTop (mkF m 227 #[.val (.long q0), .second, .val (.long q1), .second, .val (.int p0), .val (.int p1), .val (.int p2), .val (.int (0 : Int32)), .val (.long la0), .second, .val (.long la1), .second, .val (.long la2), .second, .val (.long lb0), .second, .val (.long lb1), .second, .val (.long lb2), .second, .val (.ref b103), .val (.ref b109), .val (.long (0 : Int64)), .second, .val (.double (0 : UInt64)), .second, .val (.double (0 : UInt64)), .second] [(.int (1 : Int32))])) t → Steps p.tables e below (s₁.setTop (entryFrame m #[(.long q0), (.long q1), (.int p0), (.int p1), (.int p2)] maxLocals)) t := fun t k => k123 t (by
      show Steps p.tables e below (T121.setTop (mkF m 202 #[.val (.long q0), .second, .val (.long q1), .second, .val (.int p0), .val (.int p1), .val (.int p2), .val (.int (0 : Int32)), .val (.long la0), .second, .val (.long la1), .second, .val (.long la2), .second, .val (.long lb0), .second, .val (.long lb1), .second, .val (.long lb2), .second, .val (.ref b103), .val (.ref b109), .val (.long (0 : Int64)), .second, .val (.double (0 : UInt64)), .second, .unset, .unset] [(.double (0 : UInt64))])) _
      refine XS.dstore X121.here hx rfl (hb hby at_202) rfl (l' := #[.val (.long q0), .second, .val (.long q1), .second, .val (.int p0), .val (.int p1), .val (.int p2), .val (.int (0 : Int32)), .val (.long la0), .second, .val (.long la1), .second, .val (.long la2), .second, .val (.long lb0), .second, .val (.long lb1), .second, .val (.long lb2), .second, .val (.ref b103), .val (.ref b109), .val (.long (0 : Int64)), .second, .val (.double (0 : UInt64)), .second, .val (.double (0 : UInt64)), .second]) rfl ?_
      show Steps p.tables e below (T121.setTop (mkF m 204 #[.val (.long q0), .second, .val (.long q1), .second, .val (.int p0), .val (.int p1), .val (.int p2), .val (.int (0 : Int32)), .val (.long la0), .second, .val (.long la1), .second, .val (.long la2), .second, .val (.long lb0), .second, .val (.long lb1), .second, .val (.long lb2), .second, .val (.ref b103), .val (.ref b109), .val (.long (0 : Int64)), .second, .val (.double (0 : UInt64)), .second, .val (.double (0 : UInt64)), .second] [])) _
      refine XS.dload X121.here hx rfl (hb hby at_204) rfl ?_
      show Steps p.tables e below (T121.setTop (mkF m 206 #[.val (.long q0), .second, .val (.long q1), .second, .val (.int p0), .val (.int p1), .val (.int p2), .val (.int (0 : Int32)), .val (.long la0), .second, .val (.long la1), .second, .val (.long la2), .second, .val (.long lb0), .second, .val (.long lb1), .second, .val (.long lb2), .second, .val (.ref b103), .val (.ref b109), .val (.long (0 : Int64)), .second, .val (.double (0 : UInt64)), .second, .val (.double (0 : UInt64)), .second] [(.double (0 : UInt64))])) _
      refine XS.lload X121.here hx rfl (hb hby at_206) rfl ?_
      show Steps p.tables e below (T121.setTop (mkF m 208 #[.val (.long q0), .second, .val (.long q1), .second, .val (.int p0), .val (.int p1), .val (.int p2), .val (.int (0 : Int32)), .val (.long la0), .second, .val (.long la1), .second, .val (.long la2), .second, .val (.long lb0), .second, .val (.long lb1), .second, .val (.long lb2), .second, .val (.ref b103), .val (.ref b109), .val (.long (0 : Int64)), .second, .val (.double (0 : UInt64)), .second, .val (.double (0 : UInt64)), .second] [(.long (0 : Int64)), (.double (0 : UInt64))])) _
      refine XS.l2dS X121.here hx rfl (hb hby at_208) rfl hwant ?_
      show Steps p.tables e below (T121.setTop (mkF m 209 #[.val (.long q0), .second, .val (.long q1), .second, .val (.int p0), .val (.int p1), .val (.int p2), .val (.int (0 : Int32)), .val (.long la0), .second, .val (.long la1), .second, .val (.long la2), .second, .val (.long lb0), .second, .val (.long lb1), .second, .val (.long lb2), .second, .val (.ref b103), .val (.ref b109), .val (.long (0 : Int64)), .second, .val (.double (0 : UInt64)), .second, .val (.double (0 : UInt64)), .second] [(.double want), (.double (0 : UInt64))])) _
      refine XS.dcmpS X121.here hx rfl (hb hby at_209) rfl rfl ?_
      show Steps p.tables e below (T121.setTop (mkF m 210 #[.val (.long q0), .second, .val (.long q1), .second, .val (.int p0), .val (.int p1), .val (.int p2), .val (.int (0 : Int32)), .val (.long la0), .second, .val (.long la1), .second, .val (.long la2), .second, .val (.long lb0), .second, .val (.long lb1), .second, .val (.long lb2), .second, .val (.ref b103), .val (.ref b109), .val (.long (0 : Int64)), .second, .val (.double (0 : UInt64)), .second, .val (.double (0 : UInt64)), .second] [(.int (cmpValue (FP.dcmp (0 : UInt64) want) .l))])) _
      refine XS.ifNo X121.here hx rfl (hb hby at_210) rfl ((if0 _ _).trans (teq hf1).2) ?_
      show Steps p.tables e below (T121.setTop (mkF m 213 #[.val (.long q0), .second, .val (.long q1), .second, .val (.int p0), .val (.int p1), .val (.int p2), .val (.int (0 : Int32)), .val (.long la0), .second, .val (.long la1), .second, .val (.long la2), .second, .val (.long lb0), .second, .val (.long lb1), .second, .val (.long lb2), .second, .val (.ref b103), .val (.ref b109), .val (.long (0 : Int64)), .second, .val (.double (0 : UInt64)), .second, .val (.double (0 : UInt64)), .second] [])) _
      refine XS.dload X121.here hx rfl (hb hby at_213) rfl ?_
      show Steps p.tables e below (T121.setTop (mkF m 215 #[.val (.long q0), .second, .val (.long q1), .second, .val (.int p0), .val (.int p1), .val (.int p2), .val (.int (0 : Int32)), .val (.long la0), .second, .val (.long la1), .second, .val (.long la2), .second, .val (.long lb0), .second, .val (.long lb1), .second, .val (.long lb2), .second, .val (.ref b103), .val (.ref b109), .val (.long (0 : Int64)), .second, .val (.double (0 : UInt64)), .second, .val (.double (0 : UInt64)), .second] [(.double (0 : UInt64))])) _
      refine XS.lload X121.here hx rfl (hb hby at_215) rfl ?_
      show Steps p.tables e below (T121.setTop (mkF m 217 #[.val (.long q0), .second, .val (.long q1), .second, .val (.int p0), .val (.int p1), .val (.int p2), .val (.int (0 : Int32)), .val (.long la0), .second, .val (.long la1), .second, .val (.long la2), .second, .val (.long lb0), .second, .val (.long lb1), .second, .val (.long lb2), .second, .val (.ref b103), .val (.ref b109), .val (.long (0 : Int64)), .second, .val (.double (0 : UInt64)), .second, .val (.double (0 : UInt64)), .second] [(.long (0 : Int64)), (.double (0 : UInt64))])) _
      refine XS.l2dS X121.here hx rfl (hb hby at_217) rfl hwant2 ?_
      show Steps p.tables e below (T121.setTop (mkF m 218 #[.val (.long q0), .second, .val (.long q1), .second, .val (.int p0), .val (.int p1), .val (.int p2), .val (.int (0 : Int32)), .val (.long la0), .second, .val (.long la1), .second, .val (.long la2), .second, .val (.long lb0), .second, .val (.long lb1), .second, .val (.long lb2), .second, .val (.ref b103), .val (.ref b109), .val (.long (0 : Int64)), .second, .val (.double (0 : UInt64)), .second, .val (.double (0 : UInt64)), .second] [(.double want2), (.double (0 : UInt64))])) _
      refine XS.dcmpS X121.here hx rfl (hb hby at_218) rfl rfl ?_
      show Steps p.tables e below (T121.setTop (mkF m 219 #[.val (.long q0), .second, .val (.long q1), .second, .val (.int p0), .val (.int p1), .val (.int p2), .val (.int (0 : Int32)), .val (.long la0), .second, .val (.long la1), .second, .val (.long la2), .second, .val (.long lb0), .second, .val (.long lb1), .second, .val (.long lb2), .second, .val (.ref b103), .val (.ref b109), .val (.long (0 : Int64)), .second, .val (.double (0 : UInt64)), .second, .val (.double (0 : UInt64)), .second] [(.int (cmpValue (FP.dcmp (0 : UInt64) want2) .l))])) _
      refine XS.ifNo X121.here hx rfl (hb hby at_219) rfl ((if0 _ _).trans (teq hf2).2) ?_
      show Steps p.tables e below (T121.setTop (mkF m 222 #[.val (.long q0), .second, .val (.long q1), .second, .val (.int p0), .val (.int p1), .val (.int p2), .val (.int (0 : Int32)), .val (.long la0), .second, .val (.long la1), .second, .val (.long la2), .second, .val (.long lb0), .second, .val (.long lb1), .second, .val (.long lb2), .second, .val (.ref b103), .val (.ref b109), .val (.long (0 : Int64)), .second, .val (.double (0 : UInt64)), .second, .val (.double (0 : UInt64)), .second] [])) _
      refine XS.iconst X121.here hx rfl (hb hby at_222) ?_
      show Steps p.tables e below (T121.setTop (mkF m 223 #[.val (.long q0), .second, .val (.long q1), .second, .val (.int p0), .val (.int p1), .val (.int p2), .val (.int (0 : Int32)), .val (.long la0), .second, .val (.long la1), .second, .val (.long la2), .second, .val (.long lb0), .second, .val (.long lb1), .second, .val (.long lb2), .second, .val (.ref b103), .val (.ref b109), .val (.long (0 : Int64)), .second, .val (.double (0 : UInt64)), .second, .val (.double (0 : UInt64)), .second] [(.int (1 : Int32))])) _
      refine XS.goto X121.here hx rfl (pc0 := 223) (pc' := 227) rfl (hb hby at_223) (by decide) (by decide) ?_
      exact k)
    obtain ⟨fs, hr, hrun, hended, hW, hsame⟩ := X121.leave (v := some (.int (1 : Int32))) (fun h => by rw [Bd.returns] at h; cases h)
    refine ⟨_, _, k124 _ (retOut X121 hx (t := .boolean) Bd.returns rfl (Or.inl ⟨rfl, Or.inr (Or.inl rfl), _, rfl⟩) (hb hby at_227) hr), hrun, hended, _, _, rfl, ?_, ⟨_, rfl⟩, hW, hsame.mono (by decide) (by decide)⟩
    show Q_rm0 Z q0 q1 p0 p1 p2 h0 n0 _ T121.heap _
    rw [e121]
    exact ⟨rfl, N122⟩
  · have k125 : ∀ t, Steps p.tables e below (s₁.setTop (mkF m 65 #[.val (.long q0), .second, .val (.long q1), .second, .val (.int p0), .val (.int p1), .val (.int p2), .val (.int (1 : Int32)), .val (.long la0), .second, .val (.long la1), .second, .val (.long la2), .second, .val (.long lb0), .second, .val (.long lb1), .second, .val (.long lb2), .second, .unset, .unset, .unset, .unset, .unset, .unset, .unset, .unset] [(.int (1 : Int32))])) t → Steps p.tables e below (s₁.setTop (entryFrame m #[(.long q0), (.long q1), (.int p0), (.int p1), (.int p2)] maxLocals)) t := fun t k => k101 t (by
      show Steps p.tables e below (s₁.setTop (mkF m 63 #[.val (.long q0), .second, .val (.long q1), .second, .val (.int p0), .val (.int p1), .val (.int p2), .val (.int (1 : Int32)), .val (.long la0), .second, .val (.long la1), .second, .val (.long la2), .second, .val (.long lb0), .second, .val (.long lb1), .second, .val (.long lb2), .second, .unset, .unset, .unset, .unset, .unset, .unset, .unset, .unset] [])) _
      refine XS.iload X0.here hx rfl (hb hby at_63) rfl ?_
      exact k)
    obtain ⟨T126, h126, k126, X126, e126, E126, A126, st126⟩ := newP X0 hx hZ (hw _ (List.mem_of_getElem? (i := 1) rfl)) e0 (g := (mkF m 65 #[.val (.long q0), .second, .val (.long q1), .second, .val (.int p0), .val (.int p1), .val (.int p2), .val (.int (1 : Int32)), .val (.long la0), .second, .val (.long la1), .second, .val (.long la2), .second, .val (.long lb0), .second, .val (.long lb1), .second, .val (.long lb2), .second, .unset, .unset, .unset, .unset, .unset, .unset, .unset, .unset] [(.int (1 : Int32))])) rfl (hb hby at_65) rfl (by decide) (cap := 1) (by decide) (by decide) (by decide) (by decide)
    obtain ⟨b126, g126⟩ : ∃ z, z = h0.size := ⟨_, rfl⟩
    rw [← g126] at A126 st126
    have g127 : n0 ≤ b126 := Nat.le_trans Z0 (Nat.le_of_eq g126.symm)
    have Z128 : n0 ≤ h126.size := Nat.le_trans Z0 E126.1
    have V129 : Arv Z h126 b126 k126 .double (1 : Int32) [(.double (0 : UInt64))] (.double (0 : UInt64)) := (Arv.new A126 (by decide)).pad (pad_rep [] (.double (0 : UInt64)) 1)
    have k130 : ∀ t, Steps p.tables e below (T126.setTop (mkF m 67 #[.val (.long q0), .second, .val (.long q1), .second, .val (.int p0), .val (.int p1), .val (.int p2), .val (.int (1 : Int32)), .val (.long la0), .second, .val (.long la1), .second, .val (.long la2), .second, .val (.long lb0), .second, .val (.long lb1), .second, .val (.long lb2), .second, .unset, .unset, .unset, .unset, .unset, .unset, .unset, .unset] [(.ref b126)])) t → Steps p.tables e below (s₁.setTop (entryFrame m #[(.long q0), (.long q1), (.int p0), (.int p1), (.int p2)] maxLocals)) t := fun t k => k125 t (st126 t k)
    have k131 : ∀ t, Steps p.tables e below (T126.setTop (mkF m 71 #[.val (.long q0), .second, .val (.long q1), .second, .val (.int p0), .val (.int p1), .val (.int p2), .val (.int (1 : Int32)), .val (.long la0), .second, .val (.long la1), .second, .val (.long la2), .second, .val (.long lb0), .second, .val (.long lb1), .second, .val (.long lb2), .second, .val (.ref b126), .unset, .unset, .unset, .unset, .unset, .unset, .unset] [(.int (1 : Int32))])) t → Steps p.tables e below (s₁.setTop (entryFrame m #[(.long q0), (.long q1), (.int p0), (.int p1), (.int p2)] maxLocals)) t := fun t k => k130 t (by
      show Steps p.tables e below (T126.setTop (mkF m 67 #[.val (.long q0), .second, .val (.long q1), .second, .val (.int p0), .val (.int p1), .val (.int p2), .val (.int (1 : Int32)), .val (.long la0), .second, .val (.long la1), .second, .val (.long la2), .second, .val (.long lb0), .second, .val (.long lb1), .second, .val (.long lb2), .second, .unset, .unset, .unset, .unset, .unset, .unset, .unset, .unset] [(.ref b126)])) _
      refine XS.astore X126.here hx rfl (hb hby at_67) rfl rfl (l' := #[.val (.long q0), .second, .val (.long q1), .second, .val (.int p0), .val (.int p1), .val (.int p2), .val (.int (1 : Int32)), .val (.long la0), .second, .val (.long la1), .second, .val (.long la2), .second, .val (.long lb0), .second, .val (.long lb1), .second, .val (.long lb2), .second, .val (.ref b126), .unset, .unset, .unset, .unset, .unset, .unset, .unset]) rfl ?_
      show Steps p.tables e below (T126.setTop (mkF m 69 #[.val (.long q0), .second, .val (.long q1), .second, .val (.int p0), .val (.int p1), .val (.int p2), .val (.int (1 : Int32)), .val (.long la0), .second, .val (.long la1), .second, .val (.long la2), .second, .val (.long lb0), .second, .val (.long lb1), .second, .val (.long lb2), .second, .val (.ref b126), .unset, .unset, .unset, .unset, .unset, .unset, .unset] [])) _
      refine XS.iload X126.here hx rfl (hb hby at_69) rfl ?_
      exact k)
    obtain ⟨T132, h132, k132, X132, e132, E132, A132, st132⟩ := newP X126 hx hZ (hw _ (List.mem_of_getElem? (i := 1) rfl)) e126 (g := (mkF m 71 #[.val (.long q0), .second, .val (.long q1), .second, .val (.int p0), .val (.int p1), .val (.int p2), .val (.int (1 : Int32)), .val (.long la0), .second, .val (.long la1), .second, .val (.long la2), .second, .val (.long lb0), .second, .val (.long lb1), .second, .val (.long lb2), .second, .val (.ref b126), .unset, .unset, .unset, .unset, .unset, .unset, .unset] [(.int (1 : Int32))])) rfl (hb hby at_71) rfl (by decide) (cap := 1) (by decide) (by decide) (by decide) (by decide)
    obtain ⟨b132, g132⟩ : ∃ z, z = h126.size := ⟨_, rfl⟩
    rw [← g132] at A132 st132
    have n133 : b126 ≠ b132 := Nat.ne_of_lt (Nat.lt_of_lt_of_le V129.lt (Nat.le_of_eq g132.symm))
    have g134 : n0 ≤ b132 := Nat.le_trans Z128 (Nat.le_of_eq g132.symm)
    have F135 := V129.ext E132
    have Z136 : n0 ≤ h132.size := Nat.le_trans Z128 E132.1
    have V137 : Arv Z h132 b132 k132 .double (1 : Int32) [(.double (0 : UInt64))] (.double (0 : UInt64)) := (Arv.new A132 (by decide)).pad (pad_rep [] (.double (0 : UInt64)) 1)
    have k138 : ∀ t, Steps p.tables e below (T132.setTop (mkF m 73 #[.val (.long q0), .second, .val (.long q1), .second, .val (.int p0), .val (.int p1), .val (.int p2), .val (.int (1 : Int32)), .val (.long la0), .second, .val (.long la1), .second, .val (.long la2), .second, .val (.long lb0), .second, .val (.long lb1), .second, .val (.long lb2), .second, .val (.ref b126), .unset, .unset, .unset, .unset, .unset, .unset, .unset] [(.ref b132)])) t → Steps p.tables e below (s₁.setTop (entryFrame m #[(.long q0), (.long q1), (.int p0), (.int p1), (.int p2)] maxLocals)) t := fun t k => k131 t (st132 t k)
    obtain ⟨vla0, hvla0⟩ : ∃ z : UInt64, FP.l2d la0 = z := ⟨_, rfl⟩
    have Dvla0 : Dy (la0.toInt) (0) vla0 := by rw [← hvla0]; exact Dy.l2d (by omega)
    have k139 : ∀ t, Steps p.tables e below (T132.setTop (mkF m 90 #[.val (.long q0), .second, .val (.long q1), .second, .val (.int p0), .val (.int p1), .val (.int p2), .val (.int (1 : Int32)), .val (.long la0), .second, .val (.long la1), .second, .val (.long la2), .second, .val (.long lb0), .second, .val (.long lb1), .second, .val (.long lb2), .second, .val (.ref b126), .val (.ref b132), .val (.long (0 : Int64)), .second, .unset, .unset, .unset, .unset] [(.double vla0), (.int (0 : Int32)), (.ref b126)])) t → Steps p.tables e below (s₁.setTop (entryFrame m #[(.long q0), (.long q1), (.int p0), (.int p1), (.int p2)] maxLocals)) t := fun t k => k138 t (by
      show Steps p.tables e below (T132.setTop (mkF m 73 #[.val (.long q0), .second, .val (.long q1), .second, .val (.int p0), .val (.int p1), .val (.int p2), .val (.int (1 : Int32)), .val (.long la0), .second, .val (.long la1), .second, .val (.long la2), .second, .val (.long lb0), .second, .val (.long lb1), .second, .val (.long lb2), .second, .val (.ref b126), .unset, .unset, .unset, .unset, .unset, .unset, .unset] [(.ref b132)])) _
      refine XS.astore X132.here hx rfl (hb hby at_73) rfl rfl (l' := #[.val (.long q0), .second, .val (.long q1), .second, .val (.int p0), .val (.int p1), .val (.int p2), .val (.int (1 : Int32)), .val (.long la0), .second, .val (.long la1), .second, .val (.long la2), .second, .val (.long lb0), .second, .val (.long lb1), .second, .val (.long lb2), .second, .val (.ref b126), .val (.ref b132), .unset, .unset, .unset, .unset, .unset, .unset]) rfl ?_
      show Steps p.tables e below (T132.setTop (mkF m 75 #[.val (.long q0), .second, .val (.long q1), .second, .val (.int p0), .val (.int p1), .val (.int p2), .val (.int (1 : Int32)), .val (.long la0), .second, .val (.long la1), .second, .val (.long la2), .second, .val (.long lb0), .second, .val (.long lb1), .second, .val (.long lb2), .second, .val (.ref b126), .val (.ref b132), .unset, .unset, .unset, .unset, .unset, .unset] [])) _
      refine XS.lconst X132.here hx rfl (hb hby at_75) ?_
      show Steps p.tables e below (T132.setTop (mkF m 76 #[.val (.long q0), .second, .val (.long q1), .second, .val (.int p0), .val (.int p1), .val (.int p2), .val (.int (1 : Int32)), .val (.long la0), .second, .val (.long la1), .second, .val (.long la2), .second, .val (.long lb0), .second, .val (.long lb1), .second, .val (.long lb2), .second, .val (.ref b126), .val (.ref b132), .unset, .unset, .unset, .unset, .unset, .unset] [(.long (0 : Int64))])) _
      refine XS.lstore X132.here hx rfl (hb hby at_76) rfl (l' := #[.val (.long q0), .second, .val (.long q1), .second, .val (.int p0), .val (.int p1), .val (.int p2), .val (.int (1 : Int32)), .val (.long la0), .second, .val (.long la1), .second, .val (.long la2), .second, .val (.long lb0), .second, .val (.long lb1), .second, .val (.long lb2), .second, .val (.ref b126), .val (.ref b132), .val (.long (0 : Int64)), .second, .unset, .unset, .unset, .unset]) rfl ?_
      show Steps p.tables e below (T132.setTop (mkF m 78 #[.val (.long q0), .second, .val (.long q1), .second, .val (.int p0), .val (.int p1), .val (.int p2), .val (.int (1 : Int32)), .val (.long la0), .second, .val (.long la1), .second, .val (.long la2), .second, .val (.long lb0), .second, .val (.long lb1), .second, .val (.long lb2), .second, .val (.ref b126), .val (.ref b132), .val (.long (0 : Int64)), .second, .unset, .unset, .unset, .unset] [])) _
      refine XS.iload X132.here hx rfl (hb hby at_78) rfl ?_
      show Steps p.tables e below (T132.setTop (mkF m 80 #[.val (.long q0), .second, .val (.long q1), .second, .val (.int p0), .val (.int p1), .val (.int p2), .val (.int (1 : Int32)), .val (.long la0), .second, .val (.long la1), .second, .val (.long la2), .second, .val (.long lb0), .second, .val (.long lb1), .second, .val (.long lb2), .second, .val (.ref b126), .val (.ref b132), .val (.long (0 : Int64)), .second, .unset, .unset, .unset, .unset] [(.int (1 : Int32))])) _
      refine XS.iconst X132.here hx rfl (hb hby at_80) ?_
      show Steps p.tables e below (T132.setTop (mkF m 81 #[.val (.long q0), .second, .val (.long q1), .second, .val (.int p0), .val (.int p1), .val (.int p2), .val (.int (1 : Int32)), .val (.long la0), .second, .val (.long la1), .second, .val (.long la2), .second, .val (.long lb0), .second, .val (.long lb1), .second, .val (.long lb2), .second, .val (.ref b126), .val (.ref b132), .val (.long (0 : Int64)), .second, .unset, .unset, .unset, .unset] [(.int (1 : Int32)), (.int (1 : Int32))])) _
      refine XS.icmpNo X132.here hx rfl (hb hby at_81) rfl (flt (by decide)).1 ?_
      show Steps p.tables e below (T132.setTop (mkF m 84 #[.val (.long q0), .second, .val (.long q1), .second, .val (.int p0), .val (.int p1), .val (.int p2), .val (.int (1 : Int32)), .val (.long la0), .second, .val (.long la1), .second, .val (.long la2), .second, .val (.long lb0), .second, .val (.long lb1), .second, .val (.long lb2), .second, .val (.ref b126), .val (.ref b132), .val (.long (0 : Int64)), .second, .unset, .unset, .unset, .unset] [])) _
      refine XS.aload X132.here hx rfl (hb hby at_84) rfl rfl ?_
      show Steps p.tables e below (T132.setTop (mkF m 86 #[.val (.long q0), .second, .val (.long q1), .second, .val (.int p0), .val (.int p1), .val (.int p2), .val (.int (1 : Int32)), .val (.long la0), .second, .val (.long la1), .second, .val (.long la2), .second, .val (.long lb0), .second, .val (.long lb1), .second, .val (.long lb2), .second, .val (.ref b126), .val (.ref b132), .val (.long (0 : Int64)), .second, .unset, .unset, .unset, .unset] [(.ref b126)])) _
      refine XS.iconst X132.here hx rfl (hb hby at_86) ?_
      show Steps p.tables e below (T132.setTop (mkF m 87 #[.val (.long q0), .second, .val (.long q1), .second, .val (.int p0), .val (.int p1), .val (.int p2), .val (.int (1 : Int32)), .val (.long la0), .second, .val (.long la1), .second, .val (.long la2), .second, .val (.long lb0), .second, .val (.long lb1), .second, .val (.long lb2), .second, .val (.ref b126), .val (.ref b132), .val (.long (0 : Int64)), .second, .unset, .unset, .unset, .unset] [(.int (0 : Int32)), (.ref b126)])) _
      refine XS.lload X132.here hx rfl (hb hby at_87) rfl ?_
      show Steps p.tables e below (T132.setTop (mkF m 89 #[.val (.long q0), .second, .val (.long q1), .second, .val (.int p0), .val (.int p1), .val (.int p2), .val (.int (1 : Int32)), .val (.long la0), .second, .val (.long la1), .second, .val (.long la2), .second, .val (.long lb0), .second, .val (.long lb1), .second, .val (.long lb2), .second, .val (.ref b126), .val (.ref b132), .val (.long (0 : Int64)), .second, .unset, .unset, .unset, .unset] [(.long la0), (.int (0 : Int32)), (.ref b126)])) _
      refine XS.l2dS X132.here hx rfl (hb hby at_89) rfl hvla0 ?_
      exact k)
    obtain ⟨c140, Ar140, Aq140, As140, An140, Ah140, Ag140⟩ := id F135
    have hin140 : ¬ ((0 : Int32) < 0 ∨ c140.slots.size ≤ ((0 : Int32)).toNatClampNeg) := inb_of As140 ⟨by decide, by decide⟩
    obtain ⟨T140, h140, X140, e140, W140, st140⟩ := stD X132 hx hZ e132 Ar140 (j := (0 : Int32)) hin140 (g := (mkF m 90 #[.val (.long q0), .second, .val (.long q1), .second, .val (.int p0), .val (.int p1), .val (.int p2), .val (.int (1 : Int32)), .val (.long la0), .second, .val (.long la1), .second, .val (.long la2), .second, .val (.long lb0), .second, .val (.long lb1), .second, .val (.long lb2), .second, .val (.ref b126), .val (.ref b132), .val (.long (0 : Int64)), .second, .unset, .unset, .unset, .unset] [(.double vla0), (.int (0 : Int32)), (.ref b126)])) rfl rfl (hb hby at_90)
    have V141 := Arv.set Ar140 Aq140 As140 An140 Ah140 Ag140 rfl W140 0 rfl (Nat.le_of_ble_eq_true rfl)
    have F142 := V137.other W140 (Ne.symm n133)
    have Z143 : n0 ≤ h140.size := Nat.le_trans Z136 (Nat.le_of_eq W140.size.symm)
    have N144 := Fr.snoc X140 N0 g127
    have k145 : ∀ t, Steps p.tables e below (T140.setTop (mkF m 91 #[.val (.long q0), .second, .val (.long q1), .second, .val (.int p0), .val (.int p1), .val (.int p2), .val (.int (1 : Int32)), .val (.long la0), .second, .val (.long la1), .second, .val (.long la2), .second, .val (.long lb0), .second, .val (.long lb1), .second, .val (.long lb2), .second, .val (.ref b126), .val (.ref b132), .val (.long (0 : Int64)), .second, .unset, .unset, .unset, .unset] [])) t → Steps p.tables e below (s₁.setTop (entryFrame m #[(.long q0), (.long q1), (.int p0), (.int p1), (.int p2)] maxLocals)) t := fun t k => k139 t (st140 t k)
    obtain ⟨vlb0, hvlb0⟩ : ∃ z : UInt64, FP.l2d lb0 = z := ⟨_, rfl⟩
    have Dvlb0 : Dy (lb0.toInt) (0) vlb0 := by rw [← hvlb0]; exact Dy.l2d (by omega)
    have k146 : ∀ t, Steps p.tables e below (T140.setTop (mkF m 97 #[.val (.long q0), .second, .val (.long q1), .second, .val (.int p0), .val (.int p1), .val (.int p2), .val (.int (1 : Int32)), .val (.long la0), .second, .val (.long la1), .second, .val (.long la2), .second, .val (.long lb0), .second, .val (.long lb1), .second, .val (.long lb2), .second, .val (.ref b126), .val (.ref b132), .val (.long (0 : Int64)), .second, .unset, .unset, .unset, .unset] [(.double vlb0), (.int (0 : Int32)), (.ref b132)])) t → Steps p.tables e below (s₁.setTop (entryFrame m #[(.long q0), (.long q1), (.int p0), (.int p1), (.int p2)] maxLocals)) t := fun t k => k145 t (by
      show Steps p.tables e below (T140.setTop (mkF m 91 #[.val (.long q0), .second, .val (.long q1), .second, .val (.int p0), .val (.int p1), .val (.int p2), .val (.int (1 : Int32)), .val (.long la0), .second, .val (.long la1), .second, .val (.long la2), .second, .val (.long lb0), .second, .val (.long lb1), .second, .val (.long lb2), .second, .val (.ref b126), .val (.ref b132), .val (.long (0 : Int64)), .second, .unset, .unset, .unset, .unset] [])) _
      refine XS.aload X140.here hx rfl (hb hby at_91) rfl rfl ?_
      show Steps p.tables e below (T140.setTop (mkF m 93 #[.val (.long q0), .second, .val (.long q1), .second, .val (.int p0), .val (.int p1), .val (.int p2), .val (.int (1 : Int32)), .val (.long la0), .second, .val (.long la1), .second, .val (.long la2), .second, .val (.long lb0), .second, .val (.long lb1), .second, .val (.long lb2), .second, .val (.ref b126), .val (.ref b132), .val (.long (0 : Int64)), .second, .unset, .unset, .unset, .unset] [(.ref b132)])) _
      refine XS.iconst X140.here hx rfl (hb hby at_93) ?_
      show Steps p.tables e below (T140.setTop (mkF m 94 #[.val (.long q0), .second, .val (.long q1), .second, .val (.int p0), .val (.int p1), .val (.int p2), .val (.int (1 : Int32)), .val (.long la0), .second, .val (.long la1), .second, .val (.long la2), .second, .val (.long lb0), .second, .val (.long lb1), .second, .val (.long lb2), .second, .val (.ref b126), .val (.ref b132), .val (.long (0 : Int64)), .second, .unset, .unset, .unset, .unset] [(.int (0 : Int32)), (.ref b132)])) _
      refine XS.lload X140.here hx rfl (hb hby at_94) rfl ?_
      show Steps p.tables e below (T140.setTop (mkF m 96 #[.val (.long q0), .second, .val (.long q1), .second, .val (.int p0), .val (.int p1), .val (.int p2), .val (.int (1 : Int32)), .val (.long la0), .second, .val (.long la1), .second, .val (.long la2), .second, .val (.long lb0), .second, .val (.long lb1), .second, .val (.long lb2), .second, .val (.ref b126), .val (.ref b132), .val (.long (0 : Int64)), .second, .unset, .unset, .unset, .unset] [(.long lb0), (.int (0 : Int32)), (.ref b132)])) _
      refine XS.l2dS X140.here hx rfl (hb hby at_96) rfl hvlb0 ?_
      exact k)
    obtain ⟨c147, Ar147, Aq147, As147, An147, Ah147, Ag147⟩ := id F142
    have hin147 : ¬ ((0 : Int32) < 0 ∨ c147.slots.size ≤ ((0 : Int32)).toNatClampNeg) := inb_of As147 ⟨by decide, by decide⟩
    obtain ⟨T147, h147, X147, e147, W147, st147⟩ := stD X140 hx hZ e140 Ar147 (j := (0 : Int32)) hin147 (g := (mkF m 97 #[.val (.long q0), .second, .val (.long q1), .second, .val (.int p0), .val (.int p1), .val (.int p2), .val (.int (1 : Int32)), .val (.long la0), .second, .val (.long la1), .second, .val (.long la2), .second, .val (.long lb0), .second, .val (.long lb1), .second, .val (.long lb2), .second, .val (.ref b126), .val (.ref b132), .val (.long (0 : Int64)), .second, .unset, .unset, .unset, .unset] [(.double vlb0), (.int (0 : Int32)), (.ref b132)])) rfl rfl (hb hby at_97)
    have V148 := Arv.set Ar147 Aq147 As147 An147 Ah147 Ag147 rfl W147 0 rfl (Nat.le_of_ble_eq_true rfl)
    have F149 := V141.other W147 n133
    have Z150 : n0 ≤ h147.size := Nat.le_trans Z143 (Nat.le_of_eq W147.size.symm)
    have N151 := Fr.snoc X147 N144 g134
    have k152 : ∀ t, Steps p.tables e below (T147.setTop (mkF m 98 #[.val (.long q0), .second, .val (.long q1), .second, .val (.int p0), .val (.int p1), .val (.int p2), .val (.int (1 : Int32)), .val (.long la0), .second, .val (.long la1), .second, .val (.long la2), .second, .val (.long lb0), .second, .val (.long lb1), .second, .val (.long lb2), .second, .val (.ref b126), .val (.ref b132), .val (.long (0 : Int64)), .second, .unset, .unset, .unset, .unset] [])) t → Steps p.tables e below (s₁.setTop (entryFrame m #[(.long q0), (.long q1), (.int p0), (.int p1), (.int p2)] maxLocals)) t := fun t k => k146 t (st147 t k)
    obtain ⟨r1, hr1⟩ : ∃ z : Int64, z = ((0 : Int64) + ((la0 - lb0) * (la0 - lb0))) := ⟨_, rfl⟩
    obtain ⟨O0_0, O0_1, O0_2⟩ := own_dist1 B_la0 B_lb0 Dvla0 Dvlb0
    have k153 : ∀ t, Steps p.tables e below (T147.setTop (mkF m 190 #[.val (.long q0), .second, .val (.long q1), .second, .val (.int p0), .val (.int p1), .val (.int p2), .val (.int (1 : Int32)), .val (.long la0), .second, .val (.long la1), .second, .val (.long la2), .second, .val (.long lb0), .second, .val (.long lb1), .second, .val (.long lb2), .second, .val (.ref b126), .val (.ref b132), .val (.long r1), .second, .unset, .unset, .unset, .unset] [(.ref b132), (.ref b126)])) t → Steps p.tables e below (s₁.setTop (entryFrame m #[(.long q0), (.long q1), (.int p0), (.int p1), (.int p2)] maxLocals)) t := fun t k => k152 t (by
      show Steps p.tables e below (T147.setTop (mkF m 98 #[.val (.long q0), .second, .val (.long q1), .second, .val (.int p0), .val (.int p1), .val (.int p2), .val (.int (1 : Int32)), .val (.long la0), .second, .val (.long la1), .second, .val (.long la2), .second, .val (.long lb0), .second, .val (.long lb1), .second, .val (.long lb2), .second, .val (.ref b126), .val (.ref b132), .val (.long (0 : Int64)), .second, .unset, .unset, .unset, .unset] [])) _
      refine XS.lload X147.here hx rfl (hb hby at_98) rfl ?_
      show Steps p.tables e below (T147.setTop (mkF m 100 #[.val (.long q0), .second, .val (.long q1), .second, .val (.int p0), .val (.int p1), .val (.int p2), .val (.int (1 : Int32)), .val (.long la0), .second, .val (.long la1), .second, .val (.long la2), .second, .val (.long lb0), .second, .val (.long lb1), .second, .val (.long lb2), .second, .val (.ref b126), .val (.ref b132), .val (.long (0 : Int64)), .second, .unset, .unset, .unset, .unset] [(.long (0 : Int64))])) _
      refine XS.lload X147.here hx rfl (hb hby at_100) rfl ?_
      show Steps p.tables e below (T147.setTop (mkF m 102 #[.val (.long q0), .second, .val (.long q1), .second, .val (.int p0), .val (.int p1), .val (.int p2), .val (.int (1 : Int32)), .val (.long la0), .second, .val (.long la1), .second, .val (.long la2), .second, .val (.long lb0), .second, .val (.long lb1), .second, .val (.long lb2), .second, .val (.ref b126), .val (.ref b132), .val (.long (0 : Int64)), .second, .unset, .unset, .unset, .unset] [(.long la0), (.long (0 : Int64))])) _
      refine XS.lload X147.here hx rfl (hb hby at_102) rfl ?_
      show Steps p.tables e below (T147.setTop (mkF m 104 #[.val (.long q0), .second, .val (.long q1), .second, .val (.int p0), .val (.int p1), .val (.int p2), .val (.int (1 : Int32)), .val (.long la0), .second, .val (.long la1), .second, .val (.long la2), .second, .val (.long lb0), .second, .val (.long lb1), .second, .val (.long lb2), .second, .val (.ref b126), .val (.ref b132), .val (.long (0 : Int64)), .second, .unset, .unset, .unset, .unset] [(.long lb0), (.long la0), (.long (0 : Int64))])) _
      refine XS.lsub X147.here hx rfl (hb hby at_104) rfl ?_
      show Steps p.tables e below (T147.setTop (mkF m 105 #[.val (.long q0), .second, .val (.long q1), .second, .val (.int p0), .val (.int p1), .val (.int p2), .val (.int (1 : Int32)), .val (.long la0), .second, .val (.long la1), .second, .val (.long la2), .second, .val (.long lb0), .second, .val (.long lb1), .second, .val (.long lb2), .second, .val (.ref b126), .val (.ref b132), .val (.long (0 : Int64)), .second, .unset, .unset, .unset, .unset] [(.long (la0 - lb0)), (.long (0 : Int64))])) _
      refine XS.lload X147.here hx rfl (hb hby at_105) rfl ?_
      show Steps p.tables e below (T147.setTop (mkF m 107 #[.val (.long q0), .second, .val (.long q1), .second, .val (.int p0), .val (.int p1), .val (.int p2), .val (.int (1 : Int32)), .val (.long la0), .second, .val (.long la1), .second, .val (.long la2), .second, .val (.long lb0), .second, .val (.long lb1), .second, .val (.long lb2), .second, .val (.ref b126), .val (.ref b132), .val (.long (0 : Int64)), .second, .unset, .unset, .unset, .unset] [(.long la0), (.long (la0 - lb0)), (.long (0 : Int64))])) _
      refine XS.lload X147.here hx rfl (hb hby at_107) rfl ?_
      show Steps p.tables e below (T147.setTop (mkF m 109 #[.val (.long q0), .second, .val (.long q1), .second, .val (.int p0), .val (.int p1), .val (.int p2), .val (.int (1 : Int32)), .val (.long la0), .second, .val (.long la1), .second, .val (.long la2), .second, .val (.long lb0), .second, .val (.long lb1), .second, .val (.long lb2), .second, .val (.ref b126), .val (.ref b132), .val (.long (0 : Int64)), .second, .unset, .unset, .unset, .unset] [(.long lb0), (.long la0), (.long (la0 - lb0)), (.long (0 : Int64))])) _
      refine XS.lsub X147.here hx rfl (hb hby at_109) rfl ?_
      show Steps p.tables e below (T147.setTop (mkF m 110 #[.val (.long q0), .second, .val (.long q1), .second, .val (.int p0), .val (.int p1), .val (.int p2), .val (.int (1 : Int32)), .val (.long la0), .second, .val (.long la1), .second, .val (.long la2), .second, .val (.long lb0), .second, .val (.long lb1), .second, .val (.long lb2), .second, .val (.ref b126), .val (.ref b132), .val (.long (0 : Int64)), .second, .unset, .unset, .unset, .unset] [(.long (la0 - lb0)), (.long (la0 - lb0)), (.long (0 : Int64))])) _
      refine XS.lmul X147.here hx rfl (hb hby at_110) rfl ?_
      show Steps p.tables e below (T147.setTop (mkF m 111 #[.val (.long q0), .second, .val (.long q1), .second, .val (.int p0), .val (.int p1), .val (.int p2), .val (.int (1 : Int32)), .val (.long la0), .second, .val (.long la1), .second, .val (.long la2), .second, .val (.long lb0), .second, .val (.long lb1), .second, .val (.long lb2), .second, .val (.ref b126), .val (.ref b132), .val (.long (0 : Int64)), .second, .unset, .unset, .unset, .unset] [(.long ((la0 - lb0) * (la0 - lb0))), (.long (0 : Int64))])) _
      refine XS.ladd X147.here hx rfl (hb hby at_111) rfl ?_
      show Steps p.tables e below (T147.setTop (mkF m 112 #[.val (.long q0), .second, .val (.long q1), .second, .val (.int p0), .val (.int p1), .val (.int p2), .val (.int (1 : Int32)), .val (.long la0), .second, .val (.long la1), .second, .val (.long la2), .second, .val (.long lb0), .second, .val (.long lb1), .second, .val (.long lb2), .second, .val (.ref b126), .val (.ref b132), .val (.long (0 : Int64)), .second, .unset, .unset, .unset, .unset] [(.long ((0 : Int64) + ((la0 - lb0) * (la0 - lb0))))])) _
      refine castTop (g' := (mkF m 112 #[.val (.long q0), .second, .val (.long q1), .second, .val (.int p0), .val (.int p1), .val (.int p2), .val (.int (1 : Int32)), .val (.long la0), .second, .val (.long la1), .second, .val (.long la2), .second, .val (.long lb0), .second, .val (.long lb1), .second, .val (.long lb2), .second, .val (.ref b126), .val (.ref b132), .val (.long (0 : Int64)), .second, .unset, .unset, .unset, .unset] [(.long r1)])) (by rw [hr1]) ?_
      show Steps p.tables e below (T147.setTop (mkF m 112 #[.val (.long q0), .second, .val (.long q1), .second, .val (.int p0), .val (.int p1), .val (.int p2), .val (.int (1 : Int32)), .val (.long la0), .second, .val (.long la1), .second, .val (.long la2), .second, .val (.long lb0), .second, .val (.long lb1), .second, .val (.long lb2), .second, .val (.ref b126), .val (.ref b132), .val (.long (0 : Int64)), .second, .unset, .unset, .unset, .unset] [(.long r1)])) _
      refine XS.lstore X147.here hx rfl (hb hby at_112) rfl (l' := #[.val (.long q0), .second, .val (.long q1), .second, .val (.int p0), .val (.int p1), .val (.int p2), .val (.int (1 : Int32)), .val (.long la0), .second, .val (.long la1), .second, .val (.long la2), .second, .val (.long lb0), .second, .val (.long lb1), .second, .val (.long lb2), .second, .val (.ref b126), .val (.ref b132), .val (.long r1), .second, .unset, .unset, .unset, .unset]) rfl ?_
      show Steps p.tables e below (T147.setTop (mkF m 114 #[.val (.long q0), .second, .val (.long q1), .second, .val (.int p0), .val (.int p1), .val (.int p2), .val (.int (1 : Int32)), .val (.long la0), .second, .val (.long la1), .second, .val (.long la2), .second, .val (.long lb0), .second, .val (.long lb1), .second, .val (.long lb2), .second, .val (.ref b126), .val (.ref b132), .val (.long r1), .second, .unset, .unset, .unset, .unset] [])) _
      refine XS.iload X147.here hx rfl (hb hby at_114) rfl ?_
      show Steps p.tables e below (T147.setTop (mkF m 116 #[.val (.long q0), .second, .val (.long q1), .second, .val (.int p0), .val (.int p1), .val (.int p2), .val (.int (1 : Int32)), .val (.long la0), .second, .val (.long la1), .second, .val (.long la2), .second, .val (.long lb0), .second, .val (.long lb1), .second, .val (.long lb2), .second, .val (.ref b126), .val (.ref b132), .val (.long r1), .second, .unset, .unset, .unset, .unset] [(.int (1 : Int32))])) _
      refine XS.iconst X147.here hx rfl (hb hby at_116) ?_
      show Steps p.tables e below (T147.setTop (mkF m 117 #[.val (.long q0), .second, .val (.long q1), .second, .val (.int p0), .val (.int p1), .val (.int p2), .val (.int (1 : Int32)), .val (.long la0), .second, .val (.long la1), .second, .val (.long la2), .second, .val (.long lb0), .second, .val (.long lb1), .second, .val (.long lb2), .second, .val (.ref b126), .val (.ref b132), .val (.long r1), .second, .unset, .unset, .unset, .unset] [(.int (2 : Int32)), (.int (1 : Int32))])) _
      refine XS.icmpYes X147.here hx rfl (pc0 := 117) (pc' := 150) rfl (hb hby at_117) rfl (tlt (by decide)).1 (by decide) (by decide) ?_
      show Steps p.tables e below (T147.setTop (mkF m 150 #[.val (.long q0), .second, .val (.long q1), .second, .val (.int p0), .val (.int p1), .val (.int p2), .val (.int (1 : Int32)), .val (.long la0), .second, .val (.long la1), .second, .val (.long la2), .second, .val (.long lb0), .second, .val (.long lb1), .second, .val (.long lb2), .second, .val (.ref b126), .val (.ref b132), .val (.long r1), .second, .unset, .unset, .unset, .unset] [])) _
      refine XS.iload X147.here hx rfl (hb hby at_150) rfl ?_
      show Steps p.tables e below (T147.setTop (mkF m 152 #[.val (.long q0), .second, .val (.long q1), .second, .val (.int p0), .val (.int p1), .val (.int p2), .val (.int (1 : Int32)), .val (.long la0), .second, .val (.long la1), .second, .val (.long la2), .second, .val (.long lb0), .second, .val (.long lb1), .second, .val (.long lb2), .second, .val (.ref b126), .val (.ref b132), .val (.long r1), .second, .unset, .unset, .unset, .unset] [(.int (1 : Int32))])) _
      refine XS.iconst X147.here hx rfl (hb hby at_152) ?_
      show Steps p.tables e below (T147.setTop (mkF m 153 #[.val (.long q0), .second, .val (.long q1), .second, .val (.int p0), .val (.int p1), .val (.int p2), .val (.int (1 : Int32)), .val (.long la0), .second, .val (.long la1), .second, .val (.long la2), .second, .val (.long lb0), .second, .val (.long lb1), .second, .val (.long lb2), .second, .val (.ref b126), .val (.ref b132), .val (.long r1), .second, .unset, .unset, .unset, .unset] [(.int (3 : Int32)), (.int (1 : Int32))])) _
      refine XS.icmpYes X147.here hx rfl (pc0 := 153) (pc' := 186) rfl (hb hby at_153) rfl (tlt (by decide)).1 (by decide) (by decide) ?_
      show Steps p.tables e below (T147.setTop (mkF m 186 #[.val (.long q0), .second, .val (.long q1), .second, .val (.int p0), .val (.int p1), .val (.int p2), .val (.int (1 : Int32)), .val (.long la0), .second, .val (.long la1), .second, .val (.long la2), .second, .val (.long lb0), .second, .val (.long lb1), .second, .val (.long lb2), .second, .val (.ref b126), .val (.ref b132), .val (.long r1), .second, .unset, .unset, .unset, .unset] [])) _
      refine XS.aload X147.here hx rfl (hb hby at_186) rfl rfl ?_
      show Steps p.tables e below (T147.setTop (mkF m 188 #[.val (.long q0), .second, .val (.long q1), .second, .val (.int p0), .val (.int p1), .val (.int p2), .val (.int (1 : Int32)), .val (.long la0), .second, .val (.long la1), .second, .val (.long la2), .second, .val (.long lb0), .second, .val (.long lb1), .second, .val (.long lb2), .second, .val (.ref b126), .val (.ref b132), .val (.long r1), .second, .unset, .unset, .unset, .unset] [(.ref b126)])) _
      refine XS.aload X147.here hx rfl (hb hby at_188) rfl rfl ?_
      exact k)
    obtain ⟨_, _, ⟨T154, L154, k154, n154⟩, -, X154, ⟨Lc154, hQ154, l154, y154, z154⟩, st154⟩ := Jvm.LawKit.callS X147 hx (y := (⟨"com/example/frontweave/frontweave/clustering/Vectors", "distanceSquared", "([D[D)D"⟩ : MethodName)) hown (mvT hZ (hw _ (List.mem_of_getElem? (i := 2) rfl))) (mvT hZ (hw _ (List.mem_of_getElem? (i := 3) rfl))) (mvT hZ (hw _ (List.mem_of_getElem? (i := 4) rfl))) (mvT hZ (hw _ (List.mem_of_getElem? (i := 5) rfl))) (by decide) (backOf (W := 0) (dist1 l Z a0 hw [] b126 b132 k126 k132 vla0 vlb0 h147 n0 Z150 F149 V148 O0_0.nn O0_1.nn O0_2.nn) hZ (hw _ (List.mem_of_getElem? (i := 5) rfl)) (hw _ (List.mem_of_getElem? (i := 4) rfl)) (by decide) (by decide)) (g := (mkF m 190 #[.val (.long q0), .second, .val (.long q1), .second, .val (.int p0), .val (.int p1), .val (.int p2), .val (.int (1 : Int32)), .val (.long la0), .second, .val (.long la1), .second, .val (.long la2), .second, .val (.long lb0), .second, .val (.long lb1), .second, .val (.long lb2), .second, .val (.ref b126), .val (.ref b132), .val (.long r1), .second, .unset, .unset, .unset, .unset] [(.ref b132), (.ref b126)])) rfl (by rw [hml]; rfl) (argsL := [(.ref b126), (.ref b132)]) (rest := []) (lenOf pd__28_5bD_5bD_29D rfl) rfl (by show 2 * 0 + _ ≤ _; exact Nat.le_of_eq rfl) (hb hby at_190) (fun _ _ => ⟨rfl, e147, (by decide : 2 + 0 ≤ _), (by decide : 2 + 0 ≤ _)⟩)
    dsimp only [Pt.U, Pt.locs, Pt.cells, Pt.slots] at X154 l154 y154 z154 st154 hQ154
    subst l154 y154 z154
    obtain ⟨rfl, N154q, e154⟩ := hQ154
    have N155 := Fr.app N151 N154q
    have k156 : ∀ t, Steps p.tables e below (T154.setTop (mkF m 193 #[.val (.long q0), .second, .val (.long q1), .second, .val (.int p0), .val (.int p1), .val (.int p2), .val (.int (1 : Int32)), .val (.long la0), .second, .val (.long la1), .second, .val (.long la2), .second, .val (.long lb0), .second, .val (.long lb1), .second, .val (.long lb2), .second, .val (.ref b126), .val (.ref b132), .val (.long r1), .second, .unset, .unset, .unset, .unset] [(.double (FP.dadd (0 : UInt64) (FP.dmul (FP.dsub vla0 vlb0) (FP.dsub vla0 vlb0))))])) t → Steps p.tables e below (s₁.setTop (entryFrame m #[(.long q0), (.long q1), (.int p0), (.int p1), (.int p2)] maxLocals)) t := fun t k => k153 t (st154 t k)
    obtain ⟨d1, hd1⟩ : ∃ z : UInt64, z = (FP.dadd (0 : UInt64) (FP.dmul (FP.dsub vla0 vlb0) (FP.dsub vla0 vlb0))) := ⟨_, rfl⟩
    obtain ⟨O1_0, O1_1, O1_2⟩ := own_dist1 B_lb0 B_la0 Dvlb0 Dvla0
    have k157 : ∀ t, Steps p.tables e below (T154.setTop (mkF m 199 #[.val (.long q0), .second, .val (.long q1), .second, .val (.int p0), .val (.int p1), .val (.int p2), .val (.int (1 : Int32)), .val (.long la0), .second, .val (.long la1), .second, .val (.long la2), .second, .val (.long lb0), .second, .val (.long lb1), .second, .val (.long lb2), .second, .val (.ref b126), .val (.ref b132), .val (.long r1), .second, .val (.double d1), .second, .unset, .unset] [(.ref b126), (.ref b132)])) t → Steps p.tables e below (s₁.setTop (entryFrame m #[(.long q0), (.long q1), (.int p0), (.int p1), (.int p2)] maxLocals)) t := fun t k => k156 t (by
      show Steps p.tables e below (T154.setTop (mkF m 193 #[.val (.long q0), .second, .val (.long q1), .second, .val (.int p0), .val (.int p1), .val (.int p2), .val (.int (1 : Int32)), .val (.long la0), .second, .val (.long la1), .second, .val (.long la2), .second, .val (.long lb0), .second, .val (.long lb1), .second, .val (.long lb2), .second, .val (.ref b126), .val (.ref b132), .val (.long r1), .second, .unset, .unset, .unset, .unset] [(.double (FP.dadd (0 : UInt64) (FP.dmul (FP.dsub vla0 vlb0) (FP.dsub vla0 vlb0))))])) _
      refine castTop (g' := (mkF m 193 #[.val (.long q0), .second, .val (.long q1), .second, .val (.int p0), .val (.int p1), .val (.int p2), .val (.int (1 : Int32)), .val (.long la0), .second, .val (.long la1), .second, .val (.long la2), .second, .val (.long lb0), .second, .val (.long lb1), .second, .val (.long lb2), .second, .val (.ref b126), .val (.ref b132), .val (.long r1), .second, .unset, .unset, .unset, .unset] [(.double d1)])) (by rw [hd1]) ?_
      show Steps p.tables e below (T154.setTop (mkF m 193 #[.val (.long q0), .second, .val (.long q1), .second, .val (.int p0), .val (.int p1), .val (.int p2), .val (.int (1 : Int32)), .val (.long la0), .second, .val (.long la1), .second, .val (.long la2), .second, .val (.long lb0), .second, .val (.long lb1), .second, .val (.long lb2), .second, .val (.ref b126), .val (.ref b132), .val (.long r1), .second, .unset, .unset, .unset, .unset] [(.double d1)])) _
      refine XS.dstore X154.here hx rfl (hb hby at_193) rfl (l' := #[.val (.long q0), .second, .val (.long q1), .second, .val (.int p0), .val (.int p1), .val (.int p2), .val (.int (1 : Int32)), .val (.long la0), .second, .val (.long la1), .second, .val (.long la2), .second, .val (.long lb0), .second, .val (.long lb1), .second, .val (.long lb2), .second, .val (.ref b126), .val (.ref b132), .val (.long r1), .second, .val (.double d1), .second, .unset, .unset]) rfl ?_
      show Steps p.tables e below (T154.setTop (mkF m 195 #[.val (.long q0), .second, .val (.long q1), .second, .val (.int p0), .val (.int p1), .val (.int p2), .val (.int (1 : Int32)), .val (.long la0), .second, .val (.long la1), .second, .val (.long la2), .second, .val (.long lb0), .second, .val (.long lb1), .second, .val (.long lb2), .second, .val (.ref b126), .val (.ref b132), .val (.long r1), .second, .val (.double d1), .second, .unset, .unset] [])) _
      refine XS.aload X154.here hx rfl (hb hby at_195) rfl rfl ?_
      show Steps p.tables e below (T154.setTop (mkF m 197 #[.val (.long q0), .second, .val (.long q1), .second, .val (.int p0), .val (.int p1), .val (.int p2), .val (.int (1 : Int32)), .val (.long la0), .second, .val (.long la1), .second, .val (.long la2), .second, .val (.long lb0), .second, .val (.long lb1), .second, .val (.long lb2), .second, .val (.ref b126), .val (.ref b132), .val (.long r1), .second, .val (.double d1), .second, .unset, .unset] [(.ref b132)])) _
      refine XS.aload X154.here hx rfl (hb hby at_197) rfl rfl ?_
      exact k)
    obtain ⟨_, _, ⟨T158, L158, k158, n158⟩, -, X158, ⟨Lc158, hQ158, l158, y158, z158⟩, st158⟩ := Jvm.LawKit.callS X154 hx (y := (⟨"com/example/frontweave/frontweave/clustering/Vectors", "distanceSquared", "([D[D)D"⟩ : MethodName)) hown (mvT hZ (hw _ (List.mem_of_getElem? (i := 2) rfl))) (mvT hZ (hw _ (List.mem_of_getElem? (i := 3) rfl))) (mvT hZ (hw _ (List.mem_of_getElem? (i := 4) rfl))) (mvT hZ (hw _ (List.mem_of_getElem? (i := 5) rfl))) (by decide) (backOf (W := 0) (dist1 l Z a0 hw [] b132 b126 k132 k126 vlb0 vla0 h147 n0 Z150 V148 F149 O1_0.nn O1_1.nn O1_2.nn) hZ (hw _ (List.mem_of_getElem? (i := 5) rfl)) (hw _ (List.mem_of_getElem? (i := 4) rfl)) (by decide) (by decide)) (g := (mkF m 199 #[.val (.long q0), .second, .val (.long q1), .second, .val (.int p0), .val (.int p1), .val (.int p2), .val (.int (1 : Int32)), .val (.long la0), .second, .val (.long la1), .second, .val (.long la2), .second, .val (.long lb0), .second, .val (.long lb1), .second, .val (.long lb2), .second, .val (.ref b126), .val (.ref b132), .val (.long r1), .second, .val (.double d1), .second, .unset, .unset] [(.ref b126), (.ref b132)])) rfl (by rw [hml]; rfl) (argsL := [(.ref b132), (.ref b126)]) (rest := []) (lenOf pd__28_5bD_5bD_29D rfl) rfl (by show 2 * 0 + _ ≤ _; exact Nat.le_of_eq rfl) (hb hby at_199) (fun _ _ => ⟨rfl, e154, (by decide : 2 + 0 ≤ _), (by decide : 2 + 0 ≤ _)⟩)
    dsimp only [Pt.U, Pt.locs, Pt.cells, Pt.slots] at X158 l158 y158 z158 st158 hQ158
    subst l158 y158 z158
    obtain ⟨rfl, N158q, e158⟩ := hQ158
    have N159 := Fr.app N155 N158q
    have k160 : ∀ t, Steps p.tables e below (T158.setTop (mkF m 202 #[.val (.long q0), .second, .val (.long q1), .second, .val (.int p0), .val (.int p1), .val (.int p2), .val (.int (1 : Int32)), .val (.long la0), .second, .val (.long la1), .second, .val (.long la2), .second, .val (.long lb0), .second, .val (.long lb1), .second, .val (.long lb2), .second, .val (.ref b126), .val (.ref b132), .val (.long r1), .second, .val (.double d1), .second, .unset, .unset] [(.double (FP.dadd (0 : UInt64) (FP.dmul (FP.dsub vlb0 vla0) (FP.dsub vlb0 vla0))))])) t → Steps p.tables e below (s₁.setTop (entryFrame m #[(.long q0), (.long q1), (.int p0), (.int p1), (.int p2)] maxLocals)) t := fun t k => k157 t (st158 t k)
    obtain ⟨d2, hd2⟩ : ∃ z : UInt64, z = (FP.dadd (0 : UInt64) (FP.dmul (FP.dsub vlb0 vla0) (FP.dsub vlb0 vla0))) := ⟨_, rfl⟩
    have hr : r1.toInt = 0 + (la0.toInt - lb0.toInt) * (la0.toInt - lb0.toInt) := by rw [hr1]; exact own_ref1 B_la0 B_lb0
    have hbw : (0 + (la0.toInt - lb0.toInt) * (la0.toInt - lb0.toInt)).natAbs < 9007199254740992 := own_refb1 B_la0 B_lb0
    have hs : 0 + (lb0.toInt - la0.toInt) * (lb0.toInt - la0.toInt) = 0 + (la0.toInt - lb0.toInt) * (la0.toInt - lb0.toInt) := by rw [own_sq lb0.toInt la0.toInt]
    obtain ⟨want, hwant⟩ : ∃ z : UInt64, FP.l2d r1 = z := ⟨_, rfl⟩
    have Dwant : Dy (0 + (la0.toInt - lb0.toInt) * (la0.toInt - lb0.toInt)) (0) want := by rw [← hwant]; exact hr ▸ Dy.l2d (by rw [hr]; exact hbw)
    have hf1 : cmpValue (FP.dcmp d1 want) .l = (0 : Int32) := by rw [hd1]; exact Dy.cmp_eq O0_2 Dwant rfl .l
    obtain ⟨want2, hwant2⟩ : ∃ z : UInt64, FP.l2d r1 = z := ⟨_, rfl⟩
    have Dwant2 : Dy (0 + (la0.toInt - lb0.toInt) * (la0.toInt - lb0.toInt)) (0) want2 := by rw [← hwant2]; exact hr ▸ Dy.l2d (by rw [hr]; exact hbw)
    have hf2 : cmpValue (FP.dcmp d2 want2) .l = (0 : Int32) := by rw [hd2]; exact Dy.cmp_eq O1_2 Dwant2 hs .l
    have k161 : ∀ t, Steps p.tables e below (T158.setTop (mkF m 227 #[.val (.long q0), .second, .val (.long q1), .second, .val (.int p0), .val (.int p1), .val (.int p2), .val (.int (1 : Int32)), .val (.long la0), .second, .val (.long la1), .second, .val (.long la2), .second, .val (.long lb0), .second, .val (.long lb1), .second, .val (.long lb2), .second, .val (.ref b126), .val (.ref b132), .val (.long r1), .second, .val (.double d1), .second, .val (.double d2), .second] [(.int (1 : Int32))])) t → Steps p.tables e below (s₁.setTop (entryFrame m #[(.long q0), (.long q1), (.int p0), (.int p1), (.int p2)] maxLocals)) t := fun t k => k160 t (by
      show Steps p.tables e below (T158.setTop (mkF m 202 #[.val (.long q0), .second, .val (.long q1), .second, .val (.int p0), .val (.int p1), .val (.int p2), .val (.int (1 : Int32)), .val (.long la0), .second, .val (.long la1), .second, .val (.long la2), .second, .val (.long lb0), .second, .val (.long lb1), .second, .val (.long lb2), .second, .val (.ref b126), .val (.ref b132), .val (.long r1), .second, .val (.double d1), .second, .unset, .unset] [(.double (FP.dadd (0 : UInt64) (FP.dmul (FP.dsub vlb0 vla0) (FP.dsub vlb0 vla0))))])) _
      refine castTop (g' := (mkF m 202 #[.val (.long q0), .second, .val (.long q1), .second, .val (.int p0), .val (.int p1), .val (.int p2), .val (.int (1 : Int32)), .val (.long la0), .second, .val (.long la1), .second, .val (.long la2), .second, .val (.long lb0), .second, .val (.long lb1), .second, .val (.long lb2), .second, .val (.ref b126), .val (.ref b132), .val (.long r1), .second, .val (.double d1), .second, .unset, .unset] [(.double d2)])) (by rw [hd2]) ?_
      show Steps p.tables e below (T158.setTop (mkF m 202 #[.val (.long q0), .second, .val (.long q1), .second, .val (.int p0), .val (.int p1), .val (.int p2), .val (.int (1 : Int32)), .val (.long la0), .second, .val (.long la1), .second, .val (.long la2), .second, .val (.long lb0), .second, .val (.long lb1), .second, .val (.long lb2), .second, .val (.ref b126), .val (.ref b132), .val (.long r1), .second, .val (.double d1), .second, .unset, .unset] [(.double d2)])) _
      refine XS.dstore X158.here hx rfl (hb hby at_202) rfl (l' := #[.val (.long q0), .second, .val (.long q1), .second, .val (.int p0), .val (.int p1), .val (.int p2), .val (.int (1 : Int32)), .val (.long la0), .second, .val (.long la1), .second, .val (.long la2), .second, .val (.long lb0), .second, .val (.long lb1), .second, .val (.long lb2), .second, .val (.ref b126), .val (.ref b132), .val (.long r1), .second, .val (.double d1), .second, .val (.double d2), .second]) rfl ?_
      show Steps p.tables e below (T158.setTop (mkF m 204 #[.val (.long q0), .second, .val (.long q1), .second, .val (.int p0), .val (.int p1), .val (.int p2), .val (.int (1 : Int32)), .val (.long la0), .second, .val (.long la1), .second, .val (.long la2), .second, .val (.long lb0), .second, .val (.long lb1), .second, .val (.long lb2), .second, .val (.ref b126), .val (.ref b132), .val (.long r1), .second, .val (.double d1), .second, .val (.double d2), .second] [])) _
      refine XS.dload X158.here hx rfl (hb hby at_204) rfl ?_
      show Steps p.tables e below (T158.setTop (mkF m 206 #[.val (.long q0), .second, .val (.long q1), .second, .val (.int p0), .val (.int p1), .val (.int p2), .val (.int (1 : Int32)), .val (.long la0), .second, .val (.long la1), .second, .val (.long la2), .second, .val (.long lb0), .second, .val (.long lb1), .second, .val (.long lb2), .second, .val (.ref b126), .val (.ref b132), .val (.long r1), .second, .val (.double d1), .second, .val (.double d2), .second] [(.double d1)])) _
      refine XS.lload X158.here hx rfl (hb hby at_206) rfl ?_
      show Steps p.tables e below (T158.setTop (mkF m 208 #[.val (.long q0), .second, .val (.long q1), .second, .val (.int p0), .val (.int p1), .val (.int p2), .val (.int (1 : Int32)), .val (.long la0), .second, .val (.long la1), .second, .val (.long la2), .second, .val (.long lb0), .second, .val (.long lb1), .second, .val (.long lb2), .second, .val (.ref b126), .val (.ref b132), .val (.long r1), .second, .val (.double d1), .second, .val (.double d2), .second] [(.long r1), (.double d1)])) _
      refine XS.l2dS X158.here hx rfl (hb hby at_208) rfl hwant ?_
      show Steps p.tables e below (T158.setTop (mkF m 209 #[.val (.long q0), .second, .val (.long q1), .second, .val (.int p0), .val (.int p1), .val (.int p2), .val (.int (1 : Int32)), .val (.long la0), .second, .val (.long la1), .second, .val (.long la2), .second, .val (.long lb0), .second, .val (.long lb1), .second, .val (.long lb2), .second, .val (.ref b126), .val (.ref b132), .val (.long r1), .second, .val (.double d1), .second, .val (.double d2), .second] [(.double want), (.double d1)])) _
      refine XS.dcmpS X158.here hx rfl (hb hby at_209) rfl rfl ?_
      show Steps p.tables e below (T158.setTop (mkF m 210 #[.val (.long q0), .second, .val (.long q1), .second, .val (.int p0), .val (.int p1), .val (.int p2), .val (.int (1 : Int32)), .val (.long la0), .second, .val (.long la1), .second, .val (.long la2), .second, .val (.long lb0), .second, .val (.long lb1), .second, .val (.long lb2), .second, .val (.ref b126), .val (.ref b132), .val (.long r1), .second, .val (.double d1), .second, .val (.double d2), .second] [(.int (cmpValue (FP.dcmp d1 want) .l))])) _
      refine XS.ifNo X158.here hx rfl (hb hby at_210) rfl ((if0 _ _).trans (teq hf1).2) ?_
      show Steps p.tables e below (T158.setTop (mkF m 213 #[.val (.long q0), .second, .val (.long q1), .second, .val (.int p0), .val (.int p1), .val (.int p2), .val (.int (1 : Int32)), .val (.long la0), .second, .val (.long la1), .second, .val (.long la2), .second, .val (.long lb0), .second, .val (.long lb1), .second, .val (.long lb2), .second, .val (.ref b126), .val (.ref b132), .val (.long r1), .second, .val (.double d1), .second, .val (.double d2), .second] [])) _
      refine XS.dload X158.here hx rfl (hb hby at_213) rfl ?_
      show Steps p.tables e below (T158.setTop (mkF m 215 #[.val (.long q0), .second, .val (.long q1), .second, .val (.int p0), .val (.int p1), .val (.int p2), .val (.int (1 : Int32)), .val (.long la0), .second, .val (.long la1), .second, .val (.long la2), .second, .val (.long lb0), .second, .val (.long lb1), .second, .val (.long lb2), .second, .val (.ref b126), .val (.ref b132), .val (.long r1), .second, .val (.double d1), .second, .val (.double d2), .second] [(.double d2)])) _
      refine XS.lload X158.here hx rfl (hb hby at_215) rfl ?_
      show Steps p.tables e below (T158.setTop (mkF m 217 #[.val (.long q0), .second, .val (.long q1), .second, .val (.int p0), .val (.int p1), .val (.int p2), .val (.int (1 : Int32)), .val (.long la0), .second, .val (.long la1), .second, .val (.long la2), .second, .val (.long lb0), .second, .val (.long lb1), .second, .val (.long lb2), .second, .val (.ref b126), .val (.ref b132), .val (.long r1), .second, .val (.double d1), .second, .val (.double d2), .second] [(.long r1), (.double d2)])) _
      refine XS.l2dS X158.here hx rfl (hb hby at_217) rfl hwant2 ?_
      show Steps p.tables e below (T158.setTop (mkF m 218 #[.val (.long q0), .second, .val (.long q1), .second, .val (.int p0), .val (.int p1), .val (.int p2), .val (.int (1 : Int32)), .val (.long la0), .second, .val (.long la1), .second, .val (.long la2), .second, .val (.long lb0), .second, .val (.long lb1), .second, .val (.long lb2), .second, .val (.ref b126), .val (.ref b132), .val (.long r1), .second, .val (.double d1), .second, .val (.double d2), .second] [(.double want2), (.double d2)])) _
      refine XS.dcmpS X158.here hx rfl (hb hby at_218) rfl rfl ?_
      show Steps p.tables e below (T158.setTop (mkF m 219 #[.val (.long q0), .second, .val (.long q1), .second, .val (.int p0), .val (.int p1), .val (.int p2), .val (.int (1 : Int32)), .val (.long la0), .second, .val (.long la1), .second, .val (.long la2), .second, .val (.long lb0), .second, .val (.long lb1), .second, .val (.long lb2), .second, .val (.ref b126), .val (.ref b132), .val (.long r1), .second, .val (.double d1), .second, .val (.double d2), .second] [(.int (cmpValue (FP.dcmp d2 want2) .l))])) _
      refine XS.ifNo X158.here hx rfl (hb hby at_219) rfl ((if0 _ _).trans (teq hf2).2) ?_
      show Steps p.tables e below (T158.setTop (mkF m 222 #[.val (.long q0), .second, .val (.long q1), .second, .val (.int p0), .val (.int p1), .val (.int p2), .val (.int (1 : Int32)), .val (.long la0), .second, .val (.long la1), .second, .val (.long la2), .second, .val (.long lb0), .second, .val (.long lb1), .second, .val (.long lb2), .second, .val (.ref b126), .val (.ref b132), .val (.long r1), .second, .val (.double d1), .second, .val (.double d2), .second] [])) _
      refine XS.iconst X158.here hx rfl (hb hby at_222) ?_
      show Steps p.tables e below (T158.setTop (mkF m 223 #[.val (.long q0), .second, .val (.long q1), .second, .val (.int p0), .val (.int p1), .val (.int p2), .val (.int (1 : Int32)), .val (.long la0), .second, .val (.long la1), .second, .val (.long la2), .second, .val (.long lb0), .second, .val (.long lb1), .second, .val (.long lb2), .second, .val (.ref b126), .val (.ref b132), .val (.long r1), .second, .val (.double d1), .second, .val (.double d2), .second] [(.int (1 : Int32))])) _
      refine XS.goto X158.here hx rfl (pc0 := 223) (pc' := 227) rfl (hb hby at_223) (by decide) (by decide) ?_
      exact k)
    obtain ⟨fs, hr, hrun, hended, hW, hsame⟩ := X158.leave (v := some (.int (1 : Int32))) (fun h => by rw [Bd.returns] at h; cases h)
    refine ⟨_, _, k161 _ (retOut X158 hx (t := .boolean) Bd.returns rfl (Or.inl ⟨rfl, Or.inr (Or.inl rfl), _, rfl⟩) (hb hby at_227) hr), hrun, hended, _, _, rfl, ?_, ⟨_, rfl⟩, hW, hsame.mono (by decide) (by decide)⟩
    show Q_rm0 Z q0 q1 p0 p1 p2 h0 n0 _ T158.heap _
    rw [e158]
    exact ⟨rfl, N159⟩
  · have k162 : ∀ t, Steps p.tables e below (s₁.setTop (mkF m 65 #[.val (.long q0), .second, .val (.long q1), .second, .val (.int p0), .val (.int p1), .val (.int p2), .val (.int (2 : Int32)), .val (.long la0), .second, .val (.long la1), .second, .val (.long la2), .second, .val (.long lb0), .second, .val (.long lb1), .second, .val (.long lb2), .second, .unset, .unset, .unset, .unset, .unset, .unset, .unset, .unset] [(.int (2 : Int32))])) t → Steps p.tables e below (s₁.setTop (entryFrame m #[(.long q0), (.long q1), (.int p0), (.int p1), (.int p2)] maxLocals)) t := fun t k => k101 t (by
      show Steps p.tables e below (s₁.setTop (mkF m 63 #[.val (.long q0), .second, .val (.long q1), .second, .val (.int p0), .val (.int p1), .val (.int p2), .val (.int (2 : Int32)), .val (.long la0), .second, .val (.long la1), .second, .val (.long la2), .second, .val (.long lb0), .second, .val (.long lb1), .second, .val (.long lb2), .second, .unset, .unset, .unset, .unset, .unset, .unset, .unset, .unset] [])) _
      refine XS.iload X0.here hx rfl (hb hby at_63) rfl ?_
      exact k)
    obtain ⟨T163, h163, k163, X163, e163, E163, A163, st163⟩ := newP X0 hx hZ (hw _ (List.mem_of_getElem? (i := 1) rfl)) e0 (g := (mkF m 65 #[.val (.long q0), .second, .val (.long q1), .second, .val (.int p0), .val (.int p1), .val (.int p2), .val (.int (2 : Int32)), .val (.long la0), .second, .val (.long la1), .second, .val (.long la2), .second, .val (.long lb0), .second, .val (.long lb1), .second, .val (.long lb2), .second, .unset, .unset, .unset, .unset, .unset, .unset, .unset, .unset] [(.int (2 : Int32))])) rfl (hb hby at_65) rfl (by decide) (cap := 2) (by decide) (by decide) (by decide) (by decide)
    obtain ⟨b163, g163⟩ : ∃ z, z = h0.size := ⟨_, rfl⟩
    rw [← g163] at A163 st163
    have g164 : n0 ≤ b163 := Nat.le_trans Z0 (Nat.le_of_eq g163.symm)
    have Z165 : n0 ≤ h163.size := Nat.le_trans Z0 E163.1
    have V166 : Arv Z h163 b163 k163 .double (2 : Int32) [(.double (0 : UInt64)), (.double (0 : UInt64))] (.double (0 : UInt64)) := (Arv.new A163 (by decide)).pad (pad_rep [] (.double (0 : UInt64)) 2)
    have k167 : ∀ t, Steps p.tables e below (T163.setTop (mkF m 67 #[.val (.long q0), .second, .val (.long q1), .second, .val (.int p0), .val (.int p1), .val (.int p2), .val (.int (2 : Int32)), .val (.long la0), .second, .val (.long la1), .second, .val (.long la2), .second, .val (.long lb0), .second, .val (.long lb1), .second, .val (.long lb2), .second, .unset, .unset, .unset, .unset, .unset, .unset, .unset, .unset] [(.ref b163)])) t → Steps p.tables e below (s₁.setTop (entryFrame m #[(.long q0), (.long q1), (.int p0), (.int p1), (.int p2)] maxLocals)) t := fun t k => k162 t (st163 t k)
    have k168 : ∀ t, Steps p.tables e below (T163.setTop (mkF m 71 #[.val (.long q0), .second, .val (.long q1), .second, .val (.int p0), .val (.int p1), .val (.int p2), .val (.int (2 : Int32)), .val (.long la0), .second, .val (.long la1), .second, .val (.long la2), .second, .val (.long lb0), .second, .val (.long lb1), .second, .val (.long lb2), .second, .val (.ref b163), .unset, .unset, .unset, .unset, .unset, .unset, .unset] [(.int (2 : Int32))])) t → Steps p.tables e below (s₁.setTop (entryFrame m #[(.long q0), (.long q1), (.int p0), (.int p1), (.int p2)] maxLocals)) t := fun t k => k167 t (by
      show Steps p.tables e below (T163.setTop (mkF m 67 #[.val (.long q0), .second, .val (.long q1), .second, .val (.int p0), .val (.int p1), .val (.int p2), .val (.int (2 : Int32)), .val (.long la0), .second, .val (.long la1), .second, .val (.long la2), .second, .val (.long lb0), .second, .val (.long lb1), .second, .val (.long lb2), .second, .unset, .unset, .unset, .unset, .unset, .unset, .unset, .unset] [(.ref b163)])) _
      refine XS.astore X163.here hx rfl (hb hby at_67) rfl rfl (l' := #[.val (.long q0), .second, .val (.long q1), .second, .val (.int p0), .val (.int p1), .val (.int p2), .val (.int (2 : Int32)), .val (.long la0), .second, .val (.long la1), .second, .val (.long la2), .second, .val (.long lb0), .second, .val (.long lb1), .second, .val (.long lb2), .second, .val (.ref b163), .unset, .unset, .unset, .unset, .unset, .unset, .unset]) rfl ?_
      show Steps p.tables e below (T163.setTop (mkF m 69 #[.val (.long q0), .second, .val (.long q1), .second, .val (.int p0), .val (.int p1), .val (.int p2), .val (.int (2 : Int32)), .val (.long la0), .second, .val (.long la1), .second, .val (.long la2), .second, .val (.long lb0), .second, .val (.long lb1), .second, .val (.long lb2), .second, .val (.ref b163), .unset, .unset, .unset, .unset, .unset, .unset, .unset] [])) _
      refine XS.iload X163.here hx rfl (hb hby at_69) rfl ?_
      exact k)
    obtain ⟨T169, h169, k169, X169, e169, E169, A169, st169⟩ := newP X163 hx hZ (hw _ (List.mem_of_getElem? (i := 1) rfl)) e163 (g := (mkF m 71 #[.val (.long q0), .second, .val (.long q1), .second, .val (.int p0), .val (.int p1), .val (.int p2), .val (.int (2 : Int32)), .val (.long la0), .second, .val (.long la1), .second, .val (.long la2), .second, .val (.long lb0), .second, .val (.long lb1), .second, .val (.long lb2), .second, .val (.ref b163), .unset, .unset, .unset, .unset, .unset, .unset, .unset] [(.int (2 : Int32))])) rfl (hb hby at_71) rfl (by decide) (cap := 2) (by decide) (by decide) (by decide) (by decide)
    obtain ⟨b169, g169⟩ : ∃ z, z = h163.size := ⟨_, rfl⟩
    rw [← g169] at A169 st169
    have n170 : b163 ≠ b169 := Nat.ne_of_lt (Nat.lt_of_lt_of_le V166.lt (Nat.le_of_eq g169.symm))
    have g171 : n0 ≤ b169 := Nat.le_trans Z165 (Nat.le_of_eq g169.symm)
    have F172 := V166.ext E169
    have Z173 : n0 ≤ h169.size := Nat.le_trans Z165 E169.1
    have V174 : Arv Z h169 b169 k169 .double (2 : Int32) [(.double (0 : UInt64)), (.double (0 : UInt64))] (.double (0 : UInt64)) := (Arv.new A169 (by decide)).pad (pad_rep [] (.double (0 : UInt64)) 2)
    have k175 : ∀ t, Steps p.tables e below (T169.setTop (mkF m 73 #[.val (.long q0), .second, .val (.long q1), .second, .val (.int p0), .val (.int p1), .val (.int p2), .val (.int (2 : Int32)), .val (.long la0), .second, .val (.long la1), .second, .val (.long la2), .second, .val (.long lb0), .second, .val (.long lb1), .second, .val (.long lb2), .second, .val (.ref b163), .unset, .unset, .unset, .unset, .unset, .unset, .unset] [(.ref b169)])) t → Steps p.tables e below (s₁.setTop (entryFrame m #[(.long q0), (.long q1), (.int p0), (.int p1), (.int p2)] maxLocals)) t := fun t k => k168 t (st169 t k)
    obtain ⟨vla0, hvla0⟩ : ∃ z : UInt64, FP.l2d la0 = z := ⟨_, rfl⟩
    have Dvla0 : Dy (la0.toInt) (0) vla0 := by rw [← hvla0]; exact Dy.l2d (by omega)
    have k176 : ∀ t, Steps p.tables e below (T169.setTop (mkF m 90 #[.val (.long q0), .second, .val (.long q1), .second, .val (.int p0), .val (.int p1), .val (.int p2), .val (.int (2 : Int32)), .val (.long la0), .second, .val (.long la1), .second, .val (.long la2), .second, .val (.long lb0), .second, .val (.long lb1), .second, .val (.long lb2), .second, .val (.ref b163), .val (.ref b169), .val (.long (0 : Int64)), .second, .unset, .unset, .unset, .unset] [(.double vla0), (.int (0 : Int32)), (.ref b163)])) t → Steps p.tables e below (s₁.setTop (entryFrame m #[(.long q0), (.long q1), (.int p0), (.int p1), (.int p2)] maxLocals)) t := fun t k => k175 t (by
      show Steps p.tables e below (T169.setTop (mkF m 73 #[.val (.long q0), .second, .val (.long q1), .second, .val (.int p0), .val (.int p1), .val (.int p2), .val (.int (2 : Int32)), .val (.long la0), .second, .val (.long la1), .second, .val (.long la2), .second, .val (.long lb0), .second, .val (.long lb1), .second, .val (.long lb2), .second, .val (.ref b163), .unset, .unset, .unset, .unset, .unset, .unset, .unset] [(.ref b169)])) _
      refine XS.astore X169.here hx rfl (hb hby at_73) rfl rfl (l' := #[.val (.long q0), .second, .val (.long q1), .second, .val (.int p0), .val (.int p1), .val (.int p2), .val (.int (2 : Int32)), .val (.long la0), .second, .val (.long la1), .second, .val (.long la2), .second, .val (.long lb0), .second, .val (.long lb1), .second, .val (.long lb2), .second, .val (.ref b163), .val (.ref b169), .unset, .unset, .unset, .unset, .unset, .unset]) rfl ?_
      show Steps p.tables e below (T169.setTop (mkF m 75 #[.val (.long q0), .second, .val (.long q1), .second, .val (.int p0), .val (.int p1), .val (.int p2), .val (.int (2 : Int32)), .val (.long la0), .second, .val (.long la1), .second, .val (.long la2), .second, .val (.long lb0), .second, .val (.long lb1), .second, .val (.long lb2), .second, .val (.ref b163), .val (.ref b169), .unset, .unset, .unset, .unset, .unset, .unset] [])) _
      refine XS.lconst X169.here hx rfl (hb hby at_75) ?_
      show Steps p.tables e below (T169.setTop (mkF m 76 #[.val (.long q0), .second, .val (.long q1), .second, .val (.int p0), .val (.int p1), .val (.int p2), .val (.int (2 : Int32)), .val (.long la0), .second, .val (.long la1), .second, .val (.long la2), .second, .val (.long lb0), .second, .val (.long lb1), .second, .val (.long lb2), .second, .val (.ref b163), .val (.ref b169), .unset, .unset, .unset, .unset, .unset, .unset] [(.long (0 : Int64))])) _
      refine XS.lstore X169.here hx rfl (hb hby at_76) rfl (l' := #[.val (.long q0), .second, .val (.long q1), .second, .val (.int p0), .val (.int p1), .val (.int p2), .val (.int (2 : Int32)), .val (.long la0), .second, .val (.long la1), .second, .val (.long la2), .second, .val (.long lb0), .second, .val (.long lb1), .second, .val (.long lb2), .second, .val (.ref b163), .val (.ref b169), .val (.long (0 : Int64)), .second, .unset, .unset, .unset, .unset]) rfl ?_
      show Steps p.tables e below (T169.setTop (mkF m 78 #[.val (.long q0), .second, .val (.long q1), .second, .val (.int p0), .val (.int p1), .val (.int p2), .val (.int (2 : Int32)), .val (.long la0), .second, .val (.long la1), .second, .val (.long la2), .second, .val (.long lb0), .second, .val (.long lb1), .second, .val (.long lb2), .second, .val (.ref b163), .val (.ref b169), .val (.long (0 : Int64)), .second, .unset, .unset, .unset, .unset] [])) _
      refine XS.iload X169.here hx rfl (hb hby at_78) rfl ?_
      show Steps p.tables e below (T169.setTop (mkF m 80 #[.val (.long q0), .second, .val (.long q1), .second, .val (.int p0), .val (.int p1), .val (.int p2), .val (.int (2 : Int32)), .val (.long la0), .second, .val (.long la1), .second, .val (.long la2), .second, .val (.long lb0), .second, .val (.long lb1), .second, .val (.long lb2), .second, .val (.ref b163), .val (.ref b169), .val (.long (0 : Int64)), .second, .unset, .unset, .unset, .unset] [(.int (2 : Int32))])) _
      refine XS.iconst X169.here hx rfl (hb hby at_80) ?_
      show Steps p.tables e below (T169.setTop (mkF m 81 #[.val (.long q0), .second, .val (.long q1), .second, .val (.int p0), .val (.int p1), .val (.int p2), .val (.int (2 : Int32)), .val (.long la0), .second, .val (.long la1), .second, .val (.long la2), .second, .val (.long lb0), .second, .val (.long lb1), .second, .val (.long lb2), .second, .val (.ref b163), .val (.ref b169), .val (.long (0 : Int64)), .second, .unset, .unset, .unset, .unset] [(.int (1 : Int32)), (.int (2 : Int32))])) _
      refine XS.icmpNo X169.here hx rfl (hb hby at_81) rfl (flt (by decide)).1 ?_
      show Steps p.tables e below (T169.setTop (mkF m 84 #[.val (.long q0), .second, .val (.long q1), .second, .val (.int p0), .val (.int p1), .val (.int p2), .val (.int (2 : Int32)), .val (.long la0), .second, .val (.long la1), .second, .val (.long la2), .second, .val (.long lb0), .second, .val (.long lb1), .second, .val (.long lb2), .second, .val (.ref b163), .val (.ref b169), .val (.long (0 : Int64)), .second, .unset, .unset, .unset, .unset] [])) _
      refine XS.aload X169.here hx rfl (hb hby at_84) rfl rfl ?_
      show Steps p.tables e below (T169.setTop (mkF m 86 #[.val (.long q0), .second, .val (.long q1), .second, .val (.int p0), .val (.int p1), .val (.int p2), .val (.int (2 : Int32)), .val (.long la0), .second, .val (.long la1), .second, .val (.long la2), .second, .val (.long lb0), .second, .val (.long lb1), .second, .val (.long lb2), .second, .val (.ref b163), .val (.ref b169), .val (.long (0 : Int64)), .second, .unset, .unset, .unset, .unset] [(.ref b163)])) _
      refine XS.iconst X169.here hx rfl (hb hby at_86) ?_
      show Steps p.tables e below (T169.setTop (mkF m 87 #[.val (.long q0), .second, .val (.long q1), .second, .val (.int p0), .val (.int p1), .val (.int p2), .val (.int (2 : Int32)), .val (.long la0), .second, .val (.long la1), .second, .val (.long la2), .second, .val (.long lb0), .second, .val (.long lb1), .second, .val (.long lb2), .second, .val (.ref b163), .val (.ref b169), .val (.long (0 : Int64)), .second, .unset, .unset, .unset, .unset] [(.int (0 : Int32)), (.ref b163)])) _
      refine XS.lload X169.here hx rfl (hb hby at_87) rfl ?_
      show Steps p.tables e below (T169.setTop (mkF m 89 #[.val (.long q0), .second, .val (.long q1), .second, .val (.int p0), .val (.int p1), .val (.int p2), .val (.int (2 : Int32)), .val (.long la0), .second, .val (.long la1), .second, .val (.long la2), .second, .val (.long lb0), .second, .val (.long lb1), .second, .val (.long lb2), .second, .val (.ref b163), .val (.ref b169), .val (.long (0 : Int64)), .second, .unset, .unset, .unset, .unset] [(.long la0), (.int (0 : Int32)), (.ref b163)])) _
      refine XS.l2dS X169.here hx rfl (hb hby at_89) rfl hvla0 ?_
      exact k)
    obtain ⟨c177, Ar177, Aq177, As177, An177, Ah177, Ag177⟩ := id F172
    have hin177 : ¬ ((0 : Int32) < 0 ∨ c177.slots.size ≤ ((0 : Int32)).toNatClampNeg) := inb_of As177 ⟨by decide, by decide⟩
    obtain ⟨T177, h177, X177, e177, W177, st177⟩ := stD X169 hx hZ e169 Ar177 (j := (0 : Int32)) hin177 (g := (mkF m 90 #[.val (.long q0), .second, .val (.long q1), .second, .val (.int p0), .val (.int p1), .val (.int p2), .val (.int (2 : Int32)), .val (.long la0), .second, .val (.long la1), .second, .val (.long la2), .second, .val (.long lb0), .second, .val (.long lb1), .second, .val (.long lb2), .second, .val (.ref b163), .val (.ref b169), .val (.long (0 : Int64)), .second, .unset, .unset, .unset, .unset] [(.double vla0), (.int (0 : Int32)), (.ref b163)])) rfl rfl (hb hby at_90)
    have V178 := Arv.set Ar177 Aq177 As177 An177 Ah177 Ag177 rfl W177 0 rfl (Nat.le_of_ble_eq_true rfl)
    have F179 := V174.other W177 (Ne.symm n170)
    have Z180 : n0 ≤ h177.size := Nat.le_trans Z173 (Nat.le_of_eq W177.size.symm)
    have N181 := Fr.snoc X177 N0 g164
    have k182 : ∀ t, Steps p.tables e below (T177.setTop (mkF m 91 #[.val (.long q0), .second, .val (.long q1), .second, .val (.int p0), .val (.int p1), .val (.int p2), .val (.int (2 : Int32)), .val (.long la0), .second, .val (.long la1), .second, .val (.long la2), .second, .val (.long lb0), .second, .val (.long lb1), .second, .val (.long lb2), .second, .val (.ref b163), .val (.ref b169), .val (.long (0 : Int64)), .second, .unset, .unset, .unset, .unset] [])) t → Steps p.tables e below (s₁.setTop (entryFrame m #[(.long q0), (.long q1), (.int p0), (.int p1), (.int p2)] maxLocals)) t := fun t k => k176 t (st177 t k)
    obtain ⟨vlb0, hvlb0⟩ : ∃ z : UInt64, FP.l2d lb0 = z := ⟨_, rfl⟩
    have Dvlb0 : Dy (lb0.toInt) (0) vlb0 := by rw [← hvlb0]; exact Dy.l2d (by omega)
    have k183 : ∀ t, Steps p.tables e below (T177.setTop (mkF m 97 #[.val (.long q0), .second, .val (.long q1), .second, .val (.int p0), .val (.int p1), .val (.int p2), .val (.int (2 : Int32)), .val (.long la0), .second, .val (.long la1), .second, .val (.long la2), .second, .val (.long lb0), .second, .val (.long lb1), .second, .val (.long lb2), .second, .val (.ref b163), .val (.ref b169), .val (.long (0 : Int64)), .second, .unset, .unset, .unset, .unset] [(.double vlb0), (.int (0 : Int32)), (.ref b169)])) t → Steps p.tables e below (s₁.setTop (entryFrame m #[(.long q0), (.long q1), (.int p0), (.int p1), (.int p2)] maxLocals)) t := fun t k => k182 t (by
      show Steps p.tables e below (T177.setTop (mkF m 91 #[.val (.long q0), .second, .val (.long q1), .second, .val (.int p0), .val (.int p1), .val (.int p2), .val (.int (2 : Int32)), .val (.long la0), .second, .val (.long la1), .second, .val (.long la2), .second, .val (.long lb0), .second, .val (.long lb1), .second, .val (.long lb2), .second, .val (.ref b163), .val (.ref b169), .val (.long (0 : Int64)), .second, .unset, .unset, .unset, .unset] [])) _
      refine XS.aload X177.here hx rfl (hb hby at_91) rfl rfl ?_
      show Steps p.tables e below (T177.setTop (mkF m 93 #[.val (.long q0), .second, .val (.long q1), .second, .val (.int p0), .val (.int p1), .val (.int p2), .val (.int (2 : Int32)), .val (.long la0), .second, .val (.long la1), .second, .val (.long la2), .second, .val (.long lb0), .second, .val (.long lb1), .second, .val (.long lb2), .second, .val (.ref b163), .val (.ref b169), .val (.long (0 : Int64)), .second, .unset, .unset, .unset, .unset] [(.ref b169)])) _
      refine XS.iconst X177.here hx rfl (hb hby at_93) ?_
      show Steps p.tables e below (T177.setTop (mkF m 94 #[.val (.long q0), .second, .val (.long q1), .second, .val (.int p0), .val (.int p1), .val (.int p2), .val (.int (2 : Int32)), .val (.long la0), .second, .val (.long la1), .second, .val (.long la2), .second, .val (.long lb0), .second, .val (.long lb1), .second, .val (.long lb2), .second, .val (.ref b163), .val (.ref b169), .val (.long (0 : Int64)), .second, .unset, .unset, .unset, .unset] [(.int (0 : Int32)), (.ref b169)])) _
      refine XS.lload X177.here hx rfl (hb hby at_94) rfl ?_
      show Steps p.tables e below (T177.setTop (mkF m 96 #[.val (.long q0), .second, .val (.long q1), .second, .val (.int p0), .val (.int p1), .val (.int p2), .val (.int (2 : Int32)), .val (.long la0), .second, .val (.long la1), .second, .val (.long la2), .second, .val (.long lb0), .second, .val (.long lb1), .second, .val (.long lb2), .second, .val (.ref b163), .val (.ref b169), .val (.long (0 : Int64)), .second, .unset, .unset, .unset, .unset] [(.long lb0), (.int (0 : Int32)), (.ref b169)])) _
      refine XS.l2dS X177.here hx rfl (hb hby at_96) rfl hvlb0 ?_
      exact k)
    obtain ⟨c184, Ar184, Aq184, As184, An184, Ah184, Ag184⟩ := id F179
    have hin184 : ¬ ((0 : Int32) < 0 ∨ c184.slots.size ≤ ((0 : Int32)).toNatClampNeg) := inb_of As184 ⟨by decide, by decide⟩
    obtain ⟨T184, h184, X184, e184, W184, st184⟩ := stD X177 hx hZ e177 Ar184 (j := (0 : Int32)) hin184 (g := (mkF m 97 #[.val (.long q0), .second, .val (.long q1), .second, .val (.int p0), .val (.int p1), .val (.int p2), .val (.int (2 : Int32)), .val (.long la0), .second, .val (.long la1), .second, .val (.long la2), .second, .val (.long lb0), .second, .val (.long lb1), .second, .val (.long lb2), .second, .val (.ref b163), .val (.ref b169), .val (.long (0 : Int64)), .second, .unset, .unset, .unset, .unset] [(.double vlb0), (.int (0 : Int32)), (.ref b169)])) rfl rfl (hb hby at_97)
    have V185 := Arv.set Ar184 Aq184 As184 An184 Ah184 Ag184 rfl W184 0 rfl (Nat.le_of_ble_eq_true rfl)
    have F186 := V178.other W184 n170
    have Z187 : n0 ≤ h184.size := Nat.le_trans Z180 (Nat.le_of_eq W184.size.symm)
    have N188 := Fr.snoc X184 N181 g171
    have k189 : ∀ t, Steps p.tables e below (T184.setTop (mkF m 98 #[.val (.long q0), .second, .val (.long q1), .second, .val (.int p0), .val (.int p1), .val (.int p2), .val (.int (2 : Int32)), .val (.long la0), .second, .val (.long la1), .second, .val (.long la2), .second, .val (.long lb0), .second, .val (.long lb1), .second, .val (.long lb2), .second, .val (.ref b163), .val (.ref b169), .val (.long (0 : Int64)), .second, .unset, .unset, .unset, .unset] [])) t → Steps p.tables e below (s₁.setTop (entryFrame m #[(.long q0), (.long q1), (.int p0), (.int p1), (.int p2)] maxLocals)) t := fun t k => k183 t (st184 t k)
    obtain ⟨r1, hr1⟩ : ∃ z : Int64, z = ((0 : Int64) + ((la0 - lb0) * (la0 - lb0))) := ⟨_, rfl⟩
    obtain ⟨vla1, hvla1⟩ : ∃ z : UInt64, FP.l2d la1 = z := ⟨_, rfl⟩
    have Dvla1 : Dy (la1.toInt) (0) vla1 := by rw [← hvla1]; exact Dy.l2d (by omega)
    have k190 : ∀ t, Steps p.tables e below (T184.setTop (mkF m 126 #[.val (.long q0), .second, .val (.long q1), .second, .val (.int p0), .val (.int p1), .val (.int p2), .val (.int (2 : Int32)), .val (.long la0), .second, .val (.long la1), .second, .val (.long la2), .second, .val (.long lb0), .second, .val (.long lb1), .second, .val (.long lb2), .second, .val (.ref b163), .val (.ref b169), .val (.long r1), .second, .unset, .unset, .unset, .unset] [(.double vla1), (.int (1 : Int32)), (.ref b163)])) t → Steps p.tables e below (s₁.setTop (entryFrame m #[(.long q0), (.long q1), (.int p0), (.int p1), (.int p2)] maxLocals)) t := fun t k => k189 t (by
      show Steps p.tables e below (T184.setTop (mkF m 98 #[.val (.long q0), .second, .val (.long q1), .second, .val (.int p0), .val (.int p1), .val (.int p2), .val (.int (2 : Int32)), .val (.long la0), .second, .val (.long la1), .second, .val (.long la2), .second, .val (.long lb0), .second, .val (.long lb1), .second, .val (.long lb2), .second, .val (.ref b163), .val (.ref b169), .val (.long (0 : Int64)), .second, .unset, .unset, .unset, .unset] [])) _
      refine XS.lload X184.here hx rfl (hb hby at_98) rfl ?_
      show Steps p.tables e below (T184.setTop (mkF m 100 #[.val (.long q0), .second, .val (.long q1), .second, .val (.int p0), .val (.int p1), .val (.int p2), .val (.int (2 : Int32)), .val (.long la0), .second, .val (.long la1), .second, .val (.long la2), .second, .val (.long lb0), .second, .val (.long lb1), .second, .val (.long lb2), .second, .val (.ref b163), .val (.ref b169), .val (.long (0 : Int64)), .second, .unset, .unset, .unset, .unset] [(.long (0 : Int64))])) _
      refine XS.lload X184.here hx rfl (hb hby at_100) rfl ?_
      show Steps p.tables e below (T184.setTop (mkF m 102 #[.val (.long q0), .second, .val (.long q1), .second, .val (.int p0), .val (.int p1), .val (.int p2), .val (.int (2 : Int32)), .val (.long la0), .second, .val (.long la1), .second, .val (.long la2), .second, .val (.long lb0), .second, .val (.long lb1), .second, .val (.long lb2), .second, .val (.ref b163), .val (.ref b169), .val (.long (0 : Int64)), .second, .unset, .unset, .unset, .unset] [(.long la0), (.long (0 : Int64))])) _
      refine XS.lload X184.here hx rfl (hb hby at_102) rfl ?_
      show Steps p.tables e below (T184.setTop (mkF m 104 #[.val (.long q0), .second, .val (.long q1), .second, .val (.int p0), .val (.int p1), .val (.int p2), .val (.int (2 : Int32)), .val (.long la0), .second, .val (.long la1), .second, .val (.long la2), .second, .val (.long lb0), .second, .val (.long lb1), .second, .val (.long lb2), .second, .val (.ref b163), .val (.ref b169), .val (.long (0 : Int64)), .second, .unset, .unset, .unset, .unset] [(.long lb0), (.long la0), (.long (0 : Int64))])) _
      refine XS.lsub X184.here hx rfl (hb hby at_104) rfl ?_
      show Steps p.tables e below (T184.setTop (mkF m 105 #[.val (.long q0), .second, .val (.long q1), .second, .val (.int p0), .val (.int p1), .val (.int p2), .val (.int (2 : Int32)), .val (.long la0), .second, .val (.long la1), .second, .val (.long la2), .second, .val (.long lb0), .second, .val (.long lb1), .second, .val (.long lb2), .second, .val (.ref b163), .val (.ref b169), .val (.long (0 : Int64)), .second, .unset, .unset, .unset, .unset] [(.long (la0 - lb0)), (.long (0 : Int64))])) _
      refine XS.lload X184.here hx rfl (hb hby at_105) rfl ?_
      show Steps p.tables e below (T184.setTop (mkF m 107 #[.val (.long q0), .second, .val (.long q1), .second, .val (.int p0), .val (.int p1), .val (.int p2), .val (.int (2 : Int32)), .val (.long la0), .second, .val (.long la1), .second, .val (.long la2), .second, .val (.long lb0), .second, .val (.long lb1), .second, .val (.long lb2), .second, .val (.ref b163), .val (.ref b169), .val (.long (0 : Int64)), .second, .unset, .unset, .unset, .unset] [(.long la0), (.long (la0 - lb0)), (.long (0 : Int64))])) _
      refine XS.lload X184.here hx rfl (hb hby at_107) rfl ?_
      show Steps p.tables e below (T184.setTop (mkF m 109 #[.val (.long q0), .second, .val (.long q1), .second, .val (.int p0), .val (.int p1), .val (.int p2), .val (.int (2 : Int32)), .val (.long la0), .second, .val (.long la1), .second, .val (.long la2), .second, .val (.long lb0), .second, .val (.long lb1), .second, .val (.long lb2), .second, .val (.ref b163), .val (.ref b169), .val (.long (0 : Int64)), .second, .unset, .unset, .unset, .unset] [(.long lb0), (.long la0), (.long (la0 - lb0)), (.long (0 : Int64))])) _
      refine XS.lsub X184.here hx rfl (hb hby at_109) rfl ?_
      show Steps p.tables e below (T184.setTop (mkF m 110 #[.val (.long q0), .second, .val (.long q1), .second, .val (.int p0), .val (.int p1), .val (.int p2), .val (.int (2 : Int32)), .val (.long la0), .second, .val (.long la1), .second, .val (.long la2), .second, .val (.long lb0), .second, .val (.long lb1), .second, .val (.long lb2), .second, .val (.ref b163), .val (.ref b169), .val (.long (0 : Int64)), .second, .unset, .unset, .unset, .unset] [(.long (la0 - lb0)), (.long (la0 - lb0)), (.long (0 : Int64))])) _
      refine XS.lmul X184.here hx rfl (hb hby at_110) rfl ?_
      show Steps p.tables e below (T184.setTop (mkF m 111 #[.val (.long q0), .second, .val (.long q1), .second, .val (.int p0), .val (.int p1), .val (.int p2), .val (.int (2 : Int32)), .val (.long la0), .second, .val (.long la1), .second, .val (.long la2), .second, .val (.long lb0), .second, .val (.long lb1), .second, .val (.long lb2), .second, .val (.ref b163), .val (.ref b169), .val (.long (0 : Int64)), .second, .unset, .unset, .unset, .unset] [(.long ((la0 - lb0) * (la0 - lb0))), (.long (0 : Int64))])) _
      refine XS.ladd X184.here hx rfl (hb hby at_111) rfl ?_
      show Steps p.tables e below (T184.setTop (mkF m 112 #[.val (.long q0), .second, .val (.long q1), .second, .val (.int p0), .val (.int p1), .val (.int p2), .val (.int (2 : Int32)), .val (.long la0), .second, .val (.long la1), .second, .val (.long la2), .second, .val (.long lb0), .second, .val (.long lb1), .second, .val (.long lb2), .second, .val (.ref b163), .val (.ref b169), .val (.long (0 : Int64)), .second, .unset, .unset, .unset, .unset] [(.long ((0 : Int64) + ((la0 - lb0) * (la0 - lb0))))])) _
      refine castTop (g' := (mkF m 112 #[.val (.long q0), .second, .val (.long q1), .second, .val (.int p0), .val (.int p1), .val (.int p2), .val (.int (2 : Int32)), .val (.long la0), .second, .val (.long la1), .second, .val (.long la2), .second, .val (.long lb0), .second, .val (.long lb1), .second, .val (.long lb2), .second, .val (.ref b163), .val (.ref b169), .val (.long (0 : Int64)), .second, .unset, .unset, .unset, .unset] [(.long r1)])) (by rw [hr1]) ?_
      show Steps p.tables e below (T184.setTop (mkF m 112 #[.val (.long q0), .second, .val (.long q1), .second, .val (.int p0), .val (.int p1), .val (.int p2), .val (.int (2 : Int32)), .val (.long la0), .second, .val (.long la1), .second, .val (.long la2), .second, .val (.long lb0), .second, .val (.long lb1), .second, .val (.long lb2), .second, .val (.ref b163), .val (.ref b169), .val (.long (0 : Int64)), .second, .unset, .unset, .unset, .unset] [(.long r1)])) _
      refine XS.lstore X184.here hx rfl (hb hby at_112) rfl (l' := #[.val (.long q0), .second, .val (.long q1), .second, .val (.int p0), .val (.int p1), .val (.int p2), .val (.int (2 : Int32)), .val (.long la0), .second, .val (.long la1), .second, .val (.long la2), .second, .val (.long lb0), .second, .val (.long lb1), .second, .val (.long lb2), .second, .val (.ref b163), .val (.ref b169), .val (.long r1), .second, .unset, .unset, .unset, .unset]) rfl ?_
      show Steps p.tables e below (T184.setTop (mkF m 114 #[.val (.long q0), .second, .val (.long q1), .second, .val (.int p0), .val (.int p1), .val (.int p2), .val (.int (2 : Int32)), .val (.long la0), .second, .val (.long la1), .second, .val (.long la2), .second, .val (.long lb0), .second, .val (.long lb1), .second, .val (.long lb2), .second, .val (.ref b163), .val (.ref b169), .val (.long r1), .second, .unset, .unset, .unset, .unset] [])) _
      refine XS.iload X184.here hx rfl (hb hby at_114) rfl ?_
      show Steps p.tables e below (T184.setTop (mkF m 116 #[.val (.long q0), .second, .val (.long q1), .second, .val (.int p0), .val (.int p1), .val (.int p2), .val (.int (2 : Int32)), .val (.long la0), .second, .val (.long la1), .second, .val (.long la2), .second, .val (.long lb0), .second, .val (.long lb1), .second, .val (.long lb2), .second, .val (.ref b163), .val (.ref b169), .val (.long r1), .second, .unset, .unset, .unset, .unset] [(.int (2 : Int32))])) _
      refine XS.iconst X184.here hx rfl (hb hby at_116) ?_
      show Steps p.tables e below (T184.setTop (mkF m 117 #[.val (.long q0), .second, .val (.long q1), .second, .val (.int p0), .val (.int p1), .val (.int p2), .val (.int (2 : Int32)), .val (.long la0), .second, .val (.long la1), .second, .val (.long la2), .second, .val (.long lb0), .second, .val (.long lb1), .second, .val (.long lb2), .second, .val (.ref b163), .val (.ref b169), .val (.long r1), .second, .unset, .unset, .unset, .unset] [(.int (2 : Int32)), (.int (2 : Int32))])) _
      refine XS.icmpNo X184.here hx rfl (hb hby at_117) rfl (flt (by decide)).1 ?_
      show Steps p.tables e below (T184.setTop (mkF m 120 #[.val (.long q0), .second, .val (.long q1), .second, .val (.int p0), .val (.int p1), .val (.int p2), .val (.int (2 : Int32)), .val (.long la0), .second, .val (.long la1), .second, .val (.long la2), .second, .val (.long lb0), .second, .val (.long lb1), .second, .val (.long lb2), .second, .val (.ref b163), .val (.ref b169), .val (.long r1), .second, .unset, .unset, .unset, .unset] [])) _
      refine XS.aload X184.here hx rfl (hb hby at_120) rfl rfl ?_
      show Steps p.tables e below (T184.setTop (mkF m 122 #[.val (.long q0), .second, .val (.long q1), .second, .val (.int p0), .val (.int p1), .val (.int p2), .val (.int (2 : Int32)), .val (.long la0), .second, .val (.long la1), .second, .val (.long la2), .second, .val (.long lb0), .second, .val (.long lb1), .second, .val (.long lb2), .second, .val (.ref b163), .val (.ref b169), .val (.long r1), .second, .unset, .unset, .unset, .unset] [(.ref b163)])) _
      refine XS.iconst X184.here hx rfl (hb hby at_122) ?_
      show Steps p.tables e below (T184.setTop (mkF m 123 #[.val (.long q0), .second, .val (.long q1), .second, .val (.int p0), .val (.int p1), .val (.int p2), .val (.int (2 : Int32)), .val (.long la0), .second, .val (.long la1), .second, .val (.long la2), .second, .val (.long lb0), .second, .val (.long lb1), .second, .val (.long lb2), .second, .val (.ref b163), .val (.ref b169), .val (.long r1), .second, .unset, .unset, .unset, .unset] [(.int (1 : Int32)), (.ref b163)])) _
      refine XS.lload X184.here hx rfl (hb hby at_123) rfl ?_
      show Steps p.tables e below (T184.setTop (mkF m 125 #[.val (.long q0), .second, .val (.long q1), .second, .val (.int p0), .val (.int p1), .val (.int p2), .val (.int (2 : Int32)), .val (.long la0), .second, .val (.long la1), .second, .val (.long la2), .second, .val (.long lb0), .second, .val (.long lb1), .second, .val (.long lb2), .second, .val (.ref b163), .val (.ref b169), .val (.long r1), .second, .unset, .unset, .unset, .unset] [(.long la1), (.int (1 : Int32)), (.ref b163)])) _
      refine XS.l2dS X184.here hx rfl (hb hby at_125) rfl hvla1 ?_
      exact k)
    obtain ⟨c191, Ar191, Aq191, As191, An191, Ah191, Ag191⟩ := id F186
    have hin191 : ¬ ((1 : Int32) < 0 ∨ c191.slots.size ≤ ((1 : Int32)).toNatClampNeg) := inb_of As191 ⟨by decide, by decide⟩
    obtain ⟨T191, h191, X191, e191, W191, st191⟩ := stD X184 hx hZ e184 Ar191 (j := (1 : Int32)) hin191 (g := (mkF m 126 #[.val (.long q0), .second, .val (.long q1), .second, .val (.int p0), .val (.int p1), .val (.int p2), .val (.int (2 : Int32)), .val (.long la0), .second, .val (.long la1), .second, .val (.long la2), .second, .val (.long lb0), .second, .val (.long lb1), .second, .val (.long lb2), .second, .val (.ref b163), .val (.ref b169), .val (.long r1), .second, .unset, .unset, .unset, .unset] [(.double vla1), (.int (1 : Int32)), (.ref b163)])) rfl rfl (hb hby at_126)
    have V192 := Arv.set Ar191 Aq191 As191 An191 Ah191 Ag191 rfl W191 1 rfl (Nat.le_of_ble_eq_true rfl)
    have F193 := V185.other W191 (Ne.symm n170)
    have Z194 : n0 ≤ h191.size := Nat.le_trans Z187 (Nat.le_of_eq W191.size.symm)
    have N195 := Fr.snoc X191 N188 g164
    have k196 : ∀ t, Steps p.tables e below (T191.setTop (mkF m 127 #[.val (.long q0), .second, .val (.long q1), .second, .val (.int p0), .val (.int p1), .val (.int p2), .val (.int (2 : Int32)), .val (.long la0), .second, .val (.long la1), .second, .val (.long la2), .second, .val (.long lb0), .second, .val (.long lb1), .second, .val (.long lb2), .second, .val (.ref b163), .val (.ref b169), .val (.long r1), .second, .unset, .unset, .unset, .unset] [])) t → Steps p.tables e below (s₁.setTop (entryFrame m #[(.long q0), (.long q1), (.int p0), (.int p1), (.int p2)] maxLocals)) t := fun t k => k190 t (st191 t k)
    obtain ⟨vlb1, hvlb1⟩ : ∃ z : UInt64, FP.l2d lb1 = z := ⟨_, rfl⟩
    have Dvlb1 : Dy (lb1.toInt) (0) vlb1 := by rw [← hvlb1]; exact Dy.l2d (by omega)
    have k197 : ∀ t, Steps p.tables e below (T191.setTop (mkF m 133 #[.val (.long q0), .second, .val (.long q1), .second, .val (.int p0), .val (.int p1), .val (.int p2), .val (.int (2 : Int32)), .val (.long la0), .second, .val (.long la1), .second, .val (.long la2), .second, .val (.long lb0), .second, .val (.long lb1), .second, .val (.long lb2), .second, .val (.ref b163), .val (.ref b169), .val (.long r1), .second, .unset, .unset, .unset, .unset] [(.double vlb1), (.int (1 : Int32)), (.ref b169)])) t → Steps p.tables e below (s₁.setTop (entryFrame m #[(.long q0), (.long q1), (.int p0), (.int p1), (.int p2)] maxLocals)) t := fun t k => k196 t (by
      show Steps p.tables e below (T191.setTop (mkF m 127 #[.val (.long q0), .second, .val (.long q1), .second, .val (.int p0), .val (.int p1), .val (.int p2), .val (.int (2 : Int32)), .val (.long la0), .second, .val (.long la1), .second, .val (.long la2), .second, .val (.long lb0), .second, .val (.long lb1), .second, .val (.long lb2), .second, .val (.ref b163), .val (.ref b169), .val (.long r1), .second, .unset, .unset, .unset, .unset] [])) _
      refine XS.aload X191.here hx rfl (hb hby at_127) rfl rfl ?_
      show Steps p.tables e below (T191.setTop (mkF m 129 #[.val (.long q0), .second, .val (.long q1), .second, .val (.int p0), .val (.int p1), .val (.int p2), .val (.int (2 : Int32)), .val (.long la0), .second, .val (.long la1), .second, .val (.long la2), .second, .val (.long lb0), .second, .val (.long lb1), .second, .val (.long lb2), .second, .val (.ref b163), .val (.ref b169), .val (.long r1), .second, .unset, .unset, .unset, .unset] [(.ref b169)])) _
      refine XS.iconst X191.here hx rfl (hb hby at_129) ?_
      show Steps p.tables e below (T191.setTop (mkF m 130 #[.val (.long q0), .second, .val (.long q1), .second, .val (.int p0), .val (.int p1), .val (.int p2), .val (.int (2 : Int32)), .val (.long la0), .second, .val (.long la1), .second, .val (.long la2), .second, .val (.long lb0), .second, .val (.long lb1), .second, .val (.long lb2), .second, .val (.ref b163), .val (.ref b169), .val (.long r1), .second, .unset, .unset, .unset, .unset] [(.int (1 : Int32)), (.ref b169)])) _
      refine XS.lload X191.here hx rfl (hb hby at_130) rfl ?_
      show Steps p.tables e below (T191.setTop (mkF m 132 #[.val (.long q0), .second, .val (.long q1), .second, .val (.int p0), .val (.int p1), .val (.int p2), .val (.int (2 : Int32)), .val (.long la0), .second, .val (.long la1), .second, .val (.long la2), .second, .val (.long lb0), .second, .val (.long lb1), .second, .val (.long lb2), .second, .val (.ref b163), .val (.ref b169), .val (.long r1), .second, .unset, .unset, .unset, .unset] [(.long lb1), (.int (1 : Int32)), (.ref b169)])) _
      refine XS.l2dS X191.here hx rfl (hb hby at_132) rfl hvlb1 ?_
      exact k)
    obtain ⟨c198, Ar198, Aq198, As198, An198, Ah198, Ag198⟩ := id F193
    have hin198 : ¬ ((1 : Int32) < 0 ∨ c198.slots.size ≤ ((1 : Int32)).toNatClampNeg) := inb_of As198 ⟨by decide, by decide⟩
    obtain ⟨T198, h198, X198, e198, W198, st198⟩ := stD X191 hx hZ e191 Ar198 (j := (1 : Int32)) hin198 (g := (mkF m 133 #[.val (.long q0), .second, .val (.long q1), .second, .val (.int p0), .val (.int p1), .val (.int p2), .val (.int (2 : Int32)), .val (.long la0), .second, .val (.long la1), .second, .val (.long la2), .second, .val (.long lb0), .second, .val (.long lb1), .second, .val (.long lb2), .second, .val (.ref b163), .val (.ref b169), .val (.long r1), .second, .unset, .unset, .unset, .unset] [(.double vlb1), (.int (1 : Int32)), (.ref b169)])) rfl rfl (hb hby at_133)
    have V199 := Arv.set Ar198 Aq198 As198 An198 Ah198 Ag198 rfl W198 1 rfl (Nat.le_of_ble_eq_true rfl)
    have F200 := V192.other W198 n170
    have Z201 : n0 ≤ h198.size := Nat.le_trans Z194 (Nat.le_of_eq W198.size.symm)
    have N202 := Fr.snoc X198 N195 g171
    have k203 : ∀ t, Steps p.tables e below (T198.setTop (mkF m 134 #[.val (.long q0), .second, .val (.long q1), .second, .val (.int p0), .val (.int p1), .val (.int p2), .val (.int (2 : Int32)), .val (.long la0), .second, .val (.long la1), .second, .val (.long la2), .second, .val (.long lb0), .second, .val (.long lb1), .second, .val (.long lb2), .second, .val (.ref b163), .val (.ref b169), .val (.long r1), .second, .unset, .unset, .unset, .unset] [])) t → Steps p.tables e below (s₁.setTop (entryFrame m #[(.long q0), (.long q1), (.int p0), (.int p1), (.int p2)] maxLocals)) t := fun t k => k197 t (st198 t k)
    obtain ⟨r2, hr2⟩ : ∃ z : Int64, z = (r1 + ((la1 - lb1) * (la1 - lb1))) := ⟨_, rfl⟩
    obtain ⟨O0_0, O0_1, O0_2, O0_3, O0_4, O0_5⟩ := own_dist2 B_la0 B_la1 B_lb0 B_lb1 Dvla0 Dvla1 Dvlb0 Dvlb1
    have k204 : ∀ t, Steps p.tables e below (T198.setTop (mkF m 190 #[.val (.long q0), .second, .val (.long q1), .second, .val (.int p0), .val (.int p1), .val (.int p2), .val (.int (2 : Int32)), .val (.long la0), .second, .val (.long la1), .second, .val (.long la2), .second, .val (.long lb0), .second, .val (.long lb1), .second, .val (.long lb2), .second, .val (.ref b163), .val (.ref b169), .val (.long r2), .second, .unset, .unset, .unset, .unset] [(.ref b169), (.ref b163)])) t → Steps p.tables e below (s₁.setTop (entryFrame m #[(.long q0), (.long q1), (.int p0), (.int p1), (.int p2)] maxLocals)) t := fun t k => k203 t (by
      show Steps p.tables e below (T198.setTop (mkF m 134 #[.val (.long q0), .second, .val (.long q1), .second, .val (.int p0), .val (.int p1), .val (.int p2), .val (.int (2 : Int32)), .val (.long la0), .second, .val (.long la1), .second, .val (.long la2), .second, .val (.long lb0), .second, .val (.long lb1), .second, .val (.long lb2), .second, .val (.ref b163), .val (.ref b169), .val (.long r1), .second, .unset, .unset, .unset, .unset] [])) _
      refine XS.lload X198.here hx rfl (hb hby at_134) rfl ?_
      show Steps p.tables e below (T198.setTop (mkF m 136 #[.val (.long q0), .second, .val (.long q1), .second, .val (.int p0), .val (.int p1), .val (.int p2), .val (.int (2 : Int32)), .val (.long la0), .second, .val (.long la1), .second, .val (.long la2), .second, .val (.long lb0), .second, .val (.long lb1), .second, .val (.long lb2), .second, .val (.ref b163), .val (.ref b169), .val (.long r1), .second, .unset, .unset, .unset, .unset] [(.long r1)])) _
      refine XS.lload X198.here hx rfl (hb hby at_136) rfl ?_
      show Steps p.tables e below (T198.setTop (mkF m 138 #[.val (.long q0), .second, .val (.long q1), .second, .val (.int p0), .val (.int p1), .val (.int p2), .val (.int (2 : Int32)), .val (.long la0), .second, .val (.long la1), .second, .val (.long la2), .second, .val (.long lb0), .second, .val (.long lb1), .second, .val (.long lb2), .second, .val (.ref b163), .val (.ref b169), .val (.long r1), .second, .unset, .unset, .unset, .unset] [(.long la1), (.long r1)])) _
      refine XS.lload X198.here hx rfl (hb hby at_138) rfl ?_
      show Steps p.tables e below (T198.setTop (mkF m 140 #[.val (.long q0), .second, .val (.long q1), .second, .val (.int p0), .val (.int p1), .val (.int p2), .val (.int (2 : Int32)), .val (.long la0), .second, .val (.long la1), .second, .val (.long la2), .second, .val (.long lb0), .second, .val (.long lb1), .second, .val (.long lb2), .second, .val (.ref b163), .val (.ref b169), .val (.long r1), .second, .unset, .unset, .unset, .unset] [(.long lb1), (.long la1), (.long r1)])) _
      refine XS.lsub X198.here hx rfl (hb hby at_140) rfl ?_
      show Steps p.tables e below (T198.setTop (mkF m 141 #[.val (.long q0), .second, .val (.long q1), .second, .val (.int p0), .val (.int p1), .val (.int p2), .val (.int (2 : Int32)), .val (.long la0), .second, .val (.long la1), .second, .val (.long la2), .second, .val (.long lb0), .second, .val (.long lb1), .second, .val (.long lb2), .second, .val (.ref b163), .val (.ref b169), .val (.long r1), .second, .unset, .unset, .unset, .unset] [(.long (la1 - lb1)), (.long r1)])) _
      refine XS.lload X198.here hx rfl (hb hby at_141) rfl ?_
      show Steps p.tables e below (T198.setTop (mkF m 143 #[.val (.long q0), .second, .val (.long q1), .second, .val (.int p0), .val (.int p1), .val (.int p2), .val (.int (2 : Int32)), .val (.long la0), .second, .val (.long la1), .second, .val (.long la2), .second, .val (.long lb0), .second, .val (.long lb1), .second, .val (.long lb2), .second, .val (.ref b163), .val (.ref b169), .val (.long r1), .second, .unset, .unset, .unset, .unset] [(.long la1), (.long (la1 - lb1)), (.long r1)])) _
      refine XS.lload X198.here hx rfl (hb hby at_143) rfl ?_
      show Steps p.tables e below (T198.setTop (mkF m 145 #[.val (.long q0), .second, .val (.long q1), .second, .val (.int p0), .val (.int p1), .val (.int p2), .val (.int (2 : Int32)), .val (.long la0), .second, .val (.long la1), .second, .val (.long la2), .second, .val (.long lb0), .second, .val (.long lb1), .second, .val (.long lb2), .second, .val (.ref b163), .val (.ref b169), .val (.long r1), .second, .unset, .unset, .unset, .unset] [(.long lb1), (.long la1), (.long (la1 - lb1)), (.long r1)])) _
      refine XS.lsub X198.here hx rfl (hb hby at_145) rfl ?_
      show Steps p.tables e below (T198.setTop (mkF m 146 #[.val (.long q0), .second, .val (.long q1), .second, .val (.int p0), .val (.int p1), .val (.int p2), .val (.int (2 : Int32)), .val (.long la0), .second, .val (.long la1), .second, .val (.long la2), .second, .val (.long lb0), .second, .val (.long lb1), .second, .val (.long lb2), .second, .val (.ref b163), .val (.ref b169), .val (.long r1), .second, .unset, .unset, .unset, .unset] [(.long (la1 - lb1)), (.long (la1 - lb1)), (.long r1)])) _
      refine XS.lmul X198.here hx rfl (hb hby at_146) rfl ?_
      show Steps p.tables e below (T198.setTop (mkF m 147 #[.val (.long q0), .second, .val (.long q1), .second, .val (.int p0), .val (.int p1), .val (.int p2), .val (.int (2 : Int32)), .val (.long la0), .second, .val (.long la1), .second, .val (.long la2), .second, .val (.long lb0), .second, .val (.long lb1), .second, .val (.long lb2), .second, .val (.ref b163), .val (.ref b169), .val (.long r1), .second, .unset, .unset, .unset, .unset] [(.long ((la1 - lb1) * (la1 - lb1))), (.long r1)])) _
      refine XS.ladd X198.here hx rfl (hb hby at_147) rfl ?_
      show Steps p.tables e below (T198.setTop (mkF m 148 #[.val (.long q0), .second, .val (.long q1), .second, .val (.int p0), .val (.int p1), .val (.int p2), .val (.int (2 : Int32)), .val (.long la0), .second, .val (.long la1), .second, .val (.long la2), .second, .val (.long lb0), .second, .val (.long lb1), .second, .val (.long lb2), .second, .val (.ref b163), .val (.ref b169), .val (.long r1), .second, .unset, .unset, .unset, .unset] [(.long (r1 + ((la1 - lb1) * (la1 - lb1))))])) _
      refine castTop (g' := (mkF m 148 #[.val (.long q0), .second, .val (.long q1), .second, .val (.int p0), .val (.int p1), .val (.int p2), .val (.int (2 : Int32)), .val (.long la0), .second, .val (.long la1), .second, .val (.long la2), .second, .val (.long lb0), .second, .val (.long lb1), .second, .val (.long lb2), .second, .val (.ref b163), .val (.ref b169), .val (.long r1), .second, .unset, .unset, .unset, .unset] [(.long r2)])) (by rw [hr2]) ?_
      show Steps p.tables e below (T198.setTop (mkF m 148 #[.val (.long q0), .second, .val (.long q1), .second, .val (.int p0), .val (.int p1), .val (.int p2), .val (.int (2 : Int32)), .val (.long la0), .second, .val (.long la1), .second, .val (.long la2), .second, .val (.long lb0), .second, .val (.long lb1), .second, .val (.long lb2), .second, .val (.ref b163), .val (.ref b169), .val (.long r1), .second, .unset, .unset, .unset, .unset] [(.long r2)])) _
      refine XS.lstore X198.here hx rfl (hb hby at_148) rfl (l' := #[.val (.long q0), .second, .val (.long q1), .second, .val (.int p0), .val (.int p1), .val (.int p2), .val (.int (2 : Int32)), .val (.long la0), .second, .val (.long la1), .second, .val (.long la2), .second, .val (.long lb0), .second, .val (.long lb1), .second, .val (.long lb2), .second, .val (.ref b163), .val (.ref b169), .val (.long r2), .second, .unset, .unset, .unset, .unset]) rfl ?_
      show Steps p.tables e below (T198.setTop (mkF m 150 #[.val (.long q0), .second, .val (.long q1), .second, .val (.int p0), .val (.int p1), .val (.int p2), .val (.int (2 : Int32)), .val (.long la0), .second, .val (.long la1), .second, .val (.long la2), .second, .val (.long lb0), .second, .val (.long lb1), .second, .val (.long lb2), .second, .val (.ref b163), .val (.ref b169), .val (.long r2), .second, .unset, .unset, .unset, .unset] [])) _
      refine XS.iload X198.here hx rfl (hb hby at_150) rfl ?_
      show Steps p.tables e below (T198.setTop (mkF m 152 #[.val (.long q0), .second, .val (.long q1), .second, .val (.int p0), .val (.int p1), .val (.int p2), .val (.int (2 : Int32)), .val (.long la0), .second, .val (.long la1), .second, .val (.long la2), .second, .val (.long lb0), .second, .val (.long lb1), .second, .val (.long lb2), .second, .val (.ref b163), .val (.ref b169), .val (.long r2), .second, .unset, .unset, .unset, .unset] [(.int (2 : Int32))])) _
      refine XS.iconst X198.here hx rfl (hb hby at_152) ?_
      show Steps p.tables e below (T198.setTop (mkF m 153 #[.val (.long q0), .second, .val (.long q1), .second, .val (.int p0), .val (.int p1), .val (.int p2), .val (.int (2 : Int32)), .val (.long la0), .second, .val (.long la1), .second, .val (.long la2), .second, .val (.long lb0), .second, .val (.long lb1), .second, .val (.long lb2), .second, .val (.ref b163), .val (.ref b169), .val (.long r2), .second, .unset, .unset, .unset, .unset] [(.int (3 : Int32)), (.int (2 : Int32))])) _
      refine XS.icmpYes X198.here hx rfl (pc0 := 153) (pc' := 186) rfl (hb hby at_153) rfl (tlt (by decide)).1 (by decide) (by decide) ?_
      show Steps p.tables e below (T198.setTop (mkF m 186 #[.val (.long q0), .second, .val (.long q1), .second, .val (.int p0), .val (.int p1), .val (.int p2), .val (.int (2 : Int32)), .val (.long la0), .second, .val (.long la1), .second, .val (.long la2), .second, .val (.long lb0), .second, .val (.long lb1), .second, .val (.long lb2), .second, .val (.ref b163), .val (.ref b169), .val (.long r2), .second, .unset, .unset, .unset, .unset] [])) _
      refine XS.aload X198.here hx rfl (hb hby at_186) rfl rfl ?_
      show Steps p.tables e below (T198.setTop (mkF m 188 #[.val (.long q0), .second, .val (.long q1), .second, .val (.int p0), .val (.int p1), .val (.int p2), .val (.int (2 : Int32)), .val (.long la0), .second, .val (.long la1), .second, .val (.long la2), .second, .val (.long lb0), .second, .val (.long lb1), .second, .val (.long lb2), .second, .val (.ref b163), .val (.ref b169), .val (.long r2), .second, .unset, .unset, .unset, .unset] [(.ref b163)])) _
      refine XS.aload X198.here hx rfl (hb hby at_188) rfl rfl ?_
      exact k)
    obtain ⟨_, _, ⟨T205, L205, k205, n205⟩, -, X205, ⟨Lc205, hQ205, l205, y205, z205⟩, st205⟩ := Jvm.LawKit.callS X198 hx (y := (⟨"com/example/frontweave/frontweave/clustering/Vectors", "distanceSquared", "([D[D)D"⟩ : MethodName)) hown (mvT hZ (hw _ (List.mem_of_getElem? (i := 2) rfl))) (mvT hZ (hw _ (List.mem_of_getElem? (i := 3) rfl))) (mvT hZ (hw _ (List.mem_of_getElem? (i := 4) rfl))) (mvT hZ (hw _ (List.mem_of_getElem? (i := 5) rfl))) (by decide) (backOf (W := 0) (dist2 l Z a0 hw [] b163 b169 k163 k169 vla0 vla1 vlb0 vlb1 h198 n0 Z201 F200 V199 O0_0.nn O0_1.nn O0_2.nn O0_3.nn O0_4.nn O0_5.nn) hZ (hw _ (List.mem_of_getElem? (i := 5) rfl)) (hw _ (List.mem_of_getElem? (i := 4) rfl)) (by decide) (by decide)) (g := (mkF m 190 #[.val (.long q0), .second, .val (.long q1), .second, .val (.int p0), .val (.int p1), .val (.int p2), .val (.int (2 : Int32)), .val (.long la0), .second, .val (.long la1), .second, .val (.long la2), .second, .val (.long lb0), .second, .val (.long lb1), .second, .val (.long lb2), .second, .val (.ref b163), .val (.ref b169), .val (.long r2), .second, .unset, .unset, .unset, .unset] [(.ref b169), (.ref b163)])) rfl (by rw [hml]; rfl) (argsL := [(.ref b163), (.ref b169)]) (rest := []) (lenOf pd__28_5bD_5bD_29D rfl) rfl (by show 2 * 0 + _ ≤ _; exact Nat.le_of_eq rfl) (hb hby at_190) (fun _ _ => ⟨rfl, e198, (by decide : 2 + 0 ≤ _), (by decide : 4 + 0 ≤ _)⟩)
    dsimp only [Pt.U, Pt.locs, Pt.cells, Pt.slots] at X205 l205 y205 z205 st205 hQ205
    subst l205 y205 z205
    obtain ⟨rfl, N205q, e205⟩ := hQ205
    have N206 := Fr.app N202 N205q
    have k207 : ∀ t, Steps p.tables e below (T205.setTop (mkF m 193 #[.val (.long q0), .second, .val (.long q1), .second, .val (.int p0), .val (.int p1), .val (.int p2), .val (.int (2 : Int32)), .val (.long la0), .second, .val (.long la1), .second, .val (.long la2), .second, .val (.long lb0), .second, .val (.long lb1), .second, .val (.long lb2), .second, .val (.ref b163), .val (.ref b169), .val (.long r2), .second, .unset, .unset, .unset, .unset] [(.double (FP.dadd (FP.dadd (0 : UInt64) (FP.dmul (FP.dsub vla0 vlb0) (FP.dsub vla0 vlb0))) (FP.dmul (FP.dsub vla1 vlb1) (FP.dsub vla1 vlb1))))])) t → Steps p.tables e below (s₁.setTop (entryFrame m #[(.long q0), (.long q1), (.int p0), (.int p1), (.int p2)] maxLocals)) t := fun t k => k204 t (st205 t k)
    obtain ⟨d1, hd1⟩ : ∃ z : UInt64, z = (FP.dadd (FP.dadd (0 : UInt64) (FP.dmul (FP.dsub vla0 vlb0) (FP.dsub vla0 vlb0))) (FP.dmul (FP.dsub vla1 vlb1) (FP.dsub vla1 vlb1))) := ⟨_, rfl⟩
    obtain ⟨O1_0, O1_1, O1_2, O1_3, O1_4, O1_5⟩ := own_dist2 B_lb0 B_lb1 B_la0 B_la1 Dvlb0 Dvlb1 Dvla0 Dvla1
    have k208 : ∀ t, Steps p.tables e below (T205.setTop (mkF m 199 #[.val (.long q0), .second, .val (.long q1), .second, .val (.int p0), .val (.int p1), .val (.int p2), .val (.int (2 : Int32)), .val (.long la0), .second, .val (.long la1), .second, .val (.long la2), .second, .val (.long lb0), .second, .val (.long lb1), .second, .val (.long lb2), .second, .val (.ref b163), .val (.ref b169), .val (.long r2), .second, .val (.double d1), .second, .unset, .unset] [(.ref b163), (.ref b169)])) t → Steps p.tables e below (s₁.setTop (entryFrame m #[(.long q0), (.long q1), (.int p0), (.int p1), (.int p2)] maxLocals)) t := fun t k => k207 t (by
      show Steps p.tables e below (T205.setTop (mkF m 193 #[.val (.long q0), .second, .val (.long q1), .second, .val (.int p0), .val (.int p1), .val (.int p2), .val (.int (2 : Int32)), .val (.long la0), .second, .val (.long la1), .second, .val (.long la2), .second, .val (.long lb0), .second, .val (.long lb1), .second, .val (.long lb2), .second, .val (.ref b163), .val (.ref b169), .val (.long r2), .second, .unset, .unset, .unset, .unset] [(.double (FP.dadd (FP.dadd (0 : UInt64) (FP.dmul (FP.dsub vla0 vlb0) (FP.dsub vla0 vlb0))) (FP.dmul (FP.dsub vla1 vlb1) (FP.dsub vla1 vlb1))))])) _
      refine castTop (g' := (mkF m 193 #[.val (.long q0), .second, .val (.long q1), .second, .val (.int p0), .val (.int p1), .val (.int p2), .val (.int (2 : Int32)), .val (.long la0), .second, .val (.long la1), .second, .val (.long la2), .second, .val (.long lb0), .second, .val (.long lb1), .second, .val (.long lb2), .second, .val (.ref b163), .val (.ref b169), .val (.long r2), .second, .unset, .unset, .unset, .unset] [(.double d1)])) (by rw [hd1]) ?_
      show Steps p.tables e below (T205.setTop (mkF m 193 #[.val (.long q0), .second, .val (.long q1), .second, .val (.int p0), .val (.int p1), .val (.int p2), .val (.int (2 : Int32)), .val (.long la0), .second, .val (.long la1), .second, .val (.long la2), .second, .val (.long lb0), .second, .val (.long lb1), .second, .val (.long lb2), .second, .val (.ref b163), .val (.ref b169), .val (.long r2), .second, .unset, .unset, .unset, .unset] [(.double d1)])) _
      refine XS.dstore X205.here hx rfl (hb hby at_193) rfl (l' := #[.val (.long q0), .second, .val (.long q1), .second, .val (.int p0), .val (.int p1), .val (.int p2), .val (.int (2 : Int32)), .val (.long la0), .second, .val (.long la1), .second, .val (.long la2), .second, .val (.long lb0), .second, .val (.long lb1), .second, .val (.long lb2), .second, .val (.ref b163), .val (.ref b169), .val (.long r2), .second, .val (.double d1), .second, .unset, .unset]) rfl ?_
      show Steps p.tables e below (T205.setTop (mkF m 195 #[.val (.long q0), .second, .val (.long q1), .second, .val (.int p0), .val (.int p1), .val (.int p2), .val (.int (2 : Int32)), .val (.long la0), .second, .val (.long la1), .second, .val (.long la2), .second, .val (.long lb0), .second, .val (.long lb1), .second, .val (.long lb2), .second, .val (.ref b163), .val (.ref b169), .val (.long r2), .second, .val (.double d1), .second, .unset, .unset] [])) _
      refine XS.aload X205.here hx rfl (hb hby at_195) rfl rfl ?_
      show Steps p.tables e below (T205.setTop (mkF m 197 #[.val (.long q0), .second, .val (.long q1), .second, .val (.int p0), .val (.int p1), .val (.int p2), .val (.int (2 : Int32)), .val (.long la0), .second, .val (.long la1), .second, .val (.long la2), .second, .val (.long lb0), .second, .val (.long lb1), .second, .val (.long lb2), .second, .val (.ref b163), .val (.ref b169), .val (.long r2), .second, .val (.double d1), .second, .unset, .unset] [(.ref b169)])) _
      refine XS.aload X205.here hx rfl (hb hby at_197) rfl rfl ?_
      exact k)
    obtain ⟨_, _, ⟨T209, L209, k209, n209⟩, -, X209, ⟨Lc209, hQ209, l209, y209, z209⟩, st209⟩ := Jvm.LawKit.callS X205 hx (y := (⟨"com/example/frontweave/frontweave/clustering/Vectors", "distanceSquared", "([D[D)D"⟩ : MethodName)) hown (mvT hZ (hw _ (List.mem_of_getElem? (i := 2) rfl))) (mvT hZ (hw _ (List.mem_of_getElem? (i := 3) rfl))) (mvT hZ (hw _ (List.mem_of_getElem? (i := 4) rfl))) (mvT hZ (hw _ (List.mem_of_getElem? (i := 5) rfl))) (by decide) (backOf (W := 0) (dist2 l Z a0 hw [] b169 b163 k169 k163 vlb0 vlb1 vla0 vla1 h198 n0 Z201 V199 F200 O1_0.nn O1_1.nn O1_2.nn O1_3.nn O1_4.nn O1_5.nn) hZ (hw _ (List.mem_of_getElem? (i := 5) rfl)) (hw _ (List.mem_of_getElem? (i := 4) rfl)) (by decide) (by decide)) (g := (mkF m 199 #[.val (.long q0), .second, .val (.long q1), .second, .val (.int p0), .val (.int p1), .val (.int p2), .val (.int (2 : Int32)), .val (.long la0), .second, .val (.long la1), .second, .val (.long la2), .second, .val (.long lb0), .second, .val (.long lb1), .second, .val (.long lb2), .second, .val (.ref b163), .val (.ref b169), .val (.long r2), .second, .val (.double d1), .second, .unset, .unset] [(.ref b163), (.ref b169)])) rfl (by rw [hml]; rfl) (argsL := [(.ref b169), (.ref b163)]) (rest := []) (lenOf pd__28_5bD_5bD_29D rfl) rfl (by show 2 * 0 + _ ≤ _; exact Nat.le_of_eq rfl) (hb hby at_199) (fun _ _ => ⟨rfl, e205, (by decide : 2 + 0 ≤ _), (by decide : 4 + 0 ≤ _)⟩)
    dsimp only [Pt.U, Pt.locs, Pt.cells, Pt.slots] at X209 l209 y209 z209 st209 hQ209
    subst l209 y209 z209
    obtain ⟨rfl, N209q, e209⟩ := hQ209
    have N210 := Fr.app N206 N209q
    have k211 : ∀ t, Steps p.tables e below (T209.setTop (mkF m 202 #[.val (.long q0), .second, .val (.long q1), .second, .val (.int p0), .val (.int p1), .val (.int p2), .val (.int (2 : Int32)), .val (.long la0), .second, .val (.long la1), .second, .val (.long la2), .second, .val (.long lb0), .second, .val (.long lb1), .second, .val (.long lb2), .second, .val (.ref b163), .val (.ref b169), .val (.long r2), .second, .val (.double d1), .second, .unset, .unset] [(.double (FP.dadd (FP.dadd (0 : UInt64) (FP.dmul (FP.dsub vlb0 vla0) (FP.dsub vlb0 vla0))) (FP.dmul (FP.dsub vlb1 vla1) (FP.dsub vlb1 vla1))))])) t → Steps p.tables e below (s₁.setTop (entryFrame m #[(.long q0), (.long q1), (.int p0), (.int p1), (.int p2)] maxLocals)) t := fun t k => k208 t (st209 t k)
    obtain ⟨d2, hd2⟩ : ∃ z : UInt64, z = (FP.dadd (FP.dadd (0 : UInt64) (FP.dmul (FP.dsub vlb0 vla0) (FP.dsub vlb0 vla0))) (FP.dmul (FP.dsub vlb1 vla1) (FP.dsub vlb1 vla1))) := ⟨_, rfl⟩
    have hr : r2.toInt = 0 + (la0.toInt - lb0.toInt) * (la0.toInt - lb0.toInt) + (la1.toInt - lb1.toInt) * (la1.toInt - lb1.toInt) := by rw [hr2, hr1]; exact own_ref2 B_la0 B_la1 B_lb0 B_lb1
    have hbw : (0 + (la0.toInt - lb0.toInt) * (la0.toInt - lb0.toInt) + (la1.toInt - lb1.toInt) * (la1.toInt - lb1.toInt)).natAbs < 9007199254740992 := own_refb2 B_la0 B_la1 B_lb0 B_lb1
    have hs : 0 + (lb0.toInt - la0.toInt) * (lb0.toInt - la0.toInt) + (lb1.toInt - la1.toInt) * (lb1.toInt - la1.toInt) = 0 + (la0.toInt - lb0.toInt) * (la0.toInt - lb0.toInt) + (la1.toInt - lb1.toInt) * (la1.toInt - lb1.toInt) := by rw [own_sq lb0.toInt la0.toInt, own_sq lb1.toInt la1.toInt]
    obtain ⟨want, hwant⟩ : ∃ z : UInt64, FP.l2d r2 = z := ⟨_, rfl⟩
    have Dwant : Dy (0 + (la0.toInt - lb0.toInt) * (la0.toInt - lb0.toInt) + (la1.toInt - lb1.toInt) * (la1.toInt - lb1.toInt)) (0) want := by rw [← hwant]; exact hr ▸ Dy.l2d (by rw [hr]; exact hbw)
    have hf1 : cmpValue (FP.dcmp d1 want) .l = (0 : Int32) := by rw [hd1]; exact Dy.cmp_eq O0_5 Dwant rfl .l
    obtain ⟨want2, hwant2⟩ : ∃ z : UInt64, FP.l2d r2 = z := ⟨_, rfl⟩
    have Dwant2 : Dy (0 + (la0.toInt - lb0.toInt) * (la0.toInt - lb0.toInt) + (la1.toInt - lb1.toInt) * (la1.toInt - lb1.toInt)) (0) want2 := by rw [← hwant2]; exact hr ▸ Dy.l2d (by rw [hr]; exact hbw)
    have hf2 : cmpValue (FP.dcmp d2 want2) .l = (0 : Int32) := by rw [hd2]; exact Dy.cmp_eq O1_5 Dwant2 hs .l
    have k212 : ∀ t, Steps p.tables e below (T209.setTop (mkF m 227 #[.val (.long q0), .second, .val (.long q1), .second, .val (.int p0), .val (.int p1), .val (.int p2), .val (.int (2 : Int32)), .val (.long la0), .second, .val (.long la1), .second, .val (.long la2), .second, .val (.long lb0), .second, .val (.long lb1), .second, .val (.long lb2), .second, .val (.ref b163), .val (.ref b169), .val (.long r2), .second, .val (.double d1), .second, .val (.double d2), .second] [(.int (1 : Int32))])) t → Steps p.tables e below (s₁.setTop (entryFrame m #[(.long q0), (.long q1), (.int p0), (.int p1), (.int p2)] maxLocals)) t := fun t k => k211 t (by
      show Steps p.tables e below (T209.setTop (mkF m 202 #[.val (.long q0), .second, .val (.long q1), .second, .val (.int p0), .val (.int p1), .val (.int p2), .val (.int (2 : Int32)), .val (.long la0), .second, .val (.long la1), .second, .val (.long la2), .second, .val (.long lb0), .second, .val (.long lb1), .second, .val (.long lb2), .second, .val (.ref b163), .val (.ref b169), .val (.long r2), .second, .val (.double d1), .second, .unset, .unset] [(.double (FP.dadd (FP.dadd (0 : UInt64) (FP.dmul (FP.dsub vlb0 vla0) (FP.dsub vlb0 vla0))) (FP.dmul (FP.dsub vlb1 vla1) (FP.dsub vlb1 vla1))))])) _
      refine castTop (g' := (mkF m 202 #[.val (.long q0), .second, .val (.long q1), .second, .val (.int p0), .val (.int p1), .val (.int p2), .val (.int (2 : Int32)), .val (.long la0), .second, .val (.long la1), .second, .val (.long la2), .second, .val (.long lb0), .second, .val (.long lb1), .second, .val (.long lb2), .second, .val (.ref b163), .val (.ref b169), .val (.long r2), .second, .val (.double d1), .second, .unset, .unset] [(.double d2)])) (by rw [hd2]) ?_
      show Steps p.tables e below (T209.setTop (mkF m 202 #[.val (.long q0), .second, .val (.long q1), .second, .val (.int p0), .val (.int p1), .val (.int p2), .val (.int (2 : Int32)), .val (.long la0), .second, .val (.long la1), .second, .val (.long la2), .second, .val (.long lb0), .second, .val (.long lb1), .second, .val (.long lb2), .second, .val (.ref b163), .val (.ref b169), .val (.long r2), .second, .val (.double d1), .second, .unset, .unset] [(.double d2)])) _
      refine XS.dstore X209.here hx rfl (hb hby at_202) rfl (l' := #[.val (.long q0), .second, .val (.long q1), .second, .val (.int p0), .val (.int p1), .val (.int p2), .val (.int (2 : Int32)), .val (.long la0), .second, .val (.long la1), .second, .val (.long la2), .second, .val (.long lb0), .second, .val (.long lb1), .second, .val (.long lb2), .second, .val (.ref b163), .val (.ref b169), .val (.long r2), .second, .val (.double d1), .second, .val (.double d2), .second]) rfl ?_
      show Steps p.tables e below (T209.setTop (mkF m 204 #[.val (.long q0), .second, .val (.long q1), .second, .val (.int p0), .val (.int p1), .val (.int p2), .val (.int (2 : Int32)), .val (.long la0), .second, .val (.long la1), .second, .val (.long la2), .second, .val (.long lb0), .second, .val (.long lb1), .second, .val (.long lb2), .second, .val (.ref b163), .val (.ref b169), .val (.long r2), .second, .val (.double d1), .second, .val (.double d2), .second] [])) _
      refine XS.dload X209.here hx rfl (hb hby at_204) rfl ?_
      show Steps p.tables e below (T209.setTop (mkF m 206 #[.val (.long q0), .second, .val (.long q1), .second, .val (.int p0), .val (.int p1), .val (.int p2), .val (.int (2 : Int32)), .val (.long la0), .second, .val (.long la1), .second, .val (.long la2), .second, .val (.long lb0), .second, .val (.long lb1), .second, .val (.long lb2), .second, .val (.ref b163), .val (.ref b169), .val (.long r2), .second, .val (.double d1), .second, .val (.double d2), .second] [(.double d1)])) _
      refine XS.lload X209.here hx rfl (hb hby at_206) rfl ?_
      show Steps p.tables e below (T209.setTop (mkF m 208 #[.val (.long q0), .second, .val (.long q1), .second, .val (.int p0), .val (.int p1), .val (.int p2), .val (.int (2 : Int32)), .val (.long la0), .second, .val (.long la1), .second, .val (.long la2), .second, .val (.long lb0), .second, .val (.long lb1), .second, .val (.long lb2), .second, .val (.ref b163), .val (.ref b169), .val (.long r2), .second, .val (.double d1), .second, .val (.double d2), .second] [(.long r2), (.double d1)])) _
      refine XS.l2dS X209.here hx rfl (hb hby at_208) rfl hwant ?_
      show Steps p.tables e below (T209.setTop (mkF m 209 #[.val (.long q0), .second, .val (.long q1), .second, .val (.int p0), .val (.int p1), .val (.int p2), .val (.int (2 : Int32)), .val (.long la0), .second, .val (.long la1), .second, .val (.long la2), .second, .val (.long lb0), .second, .val (.long lb1), .second, .val (.long lb2), .second, .val (.ref b163), .val (.ref b169), .val (.long r2), .second, .val (.double d1), .second, .val (.double d2), .second] [(.double want), (.double d1)])) _
      refine XS.dcmpS X209.here hx rfl (hb hby at_209) rfl rfl ?_
      show Steps p.tables e below (T209.setTop (mkF m 210 #[.val (.long q0), .second, .val (.long q1), .second, .val (.int p0), .val (.int p1), .val (.int p2), .val (.int (2 : Int32)), .val (.long la0), .second, .val (.long la1), .second, .val (.long la2), .second, .val (.long lb0), .second, .val (.long lb1), .second, .val (.long lb2), .second, .val (.ref b163), .val (.ref b169), .val (.long r2), .second, .val (.double d1), .second, .val (.double d2), .second] [(.int (cmpValue (FP.dcmp d1 want) .l))])) _
      refine XS.ifNo X209.here hx rfl (hb hby at_210) rfl ((if0 _ _).trans (teq hf1).2) ?_
      show Steps p.tables e below (T209.setTop (mkF m 213 #[.val (.long q0), .second, .val (.long q1), .second, .val (.int p0), .val (.int p1), .val (.int p2), .val (.int (2 : Int32)), .val (.long la0), .second, .val (.long la1), .second, .val (.long la2), .second, .val (.long lb0), .second, .val (.long lb1), .second, .val (.long lb2), .second, .val (.ref b163), .val (.ref b169), .val (.long r2), .second, .val (.double d1), .second, .val (.double d2), .second] [])) _
      refine XS.dload X209.here hx rfl (hb hby at_213) rfl ?_
      show Steps p.tables e below (T209.setTop (mkF m 215 #[.val (.long q0), .second, .val (.long q1), .second, .val (.int p0), .val (.int p1), .val (.int p2), .val (.int (2 : Int32)), .val (.long la0), .second, .val (.long la1), .second, .val (.long la2), .second, .val (.long lb0), .second, .val (.long lb1), .second, .val (.long lb2), .second, .val (.ref b163), .val (.ref b169), .val (.long r2), .second, .val (.double d1), .second, .val (.double d2), .second] [(.double d2)])) _
      refine XS.lload X209.here hx rfl (hb hby at_215) rfl ?_
      show Steps p.tables e below (T209.setTop (mkF m 217 #[.val (.long q0), .second, .val (.long q1), .second, .val (.int p0), .val (.int p1), .val (.int p2), .val (.int (2 : Int32)), .val (.long la0), .second, .val (.long la1), .second, .val (.long la2), .second, .val (.long lb0), .second, .val (.long lb1), .second, .val (.long lb2), .second, .val (.ref b163), .val (.ref b169), .val (.long r2), .second, .val (.double d1), .second, .val (.double d2), .second] [(.long r2), (.double d2)])) _
      refine XS.l2dS X209.here hx rfl (hb hby at_217) rfl hwant2 ?_
      show Steps p.tables e below (T209.setTop (mkF m 218 #[.val (.long q0), .second, .val (.long q1), .second, .val (.int p0), .val (.int p1), .val (.int p2), .val (.int (2 : Int32)), .val (.long la0), .second, .val (.long la1), .second, .val (.long la2), .second, .val (.long lb0), .second, .val (.long lb1), .second, .val (.long lb2), .second, .val (.ref b163), .val (.ref b169), .val (.long r2), .second, .val (.double d1), .second, .val (.double d2), .second] [(.double want2), (.double d2)])) _
      refine XS.dcmpS X209.here hx rfl (hb hby at_218) rfl rfl ?_
      show Steps p.tables e below (T209.setTop (mkF m 219 #[.val (.long q0), .second, .val (.long q1), .second, .val (.int p0), .val (.int p1), .val (.int p2), .val (.int (2 : Int32)), .val (.long la0), .second, .val (.long la1), .second, .val (.long la2), .second, .val (.long lb0), .second, .val (.long lb1), .second, .val (.long lb2), .second, .val (.ref b163), .val (.ref b169), .val (.long r2), .second, .val (.double d1), .second, .val (.double d2), .second] [(.int (cmpValue (FP.dcmp d2 want2) .l))])) _
      refine XS.ifNo X209.here hx rfl (hb hby at_219) rfl ((if0 _ _).trans (teq hf2).2) ?_
      show Steps p.tables e below (T209.setTop (mkF m 222 #[.val (.long q0), .second, .val (.long q1), .second, .val (.int p0), .val (.int p1), .val (.int p2), .val (.int (2 : Int32)), .val (.long la0), .second, .val (.long la1), .second, .val (.long la2), .second, .val (.long lb0), .second, .val (.long lb1), .second, .val (.long lb2), .second, .val (.ref b163), .val (.ref b169), .val (.long r2), .second, .val (.double d1), .second, .val (.double d2), .second] [])) _
      refine XS.iconst X209.here hx rfl (hb hby at_222) ?_
      show Steps p.tables e below (T209.setTop (mkF m 223 #[.val (.long q0), .second, .val (.long q1), .second, .val (.int p0), .val (.int p1), .val (.int p2), .val (.int (2 : Int32)), .val (.long la0), .second, .val (.long la1), .second, .val (.long la2), .second, .val (.long lb0), .second, .val (.long lb1), .second, .val (.long lb2), .second, .val (.ref b163), .val (.ref b169), .val (.long r2), .second, .val (.double d1), .second, .val (.double d2), .second] [(.int (1 : Int32))])) _
      refine XS.goto X209.here hx rfl (pc0 := 223) (pc' := 227) rfl (hb hby at_223) (by decide) (by decide) ?_
      exact k)
    obtain ⟨fs, hr, hrun, hended, hW, hsame⟩ := X209.leave (v := some (.int (1 : Int32))) (fun h => by rw [Bd.returns] at h; cases h)
    refine ⟨_, _, k212 _ (retOut X209 hx (t := .boolean) Bd.returns rfl (Or.inl ⟨rfl, Or.inr (Or.inl rfl), _, rfl⟩) (hb hby at_227) hr), hrun, hended, _, _, rfl, ?_, ⟨_, rfl⟩, hW, hsame.mono (by decide) (by decide)⟩
    show Q_rm0 Z q0 q1 p0 p1 p2 h0 n0 _ T209.heap _
    rw [e209]
    exact ⟨rfl, N210⟩
  · have k213 : ∀ t, Steps p.tables e below (s₁.setTop (mkF m 65 #[.val (.long q0), .second, .val (.long q1), .second, .val (.int p0), .val (.int p1), .val (.int p2), .val (.int (3 : Int32)), .val (.long la0), .second, .val (.long la1), .second, .val (.long la2), .second, .val (.long lb0), .second, .val (.long lb1), .second, .val (.long lb2), .second, .unset, .unset, .unset, .unset, .unset, .unset, .unset, .unset] [(.int (3 : Int32))])) t → Steps p.tables e below (s₁.setTop (entryFrame m #[(.long q0), (.long q1), (.int p0), (.int p1), (.int p2)] maxLocals)) t := fun t k => k101 t (by
      show Steps p.tables e below (s₁.setTop (mkF m 63 #[.val (.long q0), .second, .val (.long q1), .second, .val (.int p0), .val (.int p1), .val (.int p2), .val (.int (3 : Int32)), .val (.long la0), .second, .val (.long la1), .second, .val (.long la2), .second, .val (.long lb0), .second, .val (.long lb1), .second, .val (.long lb2), .second, .unset, .unset, .unset, .unset, .unset, .unset, .unset, .unset] [])) _
      refine XS.iload X0.here hx rfl (hb hby at_63) rfl ?_
      exact k)
    obtain ⟨T214, h214, k214, X214, e214, E214, A214, st214⟩ := newP X0 hx hZ (hw _ (List.mem_of_getElem? (i := 1) rfl)) e0 (g := (mkF m 65 #[.val (.long q0), .second, .val (.long q1), .second, .val (.int p0), .val (.int p1), .val (.int p2), .val (.int (3 : Int32)), .val (.long la0), .second, .val (.long la1), .second, .val (.long la2), .second, .val (.long lb0), .second, .val (.long lb1), .second, .val (.long lb2), .second, .unset, .unset, .unset, .unset, .unset, .unset, .unset, .unset] [(.int (3 : Int32))])) rfl (hb hby at_65) rfl (by decide) (cap := 3) (by decide) (by decide) (by decide) (by decide)
    obtain ⟨b214, g214⟩ : ∃ z, z = h0.size := ⟨_, rfl⟩
    rw [← g214] at A214 st214
    have g215 : n0 ≤ b214 := Nat.le_trans Z0 (Nat.le_of_eq g214.symm)
    have Z216 : n0 ≤ h214.size := Nat.le_trans Z0 E214.1
    have V217 : Arv Z h214 b214 k214 .double (3 : Int32) [(.double (0 : UInt64)), (.double (0 : UInt64)), (.double (0 : UInt64))] (.double (0 : UInt64)) := (Arv.new A214 (by decide)).pad (pad_rep [] (.double (0 : UInt64)) 3)
    have k218 : ∀ t, Steps p.tables e below (T214.setTop (mkF m 67 #[.val (.long q0), .second, .val (.long q1), .second, .val (.int p0), .val (.int p1), .val (.int p2), .val (.int (3 : Int32)), .val (.long la0), .second, .val (.long la1), .second, .val (.long la2), .second, .val (.long lb0), .second, .val (.long lb1), .second, .val (.long lb2), .second, .unset, .unset, .unset, .unset, .unset, .unset, .unset, .unset] [(.ref b214)])) t → Steps p.tables e below (s₁.setTop (entryFrame m #[(.long q0), (.long q1), (.int p0), (.int p1), (.int p2)] maxLocals)) t := fun t k => k213 t (st214 t k)
    have k219 : ∀ t, Steps p.tables e below (T214.setTop (mkF m 71 #[.val (.long q0), .second, .val (.long q1), .second, .val (.int p0), .val (.int p1), .val (.int p2), .val (.int (3 : Int32)), .val (.long la0), .second, .val (.long la1), .second, .val (.long la2), .second, .val (.long lb0), .second, .val (.long lb1), .second, .val (.long lb2), .second, .val (.ref b214), .unset, .unset, .unset, .unset, .unset, .unset, .unset] [(.int (3 : Int32))])) t → Steps p.tables e below (s₁.setTop (entryFrame m #[(.long q0), (.long q1), (.int p0), (.int p1), (.int p2)] maxLocals)) t := fun t k => k218 t (by
      show Steps p.tables e below (T214.setTop (mkF m 67 #[.val (.long q0), .second, .val (.long q1), .second, .val (.int p0), .val (.int p1), .val (.int p2), .val (.int (3 : Int32)), .val (.long la0), .second, .val (.long la1), .second, .val (.long la2), .second, .val (.long lb0), .second, .val (.long lb1), .second, .val (.long lb2), .second, .unset, .unset, .unset, .unset, .unset, .unset, .unset, .unset] [(.ref b214)])) _
      refine XS.astore X214.here hx rfl (hb hby at_67) rfl rfl (l' := #[.val (.long q0), .second, .val (.long q1), .second, .val (.int p0), .val (.int p1), .val (.int p2), .val (.int (3 : Int32)), .val (.long la0), .second, .val (.long la1), .second, .val (.long la2), .second, .val (.long lb0), .second, .val (.long lb1), .second, .val (.long lb2), .second, .val (.ref b214), .unset, .unset, .unset, .unset, .unset, .unset, .unset]) rfl ?_
      show Steps p.tables e below (T214.setTop (mkF m 69 #[.val (.long q0), .second, .val (.long q1), .second, .val (.int p0), .val (.int p1), .val (.int p2), .val (.int (3 : Int32)), .val (.long la0), .second, .val (.long la1), .second, .val (.long la2), .second, .val (.long lb0), .second, .val (.long lb1), .second, .val (.long lb2), .second, .val (.ref b214), .unset, .unset, .unset, .unset, .unset, .unset, .unset] [])) _
      refine XS.iload X214.here hx rfl (hb hby at_69) rfl ?_
      exact k)
    obtain ⟨T220, h220, k220, X220, e220, E220, A220, st220⟩ := newP X214 hx hZ (hw _ (List.mem_of_getElem? (i := 1) rfl)) e214 (g := (mkF m 71 #[.val (.long q0), .second, .val (.long q1), .second, .val (.int p0), .val (.int p1), .val (.int p2), .val (.int (3 : Int32)), .val (.long la0), .second, .val (.long la1), .second, .val (.long la2), .second, .val (.long lb0), .second, .val (.long lb1), .second, .val (.long lb2), .second, .val (.ref b214), .unset, .unset, .unset, .unset, .unset, .unset, .unset] [(.int (3 : Int32))])) rfl (hb hby at_71) rfl (by decide) (cap := 3) (by decide) (by decide) (by decide) (by decide)
    obtain ⟨b220, g220⟩ : ∃ z, z = h214.size := ⟨_, rfl⟩
    rw [← g220] at A220 st220
    have n221 : b214 ≠ b220 := Nat.ne_of_lt (Nat.lt_of_lt_of_le V217.lt (Nat.le_of_eq g220.symm))
    have g222 : n0 ≤ b220 := Nat.le_trans Z216 (Nat.le_of_eq g220.symm)
    have F223 := V217.ext E220
    have Z224 : n0 ≤ h220.size := Nat.le_trans Z216 E220.1
    have V225 : Arv Z h220 b220 k220 .double (3 : Int32) [(.double (0 : UInt64)), (.double (0 : UInt64)), (.double (0 : UInt64))] (.double (0 : UInt64)) := (Arv.new A220 (by decide)).pad (pad_rep [] (.double (0 : UInt64)) 3)
    have k226 : ∀ t, Steps p.tables e below (T220.setTop (mkF m 73 #[.val (.long q0), .second, .val (.long q1), .second, .val (.int p0), .val (.int p1), .val (.int p2), .val (.int (3 : Int32)), .val (.long la0), .second, .val (.long la1), .second, .val (.long la2), .second, .val (.long lb0), .second, .val (.long lb1), .second, .val (.long lb2), .second, .val (.ref b214), .unset, .unset, .unset, .unset, .unset, .unset, .unset] [(.ref b220)])) t → Steps p.tables e below (s₁.setTop (entryFrame m #[(.long q0), (.long q1), (.int p0), (.int p1), (.int p2)] maxLocals)) t := fun t k => k219 t (st220 t k)
    obtain ⟨vla0, hvla0⟩ : ∃ z : UInt64, FP.l2d la0 = z := ⟨_, rfl⟩
    have Dvla0 : Dy (la0.toInt) (0) vla0 := by rw [← hvla0]; exact Dy.l2d (by omega)
    have k227 : ∀ t, Steps p.tables e below (T220.setTop (mkF m 90 #[.val (.long q0), .second, .val (.long q1), .second, .val (.int p0), .val (.int p1), .val (.int p2), .val (.int (3 : Int32)), .val (.long la0), .second, .val (.long la1), .second, .val (.long la2), .second, .val (.long lb0), .second, .val (.long lb1), .second, .val (.long lb2), .second, .val (.ref b214), .val (.ref b220), .val (.long (0 : Int64)), .second, .unset, .unset, .unset, .unset] [(.double vla0), (.int (0 : Int32)), (.ref b214)])) t → Steps p.tables e below (s₁.setTop (entryFrame m #[(.long q0), (.long q1), (.int p0), (.int p1), (.int p2)] maxLocals)) t := fun t k => k226 t (by
      show Steps p.tables e below (T220.setTop (mkF m 73 #[.val (.long q0), .second, .val (.long q1), .second, .val (.int p0), .val (.int p1), .val (.int p2), .val (.int (3 : Int32)), .val (.long la0), .second, .val (.long la1), .second, .val (.long la2), .second, .val (.long lb0), .second, .val (.long lb1), .second, .val (.long lb2), .second, .val (.ref b214), .unset, .unset, .unset, .unset, .unset, .unset, .unset] [(.ref b220)])) _
      refine XS.astore X220.here hx rfl (hb hby at_73) rfl rfl (l' := #[.val (.long q0), .second, .val (.long q1), .second, .val (.int p0), .val (.int p1), .val (.int p2), .val (.int (3 : Int32)), .val (.long la0), .second, .val (.long la1), .second, .val (.long la2), .second, .val (.long lb0), .second, .val (.long lb1), .second, .val (.long lb2), .second, .val (.ref b214), .val (.ref b220), .unset, .unset, .unset, .unset, .unset, .unset]) rfl ?_
      show Steps p.tables e below (T220.setTop (mkF m 75 #[.val (.long q0), .second, .val (.long q1), .second, .val (.int p0), .val (.int p1), .val (.int p2), .val (.int (3 : Int32)), .val (.long la0), .second, .val (.long la1), .second, .val (.long la2), .second, .val (.long lb0), .second, .val (.long lb1), .second, .val (.long lb2), .second, .val (.ref b214), .val (.ref b220), .unset, .unset, .unset, .unset, .unset, .unset] [])) _
      refine XS.lconst X220.here hx rfl (hb hby at_75) ?_
      show Steps p.tables e below (T220.setTop (mkF m 76 #[.val (.long q0), .second, .val (.long q1), .second, .val (.int p0), .val (.int p1), .val (.int p2), .val (.int (3 : Int32)), .val (.long la0), .second, .val (.long la1), .second, .val (.long la2), .second, .val (.long lb0), .second, .val (.long lb1), .second, .val (.long lb2), .second, .val (.ref b214), .val (.ref b220), .unset, .unset, .unset, .unset, .unset, .unset] [(.long (0 : Int64))])) _
      refine XS.lstore X220.here hx rfl (hb hby at_76) rfl (l' := #[.val (.long q0), .second, .val (.long q1), .second, .val (.int p0), .val (.int p1), .val (.int p2), .val (.int (3 : Int32)), .val (.long la0), .second, .val (.long la1), .second, .val (.long la2), .second, .val (.long lb0), .second, .val (.long lb1), .second, .val (.long lb2), .second, .val (.ref b214), .val (.ref b220), .val (.long (0 : Int64)), .second, .unset, .unset, .unset, .unset]) rfl ?_
      show Steps p.tables e below (T220.setTop (mkF m 78 #[.val (.long q0), .second, .val (.long q1), .second, .val (.int p0), .val (.int p1), .val (.int p2), .val (.int (3 : Int32)), .val (.long la0), .second, .val (.long la1), .second, .val (.long la2), .second, .val (.long lb0), .second, .val (.long lb1), .second, .val (.long lb2), .second, .val (.ref b214), .val (.ref b220), .val (.long (0 : Int64)), .second, .unset, .unset, .unset, .unset] [])) _
      refine XS.iload X220.here hx rfl (hb hby at_78) rfl ?_
      show Steps p.tables e below (T220.setTop (mkF m 80 #[.val (.long q0), .second, .val (.long q1), .second, .val (.int p0), .val (.int p1), .val (.int p2), .val (.int (3 : Int32)), .val (.long la0), .second, .val (.long la1), .second, .val (.long la2), .second, .val (.long lb0), .second, .val (.long lb1), .second, .val (.long lb2), .second, .val (.ref b214), .val (.ref b220), .val (.long (0 : Int64)), .second, .unset, .unset, .unset, .unset] [(.int (3 : Int32))])) _
      refine XS.iconst X220.here hx rfl (hb hby at_80) ?_
      show Steps p.tables e below (T220.setTop (mkF m 81 #[.val (.long q0), .second, .val (.long q1), .second, .val (.int p0), .val (.int p1), .val (.int p2), .val (.int (3 : Int32)), .val (.long la0), .second, .val (.long la1), .second, .val (.long la2), .second, .val (.long lb0), .second, .val (.long lb1), .second, .val (.long lb2), .second, .val (.ref b214), .val (.ref b220), .val (.long (0 : Int64)), .second, .unset, .unset, .unset, .unset] [(.int (1 : Int32)), (.int (3 : Int32))])) _
      refine XS.icmpNo X220.here hx rfl (hb hby at_81) rfl (flt (by decide)).1 ?_
      show Steps p.tables e below (T220.setTop (mkF m 84 #[.val (.long q0), .second, .val (.long q1), .second, .val (.int p0), .val (.int p1), .val (.int p2), .val (.int (3 : Int32)), .val (.long la0), .second, .val (.long la1), .second, .val (.long la2), .second, .val (.long lb0), .second, .val (.long lb1), .second, .val (.long lb2), .second, .val (.ref b214), .val (.ref b220), .val (.long (0 : Int64)), .second, .unset, .unset, .unset, .unset] [])) _
      refine XS.aload X220.here hx rfl (hb hby at_84) rfl rfl ?_
      show Steps p.tables e below (T220.setTop (mkF m 86 #[.val (.long q0), .second, .val (.long q1), .second, .val (.int p0), .val (.int p1), .val (.int p2), .val (.int (3 : Int32)), .val (.long la0), .second, .val (.long la1), .second, .val (.long la2), .second, .val (.long lb0), .second, .val (.long lb1), .second, .val (.long lb2), .second, .val (.ref b214), .val (.ref b220), .val (.long (0 : Int64)), .second, .unset, .unset, .unset, .unset] [(.ref b214)])) _
      refine XS.iconst X220.here hx rfl (hb hby at_86) ?_
      show Steps p.tables e below (T220.setTop (mkF m 87 #[.val (.long q0), .second, .val (.long q1), .second, .val (.int p0), .val (.int p1), .val (.int p2), .val (.int (3 : Int32)), .val (.long la0), .second, .val (.long la1), .second, .val (.long la2), .second, .val (.long lb0), .second, .val (.long lb1), .second, .val (.long lb2), .second, .val (.ref b214), .val (.ref b220), .val (.long (0 : Int64)), .second, .unset, .unset, .unset, .unset] [(.int (0 : Int32)), (.ref b214)])) _
      refine XS.lload X220.here hx rfl (hb hby at_87) rfl ?_
      show Steps p.tables e below (T220.setTop (mkF m 89 #[.val (.long q0), .second, .val (.long q1), .second, .val (.int p0), .val (.int p1), .val (.int p2), .val (.int (3 : Int32)), .val (.long la0), .second, .val (.long la1), .second, .val (.long la2), .second, .val (.long lb0), .second, .val (.long lb1), .second, .val (.long lb2), .second, .val (.ref b214), .val (.ref b220), .val (.long (0 : Int64)), .second, .unset, .unset, .unset, .unset] [(.long la0), (.int (0 : Int32)), (.ref b214)])) _
      refine XS.l2dS X220.here hx rfl (hb hby at_89) rfl hvla0 ?_
      exact k)
    obtain ⟨c228, Ar228, Aq228, As228, An228, Ah228, Ag228⟩ := id F223
    have hin228 : ¬ ((0 : Int32) < 0 ∨ c228.slots.size ≤ ((0 : Int32)).toNatClampNeg) := inb_of As228 ⟨by decide, by decide⟩
    obtain ⟨T228, h228, X228, e228, W228, st228⟩ := stD X220 hx hZ e220 Ar228 (j := (0 : Int32)) hin228 (g := (mkF m 90 #[.val (.long q0), .second, .val (.long q1), .second, .val (.int p0), .val (.int p1), .val (.int p2), .val (.int (3 : Int32)), .val (.long la0), .second, .val (.long la1), .second, .val (.long la2), .second, .val (.long lb0), .second, .val (.long lb1), .second, .val (.long lb2), .second, .val (.ref b214), .val (.ref b220), .val (.long (0 : Int64)), .second, .unset, .unset, .unset, .unset] [(.double vla0), (.int (0 : Int32)), (.ref b214)])) rfl rfl (hb hby at_90)
    have V229 := Arv.set Ar228 Aq228 As228 An228 Ah228 Ag228 rfl W228 0 rfl (Nat.le_of_ble_eq_true rfl)
    have F230 := V225.other W228 (Ne.symm n221)
    have Z231 : n0 ≤ h228.size := Nat.le_trans Z224 (Nat.le_of_eq W228.size.symm)
    have N232 := Fr.snoc X228 N0 g215
    have k233 : ∀ t, Steps p.tables e below (T228.setTop (mkF m 91 #[.val (.long q0), .second, .val (.long q1), .second, .val (.int p0), .val (.int p1), .val (.int p2), .val (.int (3 : Int32)), .val (.long la0), .second, .val (.long la1), .second, .val (.long la2), .second, .val (.long lb0), .second, .val (.long lb1), .second, .val (.long lb2), .second, .val (.ref b214), .val (.ref b220), .val (.long (0 : Int64)), .second, .unset, .unset, .unset, .unset] [])) t → Steps p.tables e below (s₁.setTop (entryFrame m #[(.long q0), (.long q1), (.int p0), (.int p1), (.int p2)] maxLocals)) t := fun t k => k227 t (st228 t k)
    obtain ⟨vlb0, hvlb0⟩ : ∃ z : UInt64, FP.l2d lb0 = z := ⟨_, rfl⟩
    have Dvlb0 : Dy (lb0.toInt) (0) vlb0 := by rw [← hvlb0]; exact Dy.l2d (by omega)
    have k234 : ∀ t, Steps p.tables e below (T228.setTop (mkF m 97 #[.val (.long q0), .second, .val (.long q1), .second, .val (.int p0), .val (.int p1), .val (.int p2), .val (.int (3 : Int32)), .val (.long la0), .second, .val (.long la1), .second, .val (.long la2), .second, .val (.long lb0), .second, .val (.long lb1), .second, .val (.long lb2), .second, .val (.ref b214), .val (.ref b220), .val (.long (0 : Int64)), .second, .unset, .unset, .unset, .unset] [(.double vlb0), (.int (0 : Int32)), (.ref b220)])) t → Steps p.tables e below (s₁.setTop (entryFrame m #[(.long q0), (.long q1), (.int p0), (.int p1), (.int p2)] maxLocals)) t := fun t k => k233 t (by
      show Steps p.tables e below (T228.setTop (mkF m 91 #[.val (.long q0), .second, .val (.long q1), .second, .val (.int p0), .val (.int p1), .val (.int p2), .val (.int (3 : Int32)), .val (.long la0), .second, .val (.long la1), .second, .val (.long la2), .second, .val (.long lb0), .second, .val (.long lb1), .second, .val (.long lb2), .second, .val (.ref b214), .val (.ref b220), .val (.long (0 : Int64)), .second, .unset, .unset, .unset, .unset] [])) _
      refine XS.aload X228.here hx rfl (hb hby at_91) rfl rfl ?_
      show Steps p.tables e below (T228.setTop (mkF m 93 #[.val (.long q0), .second, .val (.long q1), .second, .val (.int p0), .val (.int p1), .val (.int p2), .val (.int (3 : Int32)), .val (.long la0), .second, .val (.long la1), .second, .val (.long la2), .second, .val (.long lb0), .second, .val (.long lb1), .second, .val (.long lb2), .second, .val (.ref b214), .val (.ref b220), .val (.long (0 : Int64)), .second, .unset, .unset, .unset, .unset] [(.ref b220)])) _
      refine XS.iconst X228.here hx rfl (hb hby at_93) ?_
      show Steps p.tables e below (T228.setTop (mkF m 94 #[.val (.long q0), .second, .val (.long q1), .second, .val (.int p0), .val (.int p1), .val (.int p2), .val (.int (3 : Int32)), .val (.long la0), .second, .val (.long la1), .second, .val (.long la2), .second, .val (.long lb0), .second, .val (.long lb1), .second, .val (.long lb2), .second, .val (.ref b214), .val (.ref b220), .val (.long (0 : Int64)), .second, .unset, .unset, .unset, .unset] [(.int (0 : Int32)), (.ref b220)])) _
      refine XS.lload X228.here hx rfl (hb hby at_94) rfl ?_
      show Steps p.tables e below (T228.setTop (mkF m 96 #[.val (.long q0), .second, .val (.long q1), .second, .val (.int p0), .val (.int p1), .val (.int p2), .val (.int (3 : Int32)), .val (.long la0), .second, .val (.long la1), .second, .val (.long la2), .second, .val (.long lb0), .second, .val (.long lb1), .second, .val (.long lb2), .second, .val (.ref b214), .val (.ref b220), .val (.long (0 : Int64)), .second, .unset, .unset, .unset, .unset] [(.long lb0), (.int (0 : Int32)), (.ref b220)])) _
      refine XS.l2dS X228.here hx rfl (hb hby at_96) rfl hvlb0 ?_
      exact k)
    obtain ⟨c235, Ar235, Aq235, As235, An235, Ah235, Ag235⟩ := id F230
    have hin235 : ¬ ((0 : Int32) < 0 ∨ c235.slots.size ≤ ((0 : Int32)).toNatClampNeg) := inb_of As235 ⟨by decide, by decide⟩
    obtain ⟨T235, h235, X235, e235, W235, st235⟩ := stD X228 hx hZ e228 Ar235 (j := (0 : Int32)) hin235 (g := (mkF m 97 #[.val (.long q0), .second, .val (.long q1), .second, .val (.int p0), .val (.int p1), .val (.int p2), .val (.int (3 : Int32)), .val (.long la0), .second, .val (.long la1), .second, .val (.long la2), .second, .val (.long lb0), .second, .val (.long lb1), .second, .val (.long lb2), .second, .val (.ref b214), .val (.ref b220), .val (.long (0 : Int64)), .second, .unset, .unset, .unset, .unset] [(.double vlb0), (.int (0 : Int32)), (.ref b220)])) rfl rfl (hb hby at_97)
    have V236 := Arv.set Ar235 Aq235 As235 An235 Ah235 Ag235 rfl W235 0 rfl (Nat.le_of_ble_eq_true rfl)
    have F237 := V229.other W235 n221
    have Z238 : n0 ≤ h235.size := Nat.le_trans Z231 (Nat.le_of_eq W235.size.symm)
    have N239 := Fr.snoc X235 N232 g222
    have k240 : ∀ t, Steps p.tables e below (T235.setTop (mkF m 98 #[.val (.long q0), .second, .val (.long q1), .second, .val (.int p0), .val (.int p1), .val (.int p2), .val (.int (3 : Int32)), .val (.long la0), .second, .val (.long la1), .second, .val (.long la2), .second, .val (.long lb0), .second, .val (.long lb1), .second, .val (.long lb2), .second, .val (.ref b214), .val (.ref b220), .val (.long (0 : Int64)), .second, .unset, .unset, .unset, .unset] [])) t → Steps p.tables e below (s₁.setTop (entryFrame m #[(.long q0), (.long q1), (.int p0), (.int p1), (.int p2)] maxLocals)) t := fun t k => k234 t (st235 t k)
    obtain ⟨r1, hr1⟩ : ∃ z : Int64, z = ((0 : Int64) + ((la0 - lb0) * (la0 - lb0))) := ⟨_, rfl⟩
    obtain ⟨vla1, hvla1⟩ : ∃ z : UInt64, FP.l2d la1 = z := ⟨_, rfl⟩
    have Dvla1 : Dy (la1.toInt) (0) vla1 := by rw [← hvla1]; exact Dy.l2d (by omega)
    have k241 : ∀ t, Steps p.tables e below (T235.setTop (mkF m 126 #[.val (.long q0), .second, .val (.long q1), .second, .val (.int p0), .val (.int p1), .val (.int p2), .val (.int (3 : Int32)), .val (.long la0), .second, .val (.long la1), .second, .val (.long la2), .second, .val (.long lb0), .second, .val (.long lb1), .second, .val (.long lb2), .second, .val (.ref b214), .val (.ref b220), .val (.long r1), .second, .unset, .unset, .unset, .unset] [(.double vla1), (.int (1 : Int32)), (.ref b214)])) t → Steps p.tables e below (s₁.setTop (entryFrame m #[(.long q0), (.long q1), (.int p0), (.int p1), (.int p2)] maxLocals)) t := fun t k => k240 t (by
      show Steps p.tables e below (T235.setTop (mkF m 98 #[.val (.long q0), .second, .val (.long q1), .second, .val (.int p0), .val (.int p1), .val (.int p2), .val (.int (3 : Int32)), .val (.long la0), .second, .val (.long la1), .second, .val (.long la2), .second, .val (.long lb0), .second, .val (.long lb1), .second, .val (.long lb2), .second, .val (.ref b214), .val (.ref b220), .val (.long (0 : Int64)), .second, .unset, .unset, .unset, .unset] [])) _
      refine XS.lload X235.here hx rfl (hb hby at_98) rfl ?_
      show Steps p.tables e below (T235.setTop (mkF m 100 #[.val (.long q0), .second, .val (.long q1), .second, .val (.int p0), .val (.int p1), .val (.int p2), .val (.int (3 : Int32)), .val (.long la0), .second, .val (.long la1), .second, .val (.long la2), .second, .val (.long lb0), .second, .val (.long lb1), .second, .val (.long lb2), .second, .val (.ref b214), .val (.ref b220), .val (.long (0 : Int64)), .second, .unset, .unset, .unset, .unset] [(.long (0 : Int64))])) _
      refine XS.lload X235.here hx rfl (hb hby at_100) rfl ?_
      show Steps p.tables e below (T235.setTop (mkF m 102 #[.val (.long q0), .second, .val (.long q1), .second, .val (.int p0), .val (.int p1), .val (.int p2), .val (.int (3 : Int32)), .val (.long la0), .second, .val (.long la1), .second, .val (.long la2), .second, .val (.long lb0), .second, .val (.long lb1), .second, .val (.long lb2), .second, .val (.ref b214), .val (.ref b220), .val (.long (0 : Int64)), .second, .unset, .unset, .unset, .unset] [(.long la0), (.long (0 : Int64))])) _
      refine XS.lload X235.here hx rfl (hb hby at_102) rfl ?_
      show Steps p.tables e below (T235.setTop (mkF m 104 #[.val (.long q0), .second, .val (.long q1), .second, .val (.int p0), .val (.int p1), .val (.int p2), .val (.int (3 : Int32)), .val (.long la0), .second, .val (.long la1), .second, .val (.long la2), .second, .val (.long lb0), .second, .val (.long lb1), .second, .val (.long lb2), .second, .val (.ref b214), .val (.ref b220), .val (.long (0 : Int64)), .second, .unset, .unset, .unset, .unset] [(.long lb0), (.long la0), (.long (0 : Int64))])) _
      refine XS.lsub X235.here hx rfl (hb hby at_104) rfl ?_
      show Steps p.tables e below (T235.setTop (mkF m 105 #[.val (.long q0), .second, .val (.long q1), .second, .val (.int p0), .val (.int p1), .val (.int p2), .val (.int (3 : Int32)), .val (.long la0), .second, .val (.long la1), .second, .val (.long la2), .second, .val (.long lb0), .second, .val (.long lb1), .second, .val (.long lb2), .second, .val (.ref b214), .val (.ref b220), .val (.long (0 : Int64)), .second, .unset, .unset, .unset, .unset] [(.long (la0 - lb0)), (.long (0 : Int64))])) _
      refine XS.lload X235.here hx rfl (hb hby at_105) rfl ?_
      show Steps p.tables e below (T235.setTop (mkF m 107 #[.val (.long q0), .second, .val (.long q1), .second, .val (.int p0), .val (.int p1), .val (.int p2), .val (.int (3 : Int32)), .val (.long la0), .second, .val (.long la1), .second, .val (.long la2), .second, .val (.long lb0), .second, .val (.long lb1), .second, .val (.long lb2), .second, .val (.ref b214), .val (.ref b220), .val (.long (0 : Int64)), .second, .unset, .unset, .unset, .unset] [(.long la0), (.long (la0 - lb0)), (.long (0 : Int64))])) _
      refine XS.lload X235.here hx rfl (hb hby at_107) rfl ?_
      show Steps p.tables e below (T235.setTop (mkF m 109 #[.val (.long q0), .second, .val (.long q1), .second, .val (.int p0), .val (.int p1), .val (.int p2), .val (.int (3 : Int32)), .val (.long la0), .second, .val (.long la1), .second, .val (.long la2), .second, .val (.long lb0), .second, .val (.long lb1), .second, .val (.long lb2), .second, .val (.ref b214), .val (.ref b220), .val (.long (0 : Int64)), .second, .unset, .unset, .unset, .unset] [(.long lb0), (.long la0), (.long (la0 - lb0)), (.long (0 : Int64))])) _
      refine XS.lsub X235.here hx rfl (hb hby at_109) rfl ?_
      show Steps p.tables e below (T235.setTop (mkF m 110 #[.val (.long q0), .second, .val (.long q1), .second, .val (.int p0), .val (.int p1), .val (.int p2), .val (.int (3 : Int32)), .val (.long la0), .second, .val (.long la1), .second, .val (.long la2), .second, .val (.long lb0), .second, .val (.long lb1), .second, .val (.long lb2), .second, .val (.ref b214), .val (.ref b220), .val (.long (0 : Int64)), .second, .unset, .unset, .unset, .unset] [(.long (la0 - lb0)), (.long (la0 - lb0)), (.long (0 : Int64))])) _
      refine XS.lmul X235.here hx rfl (hb hby at_110) rfl ?_
      show Steps p.tables e below (T235.setTop (mkF m 111 #[.val (.long q0), .second, .val (.long q1), .second, .val (.int p0), .val (.int p1), .val (.int p2), .val (.int (3 : Int32)), .val (.long la0), .second, .val (.long la1), .second, .val (.long la2), .second, .val (.long lb0), .second, .val (.long lb1), .second, .val (.long lb2), .second, .val (.ref b214), .val (.ref b220), .val (.long (0 : Int64)), .second, .unset, .unset, .unset, .unset] [(.long ((la0 - lb0) * (la0 - lb0))), (.long (0 : Int64))])) _
      refine XS.ladd X235.here hx rfl (hb hby at_111) rfl ?_
      show Steps p.tables e below (T235.setTop (mkF m 112 #[.val (.long q0), .second, .val (.long q1), .second, .val (.int p0), .val (.int p1), .val (.int p2), .val (.int (3 : Int32)), .val (.long la0), .second, .val (.long la1), .second, .val (.long la2), .second, .val (.long lb0), .second, .val (.long lb1), .second, .val (.long lb2), .second, .val (.ref b214), .val (.ref b220), .val (.long (0 : Int64)), .second, .unset, .unset, .unset, .unset] [(.long ((0 : Int64) + ((la0 - lb0) * (la0 - lb0))))])) _
      refine castTop (g' := (mkF m 112 #[.val (.long q0), .second, .val (.long q1), .second, .val (.int p0), .val (.int p1), .val (.int p2), .val (.int (3 : Int32)), .val (.long la0), .second, .val (.long la1), .second, .val (.long la2), .second, .val (.long lb0), .second, .val (.long lb1), .second, .val (.long lb2), .second, .val (.ref b214), .val (.ref b220), .val (.long (0 : Int64)), .second, .unset, .unset, .unset, .unset] [(.long r1)])) (by rw [hr1]) ?_
      show Steps p.tables e below (T235.setTop (mkF m 112 #[.val (.long q0), .second, .val (.long q1), .second, .val (.int p0), .val (.int p1), .val (.int p2), .val (.int (3 : Int32)), .val (.long la0), .second, .val (.long la1), .second, .val (.long la2), .second, .val (.long lb0), .second, .val (.long lb1), .second, .val (.long lb2), .second, .val (.ref b214), .val (.ref b220), .val (.long (0 : Int64)), .second, .unset, .unset, .unset, .unset] [(.long r1)])) _
      refine XS.lstore X235.here hx rfl (hb hby at_112) rfl (l' := #[.val (.long q0), .second, .val (.long q1), .second, .val (.int p0), .val (.int p1), .val (.int p2), .val (.int (3 : Int32)), .val (.long la0), .second, .val (.long la1), .second, .val (.long la2), .second, .val (.long lb0), .second, .val (.long lb1), .second, .val (.long lb2), .second, .val (.ref b214), .val (.ref b220), .val (.long r1), .second, .unset, .unset, .unset, .unset]) rfl ?_
      show Steps p.tables e below (T235.setTop (mkF m 114 #[.val (.long q0), .second, .val (.long q1), .second, .val (.int p0), .val (.int p1), .val (.int p2), .val (.int (3 : Int32)), .val (.long la0), .second, .val (.long la1), .second, .val (.long la2), .second, .val (.long lb0), .second, .val (.long lb1), .second, .val (.long lb2), .second, .val (.ref b214), .val (.ref b220), .val (.long r1), .second, .unset, .unset, .unset, .unset] [])) _
      refine XS.iload X235.here hx rfl (hb hby at_114) rfl ?_
      show Steps p.tables e below (T235.setTop (mkF m 116 #[.val (.long q0), .second, .val (.long q1), .second, .val (.int p0), .val (.int p1), .val (.int p2), .val (.int (3 : Int32)), .val (.long la0), .second, .val (.long la1), .second, .val (.long la2), .second, .val (.long lb0), .second, .val (.long lb1), .second, .val (.long lb2), .second, .val (.ref b214), .val (.ref b220), .val (.long r1), .second, .unset, .unset, .unset, .unset] [(.int (3 : Int32))])) _
      refine XS.iconst X235.here hx rfl (hb hby at_116) ?_
      show Steps p.tables e below (T235.setTop (mkF m 117 #[.val (.long q0), .second, .val (.long q1), .second, .val (.int p0), .val (.int p1), .val (.int p2), .val (.int (3 : Int32)), .val (.long la0), .second, .val (.long la1), .second, .val (.long la2), .second, .val (.long lb0), .second, .val (.long lb1), .second, .val (.long lb2), .second, .val (.ref b214), .val (.ref b220), .val (.long r1), .second, .unset, .unset, .unset, .unset] [(.int (2 : Int32)), (.int (3 : Int32))])) _
      refine XS.icmpNo X235.here hx rfl (hb hby at_117) rfl (flt (by decide)).1 ?_
      show Steps p.tables e below (T235.setTop (mkF m 120 #[.val (.long q0), .second, .val (.long q1), .second, .val (.int p0), .val (.int p1), .val (.int p2), .val (.int (3 : Int32)), .val (.long la0), .second, .val (.long la1), .second, .val (.long la2), .second, .val (.long lb0), .second, .val (.long lb1), .second, .val (.long lb2), .second, .val (.ref b214), .val (.ref b220), .val (.long r1), .second, .unset, .unset, .unset, .unset] [])) _
      refine XS.aload X235.here hx rfl (hb hby at_120) rfl rfl ?_
      show Steps p.tables e below (T235.setTop (mkF m 122 #[.val (.long q0), .second, .val (.long q1), .second, .val (.int p0), .val (.int p1), .val (.int p2), .val (.int (3 : Int32)), .val (.long la0), .second, .val (.long la1), .second, .val (.long la2), .second, .val (.long lb0), .second, .val (.long lb1), .second, .val (.long lb2), .second, .val (.ref b214), .val (.ref b220), .val (.long r1), .second, .unset, .unset, .unset, .unset] [(.ref b214)])) _
      refine XS.iconst X235.here hx rfl (hb hby at_122) ?_
      show Steps p.tables e below (T235.setTop (mkF m 123 #[.val (.long q0), .second, .val (.long q1), .second, .val (.int p0), .val (.int p1), .val (.int p2), .val (.int (3 : Int32)), .val (.long la0), .second, .val (.long la1), .second, .val (.long la2), .second, .val (.long lb0), .second, .val (.long lb1), .second, .val (.long lb2), .second, .val (.ref b214), .val (.ref b220), .val (.long r1), .second, .unset, .unset, .unset, .unset] [(.int (1 : Int32)), (.ref b214)])) _
      refine XS.lload X235.here hx rfl (hb hby at_123) rfl ?_
      show Steps p.tables e below (T235.setTop (mkF m 125 #[.val (.long q0), .second, .val (.long q1), .second, .val (.int p0), .val (.int p1), .val (.int p2), .val (.int (3 : Int32)), .val (.long la0), .second, .val (.long la1), .second, .val (.long la2), .second, .val (.long lb0), .second, .val (.long lb1), .second, .val (.long lb2), .second, .val (.ref b214), .val (.ref b220), .val (.long r1), .second, .unset, .unset, .unset, .unset] [(.long la1), (.int (1 : Int32)), (.ref b214)])) _
      refine XS.l2dS X235.here hx rfl (hb hby at_125) rfl hvla1 ?_
      exact k)
    obtain ⟨c242, Ar242, Aq242, As242, An242, Ah242, Ag242⟩ := id F237
    have hin242 : ¬ ((1 : Int32) < 0 ∨ c242.slots.size ≤ ((1 : Int32)).toNatClampNeg) := inb_of As242 ⟨by decide, by decide⟩
    obtain ⟨T242, h242, X242, e242, W242, st242⟩ := stD X235 hx hZ e235 Ar242 (j := (1 : Int32)) hin242 (g := (mkF m 126 #[.val (.long q0), .second, .val (.long q1), .second, .val (.int p0), .val (.int p1), .val (.int p2), .val (.int (3 : Int32)), .val (.long la0), .second, .val (.long la1), .second, .val (.long la2), .second, .val (.long lb0), .second, .val (.long lb1), .second, .val (.long lb2), .second, .val (.ref b214), .val (.ref b220), .val (.long r1), .second, .unset, .unset, .unset, .unset] [(.double vla1), (.int (1 : Int32)), (.ref b214)])) rfl rfl (hb hby at_126)
    have V243 := Arv.set Ar242 Aq242 As242 An242 Ah242 Ag242 rfl W242 1 rfl (Nat.le_of_ble_eq_true rfl)
    have F244 := V236.other W242 (Ne.symm n221)
    have Z245 : n0 ≤ h242.size := Nat.le_trans Z238 (Nat.le_of_eq W242.size.symm)
    have N246 := Fr.snoc X242 N239 g215
    have k247 : ∀ t, Steps p.tables e below (T242.setTop (mkF m 127 #[.val (.long q0), .second, .val (.long q1), .second, .val (.int p0), .val (.int p1), .val (.int p2), .val (.int (3 : Int32)), .val (.long la0), .second, .val (.long la1), .second, .val (.long la2), .second, .val (.long lb0), .second, .val (.long lb1), .second, .val (.long lb2), .second, .val (.ref b214), .val (.ref b220), .val (.long r1), .second, .unset, .unset, .unset, .unset] [])) t → Steps p.tables e below (s₁.setTop (entryFrame m #[(.long q0), (.long q1), (.int p0), (.int p1), (.int p2)] maxLocals)) t := fun t k => k241 t (st242 t k)
    obtain ⟨vlb1, hvlb1⟩ : ∃ z : UInt64, FP.l2d lb1 = z := ⟨_, rfl⟩
    have Dvlb1 : Dy (lb1.toInt) (0) vlb1 := by rw [← hvlb1]; exact Dy.l2d (by omega)
    have k248 : ∀ t, Steps p.tables e below (T242.setTop (mkF m 133 #[.val (.long q0), .second, .val (.long q1), .second, .val (.int p0), .val (.int p1), .val (.int p2), .val (.int (3 : Int32)), .val (.long la0), .second, .val (.long la1), .second, .val (.long la2), .second, .val (.long lb0), .second, .val (.long lb1), .second, .val (.long lb2), .second, .val (.ref b214), .val (.ref b220), .val (.long r1), .second, .unset, .unset, .unset, .unset] [(.double vlb1), (.int (1 : Int32)), (.ref b220)])) t → Steps p.tables e below (s₁.setTop (entryFrame m #[(.long q0), (.long q1), (.int p0), (.int p1), (.int p2)] maxLocals)) t := fun t k => k247 t (by
      show Steps p.tables e below (T242.setTop (mkF m 127 #[.val (.long q0), .second, .val (.long q1), .second, .val (.int p0), .val (.int p1), .val (.int p2), .val (.int (3 : Int32)), .val (.long la0), .second, .val (.long la1), .second, .val (.long la2), .second, .val (.long lb0), .second, .val (.long lb1), .second, .val (.long lb2), .second, .val (.ref b214), .val (.ref b220), .val (.long r1), .second, .unset, .unset, .unset, .unset] [])) _
      refine XS.aload X242.here hx rfl (hb hby at_127) rfl rfl ?_
      show Steps p.tables e below (T242.setTop (mkF m 129 #[.val (.long q0), .second, .val (.long q1), .second, .val (.int p0), .val (.int p1), .val (.int p2), .val (.int (3 : Int32)), .val (.long la0), .second, .val (.long la1), .second, .val (.long la2), .second, .val (.long lb0), .second, .val (.long lb1), .second, .val (.long lb2), .second, .val (.ref b214), .val (.ref b220), .val (.long r1), .second, .unset, .unset, .unset, .unset] [(.ref b220)])) _
      refine XS.iconst X242.here hx rfl (hb hby at_129) ?_
      show Steps p.tables e below (T242.setTop (mkF m 130 #[.val (.long q0), .second, .val (.long q1), .second, .val (.int p0), .val (.int p1), .val (.int p2), .val (.int (3 : Int32)), .val (.long la0), .second, .val (.long la1), .second, .val (.long la2), .second, .val (.long lb0), .second, .val (.long lb1), .second, .val (.long lb2), .second, .val (.ref b214), .val (.ref b220), .val (.long r1), .second, .unset, .unset, .unset, .unset] [(.int (1 : Int32)), (.ref b220)])) _
      refine XS.lload X242.here hx rfl (hb hby at_130) rfl ?_
      show Steps p.tables e below (T242.setTop (mkF m 132 #[.val (.long q0), .second, .val (.long q1), .second, .val (.int p0), .val (.int p1), .val (.int p2), .val (.int (3 : Int32)), .val (.long la0), .second, .val (.long la1), .second, .val (.long la2), .second, .val (.long lb0), .second, .val (.long lb1), .second, .val (.long lb2), .second, .val (.ref b214), .val (.ref b220), .val (.long r1), .second, .unset, .unset, .unset, .unset] [(.long lb1), (.int (1 : Int32)), (.ref b220)])) _
      refine XS.l2dS X242.here hx rfl (hb hby at_132) rfl hvlb1 ?_
      exact k)
    obtain ⟨c249, Ar249, Aq249, As249, An249, Ah249, Ag249⟩ := id F244
    have hin249 : ¬ ((1 : Int32) < 0 ∨ c249.slots.size ≤ ((1 : Int32)).toNatClampNeg) := inb_of As249 ⟨by decide, by decide⟩
    obtain ⟨T249, h249, X249, e249, W249, st249⟩ := stD X242 hx hZ e242 Ar249 (j := (1 : Int32)) hin249 (g := (mkF m 133 #[.val (.long q0), .second, .val (.long q1), .second, .val (.int p0), .val (.int p1), .val (.int p2), .val (.int (3 : Int32)), .val (.long la0), .second, .val (.long la1), .second, .val (.long la2), .second, .val (.long lb0), .second, .val (.long lb1), .second, .val (.long lb2), .second, .val (.ref b214), .val (.ref b220), .val (.long r1), .second, .unset, .unset, .unset, .unset] [(.double vlb1), (.int (1 : Int32)), (.ref b220)])) rfl rfl (hb hby at_133)
    have V250 := Arv.set Ar249 Aq249 As249 An249 Ah249 Ag249 rfl W249 1 rfl (Nat.le_of_ble_eq_true rfl)
    have F251 := V243.other W249 n221
    have Z252 : n0 ≤ h249.size := Nat.le_trans Z245 (Nat.le_of_eq W249.size.symm)
    have N253 := Fr.snoc X249 N246 g222
    have k254 : ∀ t, Steps p.tables e below (T249.setTop (mkF m 134 #[.val (.long q0), .second, .val (.long q1), .second, .val (.int p0), .val (.int p1), .val (.int p2), .val (.int (3 : Int32)), .val (.long la0), .second, .val (.long la1), .second, .val (.long la2), .second, .val (.long lb0), .second, .val (.long lb1), .second, .val (.long lb2), .second, .val (.ref b214), .val (.ref b220), .val (.long r1), .second, .unset, .unset, .unset, .unset] [])) t → Steps p.tables e below (s₁.setTop (entryFrame m #[(.long q0), (.long q1), (.int p0), (.int p1), (.int p2)] maxLocals)) t := fun t k => k248 t (st249 t k)
    obtain ⟨r2, hr2⟩ : ∃ z : Int64, z = (r1 + ((la1 - lb1) * (la1 - lb1))) := ⟨_, rfl⟩
    obtain ⟨vla2, hvla2⟩ : ∃ z : UInt64, FP.l2d la2 = z := ⟨_, rfl⟩
    have Dvla2 : Dy (la2.toInt) (0) vla2 := by rw [← hvla2]; exact Dy.l2d (by omega)
    have k255 : ∀ t, Steps p.tables e below (T249.setTop (mkF m 162 #[.val (.long q0), .second, .val (.long q1), .second, .val (.int p0), .val (.int p1), .val (.int p2), .val (.int (3 : Int32)), .val (.long la0), .second, .val (.long la1), .second, .val (.long la2), .second, .val (.long lb0), .second, .val (.long lb1), .second, .val (.long lb2), .second, .val (.ref b214), .val (.ref b220), .val (.long r2), .second, .unset, .unset, .unset, .unset] [(.double vla2), (.int (2 : Int32)), (.ref b214)])) t → Steps p.tables e below (s₁.setTop (entryFrame m #[(.long q0), (.long q1), (.int p0), (.int p1), (.int p2)] maxLocals)) t := fun t k => k254 t (by
      show Steps p.tables e below (T249.setTop (mkF m 134 #[.val (.long q0), .second, .val (.long q1), .second, .val (.int p0), .val (.int p1), .val (.int p2), .val (.int (3 : Int32)), .val (.long la0), .second, .val (.long la1), .second, .val (.long la2), .second, .val (.long lb0), .second, .val (.long lb1), .second, .val (.long lb2), .second, .val (.ref b214), .val (.ref b220), .val (.long r1), .second, .unset, .unset, .unset, .unset] [])) _
      refine XS.lload X249.here hx rfl (hb hby at_134) rfl ?_
      show Steps p.tables e below (T249.setTop (mkF m 136 #[.val (.long q0), .second, .val (.long q1), .second, .val (.int p0), .val (.int p1), .val (.int p2), .val (.int (3 : Int32)), .val (.long la0), .second, .val (.long la1), .second, .val (.long la2), .second, .val (.long lb0), .second, .val (.long lb1), .second, .val (.long lb2), .second, .val (.ref b214), .val (.ref b220), .val (.long r1), .second, .unset, .unset, .unset, .unset] [(.long r1)])) _
      refine XS.lload X249.here hx rfl (hb hby at_136) rfl ?_
      show Steps p.tables e below (T249.setTop (mkF m 138 #[.val (.long q0), .second, .val (.long q1), .second, .val (.int p0), .val (.int p1), .val (.int p2), .val (.int (3 : Int32)), .val (.long la0), .second, .val (.long la1), .second, .val (.long la2), .second, .val (.long lb0), .second, .val (.long lb1), .second, .val (.long lb2), .second, .val (.ref b214), .val (.ref b220), .val (.long r1), .second, .unset, .unset, .unset, .unset] [(.long la1), (.long r1)])) _
      refine XS.lload X249.here hx rfl (hb hby at_138) rfl ?_
      show Steps p.tables e below (T249.setTop (mkF m 140 #[.val (.long q0), .second, .val (.long q1), .second, .val (.int p0), .val (.int p1), .val (.int p2), .val (.int (3 : Int32)), .val (.long la0), .second, .val (.long la1), .second, .val (.long la2), .second, .val (.long lb0), .second, .val (.long lb1), .second, .val (.long lb2), .second, .val (.ref b214), .val (.ref b220), .val (.long r1), .second, .unset, .unset, .unset, .unset] [(.long lb1), (.long la1), (.long r1)])) _
      refine XS.lsub X249.here hx rfl (hb hby at_140) rfl ?_
      show Steps p.tables e below (T249.setTop (mkF m 141 #[.val (.long q0), .second, .val (.long q1), .second, .val (.int p0), .val (.int p1), .val (.int p2), .val (.int (3 : Int32)), .val (.long la0), .second, .val (.long la1), .second, .val (.long la2), .second, .val (.long lb0), .second, .val (.long lb1), .second, .val (.long lb2), .second, .val (.ref b214), .val (.ref b220), .val (.long r1), .second, .unset, .unset, .unset, .unset] [(.long (la1 - lb1)), (.long r1)])) _
      refine XS.lload X249.here hx rfl (hb hby at_141) rfl ?_
      show Steps p.tables e below (T249.setTop (mkF m 143 #[.val (.long q0), .second, .val (.long q1), .second, .val (.int p0), .val (.int p1), .val (.int p2), .val (.int (3 : Int32)), .val (.long la0), .second, .val (.long la1), .second, .val (.long la2), .second, .val (.long lb0), .second, .val (.long lb1), .second, .val (.long lb2), .second, .val (.ref b214), .val (.ref b220), .val (.long r1), .second, .unset, .unset, .unset, .unset] [(.long la1), (.long (la1 - lb1)), (.long r1)])) _
      refine XS.lload X249.here hx rfl (hb hby at_143) rfl ?_
      show Steps p.tables e below (T249.setTop (mkF m 145 #[.val (.long q0), .second, .val (.long q1), .second, .val (.int p0), .val (.int p1), .val (.int p2), .val (.int (3 : Int32)), .val (.long la0), .second, .val (.long la1), .second, .val (.long la2), .second, .val (.long lb0), .second, .val (.long lb1), .second, .val (.long lb2), .second, .val (.ref b214), .val (.ref b220), .val (.long r1), .second, .unset, .unset, .unset, .unset] [(.long lb1), (.long la1), (.long (la1 - lb1)), (.long r1)])) _
      refine XS.lsub X249.here hx rfl (hb hby at_145) rfl ?_
      show Steps p.tables e below (T249.setTop (mkF m 146 #[.val (.long q0), .second, .val (.long q1), .second, .val (.int p0), .val (.int p1), .val (.int p2), .val (.int (3 : Int32)), .val (.long la0), .second, .val (.long la1), .second, .val (.long la2), .second, .val (.long lb0), .second, .val (.long lb1), .second, .val (.long lb2), .second, .val (.ref b214), .val (.ref b220), .val (.long r1), .second, .unset, .unset, .unset, .unset] [(.long (la1 - lb1)), (.long (la1 - lb1)), (.long r1)])) _
      refine XS.lmul X249.here hx rfl (hb hby at_146) rfl ?_
      show Steps p.tables e below (T249.setTop (mkF m 147 #[.val (.long q0), .second, .val (.long q1), .second, .val (.int p0), .val (.int p1), .val (.int p2), .val (.int (3 : Int32)), .val (.long la0), .second, .val (.long la1), .second, .val (.long la2), .second, .val (.long lb0), .second, .val (.long lb1), .second, .val (.long lb2), .second, .val (.ref b214), .val (.ref b220), .val (.long r1), .second, .unset, .unset, .unset, .unset] [(.long ((la1 - lb1) * (la1 - lb1))), (.long r1)])) _
      refine XS.ladd X249.here hx rfl (hb hby at_147) rfl ?_
      show Steps p.tables e below (T249.setTop (mkF m 148 #[.val (.long q0), .second, .val (.long q1), .second, .val (.int p0), .val (.int p1), .val (.int p2), .val (.int (3 : Int32)), .val (.long la0), .second, .val (.long la1), .second, .val (.long la2), .second, .val (.long lb0), .second, .val (.long lb1), .second, .val (.long lb2), .second, .val (.ref b214), .val (.ref b220), .val (.long r1), .second, .unset, .unset, .unset, .unset] [(.long (r1 + ((la1 - lb1) * (la1 - lb1))))])) _
      refine castTop (g' := (mkF m 148 #[.val (.long q0), .second, .val (.long q1), .second, .val (.int p0), .val (.int p1), .val (.int p2), .val (.int (3 : Int32)), .val (.long la0), .second, .val (.long la1), .second, .val (.long la2), .second, .val (.long lb0), .second, .val (.long lb1), .second, .val (.long lb2), .second, .val (.ref b214), .val (.ref b220), .val (.long r1), .second, .unset, .unset, .unset, .unset] [(.long r2)])) (by rw [hr2]) ?_
      show Steps p.tables e below (T249.setTop (mkF m 148 #[.val (.long q0), .second, .val (.long q1), .second, .val (.int p0), .val (.int p1), .val (.int p2), .val (.int (3 : Int32)), .val (.long la0), .second, .val (.long la1), .second, .val (.long la2), .second, .val (.long lb0), .second, .val (.long lb1), .second, .val (.long lb2), .second, .val (.ref b214), .val (.ref b220), .val (.long r1), .second, .unset, .unset, .unset, .unset] [(.long r2)])) _
      refine XS.lstore X249.here hx rfl (hb hby at_148) rfl (l' := #[.val (.long q0), .second, .val (.long q1), .second, .val (.int p0), .val (.int p1), .val (.int p2), .val (.int (3 : Int32)), .val (.long la0), .second, .val (.long la1), .second, .val (.long la2), .second, .val (.long lb0), .second, .val (.long lb1), .second, .val (.long lb2), .second, .val (.ref b214), .val (.ref b220), .val (.long r2), .second, .unset, .unset, .unset, .unset]) rfl ?_
      show Steps p.tables e below (T249.setTop (mkF m 150 #[.val (.long q0), .second, .val (.long q1), .second, .val (.int p0), .val (.int p1), .val (.int p2), .val (.int (3 : Int32)), .val (.long la0), .second, .val (.long la1), .second, .val (.long la2), .second, .val (.long lb0), .second, .val (.long lb1), .second, .val (.long lb2), .second, .val (.ref b214), .val (.ref b220), .val (.long r2), .second, .unset, .unset, .unset, .unset] [])) _
      refine XS.iload X249.here hx rfl (hb hby at_150) rfl ?_
      show Steps p.tables e below (T249.setTop (mkF m 152 #[.val (.long q0), .second, .val (.long q1), .second, .val (.int p0), .val (.int p1), .val (.int p2), .val (.int (3 : Int32)), .val (.long la0), .second, .val (.long la1), .second, .val (.long la2), .second, .val (.long lb0), .second, .val (.long lb1), .second, .val (.long lb2), .second, .val (.ref b214), .val (.ref b220), .val (.long r2), .second, .unset, .unset, .unset, .unset] [(.int (3 : Int32))])) _
      refine XS.iconst X249.here hx rfl (hb hby at_152) ?_
      show Steps p.tables e below (T249.setTop (mkF m 153 #[.val (.long q0), .second, .val (.long q1), .second, .val (.int p0), .val (.int p1), .val (.int p2), .val (.int (3 : Int32)), .val (.long la0), .second, .val (.long la1), .second, .val (.long la2), .second, .val (.long lb0), .second, .val (.long lb1), .second, .val (.long lb2), .second, .val (.ref b214), .val (.ref b220), .val (.long r2), .second, .unset, .unset, .unset, .unset] [(.int (3 : Int32)), (.int (3 : Int32))])) _
      refine XS.icmpNo X249.here hx rfl (hb hby at_153) rfl (flt (by decide)).1 ?_
      show Steps p.tables e below (T249.setTop (mkF m 156 #[.val (.long q0), .second, .val (.long q1), .second, .val (.int p0), .val (.int p1), .val (.int p2), .val (.int (3 : Int32)), .val (.long la0), .second, .val (.long la1), .second, .val (.long la2), .second, .val (.long lb0), .second, .val (.long lb1), .second, .val (.long lb2), .second, .val (.ref b214), .val (.ref b220), .val (.long r2), .second, .unset, .unset, .unset, .unset] [])) _
      refine XS.aload X249.here hx rfl (hb hby at_156) rfl rfl ?_
      show Steps p.tables e below (T249.setTop (mkF m 158 #[.val (.long q0), .second, .val (.long q1), .second, .val (.int p0), .val (.int p1), .val (.int p2), .val (.int (3 : Int32)), .val (.long la0), .second, .val (.long la1), .second, .val (.long la2), .second, .val (.long lb0), .second, .val (.long lb1), .second, .val (.long lb2), .second, .val (.ref b214), .val (.ref b220), .val (.long r2), .second, .unset, .unset, .unset, .unset] [(.ref b214)])) _
      refine XS.iconst X249.here hx rfl (hb hby at_158) ?_
      show Steps p.tables e below (T249.setTop (mkF m 159 #[.val (.long q0), .second, .val (.long q1), .second, .val (.int p0), .val (.int p1), .val (.int p2), .val (.int (3 : Int32)), .val (.long la0), .second, .val (.long la1), .second, .val (.long la2), .second, .val (.long lb0), .second, .val (.long lb1), .second, .val (.long lb2), .second, .val (.ref b214), .val (.ref b220), .val (.long r2), .second, .unset, .unset, .unset, .unset] [(.int (2 : Int32)), (.ref b214)])) _
      refine XS.lload X249.here hx rfl (hb hby at_159) rfl ?_
      show Steps p.tables e below (T249.setTop (mkF m 161 #[.val (.long q0), .second, .val (.long q1), .second, .val (.int p0), .val (.int p1), .val (.int p2), .val (.int (3 : Int32)), .val (.long la0), .second, .val (.long la1), .second, .val (.long la2), .second, .val (.long lb0), .second, .val (.long lb1), .second, .val (.long lb2), .second, .val (.ref b214), .val (.ref b220), .val (.long r2), .second, .unset, .unset, .unset, .unset] [(.long la2), (.int (2 : Int32)), (.ref b214)])) _
      refine XS.l2dS X249.here hx rfl (hb hby at_161) rfl hvla2 ?_
      exact k)
    obtain ⟨c256, Ar256, Aq256, As256, An256, Ah256, Ag256⟩ := id F251
    have hin256 : ¬ ((2 : Int32) < 0 ∨ c256.slots.size ≤ ((2 : Int32)).toNatClampNeg) := inb_of As256 ⟨by decide, by decide⟩
    obtain ⟨T256, h256, X256, e256, W256, st256⟩ := stD X249 hx hZ e249 Ar256 (j := (2 : Int32)) hin256 (g := (mkF m 162 #[.val (.long q0), .second, .val (.long q1), .second, .val (.int p0), .val (.int p1), .val (.int p2), .val (.int (3 : Int32)), .val (.long la0), .second, .val (.long la1), .second, .val (.long la2), .second, .val (.long lb0), .second, .val (.long lb1), .second, .val (.long lb2), .second, .val (.ref b214), .val (.ref b220), .val (.long r2), .second, .unset, .unset, .unset, .unset] [(.double vla2), (.int (2 : Int32)), (.ref b214)])) rfl rfl (hb hby at_162)
    have V257 := Arv.set Ar256 Aq256 As256 An256 Ah256 Ag256 rfl W256 2 rfl (Nat.le_of_ble_eq_true rfl)
    have F258 := V250.other W256 (Ne.symm n221)
    have Z259 : n0 ≤ h256.size := Nat.le_trans Z252 (Nat.le_of_eq W256.size.symm)
    have N260 := Fr.snoc X256 N253 g215
    have k261 : ∀ t, Steps p.tables e below (T256.setTop (mkF m 163 #[.val (.long q0), .second, .val (.long q1), .second, .val (.int p0), .val (.int p1), .val (.int p2), .val (.int (3 : Int32)), .val (.long la0), .second, .val (.long la1), .second, .val (.long la2), .second, .val (.long lb0), .second, .val (.long lb1), .second, .val (.long lb2), .second, .val (.ref b214), .val (.ref b220), .val (.long r2), .second, .unset, .unset, .unset, .unset] [])) t → Steps p.tables e below (s₁.setTop (entryFrame m #[(.long q0), (.long q1), (.int p0), (.int p1), (.int p2)] maxLocals)) t := fun t k => k255 t (st256 t k)
    obtain ⟨vlb2, hvlb2⟩ : ∃ z : UInt64, FP.l2d lb2 = z := ⟨_, rfl⟩
    have Dvlb2 : Dy (lb2.toInt) (0) vlb2 := by rw [← hvlb2]; exact Dy.l2d (by omega)
    have k262 : ∀ t, Steps p.tables e below (T256.setTop (mkF m 169 #[.val (.long q0), .second, .val (.long q1), .second, .val (.int p0), .val (.int p1), .val (.int p2), .val (.int (3 : Int32)), .val (.long la0), .second, .val (.long la1), .second, .val (.long la2), .second, .val (.long lb0), .second, .val (.long lb1), .second, .val (.long lb2), .second, .val (.ref b214), .val (.ref b220), .val (.long r2), .second, .unset, .unset, .unset, .unset] [(.double vlb2), (.int (2 : Int32)), (.ref b220)])) t → Steps p.tables e below (s₁.setTop (entryFrame m #[(.long q0), (.long q1), (.int p0), (.int p1), (.int p2)] maxLocals)) t := fun t k => k261 t (by
      show Steps p.tables e below (T256.setTop (mkF m 163 #[.val (.long q0), .second, .val (.long q1), .second, .val (.int p0), .val (.int p1), .val (.int p2), .val (.int (3 : Int32)), .val (.long la0), .second, .val (.long la1), .second, .val (.long la2), .second, .val (.long lb0), .second, .val (.long lb1), .second, .val (.long lb2), .second, .val (.ref b214), .val (.ref b220), .val (.long r2), .second, .unset, .unset, .unset, .unset] [])) _
      refine XS.aload X256.here hx rfl (hb hby at_163) rfl rfl ?_
      show Steps p.tables e below (T256.setTop (mkF m 165 #[.val (.long q0), .second, .val (.long q1), .second, .val (.int p0), .val (.int p1), .val (.int p2), .val (.int (3 : Int32)), .val (.long la0), .second, .val (.long la1), .second, .val (.long la2), .second, .val (.long lb0), .second, .val (.long lb1), .second, .val (.long lb2), .second, .val (.ref b214), .val (.ref b220), .val (.long r2), .second, .unset, .unset, .unset, .unset] [(.ref b220)])) _
      refine XS.iconst X256.here hx rfl (hb hby at_165) ?_
      show Steps p.tables e below (T256.setTop (mkF m 166 #[.val (.long q0), .second, .val (.long q1), .second, .val (.int p0), .val (.int p1), .val (.int p2), .val (.int (3 : Int32)), .val (.long la0), .second, .val (.long la1), .second, .val (.long la2), .second, .val (.long lb0), .second, .val (.long lb1), .second, .val (.long lb2), .second, .val (.ref b214), .val (.ref b220), .val (.long r2), .second, .unset, .unset, .unset, .unset] [(.int (2 : Int32)), (.ref b220)])) _
      refine XS.lload X256.here hx rfl (hb hby at_166) rfl ?_
      show Steps p.tables e below (T256.setTop (mkF m 168 #[.val (.long q0), .second, .val (.long q1), .second, .val (.int p0), .val (.int p1), .val (.int p2), .val (.int (3 : Int32)), .val (.long la0), .second, .val (.long la1), .second, .val (.long la2), .second, .val (.long lb0), .second, .val (.long lb1), .second, .val (.long lb2), .second, .val (.ref b214), .val (.ref b220), .val (.long r2), .second, .unset, .unset, .unset, .unset] [(.long lb2), (.int (2 : Int32)), (.ref b220)])) _
      refine XS.l2dS X256.here hx rfl (hb hby at_168) rfl hvlb2 ?_
      exact k)
    obtain ⟨c263, Ar263, Aq263, As263, An263, Ah263, Ag263⟩ := id F258
    have hin263 : ¬ ((2 : Int32) < 0 ∨ c263.slots.size ≤ ((2 : Int32)).toNatClampNeg) := inb_of As263 ⟨by decide, by decide⟩
    obtain ⟨T263, h263, X263, e263, W263, st263⟩ := stD X256 hx hZ e256 Ar263 (j := (2 : Int32)) hin263 (g := (mkF m 169 #[.val (.long q0), .second, .val (.long q1), .second, .val (.int p0), .val (.int p1), .val (.int p2), .val (.int (3 : Int32)), .val (.long la0), .second, .val (.long la1), .second, .val (.long la2), .second, .val (.long lb0), .second, .val (.long lb1), .second, .val (.long lb2), .second, .val (.ref b214), .val (.ref b220), .val (.long r2), .second, .unset, .unset, .unset, .unset] [(.double vlb2), (.int (2 : Int32)), (.ref b220)])) rfl rfl (hb hby at_169)
    have V264 := Arv.set Ar263 Aq263 As263 An263 Ah263 Ag263 rfl W263 2 rfl (Nat.le_of_ble_eq_true rfl)
    have F265 := V257.other W263 n221
    have Z266 : n0 ≤ h263.size := Nat.le_trans Z259 (Nat.le_of_eq W263.size.symm)
    have N267 := Fr.snoc X263 N260 g222
    have k268 : ∀ t, Steps p.tables e below (T263.setTop (mkF m 170 #[.val (.long q0), .second, .val (.long q1), .second, .val (.int p0), .val (.int p1), .val (.int p2), .val (.int (3 : Int32)), .val (.long la0), .second, .val (.long la1), .second, .val (.long la2), .second, .val (.long lb0), .second, .val (.long lb1), .second, .val (.long lb2), .second, .val (.ref b214), .val (.ref b220), .val (.long r2), .second, .unset, .unset, .unset, .unset] [])) t → Steps p.tables e below (s₁.setTop (entryFrame m #[(.long q0), (.long q1), (.int p0), (.int p1), (.int p2)] maxLocals)) t := fun t k => k262 t (st263 t k)
    obtain ⟨r3, hr3⟩ : ∃ z : Int64, z = (r2 + ((la2 - lb2) * (la2 - lb2))) := ⟨_, rfl⟩
    obtain ⟨O0_0, O0_1, O0_2, O0_3, O0_4, O0_5, O0_6, O0_7, O0_8⟩ := own_dist3 B_la0 B_la1 B_la2 B_lb0 B_lb1 B_lb2 Dvla0 Dvla1 Dvla2 Dvlb0 Dvlb1 Dvlb2
    have k269 : ∀ t, Steps p.tables e below (T263.setTop (mkF m 190 #[.val (.long q0), .second, .val (.long q1), .second, .val (.int p0), .val (.int p1), .val (.int p2), .val (.int (3 : Int32)), .val (.long la0), .second, .val (.long la1), .second, .val (.long la2), .second, .val (.long lb0), .second, .val (.long lb1), .second, .val (.long lb2), .second, .val (.ref b214), .val (.ref b220), .val (.long r3), .second, .unset, .unset, .unset, .unset] [(.ref b220), (.ref b214)])) t → Steps p.tables e below (s₁.setTop (entryFrame m #[(.long q0), (.long q1), (.int p0), (.int p1), (.int p2)] maxLocals)) t := fun t k => k268 t (by
      show Steps p.tables e below (T263.setTop (mkF m 170 #[.val (.long q0), .second, .val (.long q1), .second, .val (.int p0), .val (.int p1), .val (.int p2), .val (.int (3 : Int32)), .val (.long la0), .second, .val (.long la1), .second, .val (.long la2), .second, .val (.long lb0), .second, .val (.long lb1), .second, .val (.long lb2), .second, .val (.ref b214), .val (.ref b220), .val (.long r2), .second, .unset, .unset, .unset, .unset] [])) _
      refine XS.lload X263.here hx rfl (hb hby at_170) rfl ?_
      show Steps p.tables e below (T263.setTop (mkF m 172 #[.val (.long q0), .second, .val (.long q1), .second, .val (.int p0), .val (.int p1), .val (.int p2), .val (.int (3 : Int32)), .val (.long la0), .second, .val (.long la1), .second, .val (.long la2), .second, .val (.long lb0), .second, .val (.long lb1), .second, .val (.long lb2), .second, .val (.ref b214), .val (.ref b220), .val (.long r2), .second, .unset, .unset, .unset, .unset] [(.long r2)])) _
      refine XS.lload X263.here hx rfl (hb hby at_172) rfl ?_
      show Steps p.tables e below (T263.setTop (mkF m 174 #[.val (.long q0), .second, .val (.long q1), .second, .val (.int p0), .val (.int p1), .val (.int p2), .val (.int (3 : Int32)), .val (.long la0), .second, .val (.long la1), .second, .val (.long la2), .second, .val (.long lb0), .second, .val (.long lb1), .second, .val (.long lb2), .second, .val (.ref b214), .val (.ref b220), .val (.long r2), .second, .unset, .unset, .unset, .unset] [(.long la2), (.long r2)])) _
      refine XS.lload X263.here hx rfl (hb hby at_174) rfl ?_
      show Steps p.tables e below (T263.setTop (mkF m 176 #[.val (.long q0), .second, .val (.long q1), .second, .val (.int p0), .val (.int p1), .val (.int p2), .val (.int (3 : Int32)), .val (.long la0), .second, .val (.long la1), .second, .val (.long la2), .second, .val (.long lb0), .second, .val (.long lb1), .second, .val (.long lb2), .second, .val (.ref b214), .val (.ref b220), .val (.long r2), .second, .unset, .unset, .unset, .unset] [(.long lb2), (.long la2), (.long r2)])) _
      refine XS.lsub X263.here hx rfl (hb hby at_176) rfl ?_
      show Steps p.tables e below (T263.setTop (mkF m 177 #[.val (.long q0), .second, .val (.long q1), .second, .val (.int p0), .val (.int p1), .val (.int p2), .val (.int (3 : Int32)), .val (.long la0), .second, .val (.long la1), .second, .val (.long la2), .second, .val (.long lb0), .second, .val (.long lb1), .second, .val (.long lb2), .second, .val (.ref b214), .val (.ref b220), .val (.long r2), .second, .unset, .unset, .unset, .unset] [(.long (la2 - lb2)), (.long r2)])) _
      refine XS.lload X263.here hx rfl (hb hby at_177) rfl ?_
      show Steps p.tables e below (T263.setTop (mkF m 179 #[.val (.long q0), .second, .val (.long q1), .second, .val (.int p0), .val (.int p1), .val (.int p2), .val (.int (3 : Int32)), .val (.long la0), .second, .val (.long la1), .second, .val (.long la2), .second, .val (.long lb0), .second, .val (.long lb1), .second, .val (.long lb2), .second, .val (.ref b214), .val (.ref b220), .val (.long r2), .second, .unset, .unset, .unset, .unset] [(.long la2), (.long (la2 - lb2)), (.long r2)])) _
      refine XS.lload X263.here hx rfl (hb hby at_179) rfl ?_
      show Steps p.tables e below (T263.setTop (mkF m 181 #[.val (.long q0), .second, .val (.long q1), .second, .val (.int p0), .val (.int p1), .val (.int p2), .val (.int (3 : Int32)), .val (.long la0), .second, .val (.long la1), .second, .val (.long la2), .second, .val (.long lb0), .second, .val (.long lb1), .second, .val (.long lb2), .second, .val (.ref b214), .val (.ref b220), .val (.long r2), .second, .unset, .unset, .unset, .unset] [(.long lb2), (.long la2), (.long (la2 - lb2)), (.long r2)])) _
      refine XS.lsub X263.here hx rfl (hb hby at_181) rfl ?_
      show Steps p.tables e below (T263.setTop (mkF m 182 #[.val (.long q0), .second, .val (.long q1), .second, .val (.int p0), .val (.int p1), .val (.int p2), .val (.int (3 : Int32)), .val (.long la0), .second, .val (.long la1), .second, .val (.long la2), .second, .val (.long lb0), .second, .val (.long lb1), .second, .val (.long lb2), .second, .val (.ref b214), .val (.ref b220), .val (.long r2), .second, .unset, .unset, .unset, .unset] [(.long (la2 - lb2)), (.long (la2 - lb2)), (.long r2)])) _
      refine XS.lmul X263.here hx rfl (hb hby at_182) rfl ?_
      show Steps p.tables e below (T263.setTop (mkF m 183 #[.val (.long q0), .second, .val (.long q1), .second, .val (.int p0), .val (.int p1), .val (.int p2), .val (.int (3 : Int32)), .val (.long la0), .second, .val (.long la1), .second, .val (.long la2), .second, .val (.long lb0), .second, .val (.long lb1), .second, .val (.long lb2), .second, .val (.ref b214), .val (.ref b220), .val (.long r2), .second, .unset, .unset, .unset, .unset] [(.long ((la2 - lb2) * (la2 - lb2))), (.long r2)])) _
      refine XS.ladd X263.here hx rfl (hb hby at_183) rfl ?_
      show Steps p.tables e below (T263.setTop (mkF m 184 #[.val (.long q0), .second, .val (.long q1), .second, .val (.int p0), .val (.int p1), .val (.int p2), .val (.int (3 : Int32)), .val (.long la0), .second, .val (.long la1), .second, .val (.long la2), .second, .val (.long lb0), .second, .val (.long lb1), .second, .val (.long lb2), .second, .val (.ref b214), .val (.ref b220), .val (.long r2), .second, .unset, .unset, .unset, .unset] [(.long (r2 + ((la2 - lb2) * (la2 - lb2))))])) _
      refine castTop (g' := (mkF m 184 #[.val (.long q0), .second, .val (.long q1), .second, .val (.int p0), .val (.int p1), .val (.int p2), .val (.int (3 : Int32)), .val (.long la0), .second, .val (.long la1), .second, .val (.long la2), .second, .val (.long lb0), .second, .val (.long lb1), .second, .val (.long lb2), .second, .val (.ref b214), .val (.ref b220), .val (.long r2), .second, .unset, .unset, .unset, .unset] [(.long r3)])) (by rw [hr3]) ?_
      show Steps p.tables e below (T263.setTop (mkF m 184 #[.val (.long q0), .second, .val (.long q1), .second, .val (.int p0), .val (.int p1), .val (.int p2), .val (.int (3 : Int32)), .val (.long la0), .second, .val (.long la1), .second, .val (.long la2), .second, .val (.long lb0), .second, .val (.long lb1), .second, .val (.long lb2), .second, .val (.ref b214), .val (.ref b220), .val (.long r2), .second, .unset, .unset, .unset, .unset] [(.long r3)])) _
      refine XS.lstore X263.here hx rfl (hb hby at_184) rfl (l' := #[.val (.long q0), .second, .val (.long q1), .second, .val (.int p0), .val (.int p1), .val (.int p2), .val (.int (3 : Int32)), .val (.long la0), .second, .val (.long la1), .second, .val (.long la2), .second, .val (.long lb0), .second, .val (.long lb1), .second, .val (.long lb2), .second, .val (.ref b214), .val (.ref b220), .val (.long r3), .second, .unset, .unset, .unset, .unset]) rfl ?_
      show Steps p.tables e below (T263.setTop (mkF m 186 #[.val (.long q0), .second, .val (.long q1), .second, .val (.int p0), .val (.int p1), .val (.int p2), .val (.int (3 : Int32)), .val (.long la0), .second, .val (.long la1), .second, .val (.long la2), .second, .val (.long lb0), .second, .val (.long lb1), .second, .val (.long lb2), .second, .val (.ref b214), .val (.ref b220), .val (.long r3), .second, .unset, .unset, .unset, .unset] [])) _
      refine XS.aload X263.here hx rfl (hb hby at_186) rfl rfl ?_
      show Steps p.tables e below (T263.setTop (mkF m 188 #[.val (.long q0), .second, .val (.long q1), .second, .val (.int p0), .val (.int p1), .val (.int p2), .val (.int (3 : Int32)), .val (.long la0), .second, .val (.long la1), .second, .val (.long la2), .second, .val (.long lb0), .second, .val (.long lb1), .second, .val (.long lb2), .second, .val (.ref b214), .val (.ref b220), .val (.long r3), .second, .unset, .unset, .unset, .unset] [(.ref b214)])) _
      refine XS.aload X263.here hx rfl (hb hby at_188) rfl rfl ?_
      exact k)
    obtain ⟨_, _, ⟨T270, L270, k270, n270⟩, -, X270, ⟨Lc270, hQ270, l270, y270, z270⟩, st270⟩ := Jvm.LawKit.callS X263 hx (y := (⟨"com/example/frontweave/frontweave/clustering/Vectors", "distanceSquared", "([D[D)D"⟩ : MethodName)) hown (mvT hZ (hw _ (List.mem_of_getElem? (i := 2) rfl))) (mvT hZ (hw _ (List.mem_of_getElem? (i := 3) rfl))) (mvT hZ (hw _ (List.mem_of_getElem? (i := 4) rfl))) (mvT hZ (hw _ (List.mem_of_getElem? (i := 5) rfl))) (by decide) (backOf (W := 0) (dist3 l Z a0 hw [] b214 b220 k214 k220 vla0 vla1 vla2 vlb0 vlb1 vlb2 h263 n0 Z266 F265 V264 O0_0.nn O0_1.nn O0_2.nn O0_3.nn O0_4.nn O0_5.nn O0_6.nn O0_7.nn O0_8.nn) hZ (hw _ (List.mem_of_getElem? (i := 5) rfl)) (hw _ (List.mem_of_getElem? (i := 4) rfl)) (by decide) (by decide)) (g := (mkF m 190 #[.val (.long q0), .second, .val (.long q1), .second, .val (.int p0), .val (.int p1), .val (.int p2), .val (.int (3 : Int32)), .val (.long la0), .second, .val (.long la1), .second, .val (.long la2), .second, .val (.long lb0), .second, .val (.long lb1), .second, .val (.long lb2), .second, .val (.ref b214), .val (.ref b220), .val (.long r3), .second, .unset, .unset, .unset, .unset] [(.ref b220), (.ref b214)])) rfl (by rw [hml]; rfl) (argsL := [(.ref b214), (.ref b220)]) (rest := []) (lenOf pd__28_5bD_5bD_29D rfl) rfl (by show 2 * 0 + _ ≤ _; exact Nat.le_of_eq rfl) (hb hby at_190) (fun _ _ => ⟨rfl, e263, (by decide : 2 + 0 ≤ _), (by decide : 6 + 0 ≤ _)⟩)
    dsimp only [Pt.U, Pt.locs, Pt.cells, Pt.slots] at X270 l270 y270 z270 st270 hQ270
    subst l270 y270 z270
    obtain ⟨rfl, N270q, e270⟩ := hQ270
    have N271 := Fr.app N267 N270q
    have k272 : ∀ t, Steps p.tables e below (T270.setTop (mkF m 193 #[.val (.long q0), .second, .val (.long q1), .second, .val (.int p0), .val (.int p1), .val (.int p2), .val (.int (3 : Int32)), .val (.long la0), .second, .val (.long la1), .second, .val (.long la2), .second, .val (.long lb0), .second, .val (.long lb1), .second, .val (.long lb2), .second, .val (.ref b214), .val (.ref b220), .val (.long r3), .second, .unset, .unset, .unset, .unset] [(.double (FP.dadd (FP.dadd (FP.dadd (0 : UInt64) (FP.dmul (FP.dsub vla0 vlb0) (FP.dsub vla0 vlb0))) (FP.dmul (FP.dsub vla1 vlb1) (FP.dsub vla1 vlb1))) (FP.dmul (FP.dsub vla2 vlb2) (FP.dsub vla2 vlb2))))])) t → Steps p.tables e below (s₁.setTop (entryFrame m #[(.long q0), (.long q1), (.int p0), (.int p1), (.int p2)] maxLocals)) t := fun t k => k269 t (st270 t k)
    obtain ⟨d1, hd1⟩ : ∃ z : UInt64, z = (FP.dadd (FP.dadd (FP.dadd (0 : UInt64) (FP.dmul (FP.dsub vla0 vlb0) (FP.dsub vla0 vlb0))) (FP.dmul (FP.dsub vla1 vlb1) (FP.dsub vla1 vlb1))) (FP.dmul (FP.dsub vla2 vlb2) (FP.dsub vla2 vlb2))) := ⟨_, rfl⟩
    obtain ⟨O1_0, O1_1, O1_2, O1_3, O1_4, O1_5, O1_6, O1_7, O1_8⟩ := own_dist3 B_lb0 B_lb1 B_lb2 B_la0 B_la1 B_la2 Dvlb0 Dvlb1 Dvlb2 Dvla0 Dvla1 Dvla2
    have k273 : ∀ t, Steps p.tables e below (T270.setTop (mkF m 199 #[.val (.long q0), .second, .val (.long q1), .second, .val (.int p0), .val (.int p1), .val (.int p2), .val (.int (3 : Int32)), .val (.long la0), .second, .val (.long la1), .second, .val (.long la2), .second, .val (.long lb0), .second, .val (.long lb1), .second, .val (.long lb2), .second, .val (.ref b214), .val (.ref b220), .val (.long r3), .second, .val (.double d1), .second, .unset, .unset] [(.ref b214), (.ref b220)])) t → Steps p.tables e below (s₁.setTop (entryFrame m #[(.long q0), (.long q1), (.int p0), (.int p1), (.int p2)] maxLocals)) t := fun t k => k272 t (by
      show Steps p.tables e below (T270.setTop (mkF m 193 #[.val (.long q0), .second, .val (.long q1), .second, .val (.int p0), .val (.int p1), .val (.int p2), .val (.int (3 : Int32)), .val (.long la0), .second, .val (.long la1), .second, .val (.long la2), .second, .val (.long lb0), .second, .val (.long lb1), .second, .val (.long lb2), .second, .val (.ref b214), .val (.ref b220), .val (.long r3), .second, .unset, .unset, .unset, .unset] [(.double (FP.dadd (FP.dadd (FP.dadd (0 : UInt64) (FP.dmul (FP.dsub vla0 vlb0) (FP.dsub vla0 vlb0))) (FP.dmul (FP.dsub vla1 vlb1) (FP.dsub vla1 vlb1))) (FP.dmul (FP.dsub vla2 vlb2) (FP.dsub vla2 vlb2))))])) _
      refine castTop (g' := (mkF m 193 #[.val (.long q0), .second, .val (.long q1), .second, .val (.int p0), .val (.int p1), .val (.int p2), .val (.int (3 : Int32)), .val (.long la0), .second, .val (.long la1), .second, .val (.long la2), .second, .val (.long lb0), .second, .val (.long lb1), .second, .val (.long lb2), .second, .val (.ref b214), .val (.ref b220), .val (.long r3), .second, .unset, .unset, .unset, .unset] [(.double d1)])) (by rw [hd1]) ?_
      show Steps p.tables e below (T270.setTop (mkF m 193 #[.val (.long q0), .second, .val (.long q1), .second, .val (.int p0), .val (.int p1), .val (.int p2), .val (.int (3 : Int32)), .val (.long la0), .second, .val (.long la1), .second, .val (.long la2), .second, .val (.long lb0), .second, .val (.long lb1), .second, .val (.long lb2), .second, .val (.ref b214), .val (.ref b220), .val (.long r3), .second, .unset, .unset, .unset, .unset] [(.double d1)])) _
      refine XS.dstore X270.here hx rfl (hb hby at_193) rfl (l' := #[.val (.long q0), .second, .val (.long q1), .second, .val (.int p0), .val (.int p1), .val (.int p2), .val (.int (3 : Int32)), .val (.long la0), .second, .val (.long la1), .second, .val (.long la2), .second, .val (.long lb0), .second, .val (.long lb1), .second, .val (.long lb2), .second, .val (.ref b214), .val (.ref b220), .val (.long r3), .second, .val (.double d1), .second, .unset, .unset]) rfl ?_
      show Steps p.tables e below (T270.setTop (mkF m 195 #[.val (.long q0), .second, .val (.long q1), .second, .val (.int p0), .val (.int p1), .val (.int p2), .val (.int (3 : Int32)), .val (.long la0), .second, .val (.long la1), .second, .val (.long la2), .second, .val (.long lb0), .second, .val (.long lb1), .second, .val (.long lb2), .second, .val (.ref b214), .val (.ref b220), .val (.long r3), .second, .val (.double d1), .second, .unset, .unset] [])) _
      refine XS.aload X270.here hx rfl (hb hby at_195) rfl rfl ?_
      show Steps p.tables e below (T270.setTop (mkF m 197 #[.val (.long q0), .second, .val (.long q1), .second, .val (.int p0), .val (.int p1), .val (.int p2), .val (.int (3 : Int32)), .val (.long la0), .second, .val (.long la1), .second, .val (.long la2), .second, .val (.long lb0), .second, .val (.long lb1), .second, .val (.long lb2), .second, .val (.ref b214), .val (.ref b220), .val (.long r3), .second, .val (.double d1), .second, .unset, .unset] [(.ref b220)])) _
      refine XS.aload X270.here hx rfl (hb hby at_197) rfl rfl ?_
      exact k)
    obtain ⟨_, _, ⟨T274, L274, k274, n274⟩, -, X274, ⟨Lc274, hQ274, l274, y274, z274⟩, st274⟩ := Jvm.LawKit.callS X270 hx (y := (⟨"com/example/frontweave/frontweave/clustering/Vectors", "distanceSquared", "([D[D)D"⟩ : MethodName)) hown (mvT hZ (hw _ (List.mem_of_getElem? (i := 2) rfl))) (mvT hZ (hw _ (List.mem_of_getElem? (i := 3) rfl))) (mvT hZ (hw _ (List.mem_of_getElem? (i := 4) rfl))) (mvT hZ (hw _ (List.mem_of_getElem? (i := 5) rfl))) (by decide) (backOf (W := 0) (dist3 l Z a0 hw [] b220 b214 k220 k214 vlb0 vlb1 vlb2 vla0 vla1 vla2 h263 n0 Z266 V264 F265 O1_0.nn O1_1.nn O1_2.nn O1_3.nn O1_4.nn O1_5.nn O1_6.nn O1_7.nn O1_8.nn) hZ (hw _ (List.mem_of_getElem? (i := 5) rfl)) (hw _ (List.mem_of_getElem? (i := 4) rfl)) (by decide) (by decide)) (g := (mkF m 199 #[.val (.long q0), .second, .val (.long q1), .second, .val (.int p0), .val (.int p1), .val (.int p2), .val (.int (3 : Int32)), .val (.long la0), .second, .val (.long la1), .second, .val (.long la2), .second, .val (.long lb0), .second, .val (.long lb1), .second, .val (.long lb2), .second, .val (.ref b214), .val (.ref b220), .val (.long r3), .second, .val (.double d1), .second, .unset, .unset] [(.ref b214), (.ref b220)])) rfl (by rw [hml]; rfl) (argsL := [(.ref b220), (.ref b214)]) (rest := []) (lenOf pd__28_5bD_5bD_29D rfl) rfl (by show 2 * 0 + _ ≤ _; exact Nat.le_of_eq rfl) (hb hby at_199) (fun _ _ => ⟨rfl, e270, (by decide : 2 + 0 ≤ _), (by decide : 6 + 0 ≤ _)⟩)
    dsimp only [Pt.U, Pt.locs, Pt.cells, Pt.slots] at X274 l274 y274 z274 st274 hQ274
    subst l274 y274 z274
    obtain ⟨rfl, N274q, e274⟩ := hQ274
    have N275 := Fr.app N271 N274q
    have k276 : ∀ t, Steps p.tables e below (T274.setTop (mkF m 202 #[.val (.long q0), .second, .val (.long q1), .second, .val (.int p0), .val (.int p1), .val (.int p2), .val (.int (3 : Int32)), .val (.long la0), .second, .val (.long la1), .second, .val (.long la2), .second, .val (.long lb0), .second, .val (.long lb1), .second, .val (.long lb2), .second, .val (.ref b214), .val (.ref b220), .val (.long r3), .second, .val (.double d1), .second, .unset, .unset] [(.double (FP.dadd (FP.dadd (FP.dadd (0 : UInt64) (FP.dmul (FP.dsub vlb0 vla0) (FP.dsub vlb0 vla0))) (FP.dmul (FP.dsub vlb1 vla1) (FP.dsub vlb1 vla1))) (FP.dmul (FP.dsub vlb2 vla2) (FP.dsub vlb2 vla2))))])) t → Steps p.tables e below (s₁.setTop (entryFrame m #[(.long q0), (.long q1), (.int p0), (.int p1), (.int p2)] maxLocals)) t := fun t k => k273 t (st274 t k)
    obtain ⟨d2, hd2⟩ : ∃ z : UInt64, z = (FP.dadd (FP.dadd (FP.dadd (0 : UInt64) (FP.dmul (FP.dsub vlb0 vla0) (FP.dsub vlb0 vla0))) (FP.dmul (FP.dsub vlb1 vla1) (FP.dsub vlb1 vla1))) (FP.dmul (FP.dsub vlb2 vla2) (FP.dsub vlb2 vla2))) := ⟨_, rfl⟩
    have hr : r3.toInt = 0 + (la0.toInt - lb0.toInt) * (la0.toInt - lb0.toInt) + (la1.toInt - lb1.toInt) * (la1.toInt - lb1.toInt) + (la2.toInt - lb2.toInt) * (la2.toInt - lb2.toInt) := by rw [hr3, hr2, hr1]; exact own_ref3 B_la0 B_la1 B_la2 B_lb0 B_lb1 B_lb2
    have hbw : (0 + (la0.toInt - lb0.toInt) * (la0.toInt - lb0.toInt) + (la1.toInt - lb1.toInt) * (la1.toInt - lb1.toInt) + (la2.toInt - lb2.toInt) * (la2.toInt - lb2.toInt)).natAbs < 9007199254740992 := own_refb3 B_la0 B_la1 B_la2 B_lb0 B_lb1 B_lb2
    have hs : 0 + (lb0.toInt - la0.toInt) * (lb0.toInt - la0.toInt) + (lb1.toInt - la1.toInt) * (lb1.toInt - la1.toInt) + (lb2.toInt - la2.toInt) * (lb2.toInt - la2.toInt) = 0 + (la0.toInt - lb0.toInt) * (la0.toInt - lb0.toInt) + (la1.toInt - lb1.toInt) * (la1.toInt - lb1.toInt) + (la2.toInt - lb2.toInt) * (la2.toInt - lb2.toInt) := by rw [own_sq lb0.toInt la0.toInt, own_sq lb1.toInt la1.toInt, own_sq lb2.toInt la2.toInt]
    obtain ⟨want, hwant⟩ : ∃ z : UInt64, FP.l2d r3 = z := ⟨_, rfl⟩
    have Dwant : Dy (0 + (la0.toInt - lb0.toInt) * (la0.toInt - lb0.toInt) + (la1.toInt - lb1.toInt) * (la1.toInt - lb1.toInt) + (la2.toInt - lb2.toInt) * (la2.toInt - lb2.toInt)) (0) want := by rw [← hwant]; exact hr ▸ Dy.l2d (by rw [hr]; exact hbw)
    have hf1 : cmpValue (FP.dcmp d1 want) .l = (0 : Int32) := by rw [hd1]; exact Dy.cmp_eq O0_8 Dwant rfl .l
    obtain ⟨want2, hwant2⟩ : ∃ z : UInt64, FP.l2d r3 = z := ⟨_, rfl⟩
    have Dwant2 : Dy (0 + (la0.toInt - lb0.toInt) * (la0.toInt - lb0.toInt) + (la1.toInt - lb1.toInt) * (la1.toInt - lb1.toInt) + (la2.toInt - lb2.toInt) * (la2.toInt - lb2.toInt)) (0) want2 := by rw [← hwant2]; exact hr ▸ Dy.l2d (by rw [hr]; exact hbw)
    have hf2 : cmpValue (FP.dcmp d2 want2) .l = (0 : Int32) := by rw [hd2]; exact Dy.cmp_eq O1_8 Dwant2 hs .l
    have k277 : ∀ t, Steps p.tables e below (T274.setTop (mkF m 227 #[.val (.long q0), .second, .val (.long q1), .second, .val (.int p0), .val (.int p1), .val (.int p2), .val (.int (3 : Int32)), .val (.long la0), .second, .val (.long la1), .second, .val (.long la2), .second, .val (.long lb0), .second, .val (.long lb1), .second, .val (.long lb2), .second, .val (.ref b214), .val (.ref b220), .val (.long r3), .second, .val (.double d1), .second, .val (.double d2), .second] [(.int (1 : Int32))])) t → Steps p.tables e below (s₁.setTop (entryFrame m #[(.long q0), (.long q1), (.int p0), (.int p1), (.int p2)] maxLocals)) t := fun t k => k276 t (by
      show Steps p.tables e below (T274.setTop (mkF m 202 #[.val (.long q0), .second, .val (.long q1), .second, .val (.int p0), .val (.int p1), .val (.int p2), .val (.int (3 : Int32)), .val (.long la0), .second, .val (.long la1), .second, .val (.long la2), .second, .val (.long lb0), .second, .val (.long lb1), .second, .val (.long lb2), .second, .val (.ref b214), .val (.ref b220), .val (.long r3), .second, .val (.double d1), .second, .unset, .unset] [(.double (FP.dadd (FP.dadd (FP.dadd (0 : UInt64) (FP.dmul (FP.dsub vlb0 vla0) (FP.dsub vlb0 vla0))) (FP.dmul (FP.dsub vlb1 vla1) (FP.dsub vlb1 vla1))) (FP.dmul (FP.dsub vlb2 vla2) (FP.dsub vlb2 vla2))))])) _
      refine castTop (g' := (mkF m 202 #[.val (.long q0), .second, .val (.long q1), .second, .val (.int p0), .val (.int p1), .val (.int p2), .val (.int (3 : Int32)), .val (.long la0), .second, .val (.long la1), .second, .val (.long la2), .second, .val (.long lb0), .second, .val (.long lb1), .second, .val (.long lb2), .second, .val (.ref b214), .val (.ref b220), .val (.long r3), .second, .val (.double d1), .second, .unset, .unset] [(.double d2)])) (by rw [hd2]) ?_
      show Steps p.tables e below (T274.setTop (mkF m 202 #[.val (.long q0), .second, .val (.long q1), .second, .val (.int p0), .val (.int p1), .val (.int p2), .val (.int (3 : Int32)), .val (.long la0), .second, .val (.long la1), .second, .val (.long la2), .second, .val (.long lb0), .second, .val (.long lb1), .second, .val (.long lb2), .second, .val (.ref b214), .val (.ref b220), .val (.long r3), .second, .val (.double d1), .second, .unset, .unset] [(.double d2)])) _
      refine XS.dstore X274.here hx rfl (hb hby at_202) rfl (l' := #[.val (.long q0), .second, .val (.long q1), .second, .val (.int p0), .val (.int p1), .val (.int p2), .val (.int (3 : Int32)), .val (.long la0), .second, .val (.long la1), .second, .val (.long la2), .second, .val (.long lb0), .second, .val (.long lb1), .second, .val (.long lb2), .second, .val (.ref b214), .val (.ref b220), .val (.long r3), .second, .val (.double d1), .second, .val (.double d2), .second]) rfl ?_
      show Steps p.tables e below (T274.setTop (mkF m 204 #[.val (.long q0), .second, .val (.long q1), .second, .val (.int p0), .val (.int p1), .val (.int p2), .val (.int (3 : Int32)), .val (.long la0), .second, .val (.long la1), .second, .val (.long la2), .second, .val (.long lb0), .second, .val (.long lb1), .second, .val (.long lb2), .second, .val (.ref b214), .val (.ref b220), .val (.long r3), .second, .val (.double d1), .second, .val (.double d2), .second] [])) _
      refine XS.dload X274.here hx rfl (hb hby at_204) rfl ?_
      show Steps p.tables e below (T274.setTop (mkF m 206 #[.val (.long q0), .second, .val (.long q1), .second, .val (.int p0), .val (.int p1), .val (.int p2), .val (.int (3 : Int32)), .val (.long la0), .second, .val (.long la1), .second, .val (.long la2), .second, .val (.long lb0), .second, .val (.long lb1), .second, .val (.long lb2), .second, .val (.ref b214), .val (.ref b220), .val (.long r3), .second, .val (.double d1), .second, .val (.double d2), .second] [(.double d1)])) _
      refine XS.lload X274.here hx rfl (hb hby at_206) rfl ?_
      show Steps p.tables e below (T274.setTop (mkF m 208 #[.val (.long q0), .second, .val (.long q1), .second, .val (.int p0), .val (.int p1), .val (.int p2), .val (.int (3 : Int32)), .val (.long la0), .second, .val (.long la1), .second, .val (.long la2), .second, .val (.long lb0), .second, .val (.long lb1), .second, .val (.long lb2), .second, .val (.ref b214), .val (.ref b220), .val (.long r3), .second, .val (.double d1), .second, .val (.double d2), .second] [(.long r3), (.double d1)])) _
      refine XS.l2dS X274.here hx rfl (hb hby at_208) rfl hwant ?_
      show Steps p.tables e below (T274.setTop (mkF m 209 #[.val (.long q0), .second, .val (.long q1), .second, .val (.int p0), .val (.int p1), .val (.int p2), .val (.int (3 : Int32)), .val (.long la0), .second, .val (.long la1), .second, .val (.long la2), .second, .val (.long lb0), .second, .val (.long lb1), .second, .val (.long lb2), .second, .val (.ref b214), .val (.ref b220), .val (.long r3), .second, .val (.double d1), .second, .val (.double d2), .second] [(.double want), (.double d1)])) _
      refine XS.dcmpS X274.here hx rfl (hb hby at_209) rfl rfl ?_
      show Steps p.tables e below (T274.setTop (mkF m 210 #[.val (.long q0), .second, .val (.long q1), .second, .val (.int p0), .val (.int p1), .val (.int p2), .val (.int (3 : Int32)), .val (.long la0), .second, .val (.long la1), .second, .val (.long la2), .second, .val (.long lb0), .second, .val (.long lb1), .second, .val (.long lb2), .second, .val (.ref b214), .val (.ref b220), .val (.long r3), .second, .val (.double d1), .second, .val (.double d2), .second] [(.int (cmpValue (FP.dcmp d1 want) .l))])) _
      refine XS.ifNo X274.here hx rfl (hb hby at_210) rfl ((if0 _ _).trans (teq hf1).2) ?_
      show Steps p.tables e below (T274.setTop (mkF m 213 #[.val (.long q0), .second, .val (.long q1), .second, .val (.int p0), .val (.int p1), .val (.int p2), .val (.int (3 : Int32)), .val (.long la0), .second, .val (.long la1), .second, .val (.long la2), .second, .val (.long lb0), .second, .val (.long lb1), .second, .val (.long lb2), .second, .val (.ref b214), .val (.ref b220), .val (.long r3), .second, .val (.double d1), .second, .val (.double d2), .second] [])) _
      refine XS.dload X274.here hx rfl (hb hby at_213) rfl ?_
      show Steps p.tables e below (T274.setTop (mkF m 215 #[.val (.long q0), .second, .val (.long q1), .second, .val (.int p0), .val (.int p1), .val (.int p2), .val (.int (3 : Int32)), .val (.long la0), .second, .val (.long la1), .second, .val (.long la2), .second, .val (.long lb0), .second, .val (.long lb1), .second, .val (.long lb2), .second, .val (.ref b214), .val (.ref b220), .val (.long r3), .second, .val (.double d1), .second, .val (.double d2), .second] [(.double d2)])) _
      refine XS.lload X274.here hx rfl (hb hby at_215) rfl ?_
      show Steps p.tables e below (T274.setTop (mkF m 217 #[.val (.long q0), .second, .val (.long q1), .second, .val (.int p0), .val (.int p1), .val (.int p2), .val (.int (3 : Int32)), .val (.long la0), .second, .val (.long la1), .second, .val (.long la2), .second, .val (.long lb0), .second, .val (.long lb1), .second, .val (.long lb2), .second, .val (.ref b214), .val (.ref b220), .val (.long r3), .second, .val (.double d1), .second, .val (.double d2), .second] [(.long r3), (.double d2)])) _
      refine XS.l2dS X274.here hx rfl (hb hby at_217) rfl hwant2 ?_
      show Steps p.tables e below (T274.setTop (mkF m 218 #[.val (.long q0), .second, .val (.long q1), .second, .val (.int p0), .val (.int p1), .val (.int p2), .val (.int (3 : Int32)), .val (.long la0), .second, .val (.long la1), .second, .val (.long la2), .second, .val (.long lb0), .second, .val (.long lb1), .second, .val (.long lb2), .second, .val (.ref b214), .val (.ref b220), .val (.long r3), .second, .val (.double d1), .second, .val (.double d2), .second] [(.double want2), (.double d2)])) _
      refine XS.dcmpS X274.here hx rfl (hb hby at_218) rfl rfl ?_
      show Steps p.tables e below (T274.setTop (mkF m 219 #[.val (.long q0), .second, .val (.long q1), .second, .val (.int p0), .val (.int p1), .val (.int p2), .val (.int (3 : Int32)), .val (.long la0), .second, .val (.long la1), .second, .val (.long la2), .second, .val (.long lb0), .second, .val (.long lb1), .second, .val (.long lb2), .second, .val (.ref b214), .val (.ref b220), .val (.long r3), .second, .val (.double d1), .second, .val (.double d2), .second] [(.int (cmpValue (FP.dcmp d2 want2) .l))])) _
      refine XS.ifNo X274.here hx rfl (hb hby at_219) rfl ((if0 _ _).trans (teq hf2).2) ?_
      show Steps p.tables e below (T274.setTop (mkF m 222 #[.val (.long q0), .second, .val (.long q1), .second, .val (.int p0), .val (.int p1), .val (.int p2), .val (.int (3 : Int32)), .val (.long la0), .second, .val (.long la1), .second, .val (.long la2), .second, .val (.long lb0), .second, .val (.long lb1), .second, .val (.long lb2), .second, .val (.ref b214), .val (.ref b220), .val (.long r3), .second, .val (.double d1), .second, .val (.double d2), .second] [])) _
      refine XS.iconst X274.here hx rfl (hb hby at_222) ?_
      show Steps p.tables e below (T274.setTop (mkF m 223 #[.val (.long q0), .second, .val (.long q1), .second, .val (.int p0), .val (.int p1), .val (.int p2), .val (.int (3 : Int32)), .val (.long la0), .second, .val (.long la1), .second, .val (.long la2), .second, .val (.long lb0), .second, .val (.long lb1), .second, .val (.long lb2), .second, .val (.ref b214), .val (.ref b220), .val (.long r3), .second, .val (.double d1), .second, .val (.double d2), .second] [(.int (1 : Int32))])) _
      refine XS.goto X274.here hx rfl (pc0 := 223) (pc' := 227) rfl (hb hby at_223) (by decide) (by decide) ?_
      exact k)
    obtain ⟨fs, hr, hrun, hended, hW, hsame⟩ := X274.leave (v := some (.int (1 : Int32))) (fun h => by rw [Bd.returns] at h; cases h)
    refine ⟨_, _, k277 _ (retOut X274 hx (t := .boolean) Bd.returns rfl (Or.inl ⟨rfl, Or.inr (Or.inl rfl), _, rfl⟩) (hb hby at_227) hr), hrun, hended, _, _, rfl, ?_, ⟨_, rfl⟩, hW, hsame.mono (by decide) (by decide)⟩
    show Q_rm0 Z q0 q1 p0 p1 p2 h0 n0 _ T274.heap _
    rw [e274]
    exact ⟨rfl, N275⟩
set_option maxRecDepth 65536 in
set_option maxHeartbeats 40000000 in
theorem comes_1 {Post : Tables → Env → Array Value → State → Outcome → State → Prop} (hpost : ∀ tb e args s v u, (limb_1_1.after args s (.returned v) u = true ∧ limb_1_2.after args s (.returned v) u = true ∧ True) → FrameEnd s (.returned v) u (Jvm.fieldLocs frame_1_writes args s ++ Jvm.arrayLocs frame_1_arrays args s ++ Jvm.staticLocs frame_1_statics s) 16 128 → Post tb e args s (.returned v) u) :
    ArmFor flags0 classFile x code maxLocals ret World_1 tables_1 room_1 Calls_1 rest_1 Pre_1 Post := by
  intro l hfl _ _ p e ha hc hk s m args below hf hA hF happ hP
  obtain ⟨hcalls, hrest, hpre⟩ := hP
  obtain ⟨-, -, -, hnamed, -, -, -, hat⟩ := (Spec.applies_iff hf).mp happ
  obtain ⟨hg, hn⟩ := and_e (Cond.before_iff.mp (show (Jvm.Cond.and given_1 narrow_1).before args s = true from hpre))
  obtain ⟨g1, g2⟩ := and_e hg
  obtain ⟨g3, g4⟩ := and_e g2
  obtain ⟨g5, g6⟩ := and_e g4
  obtain ⟨g7, g8⟩ := and_e g6
  obtain ⟨g9, g10⟩ := and_e g8
  obtain ⟨w0, w1, w2, w3, w4, rfl⟩ : ∃ w0 w1 w2 w3 w4 : Value, args = #[w0, w1, w2, w3, w4] := by
    have hs : args.size = 5 := by simpa [Cond.value, given_1] using g1
    obtain ⟨L⟩ := args
    match L, hs with
    | [w0, w1, w2, w3, w4], _ => exact ⟨w0, w1, w2, w3, w4, rfl⟩
  have hw := fun d (hd : d ∈ tables_1) => atoms_spec (ws := Jvm.Cond.code x code maxLocals ret :: tables_1) hat d (List.mem_cons_of_mem _ hd)
  obtain ⟨i0, ei0⟩ := isL_v g3
  obtain rfl : w0 = (.long i0) := Option.some.inj ei0
  obtain ⟨i1, ei1⟩ := isL_v g5
  obtain rfl : w1 = (.long i1) := Option.some.inj ei1
  obtain ⟨i2, ei2⟩ := is_v g7
  obtain rfl : w2 = (.int i2) := Option.some.inj ei2
  obtain ⟨i3, ei3⟩ := is_v g9
  obtain rfl : w3 = (.int i3) := Option.some.inj ei3
  obtain ⟨i4, ei4⟩ := is_v g10
  obtain rfl : w4 = (.int i4) := Option.some.inj ei4
  obtain ⟨n, o, h1, h2, h3, _, L, rfl, ⟨rfl, N⟩, hq⟩ := rm0 l s _ hw tables_1 i0 i1 i2 i3 i4 s.heap s.heap.size (Nat.le_refl _) p e ha hc hk s m _ below hf ((Spec.applies_iff_loose hf).mp happ).1 ⟨rfl, State.Warmed39.refl s, rfl⟩ trivial
  refine ⟨n, _, h1, h2, h3, hpost _ _ _ _ _ _ ⟨Cond.after_iff.mpr rfl, Cond.after_iff.mpr (eq_i res_at (Term.int_eval (1)) rfl), trivial⟩ ⟨hq.1, hq.2.1, (hq.2.2.sift fun y hy => Or.inr (N y hy)).mono (by decide) (by decide)⟩⟩
theorem main_1_1 : Claimed_1_1 := comes_1 fun _ _ _ _ _ _ h hF => ⟨h.1, hF⟩
theorem main_1_2 : Claimed_1_2 := comes_1 fun _ _ _ _ _ _ h hF => ⟨h.2.1, hF⟩
end Jvm.Pilot.@@N@@
namespace Jvm.Pilot.@@N@@
open Jvm Jvm.ClassFile Sem Op Lib Jvm.Free Jvm.Stand Jvm.Pilot.@@N@@.Jvm.D
/-! MADE BY PROGRAM (witnessworld.py) out of the Statement's table words and the real class files: 11 classes; the members and pool entries that the words name. The judged class is class 1, her method 1. -/
namespace start1
open Jvm.ClassFile
def u (s : String) : CpInfo := .utf8 (stringToUtf16 s)
/-- a pool by its gaps: so many unusable entries, then the entry; so many at the end -/
def gap : Nat → List CpInfo → List CpInfo
  | 0, r => r
  | n + 1, r => .unusable :: gap n r
def poolList (es : List (Nat × CpInfo)) (last : Nat) : List CpInfo := es.foldr (fun e r => gap e.1 (e.2 :: r)) (gap last [])
def pool (es : List (Nat × CpInfo)) (last : Nat) : Array CpInfo := ⟨poolList es last⟩
def fileOf (pool : Array CpInfo) (this : Nat) (attrs : Array Attribute := #[]) (ms : Array MethodInfo := #[]) (fl : Nat := 33) (sup : Nat := 0) (ifs : Array Nat := #[]) (fds : Array FieldInfo := #[]) : ClassFile where
  minorVersion := 0
  majorVersion := 65
  constantPool := pool
  accessFlags := fl
  thisClass := this
  superClass := sup
  interfaces := ifs
  fields := fds
  methods := ms
  attributes := attrs
def plain (name : String) (sup : Option ClassId) : Class where
  name := name
  kind := .ordinary
  loader := none
  accessFlags := 33
  super := sup
  interfaces := #[]
  cf := none
  fields := #[]
  methods := #[]
  instanceTypes := #[]
  staticTypes := #[]
  resolved := #[]
  callSites := []
  init := .initialized
  statics := none
  mirror := none

def pool0 : Array CpInfo := pool [(5, u "<init>"), (0, u "()V"), (1, .class_ 10), (1, u "java/lang/Object")] 113

def k0m0 : Method := { name := "<init>", desc := "()V", sig := { parameters := [], returnType := none }, accessFlags := 1, code := none }
/-- java/lang/Object -/
def k0 : Class := { plain "java/lang/Object" none with
  accessFlags := 33
  interfaces := #[]
  cf := some (fileOf pool0 8 #[] #[{ accessFlags := 1, nameIndex := 5, descriptorIndex := 6, attributes := #[] }] 33 0 #[] #[])
  fields := #[]
  methods := #[k0m0]
  instanceTypes := #[]
  staticTypes := #[]
  resolved := Array.replicate 124 none
  statics := none }

def pool1 : Array CpInfo := pool [(2, .class_ 4), (1, u "java/lang/Object"), (0, u "<init>"), (0, u "()V"), (0, .integer 2147483647), (0, .methodref 9 10), (0, .class_ 11), (0, .nameAndType 12 13), (0, u "com/example/frontweave/frontweave/clustering/Vectors"), (0, u "distanceSquared"), (0, u "([D[D)D"), (0, .class_ 15), (0, u "com/example/frontweave/frontweave/clustering/VectorsDistanceSquaredPinLaw"), (2, u "law"), (0, u "(JJIII)Z")] 5

def k1m0 : Method := { name := "<init>", desc := "()V", sig := { parameters := [], returnType := none }, accessFlags := 2, code := none }
def k1c1 : Code := { maxStack := 8, maxLocals := 28, code := code, exceptionTable := #[], attributes := #[] }
def k1m1 : Method := { name := "law", desc := "(JJIII)Z", sig := { parameters := [.long, .long, .int, .int, .int], returnType := some .boolean }, accessFlags := 9, code := some k1c1 }
/-- com/example/frontweave/frontweave/clustering/VectorsDistanceSquaredPinLaw -/
def k1 : Class := { plain "com/example/frontweave/frontweave/clustering/VectorsDistanceSquaredPinLaw" (some 0) with
  accessFlags := 49
  interfaces := #[]
  cf := some (fileOf pool1 14 #[] #[{ accessFlags := 2, nameIndex := 5, descriptorIndex := 6, attributes := #[] }, { accessFlags := 9, nameIndex := 18, descriptorIndex := 19, attributes := #[] }] 49 2 #[] #[])
  fields := #[]
  methods := #[k1m0, k1m1]
  instanceTypes := #[]
  staticTypes := #[]
  resolved := Array.replicate 25 none
  statics := none }

def pool2 : Array CpInfo := pool [(2, .class_ 4), (1, u "java/lang/Object"), (0, u "<init>"), (0, u "()V"), (22, .class_ 31), (1, u "com/example/frontweave/frontweave/clustering/Vectors"), (1, u "([D[D)D"), (24, u "distanceSquared")] 8

def k2m0 : Method := { name := "<init>", desc := "()V", sig := { parameters := [], returnType := none }, accessFlags := 2, code := none }
def k2c1 : Code := { maxStack := 8, maxLocals := 5, code := prog_29_method_3_code, exceptionTable := #[], attributes := #[] }
def k2m1 : Method := { name := "distanceSquared", desc := "([D[D)D", sig := { parameters := [(.array .double), (.array .double)], returnType := some .double }, accessFlags := 8, code := some k2c1 }
/-- com/example/frontweave/frontweave/clustering/Vectors -/
def k2 : Class := { plain "com/example/frontweave/frontweave/clustering/Vectors" (some 0) with
  accessFlags := 48
  interfaces := #[]
  cf := some (fileOf pool2 29 #[] #[{ accessFlags := 2, nameIndex := 5, descriptorIndex := 6, attributes := #[] }, { accessFlags := 8, nameIndex := 58, descriptorIndex := 33, attributes := #[] }] 48 2 #[] #[])
  fields := #[]
  methods := #[k2m0, k2m1]
  instanceTypes := #[]
  staticTypes := #[]
  resolved := Array.replicate 67 none
  statics := none }

def pool3 : Array CpInfo := pool [(1, u "java/lang/Cloneable"), (0, .class_ 1), (0, u "java/lang/Object"), (0, .class_ 3)] 3

/-- java/lang/Cloneable -/
def k3 : Class := { plain "java/lang/Cloneable" (some 0) with
  accessFlags := 1537
  interfaces := #[]
  cf := some (fileOf pool3 2 #[] #[] 1537 4 #[] #[])
  fields := #[]
  methods := #[]
  instanceTypes := #[]
  staticTypes := #[]
  resolved := Array.replicate 8 none
  statics := none }

def pool4 : Array CpInfo := pool [(1, u "java/io/Serializable"), (0, .class_ 1), (0, u "java/lang/Object"), (0, .class_ 3)] 3

/-- java/io/Serializable -/
def k4 : Class := { plain "java/io/Serializable" (some 0) with
  accessFlags := 1537
  interfaces := #[]
  cf := some (fileOf pool4 2 #[] #[] 1537 4 #[] #[])
  fields := #[]
  methods := #[]
  instanceTypes := #[]
  staticTypes := #[]
  resolved := Array.replicate 8 none
  statics := none }

/-- the primitive byte -/
def k5 : Class := { plain "byte" none with kind := .primitive 'B', accessFlags := 0x411 }
/-- [B -/
def k6 : Class := { plain "[B" (some 0) with kind := .array 5 .byte, interfaces := #[3, 4], accessFlags := 1041 }

/-- the primitive double -/
def k7 : Class := { plain "double" none with kind := .primitive 'D', accessFlags := 0x411 }
/-- [D -/
def k8 : Class := { plain "[D" (some 0) with kind := .array 7 .double, interfaces := #[3, 4], accessFlags := 1041 }

/-- the primitive int -/
def k9 : Class := { plain "int" none with kind := .primitive 'I', accessFlags := 0x411 }
/-- [I -/
def k10 : Class := { plain "[I" (some 0) with kind := .array 9 .int, interfaces := #[3, 4], accessFlags := 1041 }

def heap : Heap := #[]
def classes : Array Class := #[k0, k1, k2, k3, k4, k5, k6, k7, k8, k9, k10]
def interned : List (Array UInt16 × Addr) := []
def slotsUsed : Nat := 0
def theMethod : MethodId := ⟨1, 1⟩
def args0 : Array Value := #[.long 77777777777, .long 123456789012, .int 5000, .int 7000, .int 3]
def aboutOver (below : List Frame) : State where
  vm := { classes := classes, interned := interned.toArray }
  heap := heap
  slotsUsed := slotsUsed
  threads := #[{ frames := .invoking theMethod args0 :: below }]
def below0 : List Frame := [.native { method := ⟨0, 0⟩, args := #[] }]
def about1 : State := aboutOver below0
def p0 : Program := .bare "" "" ""
def e0 : Env := launch0.env 0 0 0
theorem w_frames : about1.frames = Frame.invoking theMethod args0 :: below0 := rfl
set_option maxRecDepth 65536 in
theorem w_args : argsFit about1.vm theMethod args0 = true := by decide +kernel
set_option maxRecDepth 65536 in
theorem w_heap : heapFits about1 = true := by decide +kernel
set_option maxRecDepth 65536 in
theorem w_runnable : about1.curStatus? = some .runnable := by decide +kernel
set_option maxRecDepth 65536 in
theorem w_alone : about1.alone = true := by decide +kernel
set_option maxRecDepth 65536 in
theorem w_named : about1.methodNamed? x = some theMethod := by decide +kernel
set_option maxRecDepth 65536 in
theorem w_hears : about1.hears theMethod below0 = true := by decide +kernel
set_option maxRecDepth 65536 in
theorem w_ripe : about1.ripe theMethod args0 below0 = true := by decide +kernel
theorem w_running : about1.status = .running := rfl
set_option maxRecDepth 65536 in
theorem w_room : about1.hasRoom e0.platform room_1 = true :=
  launch0.hasRoom_least _ room_1 (by decide +kernel) (by decide +kernel) (by decide +kernel) (by decide +kernel) (by decide +kernel) (by decide +kernel)
theorem allAtoms_all (ts : List Jvm.Cond) (a : Array Jvm.Value) (st : Jvm.State) : (allAtoms ts).before a st = ts.all (fun c => c.before a st) := by
  induction ts with
  | nil => rfl
  | cons c t ih =>
    show (Jvm.Cond.and c (allAtoms t)).before a st = _
    rw [Jvm.Cond.before_and, ih, List.all_cons]
def words1 : List Jvm.Cond := Jvm.Cond.code x code maxLocals ret :: tables_1
/-- a 'code' word, met by the world's own term for the bytes: nothing is compared byte by byte -/
theorem code_word {y : MethodName} {bytes : ByteArray} {mx : Nat} {rt : Option FieldType} {a : Array Value} {s : State} {m : MethodId} {meth : Method} {c : Code} (h1 : s.methodNamed? y = some m) (h2 : s.vm.method? m = some meth) (h3 : meth.code = some c) (h4 : c.code = bytes)
    (h5 : (c.maxLocals == mx && c.exceptionTable.isEmpty && decide (c.maxStack ≤ mostOperands) && decide (meth.sig.returnType = rt) && !meth.locks && decide (parseMethodDescriptor y.desc = some meth.sig)) = true) : (Jvm.Cond.code y bytes mx rt).before a s = true := by
  simp only [Bool.and_eq_true, beq_iff_eq, Bool.not_eq_true', decide_eq_true_eq] at h5
  obtain ⟨⟨⟨⟨⟨g1, g2⟩, g3⟩, g4⟩, g5⟩, g6⟩ := h5
  simp [Cond.before, Cond.holds, Cond.value, h1, h2, h3, h4, g1, g2, g3, g4, g5, g6]
def isCode : Jvm.Cond → Bool
  | .code _ _ _ _ => true
  | _ => false
theorem all_split {L : List Jvm.Cond} {P : Jvm.Cond → Bool} (h1 : L.all (fun c => isCode c || P c) = true) (h2 : ∀ c ∈ L.filter isCode, P c = true) : L.all P = true := by
  refine List.all_eq_true.mpr fun c hc => ?_
  have h := List.all_eq_true.mp h1 c hc
  rcases Bool.eq_false_or_eq_true (isCode c) with hi | hi
  · exact h2 c (List.mem_filter.mpr ⟨hc, hi⟩)
  · simpa [hi] using h
set_option maxRecDepth 65536 in
theorem w_c0 : (Jvm.Cond.code x code maxLocals ret).before args0 about1 = true := code_word (m := ⟨1, 1⟩) (meth := k1m1) (c := k1c1) (by decide +kernel) rfl rfl rfl (by decide +kernel)
set_option maxRecDepth 65536 in
theorem w_c1 : (Jvm.Cond.code ({ cls := "com/example/frontweave/frontweave/clustering/Vectors", name := "distanceSquared", desc := "([D[D)D" } : Jvm.MethodName) prog_29_method_3_code (5 : Nat) (Option.some Jvm.ClassFile.FieldType.double)).before args0 about1 = true := code_word (m := ⟨2, 1⟩) (meth := k2m1) (c := k2c1) (by decide +kernel) rfl rfl rfl (by decide +kernel)
def codes1 : List Jvm.Cond := [Jvm.Cond.code x code maxLocals ret, Jvm.Cond.code ({ cls := "com/example/frontweave/frontweave/clustering/Vectors", name := "distanceSquared", desc := "([D[D)D" } : Jvm.MethodName) prog_29_method_3_code (5 : Nat) (Option.some Jvm.ClassFile.FieldType.double)]
set_option maxRecDepth 65536 in
theorem codes_eq : words1.filter isCode = codes1 := rfl
theorem w_codes : ∀ c ∈ words1.filter isCode, c.before args0 about1 = true := by
  rw [codes_eq]
  intro c hc
  simp only [codes1, List.mem_cons, List.not_mem_nil, or_false] at hc
  rcases hc with rfl | rfl
  · exact w_c0
  · exact w_c1
set_option maxRecDepth 65536 in
theorem w_t1 : words1.all (fun c => isCode c || c.before args0 about1) = true := by decide +kernel
theorem w_tables : (allAtoms (Jvm.Cond.code x code maxLocals ret :: tables_1)).before args0 about1 = true := by
  rw [allAtoms_all]
  show words1.all (fun c => c.before args0 about1) = true
  refine all_split ?_ w_codes
  rw [w_t1]
set_option maxRecDepth 65536 in
theorem w_case : (Jvm.Cond.and given_1 narrow_1).before args0 about1 = true := by decide +kernel
theorem w_applies : (headSpec (Jvm.Cond.code x code maxLocals ret :: tables_1) room_1).applies x e0.platform about1 = true :=
  (Spec.applies_iff w_frames).mpr ⟨w_running, w_runnable, w_alone, w_named, w_hears, w_ripe, w_room, w_tables⟩
theorem atStart : AtStart classFile x code maxLocals ret World_1 tables_1 room_1 Calls_1 rest_1 Pre_1 launch0 p0 e0 about1 theMethod args0 below0 :=
  ⟨lists_1, trivial, launch0.admits_env _ _ _, launch0.least_env, fairChoices_fair.cas, fairChoices_fair.clock, w_frames, w_args, w_heap, w_applies, trivial, trivial, w_case⟩
end start1
theorem witness_1 : WitnessClaimed_1 := ⟨start1.p0, start1.e0, start1.about1, start1.theMethod, start1.args0, start1.below0, start1.atStart⟩
end Jvm.Pilot.@@N@@
