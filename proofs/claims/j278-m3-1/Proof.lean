import JvmDerived
import JvmDerived.Pilot.@@N@@Statement
import JvmDerived.Pilot.@@N@@Code
set_option linter.unusedVariables false
set_option linter.unusedSimpArgs false
namespace Jvm.OwnFp
open Jvm.FP.Core Op
/-! own: exact values. `Dyf f i k d`: the datum d is finite and worth i / 2^k. -/
def Dyf (f : Fmt) (i : Int) (k : Nat) (d : Datum) : Prop := (∃ s c q, d = .fin s c q) ∧ zval f d * 2 ^ k = i * 2 ^ (-f.qmin).toNat
theorem pw_pos (n : Nat) : (0 : Int) < 2 ^ n := Int.pow_pos (by decide)
theorem pw_cast (n : Nat) : ((2 ^ n : Nat) : Int) = 2 ^ n := by simp
theorem signed_abs (i : Int) : signed (decide (i < 0)) i.natAbs = i := by
  unfold signed
  by_cases h : i < 0 <;> simp [h] <;> omega
theorem signed_mulI (s : Bool) (c k : Nat) : signed s (c * 2 ^ k) = signed s c * 2 ^ k := by
  rw [signed_mul, pw_cast]
theorem vex {f : Fmt} (hf : Good f) {i : Int} {k : Nat} (hi : i.natAbs < 2 ^ f.p) (hk : (k : Int) ≤ -f.qmin) (hq : 0 ≤ f.qmax) :
    ∃ s c q, FP.Core.fits f (.fin s c q) ∧ zval f (.fin s c q) * 2 ^ k = i * 2 ^ (-f.qmin).toNat := by
  obtain ⟨c', q', h, hu⟩ := round_exact hf (decide (i < 0)) (c := i.natAbs) (q := -(k : Int)) hi (by omega) (by omega)
  refine ⟨_, c', q', h ▸ round_fits hf _, ?_⟩
  show signed (decide (i < 0)) (inUnits c' q' f.qmin) * 2 ^ k = _
  rw [hu]
  unfold inUnits
  rw [signed_mulI, signed_abs, Int.mul_assoc, ← Int.pow_add, show (-(k : Int) - f.qmin).toNat + k = (-f.qmin).toNat by omega]
theorem dyf_of_zval {f : Fmt} (hf : Good f) {s : Bool} {A B : Nat} {e : Int} {s' : Bool} {c' : Nat} {q' : Int} (hV : FP.Core.fits f (.fin s' c' q'))
    (hz : zval f (roundRatio f s A B e) = zval f (.fin s' c' q')) : ∃ s₀ c₀ q₀, roundRatio f s A B e = .fin s₀ c₀ q₀ := by
  rcases roundRatio_cases f s A B e with ⟨c, q, h⟩ | h
  · exact ⟨s, c, q, h⟩
  · exfalso
    rw [h] at hz
    have h1 := zmag_lt_top hf hV
    have h2 := congrArg Int.natAbs hz
    unfold zval at h2
    rw [natAbs_signed, natAbs_signed] at h2
    have h3 : zmag f (.inf s) = f.tails * 2 ^ (f.exps - 2) := rfl
    have h4 : zmag f (.fin s' c' q') = inUnits c' q' f.qmin := rfl
    omega
/-- an exact result that the format holds is not rounded -/
theorem rnd {f : Fmt} (hf : Good f) (hq : 0 ≤ f.qmax) {s : Bool} {c : Nat} {q e0 : Int} (h0 : e0 ≤ f.qmin) (h0e : e0 ≤ q) {i : Int} {k : Nat} (hi : i.natAbs < 2 ^ f.p) (hk : (k : Int) ≤ -f.qmin)
    (h : signed s (inUnits c q e0) * 2 ^ k = i * 2 ^ (-f.qmin).toNat * 2 ^ (f.qmin - e0).toNat) : Dyf f i k (round f (.fin s c q)) := by
  obtain ⟨s', c', q', hV, hv⟩ := vex hf hi hk hq
  have hn : Datum.fin s' c' q' ≠ .nan := nofun
  have he : zval f (.fin s' c' q') * ((2 ^ (f.qmin - e0).toNat : Nat) : Int) = signed s (inUnits c q e0) := by
    refine Int.eq_of_mul_eq_mul_right (Int.ne_of_gt (pw_pos k)) ?_
    rw [h, ← hv, pw_cast]; ac_rfl
  have hz : zval f (round f (.fin s c q)) = zval f (.fin s' c' q') :=
    Int.le_antisymm (zval_round_le hf hV hn h0 h0e (Int.le_of_eq he.symm)) (zval_round_ge hf hV hn h0 h0e (Int.le_of_eq he))
  exact ⟨dyf_of_zval hf hV hz, by rw [hz]; exact hv⟩
theorem Dyf.fit {f : Fmt} {i : Int} {k : Nat} {d : Datum} (h : Dyf f i k d) : ∃ s c q, d = .fin s c q := h.1
theorem Dyf.up {f : Fmt} {i : Int} {k : Nat} {d : Datum} (h : Dyf f i k d) (l : Nat) : Dyf f (i * 2 ^ l) (k + l) d :=
  ⟨h.1, by rw [Int.pow_add, ← Int.mul_assoc, h.2]; ac_rfl⟩
theorem Dyf.to {f : Fmt} {i j : Int} {k l : Nat} {d : Datum} (h : Dyf f i k d) (e : i * 2 ^ l = j * 2 ^ k) : Dyf f j l d := by
  refine ⟨h.1, Int.eq_of_mul_eq_mul_right (Int.ne_of_gt (pw_pos k)) ?_⟩
  calc zval f d * 2 ^ l * 2 ^ k = (zval f d * 2 ^ k) * 2 ^ l := by ac_rfl
    _ = (i * 2 ^ l) * 2 ^ (-f.qmin).toNat := by rw [h.2]; ac_rfl
    _ = j * 2 ^ (-f.qmin).toNat * 2 ^ k := by rw [e]; ac_rfl
theorem Dyf.sum {f : Fmt} (hf : Good f) (hq : 0 ≤ f.qmax) {i j : Int} {k : Nat} {x y : Datum} (fx : FP.Core.fits f x) (fy : FP.Core.fits f y) (hx : Dyf f i k x) (hy : Dyf f j k y) (hi : (i + j).natAbs < 2 ^ f.p) (hk : (k : Int) ≤ -f.qmin) :
    Dyf f (i + j) k (round f (exactSum x y)) := by
  obtain ⟨⟨s, c, q, rfl⟩, hx⟩ := hx
  obtain ⟨⟨t, d, r, rfl⟩, hy⟩ := hy
  obtain ⟨sg, n, e, he, hle, hu⟩ := sum_units fx fy
  rw [he]
  refine rnd hf hq (Int.le_refl _) hle hi hk ?_
  rw [hu, Int.add_mul, hx, hy, Int.add_mul, Int.sub_self]
  simp
theorem Dyf.neg {f : Fmt} {i : Int} {k : Nat} {x : Datum} (hx : Dyf f i k x) : Dyf f (-i) k (negate x) := by
  obtain ⟨⟨s, c, q, rfl⟩, hx⟩ := hx
  refine ⟨⟨_, _, _, rfl⟩, ?_⟩
  rw [zval_negate, Int.neg_mul, hx, Int.neg_mul]
theorem Dyf.prod {f : Fmt} (hf : Good f) (hq : 0 ≤ f.qmax) {i j : Int} {k l : Nat} {x y : Datum} (fx : FP.Core.fits f x) (fy : FP.Core.fits f y) (hx : Dyf f i k x) (hy : Dyf f j l y) (hi : (i * j).natAbs < 2 ^ f.p) (hk : ((k + l : Nat) : Int) ≤ -f.qmin) :
    Dyf f (i * j) (k + l) (round f (exactProduct x y)) := by
  obtain ⟨⟨s, c, q, rfl⟩, hx⟩ := hx
  obtain ⟨⟨t, d, r, rfl⟩, hy⟩ := hy
  obtain ⟨he, hle, hu⟩ := product_units fx fy
  rw [he]
  have hn := qmin_neg hf
  refine rnd hf hq (e0 := 2 * f.qmin) (by omega) hle hi hk ?_
  rw [hu, signed_xor, show (f.qmin - 2 * f.qmin).toNat = (-f.qmin).toNat by omega, Int.pow_add]
  calc zval f (.fin s c q) * zval f (.fin t d r) * (2 ^ k * 2 ^ l) = (zval f (.fin s c q) * 2 ^ k) * (zval f (.fin t d r) * 2 ^ l) := by ac_rfl
    _ = _ := by rw [hx, hy]; ac_rfl
theorem natAbs_pow (n : Nat) : ((2 : Int) ^ n).natAbs = 2 ^ n := by rw [Int.natAbs_pow]; rfl
theorem natAbs_zval (f : Fmt) (d : Datum) : (zval f d).natAbs = zmag f d := natAbs_signed _ _
/-- an exact quotient that the format holds is not rounded -/
theorem Dyf.quot {f : Fmt} (hf : Good f) (hq : 0 ≤ f.qmax) {i j n : Int} {k l m : Nat} {x y : Datum} (fx : FP.Core.fits f x) (fy : FP.Core.fits f y) (hx : Dyf f i k x) (hy : Dyf f j l y) (hj : j ≠ 0) (hi : n.natAbs < 2 ^ f.p) (hm : (m : Int) ≤ -f.qmin)
    (e : i * 2 ^ l * 2 ^ m = n * j * 2 ^ k) : Dyf f n m (quotient f x y) := by
  obtain ⟨⟨s, c, q, rfl⟩, hx⟩ := hx
  obtain ⟨⟨t, d, r, rfl⟩, hy⟩ := hy
  obtain ⟨s', c', q', hV, hv⟩ := vex hf hi hm hq
  have hn : Datum.fin s' c' q' ≠ .nan := nofun
  have hqm := qmin_neg hf
  have fx1 := fx.2.1
  have fy1 := fy.2.1
  -- the signed equation
  have hz : zval f (.fin s c q) * 2 ^ (-f.qmin).toNat = zval f (.fin s' c' q') * zval f (.fin t d r) := by
    refine Int.eq_of_mul_eq_mul_right (Int.ne_of_gt (Int.mul_pos (Int.mul_pos (pw_pos k) (pw_pos l)) (pw_pos m))) ?_
    calc zval f (.fin s c q) * 2 ^ (-f.qmin).toNat * (2 ^ k * 2 ^ l * 2 ^ m) = (zval f (.fin s c q) * 2 ^ k) * (2 ^ l * 2 ^ m) * 2 ^ (-f.qmin).toNat := by ac_rfl
      _ = (i * 2 ^ l * 2 ^ m) * 2 ^ (-f.qmin).toNat * 2 ^ (-f.qmin).toNat := by rw [hx]; ac_rfl
      _ = (n * 2 ^ (-f.qmin).toNat) * (j * 2 ^ (-f.qmin).toNat) * 2 ^ k := by rw [e]; ac_rfl
      _ = (zval f (.fin s' c' q') * 2 ^ m) * (zval f (.fin t d r) * 2 ^ l) * 2 ^ k := by rw [hv, hy]
      _ = _ := by ac_rfl
  have hzb : zval f (.fin t d r) ≠ 0 := by
    intro h0
    rw [h0, Int.zero_mul] at hy
    rcases Int.mul_eq_zero.mp hy.symm with h | h
    · exact hj h
    · exact absurd h (Int.ne_of_gt (pw_pos _))
  have hd : d ≠ 0 := by
    rintro rfl
    apply hzb
    show signed t (inUnits 0 r f.qmin) = 0
    unfold inUnits; rw [Nat.zero_mul, signed_zero]
  have hmag : zmag f (.fin s c q) * 2 ^ (-f.qmin).toNat = zmag f (.fin s' c' q') * zmag f (.fin t d r) := by
    have h2 := congrArg Int.natAbs hz
    rw [Int.natAbs_mul, Int.natAbs_mul, natAbs_pow, natAbs_zval, natAbs_zval, natAbs_zval] at h2
    exact h2
  have hun : inUnits c (q - r) (2 * f.qmin - r) = zmag f (.fin s' c' q') * 2 ^ (f.qmin - (2 * f.qmin - r)).toNat * d := by
    have a1 : inUnits c (q - r) (2 * f.qmin - r) = zmag f (.fin s c q) * 2 ^ (-f.qmin).toNat := by
      show c * 2 ^ _ = c * 2 ^ _ * 2 ^ _
      rw [Nat.mul_assoc, ← Nat.pow_add, show (q - r - (2 * f.qmin - r)).toNat = (q - f.qmin).toNat + (-f.qmin).toNat by omega]
    rw [a1, hmag, show (f.qmin - (2 * f.qmin - r)).toNat = (r - f.qmin).toNat by omega]
    show _ * (d * 2 ^ _) = _
    ac_rfl
  have hqt : quotient f (.fin s c q) (.fin t d r) = roundRatio f (s != t) c d (q - r) := by
    show (if d = 0 then _ else _) = _
    rw [if_neg hd]
  have hm2 : zmag f (roundRatio f (s != t) c d (q - r)) = zmag f (.fin s' c' q') :=
    Nat.le_antisymm (zmag_roundRatio_le hf (e0 := 2 * f.qmin - r) (Nat.pos_of_ne_zero hd) hV hn (by omega) (by omega) (Nat.le_of_eq hun))
      (zmag_roundRatio_ge hf (e0 := 2 * f.qmin - r) (Nat.pos_of_ne_zero hd) hV (by omega) (by omega) (Nat.le_of_eq hun.symm))
  have hsg : signed (s != t) (zmag f (.fin s' c' q')) = zval f (.fin s' c' q') := by
    have p0 : zmag f (.fin s c q) = inUnits c q f.qmin := rfl
    have hS : zval f (.fin s c q) * 2 ^ (-f.qmin).toNat * zval f (.fin t d r) = zval f (.fin s' c' q') * (zval f (.fin t d r) * zval f (.fin t d r)) := by rw [hz]; ac_rfl
    by_cases h0 : zmag f (.fin s' c' q') = 0
    · unfold zval; rw [h0, signed_zero, signed_zero]
    · have hbb : 0 < zval f (.fin t d r) * zval f (.fin t d r) := by
        rcases Int.lt_or_gt_of_ne hzb with h | h
        · exact Int.mul_pos_of_neg_of_neg h h
        · exact Int.mul_pos h h
      have hst : zval f (.fin s c q) * zval f (.fin t d r) = signed (s != t) (zmag f (.fin s c q) * zmag f (.fin t d r)) := by
        rw [signed_xor]; rfl
      have e1 : zval f (.fin s' c' q') * (zval f (.fin t d r) * zval f (.fin t d r)) = signed (s != t) (zmag f (.fin s c q) * zmag f (.fin t d r)) * 2 ^ (-f.qmin).toNat := by
        rw [← hS, ← hst]; ac_rfl
      have e2 : signed (s != t) (zmag f (.fin s c q) * zmag f (.fin t d r)) * 2 ^ (-f.qmin).toNat = signed (s != t) (zmag f (.fin s' c' q')) * (zval f (.fin t d r) * zval f (.fin t d r)) := by
        rw [← signed_mulI, show zmag f (.fin s c q) * zmag f (.fin t d r) * 2 ^ (-f.qmin).toNat = zmag f (.fin s' c' q') * (zmag f (.fin t d r) * zmag f (.fin t d r)) by rw [Nat.mul_right_comm, hmag]; ac_rfl, signed_mul]
        congr 1
        unfold zval
        rw [Int.natCast_mul]
        cases (sgn (.fin t d r)) <;> simp [signed, Int.neg_mul_neg]
      exact Int.eq_of_mul_eq_mul_right (Int.ne_of_gt hbb) (e2.symm.trans e1.symm)
  have hzz : zval f (roundRatio f (s != t) c d (q - r)) = zval f (.fin s' c' q') := by
    rw [← hsg]
    show signed (sgn (roundRatio f (s != t) c d (q - r))) (zmag f (roundRatio f (s != t) c d (q - r))) = _
    rw [sgn_roundRatio, hm2]
  rw [hqt]
  exact ⟨dyf_of_zval hf hV hzz, by rw [hzz]; exact hv⟩
theorem Dyf.ofInt {f : Fmt} (hf : Good f) (hq : 0 ≤ f.qmax) {i : Int} (hi : i.natAbs < 2 ^ f.p) : Dyf f i 0 (round f (FP.Core.ofInt i)) := by
  have hn := qmin_neg hf
  refine rnd hf hq (Int.le_refl _) (by omega) hi (by omega) ?_
  unfold inUnits
  rw [signed_mulI, signed_abs, Int.sub_self]
  simp
theorem Dyf.order {f : Fmt} (hf : Good f) {i j : Int} {k : Nat} {x y : Datum} (fx : FP.Core.fits f x) (fy : FP.Core.fits f y) (hx : Dyf f i k x) (hy : Dyf f j k y) : order x y = some (compare i j) := by
  obtain ⟨⟨s, c, q, rfl⟩, hx⟩ := hx
  obtain ⟨⟨t, d, r, rfl⟩, hy⟩ := hy
  rw [order_zval hf fx fy nofun nofun, ← compare_mul_pos _ _ _ (pw_pos k), hx, hy, compare_mul_pos _ _ _ (pw_pos _)]
/-! doubles -/
def Dy (i : Int) (k : Nat) (a : UInt64) : Prop := Dyf b64 i k (val64 a)
theorem qm64 : (0 : Int) ≤ b64.qmax := by decide
theorem Dy.fin {i : Int} {k : Nat} {a : UInt64} (h : Dy i k a) : DFin a := h.1
theorem Dy.nn {i : Int} {k : Nat} {a : UInt64} (h : Dy i k a) : Jvm.Free.Fl.NoNaN64 a := (Jvm.Free.Fl.fin64_core.mpr h.1).noNaN
theorem Dy.to {i j : Int} {k l : Nat} {a : UInt64} (h : Dy i k a) (e : i * 2 ^ l = j * 2 ^ k) : Dy j l a := Dyf.to h e
theorem Dy.up {i : Int} {k : Nat} {a : UInt64} (h : Dy i k a) (l : Nat) : Dy (i * 2 ^ l) (k + l) a := Dyf.up h l
theorem Dy.add {i j : Int} {k : Nat} {a b : UInt64} (ha : Dy i k a) (hb : Dy j k b) (hi : (i + j).natAbs < 9007199254740992) (hk : k ≤ 1074) : Dy (i + j) k (FP.dadd a b) := by
  show Dyf b64 _ _ (val64 (dadd a b))
  rw [val64_dadd]
  exact Dyf.sum good_b64 qm64 (val64_fits a) (val64_fits b) ha hb hi (by rw [qmin_b64]; omega)
theorem Dy.sub {i j : Int} {k : Nat} {a b : UInt64} (ha : Dy i k a) (hb : Dy j k b) (hi : (i - j).natAbs < 9007199254740992) (hk : k ≤ 1074) : Dy (i - j) k (FP.dsub a b) := by
  show Dyf b64 _ _ (val64 (dsub a b))
  rw [val64_dsub]
  exact Dyf.sum good_b64 qm64 (val64_fits a) (negate_fits (val64_fits b)) ha hb.neg hi (by rw [qmin_b64]; omega)
theorem Dy.mul {i j : Int} {k l : Nat} {a b : UInt64} (ha : Dy i k a) (hb : Dy j l b) (hi : (i * j).natAbs < 9007199254740992) (hk : k + l ≤ 1074) : Dy (i * j) (k + l) (FP.dmul a b) := by
  show Dyf b64 _ _ (val64 (dmul a b))
  rw [val64_dmul]
  exact Dyf.prod good_b64 qm64 (val64_fits a) (val64_fits b) ha hb hi (by rw [qmin_b64]; omega)
theorem Dy.div {i j n : Int} {k l m : Nat} {a b : UInt64} (ha : Dy i k a) (hb : Dy j l b) (hj : j ≠ 0) (hi : n.natAbs < 9007199254740992) (hk : m ≤ 1074) (e : i * 2 ^ l * 2 ^ m = n * j * 2 ^ k) : Dy n m (FP.ddiv a b) := by
  show Dyf b64 _ _ (val64 (ddiv a b))
  rw [val64_ddiv]
  exact Dyf.quot good_b64 qm64 (val64_fits a) (val64_fits b) ha hb hj hi (by rw [qmin_b64]; omega) e
theorem Dy.neg {i : Int} {k : Nat} {a : UInt64} (ha : Dy i k a) : Dy (-i) k (FP.dneg a) := by
  show Dyf b64 _ _ (val64 (FP.dneg a))
  rw [Jvm.FP.val64_dneg]
  exact Dyf.neg ha
theorem Dy.i2d (x : Int32) : Dy x.toInt 0 (FP.i2d x) := by
  show Dyf b64 _ _ (val64 (FP.Core.i2d x))
  rw [val64_i2d]
  exact Dyf.ofInt good_b64 qm64 (by have := int32_abs x; show _ < 2 ^ 53; omega)
theorem Dy.l2d {x : Int64} (h : x.toInt.natAbs < 9007199254740992) : Dy x.toInt 0 (FP.l2d x) := by
  show Dyf b64 _ _ (val64 (FP.Core.l2d x))
  rw [val64_l2d]
  exact Dyf.ofInt good_b64 qm64 h
theorem Dy.cmp {i j : Int} {k : Nat} {a b : UInt64} (ha : Dy i k a) (hb : Dy j k b) : FP.dcmp a b = some (compare i j) :=
  Dyf.order good_b64 (val64_fits a) (val64_fits b) ha hb
theorem Dy.cmp_eq {i j : Int} {k : Nat} {a b : UInt64} (ha : Dy i k a) (hb : Dy j k b) (e : i = j) (o : ClassFile.CmpOp) : cmpValue (FP.dcmp a b) o = 0 := by
  rw [ha.cmp hb, e, compare_self_int]; rfl
theorem Dy.cmp_lt {i j : Int} {k : Nat} {a b : UInt64} (ha : Dy i k a) (hb : Dy j k b) (e : i < j) (o : ClassFile.CmpOp) : cmpValue (FP.dcmp a b) o = -1 := by
  rw [ha.cmp hb, show compare i j = .lt by rw [compare_ite, if_pos e]]; rfl
theorem Dy.cmp_gt {i j : Int} {k : Nat} {a b : UInt64} (ha : Dy i k a) (hb : Dy j k b) (e : j < i) (o : ClassFile.CmpOp) : cmpValue (FP.dcmp a b) o = 1 := by
  rw [ha.cmp hb, show compare i j = .gt by rw [compare_ite, if_neg (by omega), if_neg (by omega)]]; rfl
theorem dy_of {i : Int} {k : Nat} {a : UInt64} {s : Bool} {c : Nat} {q : Int} (h : val64 a = .fin s c q) (e : zval b64 (.fin s c q) * 2 ^ k = i * 2 ^ 1074) : Dy i k a :=
  ⟨⟨s, c, q, h⟩, by rw [h, e]; rfl⟩
theorem dy0 (k : Nat) : Dy 0 k (0 : UInt64) := dy_of (s := false) (c := 0) (q := -1074) (by decide +kernel) (by
  rw [show zval b64 (.fin false 0 (-1074)) = 0 from rfl, Int.zero_mul, Int.zero_mul])
theorem dy1 (k : Nat) : Dy (2 ^ k) k (4607182418800017408 : UInt64) := dy_of (s := false) (c := 2 ^ 52) (q := -52) (by decide +kernel) (by
  rw [show zval b64 (.fin false (2 ^ 52) (-52)) = 2 ^ 1074 by decide +kernel, Int.mul_comm])
theorem Dy.ge {i j : Int} {k : Nat} {a b : UInt64} (ha : Dy i k a) (hb : Dy j k b) (e : j ≤ i) (o : ClassFile.CmpOp) : ¬ (cmpValue (FP.dcmp a b) o < (0 : Int32)) := by
  rcases Int.lt_or_eq_of_le e with h | h
  · rw [ha.cmp_gt hb h]; decide
  · rw [ha.cmp_eq hb h.symm]; decide
theorem Dy.le {i j : Int} {k : Nat} {a b : UInt64} (ha : Dy i k a) (hb : Dy j k b) (e : i ≤ j) (o : ClassFile.CmpOp) : ¬ ((0 : Int32) < cmpValue (FP.dcmp a b) o) := by
  rcases Int.lt_or_eq_of_le e with h | h
  · rw [ha.cmp_lt hb h]; decide
  · rw [ha.cmp_eq hb h]; decide
theorem Dy.lt_inf {i : Int} {k : Nat} {a : UInt64} (ha : Dy i k a) (o : ClassFile.CmpOp) : cmpValue (FP.dcmp a (9218868437227405312 : UInt64)) o < (0 : Int32) := by
  rw [Jvm.RoadKit.dcmp_pinf (Jvm.Free.Fl.fin64_core.mpr ha.1)]; decide
theorem isfin {a : UInt64} (h : DFin a) : ¬ ((0 : Int32) < cmpValue (FP.dcmp (a &&& 0x7fffffffffffffff) (9218868437227405311 : UInt64)) .g) := by
  have hn : dIsNaN a = false := (notNaN_iff a).mpr (by obtain ⟨s, c, q, e⟩ := h; rw [e]; exact nofun)
  rcases (le_max hn).mpr h with e | e <;> rw [show FP.dcmp (a &&& 0x7fffffffffffffff) (9218868437227405311 : UInt64) = _ from e] <;> decide
theorem since0 (s : State) : s.Since s.vm 0 := ⟨State.Warmed39.refl s, fun j p h1 h2 => by
  rw [Array.getElem?_eq_none h1] at h2; cases h2⟩
theorem i2d_nz {v : Int32} (h : v ≠ 0) : ¬ DZero (FP.i2d v) := fun q => i2d_ne_zero h ((zero_bits2 _).mp q)
theorem nn_of {x : UInt64} (h : dIsNaN x = false) : Jvm.Free.Fl.NoNaN64 x := Jvm.Free.Fl.noNaN64_no.mpr h
theorem no_of {x : UInt64} (h : Jvm.Free.Fl.NoNaN64 x) : dIsNaN x = false := Jvm.Free.Fl.noNaN64_no.mp h
theorem no_fin {x : UInt64} (h : DFin x) : dIsNaN x = false := (notNaN_iff x).mpr (by obtain ⟨s, c, q, e⟩ := h; rw [e]; exact nofun)
theorem nn_div {a : UInt64} {v : Int32} (ha : dIsNaN a = false) (h : v ≠ 0) : Jvm.Free.Fl.NoNaN64 (FP.ddiv a (FP.i2d v)) := nn_of (ddiv_out ha (i2d_fin v) (i2d_nz h))
theorem fin_div (a : Int32) {v : Int32} (h : v ≠ 0) : DFin (FP.ddiv (FP.i2d a) (FP.i2d v)) := by
  have h1 := i2d_mag a
  have h2 := i2d_big (v := v) (fun q => h (Int32.toInt_inj.mp q))
  exact fin_of_lt (ddiv_mag h1 h2.1 h2.2 (by decide) (by decide)) (by decide)
end Jvm.OwnFp
namespace Jvm.Pilot.@@N@@
open Jvm Jvm.ClassFile Sem Op Lib Jvm.Free Jvm.Stand Jvm.LawKit Jvm.RoadKit Bundle Jvm.Pilot.@@N@@.Jvm.D
open Jvm.OwnFp
theorem own_n (x n : Int32) (h : n = ((x.toUInt32 >>> ((24 : Int32) &&& 31).toUInt32).toInt32 &&& (3 : Int32))) : n = 0 ∨ n = 1 ∨ n = 2 ∨ n = 3 := by
  have m := c_and (x.toUInt32 >>> ((24 : Int32) &&& 31).toUInt32).toInt32 3 (by decide)
  rw [← h, show (3 : Int32).toInt = 3 by decide] at m
  have e : n = Int32.ofInt n.toInt := (Int32.ofInt_toInt n).symm
  have : n.toInt = 0 ∨ n.toInt = 1 ∨ n.toInt = 2 ∨ n.toInt = 3 := by omega
  rcases this with q | q | q | q <;> rw [q] at e <;> simp [e] <;> decide
theorem own_sx (x : Int32) : -8388608 ≤ ((x <<< ((8 : Int32) &&& 31)) >>> ((8 : Int32) &&& 31)).toInt64.toInt ∧ ((x <<< ((8 : Int32) &&& 31)) >>> ((8 : Int32) &&& 31)).toInt64.toInt ≤ 8388607 := by
  have e := c_ishr (x <<< ((8 : Int32) &&& 31)) 8 8 (by decide)
  have r := rng32 (x <<< ((8 : Int32) &&& 31))
  rw [c_i2l, e]
  omega
theorem own_absmul {x y : Int} {A B : Nat} (hx : x.natAbs ≤ A) (hy : y.natAbs ≤ B) : (x * y).natAbs ≤ A * B := by
  rw [Int.natAbs_mul]; exact Nat.mul_le_mul hx hy
theorem own_p {a b : Int} (A : -8388608 ≤ a ∧ a ≤ 8388607) (B : -8388608 ≤ b ∧ b ≤ 8388607) : (a * b).natAbs ≤ 70368744177664 := own_absmul (A := 8388608) (B := 8388608) (by omega) (by omega)
theorem own_refb1 {a0 b0 : Int64} (A0 : -8388608 ≤ a0.toInt ∧ a0.toInt ≤ 8388607) (B0 : -8388608 ≤ b0.toInt ∧ b0.toInt ≤ 8388607) : (0 + a0.toInt * b0.toInt).natAbs < 9007199254740992 := by
  have p0 := own_p A0 B0
  omega
theorem own_ref1 {a0 b0 : Int64} (A0 : -8388608 ≤ a0.toInt ∧ a0.toInt ≤ 8388607) (B0 : -8388608 ≤ b0.toInt ∧ b0.toInt ≤ 8388607) : ((0 : Int64) + a0 * b0).toInt = 0 + a0.toInt * b0.toInt := by
  have p0 := own_p A0 B0
  have m0 := c_lmul a0 b0
  have s0 := c_ladd ((0 : Int64)) (a0 * b0)
  have z : (0 : Int64).toInt = 0 := by decide
  have r := rng64 ((0 : Int64) + a0 * b0)
  omega
theorem own_dot1 {a0 b0 : Int64} {u0 w0 : UInt64} (A0 : -8388608 ≤ a0.toInt ∧ a0.toInt ≤ 8388607) (B0 : -8388608 ≤ b0.toInt ∧ b0.toInt ≤ 8388607) (d0 : Dy a0.toInt 0 u0) (e0 : Dy b0.toInt 0 w0) :
    Dy (a0.toInt * b0.toInt) 0 (FP.dmul u0 w0) ∧ Dy (0 + a0.toInt * b0.toInt) 0 (FP.dadd (0 : UInt64) (FP.dmul u0 w0)) := by
  have p0 := own_p A0 B0
  have m0 : Dy (a0.toInt * b0.toInt) 0 (FP.dmul u0 w0) := Dy.mul d0 e0 (by omega) (by decide)
  have s0 : Dy (0 + a0.toInt * b0.toInt) 0 (FP.dadd (0 : UInt64) (FP.dmul u0 w0)) := Dy.add (dy0 0) m0 (by omega) (by decide)
  exact ⟨m0, s0⟩
theorem own_refb2 {a0 b0 a1 b1 : Int64} (A0 : -8388608 ≤ a0.toInt ∧ a0.toInt ≤ 8388607) (A1 : -8388608 ≤ a1.toInt ∧ a1.toInt ≤ 8388607) (B0 : -8388608 ≤ b0.toInt ∧ b0.toInt ≤ 8388607) (B1 : -8388608 ≤ b1.toInt ∧ b1.toInt ≤ 8388607) : (0 + a0.toInt * b0.toInt + a1.toInt * b1.toInt).natAbs < 9007199254740992 := by
  have p0 := own_p A0 B0; have p1 := own_p A1 B1
  omega
theorem own_ref2 {a0 b0 a1 b1 : Int64} (A0 : -8388608 ≤ a0.toInt ∧ a0.toInt ≤ 8388607) (A1 : -8388608 ≤ a1.toInt ∧ a1.toInt ≤ 8388607) (B0 : -8388608 ≤ b0.toInt ∧ b0.toInt ≤ 8388607) (B1 : -8388608 ≤ b1.toInt ∧ b1.toInt ≤ 8388607) : (((0 : Int64) + a0 * b0) + a1 * b1).toInt = 0 + a0.toInt * b0.toInt + a1.toInt * b1.toInt := by
  have p0 := own_p A0 B0; have p1 := own_p A1 B1
  have m0 := c_lmul a0 b0; have m1 := c_lmul a1 b1
  have s0 := c_ladd ((0 : Int64)) (a0 * b0); have s1 := c_ladd (((0 : Int64) + a0 * b0)) (a1 * b1)
  have z : (0 : Int64).toInt = 0 := by decide
  have r := rng64 (((0 : Int64) + a0 * b0) + a1 * b1)
  omega
theorem own_dot2 {a0 b0 a1 b1 : Int64} {u0 w0 u1 w1 : UInt64} (A0 : -8388608 ≤ a0.toInt ∧ a0.toInt ≤ 8388607) (A1 : -8388608 ≤ a1.toInt ∧ a1.toInt ≤ 8388607) (B0 : -8388608 ≤ b0.toInt ∧ b0.toInt ≤ 8388607) (B1 : -8388608 ≤ b1.toInt ∧ b1.toInt ≤ 8388607) (d0 : Dy a0.toInt 0 u0) (d1 : Dy a1.toInt 0 u1) (e0 : Dy b0.toInt 0 w0) (e1 : Dy b1.toInt 0 w1) :
    Dy (a0.toInt * b0.toInt) 0 (FP.dmul u0 w0) ∧ Dy (0 + a0.toInt * b0.toInt) 0 (FP.dadd (0 : UInt64) (FP.dmul u0 w0)) ∧ Dy (a1.toInt * b1.toInt) 0 (FP.dmul u1 w1) ∧ Dy (0 + a0.toInt * b0.toInt + a1.toInt * b1.toInt) 0 (FP.dadd (FP.dadd (0 : UInt64) (FP.dmul u0 w0)) (FP.dmul u1 w1)) := by
  have p0 := own_p A0 B0; have p1 := own_p A1 B1
  have m0 : Dy (a0.toInt * b0.toInt) 0 (FP.dmul u0 w0) := Dy.mul d0 e0 (by omega) (by decide)
  have s0 : Dy (0 + a0.toInt * b0.toInt) 0 (FP.dadd (0 : UInt64) (FP.dmul u0 w0)) := Dy.add (dy0 0) m0 (by omega) (by decide)
  have m1 : Dy (a1.toInt * b1.toInt) 0 (FP.dmul u1 w1) := Dy.mul d1 e1 (by omega) (by decide)
  have s1 : Dy (0 + a0.toInt * b0.toInt + a1.toInt * b1.toInt) 0 (FP.dadd (FP.dadd (0 : UInt64) (FP.dmul u0 w0)) (FP.dmul u1 w1)) := Dy.add s0 m1 (by omega) (by decide)
  exact ⟨m0, s0, m1, s1⟩
theorem own_refb3 {a0 b0 a1 b1 a2 b2 : Int64} (A0 : -8388608 ≤ a0.toInt ∧ a0.toInt ≤ 8388607) (A1 : -8388608 ≤ a1.toInt ∧ a1.toInt ≤ 8388607) (A2 : -8388608 ≤ a2.toInt ∧ a2.toInt ≤ 8388607) (B0 : -8388608 ≤ b0.toInt ∧ b0.toInt ≤ 8388607) (B1 : -8388608 ≤ b1.toInt ∧ b1.toInt ≤ 8388607) (B2 : -8388608 ≤ b2.toInt ∧ b2.toInt ≤ 8388607) : (0 + a0.toInt * b0.toInt + a1.toInt * b1.toInt + a2.toInt * b2.toInt).natAbs < 9007199254740992 := by
  have p0 := own_p A0 B0; have p1 := own_p A1 B1; have p2 := own_p A2 B2
  omega
theorem own_ref3 {a0 b0 a1 b1 a2 b2 : Int64} (A0 : -8388608 ≤ a0.toInt ∧ a0.toInt ≤ 8388607) (A1 : -8388608 ≤ a1.toInt ∧ a1.toInt ≤ 8388607) (A2 : -8388608 ≤ a2.toInt ∧ a2.toInt ≤ 8388607) (B0 : -8388608 ≤ b0.toInt ∧ b0.toInt ≤ 8388607) (B1 : -8388608 ≤ b1.toInt ∧ b1.toInt ≤ 8388607) (B2 : -8388608 ≤ b2.toInt ∧ b2.toInt ≤ 8388607) : ((((0 : Int64) + a0 * b0) + a1 * b1) + a2 * b2).toInt = 0 + a0.toInt * b0.toInt + a1.toInt * b1.toInt + a2.toInt * b2.toInt := by
  have p0 := own_p A0 B0; have p1 := own_p A1 B1; have p2 := own_p A2 B2
  have m0 := c_lmul a0 b0; have m1 := c_lmul a1 b1; have m2 := c_lmul a2 b2
  have s0 := c_ladd ((0 : Int64)) (a0 * b0); have s1 := c_ladd (((0 : Int64) + a0 * b0)) (a1 * b1); have s2 := c_ladd ((((0 : Int64) + a0 * b0) + a1 * b1)) (a2 * b2)
  have z : (0 : Int64).toInt = 0 := by decide
  have r := rng64 ((((0 : Int64) + a0 * b0) + a1 * b1) + a2 * b2)
  omega
theorem own_dot3 {a0 b0 a1 b1 a2 b2 : Int64} {u0 w0 u1 w1 u2 w2 : UInt64} (A0 : -8388608 ≤ a0.toInt ∧ a0.toInt ≤ 8388607) (A1 : -8388608 ≤ a1.toInt ∧ a1.toInt ≤ 8388607) (A2 : -8388608 ≤ a2.toInt ∧ a2.toInt ≤ 8388607) (B0 : -8388608 ≤ b0.toInt ∧ b0.toInt ≤ 8388607) (B1 : -8388608 ≤ b1.toInt ∧ b1.toInt ≤ 8388607) (B2 : -8388608 ≤ b2.toInt ∧ b2.toInt ≤ 8388607) (d0 : Dy a0.toInt 0 u0) (d1 : Dy a1.toInt 0 u1) (d2 : Dy a2.toInt 0 u2) (e0 : Dy b0.toInt 0 w0) (e1 : Dy b1.toInt 0 w1) (e2 : Dy b2.toInt 0 w2) :
    Dy (a0.toInt * b0.toInt) 0 (FP.dmul u0 w0) ∧ Dy (0 + a0.toInt * b0.toInt) 0 (FP.dadd (0 : UInt64) (FP.dmul u0 w0)) ∧ Dy (a1.toInt * b1.toInt) 0 (FP.dmul u1 w1) ∧ Dy (0 + a0.toInt * b0.toInt + a1.toInt * b1.toInt) 0 (FP.dadd (FP.dadd (0 : UInt64) (FP.dmul u0 w0)) (FP.dmul u1 w1)) ∧ Dy (a2.toInt * b2.toInt) 0 (FP.dmul u2 w2) ∧ Dy (0 + a0.toInt * b0.toInt + a1.toInt * b1.toInt + a2.toInt * b2.toInt) 0 (FP.dadd (FP.dadd (FP.dadd (0 : UInt64) (FP.dmul u0 w0)) (FP.dmul u1 w1)) (FP.dmul u2 w2)) := by
  have p0 := own_p A0 B0; have p1 := own_p A1 B1; have p2 := own_p A2 B2
  have m0 : Dy (a0.toInt * b0.toInt) 0 (FP.dmul u0 w0) := Dy.mul d0 e0 (by omega) (by decide)
  have s0 : Dy (0 + a0.toInt * b0.toInt) 0 (FP.dadd (0 : UInt64) (FP.dmul u0 w0)) := Dy.add (dy0 0) m0 (by omega) (by decide)
  have m1 : Dy (a1.toInt * b1.toInt) 0 (FP.dmul u1 w1) := Dy.mul d1 e1 (by omega) (by decide)
  have s1 : Dy (0 + a0.toInt * b0.toInt + a1.toInt * b1.toInt) 0 (FP.dadd (FP.dadd (0 : UInt64) (FP.dmul u0 w0)) (FP.dmul u1 w1)) := Dy.add s0 m1 (by omega) (by decide)
  have m2 : Dy (a2.toInt * b2.toInt) 0 (FP.dmul u2 w2) := Dy.mul d2 e2 (by omega) (by decide)
  have s2 : Dy (0 + a0.toInt * b0.toInt + a1.toInt * b1.toInt + a2.toInt * b2.toInt) 0 (FP.dadd (FP.dadd (FP.dadd (0 : UInt64) (FP.dmul u0 w0)) (FP.dmul u1 w1)) (FP.dmul u2 w2)) := Dy.add s1 m2 (by omega) (by decide)
  exact ⟨m0, s0, m1, s1, m2, s2⟩
theorem ef_1_IDDD (m : MethodId) (x0 : Int32) (x1 : UInt64) (x2 : UInt64) (x3 : UInt64) : entryFrame m #[(.int x0), (.double x1), (.double x2), (.double x3)] 7 = mkF m 0 #[.val (.int x0), .val (.double x1), .second, .val (.double x2), .second, .val (.double x3), .second] [] := by first | (simp [entryFrame, mkF, argsToLocals, Value.category]; done) | rfl
theorem d1_0 : decode method_2_code 0 = .ok (.iload_n 0, 1) := by decide +kernel
theorem d1_1 : decode method_2_code 1 = .ok (.ifCond .ne 7, 3) := by decide +kernel
theorem d1_4 : decode method_2_code 4 = .ok (.iconst 0, 1) := by decide +kernel
theorem d1_5 : decode method_2_code 5 = .ok (.newarray .double, 2) := by decide +kernel
theorem d1_7 : decode method_2_code 7 = .ok (.areturn, 1) := by decide +kernel
def Q_vec0 (Z : State) (u1 : UInt64) (u2 : UInt64) (u3 : UInt64) (h0 : Heap) (n0 : Nat) (v : Option Value) (h : Heap) (L : List Loc) : Prop := ∃ (b : Addr) (k : ClassId), v = some (.ref b) ∧ Fr n0 L ∧ b = h0.size ∧ Keep h0 h [] ∧ Arv Z h b k .double (0 : Int32) [] (.double (0 : UInt64))
theorem pn_com_2fexample_2ffrontweave_2ffrontweave_2fclustering_2fVectorsDotPinLaw : plainName "com/example/frontweave/frontweave/clustering/VectorsDotPinLaw" = true := by first | (simp [plainName, overriddenIn]; done) | decide +kernel
set_option maxRecDepth 65536 in
set_option maxHeartbeats 40000000 in
theorem vec0 (l : Launch) (Z : State) (a0 : Array Value) (hw : ∀ d ∈ tables_1, d.before a0 Z = true) (ws : List Jvm.Cond) (u1 : UInt64) (u2 : UInt64) (u3 : UInt64) (h0 : Heap) (n0 : Nat) (Z0 : n0 ≤ h0.size) :
    MetFree l (⟨"com/example/frontweave/frontweave/clustering/VectorsDotPinLaw", "vec", "(IDDD)[D"⟩ : MethodName) (head1 (Jvm.Cond.code (⟨"com/example/frontweave/frontweave/clustering/VectorsDotPinLaw", "vec", "(IDDD)[D"⟩ : MethodName) method_2_code 7 (some (.array .double)) :: ws) ({ frames := 0, cells := 1, slots := 0, locals := 0 } : Room)) (fun a U => a = #[(.int (0 : Int32)), (.double u1), (.double u2), (.double u3)] ∧ Z.Warmed39 U.vm ∧ U.heap = h0) (fun _ _ _ _ _ => True) (fun _ U o U' => ∃ v L, o = .returned v ∧ Q_vec0 Z u1 u2 u3 h0 n0 v U'.heap L ∧ FrameEnd U o U' L ({ frames := 0, cells := 1, slots := 0, locals := 0 } : Room).cells ({ frames := 0, cells := 1, slots := 0, locals := 0 } : Room).slots) := by
  refine MetFree.of_bodySF (plainFor_of_name pn_com_2fexample_2ffrontweave_2ffrontweave_2fclustering_2fVectorsDotPinLaw) hisR ?_
  intro p e s m args below meth c s₁ Bd hml0 hP hK
  obtain ⟨rfl, hZ, hh⟩ := hP
  have hx := Bd.exec
  have hby := Bd.bytes
  have hml : c.maxLocals = 7 := hml0
  have hown : s.vm.findClass "com/example/frontweave/frontweave/clustering/VectorsDotPinLaw" = some m.cls := findClass_of_methodNamed Bd.named
  have hnm := (name_of_methodNamed Bd.named Bd.method).1
  have X0 : Stand p l e ({ frames := 0, cells := 1, slots := 0, locals := 0 } : Room) s m #[(.int (0 : Int32)), (.double u1), (.double u2), (.double u3)] below meth c s₁ [] 0 0 := Stand.of_body Bd
  have e0 : s₁.heap = h0 := by rw [← hh, Bd.state]; rfl
  have N0 := Fr.nil n0
  have k0 : ∀ t, Steps p.tables e below (s₁.setTop (mkF m 0 #[.val (.int (0 : Int32)), .val (.double u1), .second, .val (.double u2), .second, .val (.double u3), .second] [])) t → Steps p.tables e below (s₁.setTop (entryFrame m #[(.int (0 : Int32)), (.double u1), (.double u2), (.double u3)] 7)) t := fun t k => castTop (ef_1_IDDD m (0 : Int32) u1 u2 u3) k
  have K0 : Keep h0 h0 [] := Keep.refl h0 []
  have k101 : ∀ t, Steps p.tables e below (s₁.setTop (mkF m 5 #[.val (.int (0 : Int32)), .val (.double u1), .second, .val (.double u2), .second, .val (.double u3), .second] [(.int (0 : Int32))])) t → Steps p.tables e below (s₁.setTop (entryFrame m #[(.int (0 : Int32)), (.double u1), (.double u2), (.double u3)] 7)) t := fun t k => k0 t (by
    show Steps p.tables e below (s₁.setTop (mkF m 0 #[.val (.int (0 : Int32)), .val (.double u1), .second, .val (.double u2), .second, .val (.double u3), .second] [])) _
    refine XS.iloadN X0.here hx rfl (hb hby d1_0) rfl ?_
    show Steps p.tables e below (s₁.setTop (mkF m 1 #[.val (.int (0 : Int32)), .val (.double u1), .second, .val (.double u2), .second, .val (.double u3), .second] [(.int (0 : Int32))])) _
    refine XS.ifNo X0.here hx rfl (hb hby d1_1) rfl ((if0 _ _).trans (teq (by decide)).2) ?_
    show Steps p.tables e below (s₁.setTop (mkF m 4 #[.val (.int (0 : Int32)), .val (.double u1), .second, .val (.double u2), .second, .val (.double u3), .second] [])) _
    refine XS.iconst X0.here hx rfl (hb hby d1_4) ?_
    exact k)
  obtain ⟨T102, h102, k102, X102, e102, E102, A102, st102⟩ := newP X0 hx hZ (hw _ (List.mem_of_getElem? (i := 4) rfl)) e0 (g := (mkF m 5 #[.val (.int (0 : Int32)), .val (.double u1), .second, .val (.double u2), .second, .val (.double u3), .second] [(.int (0 : Int32))])) rfl (hb hby d1_5) rfl (by decide) (cap := 0) (by decide) (by decide) (by decide) (by decide)
  obtain ⟨b102, g102⟩ : ∃ z, z = h0.size := ⟨_, rfl⟩
  rw [← g102] at A102 st102
  have g103 : n0 ≤ b102 := Nat.le_trans Z0 (Nat.le_of_eq g102.symm)
  have z104 : h0.size ≤ b102 := Nat.le_trans K0.1 (Nat.le_of_eq g102.symm)
  have Z105 : n0 ≤ h102.size := Nat.le_trans Z0 E102.1
  have K106 := K0.ext E102
  have V107 : Arv Z h102 b102 k102 .double (0 : Int32) [] (.double (0 : UInt64)) := (Arv.new A102 (by decide)).pad (pad_rep [] (.double (0 : UInt64)) 0)
  have k108 : ∀ t, Steps p.tables e below (T102.setTop (mkF m 7 #[.val (.int (0 : Int32)), .val (.double u1), .second, .val (.double u2), .second, .val (.double u3), .second] [(.ref b102)])) t → Steps p.tables e below (s₁.setTop (entryFrame m #[(.int (0 : Int32)), (.double u1), (.double u2), (.double u3)] 7)) t := fun t k => k101 t (st102 t k)
  obtain ⟨fs, hr, hrun, hended, hW, hsame⟩ := X102.leave (v := some (.ref b102)) (fun h => by rw [Bd.returns] at h; cases h)
  refine ⟨_, _, k108 _ (retOut X102 hx (t := (.array .double)) Bd.returns rfl (Or.inr (Or.inr (Or.inr (Or.inr ⟨rfl, rfl, rfl⟩)))) (hb hby d1_7) hr), hrun, hended, _, _, rfl, ?_, ⟨_, rfl⟩, hW, hsame.mono (by decide) (by decide)⟩
  show Q_vec0 Z u1 u2 u3 h0 n0 _ T102.heap _
  rw [e102]
  exact ⟨b102, k102, rfl, N0, g102, K106, V107⟩
theorem d1_8 : decode method_2_code 8 = .ok (.iload_n 0, 1) := by decide +kernel
theorem d1_9 : decode method_2_code 9 = .ok (.iconst 1, 1) := by decide +kernel
theorem d1_10 : decode method_2_code 10 = .ok (.if_icmp .ne 11, 3) := by decide +kernel
theorem d1_13 : decode method_2_code 13 = .ok (.iconst 1, 1) := by decide +kernel
theorem d1_14 : decode method_2_code 14 = .ok (.newarray .double, 2) := by decide +kernel
theorem d1_16 : decode method_2_code 16 = .ok (.dup, 1) := by decide +kernel
theorem d1_17 : decode method_2_code 17 = .ok (.iconst 0, 1) := by decide +kernel
theorem d1_18 : decode method_2_code 18 = .ok (.dload_n 1, 1) := by decide +kernel
theorem d1_19 : decode method_2_code 19 = .ok (.dastore, 1) := by decide +kernel
theorem d1_20 : decode method_2_code 20 = .ok (.areturn, 1) := by decide +kernel
def Q_vec1 (Z : State) (u1 : UInt64) (u2 : UInt64) (u3 : UInt64) (h0 : Heap) (n0 : Nat) (v : Option Value) (h : Heap) (L : List Loc) : Prop := ∃ (b : Addr) (k : ClassId), v = some (.ref b) ∧ Fr n0 L ∧ b = h0.size ∧ Keep h0 h [] ∧ Arv Z h b k .double (1 : Int32) [(.double u1)] (.double (0 : UInt64))
set_option maxRecDepth 65536 in
set_option maxHeartbeats 40000000 in
theorem vec1 (l : Launch) (Z : State) (a0 : Array Value) (hw : ∀ d ∈ tables_1, d.before a0 Z = true) (ws : List Jvm.Cond) (u1 : UInt64) (u2 : UInt64) (u3 : UInt64) (h0 : Heap) (n0 : Nat) (Z0 : n0 ≤ h0.size) :
    MetFree l (⟨"com/example/frontweave/frontweave/clustering/VectorsDotPinLaw", "vec", "(IDDD)[D"⟩ : MethodName) (head1 (Jvm.Cond.code (⟨"com/example/frontweave/frontweave/clustering/VectorsDotPinLaw", "vec", "(IDDD)[D"⟩ : MethodName) method_2_code 7 (some (.array .double)) :: ws) ({ frames := 0, cells := 1, slots := 1, locals := 0 } : Room)) (fun a U => a = #[(.int (1 : Int32)), (.double u1), (.double u2), (.double u3)] ∧ Z.Warmed39 U.vm ∧ U.heap = h0) (fun _ _ _ _ _ => True) (fun _ U o U' => ∃ v L, o = .returned v ∧ Q_vec1 Z u1 u2 u3 h0 n0 v U'.heap L ∧ FrameEnd U o U' L ({ frames := 0, cells := 1, slots := 1, locals := 0 } : Room).cells ({ frames := 0, cells := 1, slots := 1, locals := 0 } : Room).slots) := by
  refine MetFree.of_bodySF (plainFor_of_name pn_com_2fexample_2ffrontweave_2ffrontweave_2fclustering_2fVectorsDotPinLaw) hisR ?_
  intro p e s m args below meth c s₁ Bd hml0 hP hK
  obtain ⟨rfl, hZ, hh⟩ := hP
  have hx := Bd.exec
  have hby := Bd.bytes
  have hml : c.maxLocals = 7 := hml0
  have hown : s.vm.findClass "com/example/frontweave/frontweave/clustering/VectorsDotPinLaw" = some m.cls := findClass_of_methodNamed Bd.named
  have hnm := (name_of_methodNamed Bd.named Bd.method).1
  have X0 : Stand p l e ({ frames := 0, cells := 1, slots := 1, locals := 0 } : Room) s m #[(.int (1 : Int32)), (.double u1), (.double u2), (.double u3)] below meth c s₁ [] 0 0 := Stand.of_body Bd
  have e0 : s₁.heap = h0 := by rw [← hh, Bd.state]; rfl
  have N0 := Fr.nil n0
  have k0 : ∀ t, Steps p.tables e below (s₁.setTop (mkF m 0 #[.val (.int (1 : Int32)), .val (.double u1), .second, .val (.double u2), .second, .val (.double u3), .second] [])) t → Steps p.tables e below (s₁.setTop (entryFrame m #[(.int (1 : Int32)), (.double u1), (.double u2), (.double u3)] 7)) t := fun t k => castTop (ef_1_IDDD m (1 : Int32) u1 u2 u3) k
  have K0 : Keep h0 h0 [] := Keep.refl h0 []
  have k101 : ∀ t, Steps p.tables e below (s₁.setTop (mkF m 14 #[.val (.int (1 : Int32)), .val (.double u1), .second, .val (.double u2), .second, .val (.double u3), .second] [(.int (1 : Int32))])) t → Steps p.tables e below (s₁.setTop (entryFrame m #[(.int (1 : Int32)), (.double u1), (.double u2), (.double u3)] 7)) t := fun t k => k0 t (by
    show Steps p.tables e below (s₁.setTop (mkF m 0 #[.val (.int (1 : Int32)), .val (.double u1), .second, .val (.double u2), .second, .val (.double u3), .second] [])) _
    refine XS.iloadN X0.here hx rfl (hb hby d1_0) rfl ?_
    show Steps p.tables e below (s₁.setTop (mkF m 1 #[.val (.int (1 : Int32)), .val (.double u1), .second, .val (.double u2), .second, .val (.double u3), .second] [(.int (1 : Int32))])) _
    refine XS.ifYes X0.here hx rfl (pc0 := 1) (pc' := 8) rfl (hb hby d1_1) rfl ((if0 _ _).trans (feq (by decide)).2) (by decide) (by decide) ?_
    show Steps p.tables e below (s₁.setTop (mkF m 8 #[.val (.int (1 : Int32)), .val (.double u1), .second, .val (.double u2), .second, .val (.double u3), .second] [])) _
    refine XS.iloadN X0.here hx rfl (hb hby d1_8) rfl ?_
    show Steps p.tables e below (s₁.setTop (mkF m 9 #[.val (.int (1 : Int32)), .val (.double u1), .second, .val (.double u2), .second, .val (.double u3), .second] [(.int (1 : Int32))])) _
    refine XS.iconst X0.here hx rfl (hb hby d1_9) ?_
    show Steps p.tables e below (s₁.setTop (mkF m 10 #[.val (.int (1 : Int32)), .val (.double u1), .second, .val (.double u2), .second, .val (.double u3), .second] [(.int (1 : Int32)), (.int (1 : Int32))])) _
    refine XS.icmpNo X0.here hx rfl (hb hby d1_10) rfl (teq (by decide)).2 ?_
    show Steps p.tables e below (s₁.setTop (mkF m 13 #[.val (.int (1 : Int32)), .val (.double u1), .second, .val (.double u2), .second, .val (.double u3), .second] [])) _
    refine XS.iconst X0.here hx rfl (hb hby d1_13) ?_
    exact k)
  obtain ⟨T102, h102, k102, X102, e102, E102, A102, st102⟩ := newP X0 hx hZ (hw _ (List.mem_of_getElem? (i := 4) rfl)) e0 (g := (mkF m 14 #[.val (.int (1 : Int32)), .val (.double u1), .second, .val (.double u2), .second, .val (.double u3), .second] [(.int (1 : Int32))])) rfl (hb hby d1_14) rfl (by decide) (cap := 1) (by decide) (by decide) (by decide) (by decide)
  obtain ⟨b102, g102⟩ : ∃ z, z = h0.size := ⟨_, rfl⟩
  rw [← g102] at A102 st102
  have g103 : n0 ≤ b102 := Nat.le_trans Z0 (Nat.le_of_eq g102.symm)
  have z104 : h0.size ≤ b102 := Nat.le_trans K0.1 (Nat.le_of_eq g102.symm)
  have Z105 : n0 ≤ h102.size := Nat.le_trans Z0 E102.1
  have K106 := K0.ext E102
  have V107 : Arv Z h102 b102 k102 .double (1 : Int32) [(.double (0 : UInt64))] (.double (0 : UInt64)) := (Arv.new A102 (by decide)).pad (pad_rep [] (.double (0 : UInt64)) 1)
  have k108 : ∀ t, Steps p.tables e below (T102.setTop (mkF m 16 #[.val (.int (1 : Int32)), .val (.double u1), .second, .val (.double u2), .second, .val (.double u3), .second] [(.ref b102)])) t → Steps p.tables e below (s₁.setTop (entryFrame m #[(.int (1 : Int32)), (.double u1), (.double u2), (.double u3)] 7)) t := fun t k => k101 t (st102 t k)
  have k109 : ∀ t, Steps p.tables e below (T102.setTop (mkF m 19 #[.val (.int (1 : Int32)), .val (.double u1), .second, .val (.double u2), .second, .val (.double u3), .second] [(.double u1), (.int (0 : Int32)), (.ref b102), (.ref b102)])) t → Steps p.tables e below (s₁.setTop (entryFrame m #[(.int (1 : Int32)), (.double u1), (.double u2), (.double u3)] 7)) t := fun t k => k108 t (by
    show Steps p.tables e below (T102.setTop (mkF m 16 #[.val (.int (1 : Int32)), .val (.double u1), .second, .val (.double u2), .second, .val (.double u3), .second] [(.ref b102)])) _
    refine XS.dup X102.here hx rfl (hb hby d1_16) rfl rfl ?_
    show Steps p.tables e below (T102.setTop (mkF m 17 #[.val (.int (1 : Int32)), .val (.double u1), .second, .val (.double u2), .second, .val (.double u3), .second] [(.ref b102), (.ref b102)])) _
    refine XS.iconst X102.here hx rfl (hb hby d1_17) ?_
    show Steps p.tables e below (T102.setTop (mkF m 18 #[.val (.int (1 : Int32)), .val (.double u1), .second, .val (.double u2), .second, .val (.double u3), .second] [(.int (0 : Int32)), (.ref b102), (.ref b102)])) _
    refine XS.dloadN X102.here hx rfl (hb hby d1_18) rfl ?_
    exact k)
  obtain ⟨c110, Ar110, Aq110, As110, An110, Ah110, Ag110⟩ := id V107
  have hin110 : ¬ ((0 : Int32) < 0 ∨ c110.slots.size ≤ ((0 : Int32)).toNatClampNeg) := inb_of As110 ⟨by decide, by decide⟩
  obtain ⟨T110, h110, X110, e110, W110, st110⟩ := stD X102 hx hZ e102 Ar110 (j := (0 : Int32)) hin110 (g := (mkF m 19 #[.val (.int (1 : Int32)), .val (.double u1), .second, .val (.double u2), .second, .val (.double u3), .second] [(.double u1), (.int (0 : Int32)), (.ref b102), (.ref b102)])) rfl rfl (hb hby d1_19)
  have V111 := Arv.set Ar110 Aq110 As110 An110 Ah110 Ag110 rfl W110 0 rfl (Nat.le_of_ble_eq_true rfl)
  have Z112 : n0 ≤ h110.size := Nat.le_trans Z105 (Nat.le_of_eq W110.size.symm)
  have N113 := Fr.snoc X110 N0 g103
  have K114 := K106.wr W110 (Or.inr z104)
  have k115 : ∀ t, Steps p.tables e below (T110.setTop (mkF m 20 #[.val (.int (1 : Int32)), .val (.double u1), .second, .val (.double u2), .second, .val (.double u3), .second] [(.ref b102)])) t → Steps p.tables e below (s₁.setTop (entryFrame m #[(.int (1 : Int32)), (.double u1), (.double u2), (.double u3)] 7)) t := fun t k => k109 t (st110 t k)
  obtain ⟨fs, hr, hrun, hended, hW, hsame⟩ := X110.leave (v := some (.ref b102)) (fun h => by rw [Bd.returns] at h; cases h)
  refine ⟨_, _, k115 _ (retOut X110 hx (t := (.array .double)) Bd.returns rfl (Or.inr (Or.inr (Or.inr (Or.inr ⟨rfl, rfl, rfl⟩)))) (hb hby d1_20) hr), hrun, hended, _, _, rfl, ?_, ⟨_, rfl⟩, hW, hsame.mono (by decide) (by decide)⟩
  show Q_vec1 Z u1 u2 u3 h0 n0 _ T110.heap _
  rw [e110]
  exact ⟨b102, k102, rfl, N113, g102, K114, V111⟩
theorem d1_21 : decode method_2_code 21 = .ok (.iload_n 0, 1) := by decide +kernel
theorem d1_22 : decode method_2_code 22 = .ok (.iconst 2, 1) := by decide +kernel
theorem d1_23 : decode method_2_code 23 = .ok (.if_icmp .ne 15, 3) := by decide +kernel
theorem d1_26 : decode method_2_code 26 = .ok (.iconst 2, 1) := by decide +kernel
theorem d1_27 : decode method_2_code 27 = .ok (.newarray .double, 2) := by decide +kernel
theorem d1_29 : decode method_2_code 29 = .ok (.dup, 1) := by decide +kernel
theorem d1_30 : decode method_2_code 30 = .ok (.iconst 0, 1) := by decide +kernel
theorem d1_31 : decode method_2_code 31 = .ok (.dload_n 1, 1) := by decide +kernel
theorem d1_32 : decode method_2_code 32 = .ok (.dastore, 1) := by decide +kernel
theorem d1_33 : decode method_2_code 33 = .ok (.dup, 1) := by decide +kernel
theorem d1_34 : decode method_2_code 34 = .ok (.iconst 1, 1) := by decide +kernel
theorem d1_35 : decode method_2_code 35 = .ok (.dload_n 3, 1) := by decide +kernel
theorem d1_36 : decode method_2_code 36 = .ok (.dastore, 1) := by decide +kernel
theorem d1_37 : decode method_2_code 37 = .ok (.areturn, 1) := by decide +kernel
def Q_vec2 (Z : State) (u1 : UInt64) (u2 : UInt64) (u3 : UInt64) (h0 : Heap) (n0 : Nat) (v : Option Value) (h : Heap) (L : List Loc) : Prop := ∃ (b : Addr) (k : ClassId), v = some (.ref b) ∧ Fr n0 L ∧ b = h0.size ∧ Keep h0 h [] ∧ Arv Z h b k .double (2 : Int32) [(.double u1), (.double u2)] (.double (0 : UInt64))
set_option maxRecDepth 65536 in
set_option maxHeartbeats 40000000 in
theorem vec2 (l : Launch) (Z : State) (a0 : Array Value) (hw : ∀ d ∈ tables_1, d.before a0 Z = true) (ws : List Jvm.Cond) (u1 : UInt64) (u2 : UInt64) (u3 : UInt64) (h0 : Heap) (n0 : Nat) (Z0 : n0 ≤ h0.size) :
    MetFree l (⟨"com/example/frontweave/frontweave/clustering/VectorsDotPinLaw", "vec", "(IDDD)[D"⟩ : MethodName) (head1 (Jvm.Cond.code (⟨"com/example/frontweave/frontweave/clustering/VectorsDotPinLaw", "vec", "(IDDD)[D"⟩ : MethodName) method_2_code 7 (some (.array .double)) :: ws) ({ frames := 0, cells := 1, slots := 2, locals := 0 } : Room)) (fun a U => a = #[(.int (2 : Int32)), (.double u1), (.double u2), (.double u3)] ∧ Z.Warmed39 U.vm ∧ U.heap = h0) (fun _ _ _ _ _ => True) (fun _ U o U' => ∃ v L, o = .returned v ∧ Q_vec2 Z u1 u2 u3 h0 n0 v U'.heap L ∧ FrameEnd U o U' L ({ frames := 0, cells := 1, slots := 2, locals := 0 } : Room).cells ({ frames := 0, cells := 1, slots := 2, locals := 0 } : Room).slots) := by
  refine MetFree.of_bodySF (plainFor_of_name pn_com_2fexample_2ffrontweave_2ffrontweave_2fclustering_2fVectorsDotPinLaw) hisR ?_
  intro p e s m args below meth c s₁ Bd hml0 hP hK
  obtain ⟨rfl, hZ, hh⟩ := hP
  have hx := Bd.exec
  have hby := Bd.bytes
  have hml : c.maxLocals = 7 := hml0
  have hown : s.vm.findClass "com/example/frontweave/frontweave/clustering/VectorsDotPinLaw" = some m.cls := findClass_of_methodNamed Bd.named
  have hnm := (name_of_methodNamed Bd.named Bd.method).1
  have X0 : Stand p l e ({ frames := 0, cells := 1, slots := 2, locals := 0 } : Room) s m #[(.int (2 : Int32)), (.double u1), (.double u2), (.double u3)] below meth c s₁ [] 0 0 := Stand.of_body Bd
  have e0 : s₁.heap = h0 := by rw [← hh, Bd.state]; rfl
  have N0 := Fr.nil n0
  have k0 : ∀ t, Steps p.tables e below (s₁.setTop (mkF m 0 #[.val (.int (2 : Int32)), .val (.double u1), .second, .val (.double u2), .second, .val (.double u3), .second] [])) t → Steps p.tables e below (s₁.setTop (entryFrame m #[(.int (2 : Int32)), (.double u1), (.double u2), (.double u3)] 7)) t := fun t k => castTop (ef_1_IDDD m (2 : Int32) u1 u2 u3) k
  have K0 : Keep h0 h0 [] := Keep.refl h0 []
  have k101 : ∀ t, Steps p.tables e below (s₁.setTop (mkF m 27 #[.val (.int (2 : Int32)), .val (.double u1), .second, .val (.double u2), .second, .val (.double u3), .second] [(.int (2 : Int32))])) t → Steps p.tables e below (s₁.setTop (entryFrame m #[(.int (2 : Int32)), (.double u1), (.double u2), (.double u3)] 7)) t := fun t k => k0 t (by
    show Steps p.tables e below (s₁.setTop (mkF m 0 #[.val (.int (2 : Int32)), .val (.double u1), .second, .val (.double u2), .second, .val (.double u3), .second] [])) _
    refine XS.iloadN X0.here hx rfl (hb hby d1_0) rfl ?_
    show Steps p.tables e below (s₁.setTop (mkF m 1 #[.val (.int (2 : Int32)), .val (.double u1), .second, .val (.double u2), .second, .val (.double u3), .second] [(.int (2 : Int32))])) _
    refine XS.ifYes X0.here hx rfl (pc0 := 1) (pc' := 8) rfl (hb hby d1_1) rfl ((if0 _ _).trans (feq (by decide)).2) (by decide) (by decide) ?_
    show Steps p.tables e below (s₁.setTop (mkF m 8 #[.val (.int (2 : Int32)), .val (.double u1), .second, .val (.double u2), .second, .val (.double u3), .second] [])) _
    refine XS.iloadN X0.here hx rfl (hb hby d1_8) rfl ?_
    show Steps p.tables e below (s₁.setTop (mkF m 9 #[.val (.int (2 : Int32)), .val (.double u1), .second, .val (.double u2), .second, .val (.double u3), .second] [(.int (2 : Int32))])) _
    refine XS.iconst X0.here hx rfl (hb hby d1_9) ?_
    show Steps p.tables e below (s₁.setTop (mkF m 10 #[.val (.int (2 : Int32)), .val (.double u1), .second, .val (.double u2), .second, .val (.double u3), .second] [(.int (1 : Int32)), (.int (2 : Int32))])) _
    refine XS.icmpYes X0.here hx rfl (pc0 := 10) (pc' := 21) rfl (hb hby d1_10) rfl (feq (by decide)).2 (by decide) (by decide) ?_
    show Steps p.tables e below (s₁.setTop (mkF m 21 #[.val (.int (2 : Int32)), .val (.double u1), .second, .val (.double u2), .second, .val (.double u3), .second] [])) _
    refine XS.iloadN X0.here hx rfl (hb hby d1_21) rfl ?_
    show Steps p.tables e below (s₁.setTop (mkF m 22 #[.val (.int (2 : Int32)), .val (.double u1), .second, .val (.double u2), .second, .val (.double u3), .second] [(.int (2 : Int32))])) _
    refine XS.iconst X0.here hx rfl (hb hby d1_22) ?_
    show Steps p.tables e below (s₁.setTop (mkF m 23 #[.val (.int (2 : Int32)), .val (.double u1), .second, .val (.double u2), .second, .val (.double u3), .second] [(.int (2 : Int32)), (.int (2 : Int32))])) _
    refine XS.icmpNo X0.here hx rfl (hb hby d1_23) rfl (teq (by decide)).2 ?_
    show Steps p.tables e below (s₁.setTop (mkF m 26 #[.val (.int (2 : Int32)), .val (.double u1), .second, .val (.double u2), .second, .val (.double u3), .second] [])) _
    refine XS.iconst X0.here hx rfl (hb hby d1_26) ?_
    exact k)
  obtain ⟨T102, h102, k102, X102, e102, E102, A102, st102⟩ := newP X0 hx hZ (hw _ (List.mem_of_getElem? (i := 4) rfl)) e0 (g := (mkF m 27 #[.val (.int (2 : Int32)), .val (.double u1), .second, .val (.double u2), .second, .val (.double u3), .second] [(.int (2 : Int32))])) rfl (hb hby d1_27) rfl (by decide) (cap := 2) (by decide) (by decide) (by decide) (by decide)
  obtain ⟨b102, g102⟩ : ∃ z, z = h0.size := ⟨_, rfl⟩
  rw [← g102] at A102 st102
  have g103 : n0 ≤ b102 := Nat.le_trans Z0 (Nat.le_of_eq g102.symm)
  have z104 : h0.size ≤ b102 := Nat.le_trans K0.1 (Nat.le_of_eq g102.symm)
  have Z105 : n0 ≤ h102.size := Nat.le_trans Z0 E102.1
  have K106 := K0.ext E102
  have V107 : Arv Z h102 b102 k102 .double (2 : Int32) [(.double (0 : UInt64)), (.double (0 : UInt64))] (.double (0 : UInt64)) := (Arv.new A102 (by decide)).pad (pad_rep [] (.double (0 : UInt64)) 2)
  have k108 : ∀ t, Steps p.tables e below (T102.setTop (mkF m 29 #[.val (.int (2 : Int32)), .val (.double u1), .second, .val (.double u2), .second, .val (.double u3), .second] [(.ref b102)])) t → Steps p.tables e below (s₁.setTop (entryFrame m #[(.int (2 : Int32)), (.double u1), (.double u2), (.double u3)] 7)) t := fun t k => k101 t (st102 t k)
  have k109 : ∀ t, Steps p.tables e below (T102.setTop (mkF m 32 #[.val (.int (2 : Int32)), .val (.double u1), .second, .val (.double u2), .second, .val (.double u3), .second] [(.double u1), (.int (0 : Int32)), (.ref b102), (.ref b102)])) t → Steps p.tables e below (s₁.setTop (entryFrame m #[(.int (2 : Int32)), (.double u1), (.double u2), (.double u3)] 7)) t := fun t k => k108 t (by
    show Steps p.tables e below (T102.setTop (mkF m 29 #[.val (.int (2 : Int32)), .val (.double u1), .second, .val (.double u2), .second, .val (.double u3), .second] [(.ref b102)])) _
    refine XS.dup X102.here hx rfl (hb hby d1_29) rfl rfl ?_
    show Steps p.tables e below (T102.setTop (mkF m 30 #[.val (.int (2 : Int32)), .val (.double u1), .second, .val (.double u2), .second, .val (.double u3), .second] [(.ref b102), (.ref b102)])) _
    refine XS.iconst X102.here hx rfl (hb hby d1_30) ?_
    show Steps p.tables e below (T102.setTop (mkF m 31 #[.val (.int (2 : Int32)), .val (.double u1), .second, .val (.double u2), .second, .val (.double u3), .second] [(.int (0 : Int32)), (.ref b102), (.ref b102)])) _
    refine XS.dloadN X102.here hx rfl (hb hby d1_31) rfl ?_
    exact k)
  obtain ⟨c110, Ar110, Aq110, As110, An110, Ah110, Ag110⟩ := id V107
  have hin110 : ¬ ((0 : Int32) < 0 ∨ c110.slots.size ≤ ((0 : Int32)).toNatClampNeg) := inb_of As110 ⟨by decide, by decide⟩
  obtain ⟨T110, h110, X110, e110, W110, st110⟩ := stD X102 hx hZ e102 Ar110 (j := (0 : Int32)) hin110 (g := (mkF m 32 #[.val (.int (2 : Int32)), .val (.double u1), .second, .val (.double u2), .second, .val (.double u3), .second] [(.double u1), (.int (0 : Int32)), (.ref b102), (.ref b102)])) rfl rfl (hb hby d1_32)
  have V111 := Arv.set Ar110 Aq110 As110 An110 Ah110 Ag110 rfl W110 0 rfl (Nat.le_of_ble_eq_true rfl)
  have Z112 : n0 ≤ h110.size := Nat.le_trans Z105 (Nat.le_of_eq W110.size.symm)
  have N113 := Fr.snoc X110 N0 g103
  have K114 := K106.wr W110 (Or.inr z104)
  have k115 : ∀ t, Steps p.tables e below (T110.setTop (mkF m 33 #[.val (.int (2 : Int32)), .val (.double u1), .second, .val (.double u2), .second, .val (.double u3), .second] [(.ref b102)])) t → Steps p.tables e below (s₁.setTop (entryFrame m #[(.int (2 : Int32)), (.double u1), (.double u2), (.double u3)] 7)) t := fun t k => k109 t (st110 t k)
  have k116 : ∀ t, Steps p.tables e below (T110.setTop (mkF m 36 #[.val (.int (2 : Int32)), .val (.double u1), .second, .val (.double u2), .second, .val (.double u3), .second] [(.double u2), (.int (1 : Int32)), (.ref b102), (.ref b102)])) t → Steps p.tables e below (s₁.setTop (entryFrame m #[(.int (2 : Int32)), (.double u1), (.double u2), (.double u3)] 7)) t := fun t k => k115 t (by
    show Steps p.tables e below (T110.setTop (mkF m 33 #[.val (.int (2 : Int32)), .val (.double u1), .second, .val (.double u2), .second, .val (.double u3), .second] [(.ref b102)])) _
    refine XS.dup X110.here hx rfl (hb hby d1_33) rfl rfl ?_
    show Steps p.tables e below (T110.setTop (mkF m 34 #[.val (.int (2 : Int32)), .val (.double u1), .second, .val (.double u2), .second, .val (.double u3), .second] [(.ref b102), (.ref b102)])) _
    refine XS.iconst X110.here hx rfl (hb hby d1_34) ?_
    show Steps p.tables e below (T110.setTop (mkF m 35 #[.val (.int (2 : Int32)), .val (.double u1), .second, .val (.double u2), .second, .val (.double u3), .second] [(.int (1 : Int32)), (.ref b102), (.ref b102)])) _
    refine XS.dloadN X110.here hx rfl (hb hby d1_35) rfl ?_
    exact k)
  obtain ⟨c117, Ar117, Aq117, As117, An117, Ah117, Ag117⟩ := id V111
  have hin117 : ¬ ((1 : Int32) < 0 ∨ c117.slots.size ≤ ((1 : Int32)).toNatClampNeg) := inb_of As117 ⟨by decide, by decide⟩
  obtain ⟨T117, h117, X117, e117, W117, st117⟩ := stD X110 hx hZ e110 Ar117 (j := (1 : Int32)) hin117 (g := (mkF m 36 #[.val (.int (2 : Int32)), .val (.double u1), .second, .val (.double u2), .second, .val (.double u3), .second] [(.double u2), (.int (1 : Int32)), (.ref b102), (.ref b102)])) rfl rfl (hb hby d1_36)
  have V118 := Arv.set Ar117 Aq117 As117 An117 Ah117 Ag117 rfl W117 1 rfl (Nat.le_of_ble_eq_true rfl)
  have Z119 : n0 ≤ h117.size := Nat.le_trans Z112 (Nat.le_of_eq W117.size.symm)
  have N120 := Fr.snoc X117 N113 g103
  have K121 := K114.wr W117 (Or.inr z104)
  have k122 : ∀ t, Steps p.tables e below (T117.setTop (mkF m 37 #[.val (.int (2 : Int32)), .val (.double u1), .second, .val (.double u2), .second, .val (.double u3), .second] [(.ref b102)])) t → Steps p.tables e below (s₁.setTop (entryFrame m #[(.int (2 : Int32)), (.double u1), (.double u2), (.double u3)] 7)) t := fun t k => k116 t (st117 t k)
  obtain ⟨fs, hr, hrun, hended, hW, hsame⟩ := X117.leave (v := some (.ref b102)) (fun h => by rw [Bd.returns] at h; cases h)
  refine ⟨_, _, k122 _ (retOut X117 hx (t := (.array .double)) Bd.returns rfl (Or.inr (Or.inr (Or.inr (Or.inr ⟨rfl, rfl, rfl⟩)))) (hb hby d1_37) hr), hrun, hended, _, _, rfl, ?_, ⟨_, rfl⟩, hW, hsame.mono (by decide) (by decide)⟩
  show Q_vec2 Z u1 u2 u3 h0 n0 _ T117.heap _
  rw [e117]
  exact ⟨b102, k102, rfl, N120, g102, K121, V118⟩
theorem d1_38 : decode method_2_code 38 = .ok (.iconst 3, 1) := by decide +kernel
theorem d1_39 : decode method_2_code 39 = .ok (.newarray .double, 2) := by decide +kernel
theorem d1_41 : decode method_2_code 41 = .ok (.dup, 1) := by decide +kernel
theorem d1_42 : decode method_2_code 42 = .ok (.iconst 0, 1) := by decide +kernel
theorem d1_43 : decode method_2_code 43 = .ok (.dload_n 1, 1) := by decide +kernel
theorem d1_44 : decode method_2_code 44 = .ok (.dastore, 1) := by decide +kernel
theorem d1_45 : decode method_2_code 45 = .ok (.dup, 1) := by decide +kernel
theorem d1_46 : decode method_2_code 46 = .ok (.iconst 1, 1) := by decide +kernel
theorem d1_47 : decode method_2_code 47 = .ok (.dload_n 3, 1) := by decide +kernel
theorem d1_48 : decode method_2_code 48 = .ok (.dastore, 1) := by decide +kernel
theorem d1_49 : decode method_2_code 49 = .ok (.dup, 1) := by decide +kernel
theorem d1_50 : decode method_2_code 50 = .ok (.iconst 2, 1) := by decide +kernel
theorem d1_51 : decode method_2_code 51 = .ok (.dload 5, 2) := by decide +kernel
theorem d1_53 : decode method_2_code 53 = .ok (.dastore, 1) := by decide +kernel
theorem d1_54 : decode method_2_code 54 = .ok (.areturn, 1) := by decide +kernel
def Q_vec3 (Z : State) (u1 : UInt64) (u2 : UInt64) (u3 : UInt64) (h0 : Heap) (n0 : Nat) (v : Option Value) (h : Heap) (L : List Loc) : Prop := ∃ (b : Addr) (k : ClassId), v = some (.ref b) ∧ Fr n0 L ∧ b = h0.size ∧ Keep h0 h [] ∧ Arv Z h b k .double (3 : Int32) [(.double u1), (.double u2), (.double u3)] (.double (0 : UInt64))
set_option maxRecDepth 65536 in
set_option maxHeartbeats 40000000 in
theorem vec3 (l : Launch) (Z : State) (a0 : Array Value) (hw : ∀ d ∈ tables_1, d.before a0 Z = true) (ws : List Jvm.Cond) (u1 : UInt64) (u2 : UInt64) (u3 : UInt64) (h0 : Heap) (n0 : Nat) (Z0 : n0 ≤ h0.size) :
    MetFree l (⟨"com/example/frontweave/frontweave/clustering/VectorsDotPinLaw", "vec", "(IDDD)[D"⟩ : MethodName) (head1 (Jvm.Cond.code (⟨"com/example/frontweave/frontweave/clustering/VectorsDotPinLaw", "vec", "(IDDD)[D"⟩ : MethodName) method_2_code 7 (some (.array .double)) :: ws) ({ frames := 0, cells := 1, slots := 3, locals := 0 } : Room)) (fun a U => a = #[(.int (3 : Int32)), (.double u1), (.double u2), (.double u3)] ∧ Z.Warmed39 U.vm ∧ U.heap = h0) (fun _ _ _ _ _ => True) (fun _ U o U' => ∃ v L, o = .returned v ∧ Q_vec3 Z u1 u2 u3 h0 n0 v U'.heap L ∧ FrameEnd U o U' L ({ frames := 0, cells := 1, slots := 3, locals := 0 } : Room).cells ({ frames := 0, cells := 1, slots := 3, locals := 0 } : Room).slots) := by
  refine MetFree.of_bodySF (plainFor_of_name pn_com_2fexample_2ffrontweave_2ffrontweave_2fclustering_2fVectorsDotPinLaw) hisR ?_
  intro p e s m args below meth c s₁ Bd hml0 hP hK
  obtain ⟨rfl, hZ, hh⟩ := hP
  have hx := Bd.exec
  have hby := Bd.bytes
  have hml : c.maxLocals = 7 := hml0
  have hown : s.vm.findClass "com/example/frontweave/frontweave/clustering/VectorsDotPinLaw" = some m.cls := findClass_of_methodNamed Bd.named
  have hnm := (name_of_methodNamed Bd.named Bd.method).1
  have X0 : Stand p l e ({ frames := 0, cells := 1, slots := 3, locals := 0 } : Room) s m #[(.int (3 : Int32)), (.double u1), (.double u2), (.double u3)] below meth c s₁ [] 0 0 := Stand.of_body Bd
  have e0 : s₁.heap = h0 := by rw [← hh, Bd.state]; rfl
  have N0 := Fr.nil n0
  have k0 : ∀ t, Steps p.tables e below (s₁.setTop (mkF m 0 #[.val (.int (3 : Int32)), .val (.double u1), .second, .val (.double u2), .second, .val (.double u3), .second] [])) t → Steps p.tables e below (s₁.setTop (entryFrame m #[(.int (3 : Int32)), (.double u1), (.double u2), (.double u3)] 7)) t := fun t k => castTop (ef_1_IDDD m (3 : Int32) u1 u2 u3) k
  have K0 : Keep h0 h0 [] := Keep.refl h0 []
  have k101 : ∀ t, Steps p.tables e below (s₁.setTop (mkF m 39 #[.val (.int (3 : Int32)), .val (.double u1), .second, .val (.double u2), .second, .val (.double u3), .second] [(.int (3 : Int32))])) t → Steps p.tables e below (s₁.setTop (entryFrame m #[(.int (3 : Int32)), (.double u1), (.double u2), (.double u3)] 7)) t := fun t k => k0 t (by
    show Steps p.tables e below (s₁.setTop (mkF m 0 #[.val (.int (3 : Int32)), .val (.double u1), .second, .val (.double u2), .second, .val (.double u3), .second] [])) _
    refine XS.iloadN X0.here hx rfl (hb hby d1_0) rfl ?_
    show Steps p.tables e below (s₁.setTop (mkF m 1 #[.val (.int (3 : Int32)), .val (.double u1), .second, .val (.double u2), .second, .val (.double u3), .second] [(.int (3 : Int32))])) _
    refine XS.ifYes X0.here hx rfl (pc0 := 1) (pc' := 8) rfl (hb hby d1_1) rfl ((if0 _ _).trans (feq (by decide)).2) (by decide) (by decide) ?_
    show Steps p.tables e below (s₁.setTop (mkF m 8 #[.val (.int (3 : Int32)), .val (.double u1), .second, .val (.double u2), .second, .val (.double u3), .second] [])) _
    refine XS.iloadN X0.here hx rfl (hb hby d1_8) rfl ?_
    show Steps p.tables e below (s₁.setTop (mkF m 9 #[.val (.int (3 : Int32)), .val (.double u1), .second, .val (.double u2), .second, .val (.double u3), .second] [(.int (3 : Int32))])) _
    refine XS.iconst X0.here hx rfl (hb hby d1_9) ?_
    show Steps p.tables e below (s₁.setTop (mkF m 10 #[.val (.int (3 : Int32)), .val (.double u1), .second, .val (.double u2), .second, .val (.double u3), .second] [(.int (1 : Int32)), (.int (3 : Int32))])) _
    refine XS.icmpYes X0.here hx rfl (pc0 := 10) (pc' := 21) rfl (hb hby d1_10) rfl (feq (by decide)).2 (by decide) (by decide) ?_
    show Steps p.tables e below (s₁.setTop (mkF m 21 #[.val (.int (3 : Int32)), .val (.double u1), .second, .val (.double u2), .second, .val (.double u3), .second] [])) _
    refine XS.iloadN X0.here hx rfl (hb hby d1_21) rfl ?_
    show Steps p.tables e below (s₁.setTop (mkF m 22 #[.val (.int (3 : Int32)), .val (.double u1), .second, .val (.double u2), .second, .val (.double u3), .second] [(.int (3 : Int32))])) _
    refine XS.iconst X0.here hx rfl (hb hby d1_22) ?_
    show Steps p.tables e below (s₁.setTop (mkF m 23 #[.val (.int (3 : Int32)), .val (.double u1), .second, .val (.double u2), .second, .val (.double u3), .second] [(.int (2 : Int32)), (.int (3 : Int32))])) _
    refine XS.icmpYes X0.here hx rfl (pc0 := 23) (pc' := 38) rfl (hb hby d1_23) rfl (feq (by decide)).2 (by decide) (by decide) ?_
    show Steps p.tables e below (s₁.setTop (mkF m 38 #[.val (.int (3 : Int32)), .val (.double u1), .second, .val (.double u2), .second, .val (.double u3), .second] [])) _
    refine XS.iconst X0.here hx rfl (hb hby d1_38) ?_
    exact k)
  obtain ⟨T102, h102, k102, X102, e102, E102, A102, st102⟩ := newP X0 hx hZ (hw _ (List.mem_of_getElem? (i := 4) rfl)) e0 (g := (mkF m 39 #[.val (.int (3 : Int32)), .val (.double u1), .second, .val (.double u2), .second, .val (.double u3), .second] [(.int (3 : Int32))])) rfl (hb hby d1_39) rfl (by decide) (cap := 3) (by decide) (by decide) (by decide) (by decide)
  obtain ⟨b102, g102⟩ : ∃ z, z = h0.size := ⟨_, rfl⟩
  rw [← g102] at A102 st102
  have g103 : n0 ≤ b102 := Nat.le_trans Z0 (Nat.le_of_eq g102.symm)
  have z104 : h0.size ≤ b102 := Nat.le_trans K0.1 (Nat.le_of_eq g102.symm)
  have Z105 : n0 ≤ h102.size := Nat.le_trans Z0 E102.1
  have K106 := K0.ext E102
  have V107 : Arv Z h102 b102 k102 .double (3 : Int32) [(.double (0 : UInt64)), (.double (0 : UInt64)), (.double (0 : UInt64))] (.double (0 : UInt64)) := (Arv.new A102 (by decide)).pad (pad_rep [] (.double (0 : UInt64)) 3)
  have k108 : ∀ t, Steps p.tables e below (T102.setTop (mkF m 41 #[.val (.int (3 : Int32)), .val (.double u1), .second, .val (.double u2), .second, .val (.double u3), .second] [(.ref b102)])) t → Steps p.tables e below (s₁.setTop (entryFrame m #[(.int (3 : Int32)), (.double u1), (.double u2), (.double u3)] 7)) t := fun t k => k101 t (st102 t k)
  have k109 : ∀ t, Steps p.tables e below (T102.setTop (mkF m 44 #[.val (.int (3 : Int32)), .val (.double u1), .second, .val (.double u2), .second, .val (.double u3), .second] [(.double u1), (.int (0 : Int32)), (.ref b102), (.ref b102)])) t → Steps p.tables e below (s₁.setTop (entryFrame m #[(.int (3 : Int32)), (.double u1), (.double u2), (.double u3)] 7)) t := fun t k => k108 t (by
    show Steps p.tables e below (T102.setTop (mkF m 41 #[.val (.int (3 : Int32)), .val (.double u1), .second, .val (.double u2), .second, .val (.double u3), .second] [(.ref b102)])) _
    refine XS.dup X102.here hx rfl (hb hby d1_41) rfl rfl ?_
    show Steps p.tables e below (T102.setTop (mkF m 42 #[.val (.int (3 : Int32)), .val (.double u1), .second, .val (.double u2), .second, .val (.double u3), .second] [(.ref b102), (.ref b102)])) _
    refine XS.iconst X102.here hx rfl (hb hby d1_42) ?_
    show Steps p.tables e below (T102.setTop (mkF m 43 #[.val (.int (3 : Int32)), .val (.double u1), .second, .val (.double u2), .second, .val (.double u3), .second] [(.int (0 : Int32)), (.ref b102), (.ref b102)])) _
    refine XS.dloadN X102.here hx rfl (hb hby d1_43) rfl ?_
    exact k)
  obtain ⟨c110, Ar110, Aq110, As110, An110, Ah110, Ag110⟩ := id V107
  have hin110 : ¬ ((0 : Int32) < 0 ∨ c110.slots.size ≤ ((0 : Int32)).toNatClampNeg) := inb_of As110 ⟨by decide, by decide⟩
  obtain ⟨T110, h110, X110, e110, W110, st110⟩ := stD X102 hx hZ e102 Ar110 (j := (0 : Int32)) hin110 (g := (mkF m 44 #[.val (.int (3 : Int32)), .val (.double u1), .second, .val (.double u2), .second, .val (.double u3), .second] [(.double u1), (.int (0 : Int32)), (.ref b102), (.ref b102)])) rfl rfl (hb hby d1_44)
  have V111 := Arv.set Ar110 Aq110 As110 An110 Ah110 Ag110 rfl W110 0 rfl (Nat.le_of_ble_eq_true rfl)
  have Z112 : n0 ≤ h110.size := Nat.le_trans Z105 (Nat.le_of_eq W110.size.symm)
  have N113 := Fr.snoc X110 N0 g103
  have K114 := K106.wr W110 (Or.inr z104)
  have k115 : ∀ t, Steps p.tables e below (T110.setTop (mkF m 45 #[.val (.int (3 : Int32)), .val (.double u1), .second, .val (.double u2), .second, .val (.double u3), .second] [(.ref b102)])) t → Steps p.tables e below (s₁.setTop (entryFrame m #[(.int (3 : Int32)), (.double u1), (.double u2), (.double u3)] 7)) t := fun t k => k109 t (st110 t k)
  have k116 : ∀ t, Steps p.tables e below (T110.setTop (mkF m 48 #[.val (.int (3 : Int32)), .val (.double u1), .second, .val (.double u2), .second, .val (.double u3), .second] [(.double u2), (.int (1 : Int32)), (.ref b102), (.ref b102)])) t → Steps p.tables e below (s₁.setTop (entryFrame m #[(.int (3 : Int32)), (.double u1), (.double u2), (.double u3)] 7)) t := fun t k => k115 t (by
    show Steps p.tables e below (T110.setTop (mkF m 45 #[.val (.int (3 : Int32)), .val (.double u1), .second, .val (.double u2), .second, .val (.double u3), .second] [(.ref b102)])) _
    refine XS.dup X110.here hx rfl (hb hby d1_45) rfl rfl ?_
    show Steps p.tables e below (T110.setTop (mkF m 46 #[.val (.int (3 : Int32)), .val (.double u1), .second, .val (.double u2), .second, .val (.double u3), .second] [(.ref b102), (.ref b102)])) _
    refine XS.iconst X110.here hx rfl (hb hby d1_46) ?_
    show Steps p.tables e below (T110.setTop (mkF m 47 #[.val (.int (3 : Int32)), .val (.double u1), .second, .val (.double u2), .second, .val (.double u3), .second] [(.int (1 : Int32)), (.ref b102), (.ref b102)])) _
    refine XS.dloadN X110.here hx rfl (hb hby d1_47) rfl ?_
    exact k)
  obtain ⟨c117, Ar117, Aq117, As117, An117, Ah117, Ag117⟩ := id V111
  have hin117 : ¬ ((1 : Int32) < 0 ∨ c117.slots.size ≤ ((1 : Int32)).toNatClampNeg) := inb_of As117 ⟨by decide, by decide⟩
  obtain ⟨T117, h117, X117, e117, W117, st117⟩ := stD X110 hx hZ e110 Ar117 (j := (1 : Int32)) hin117 (g := (mkF m 48 #[.val (.int (3 : Int32)), .val (.double u1), .second, .val (.double u2), .second, .val (.double u3), .second] [(.double u2), (.int (1 : Int32)), (.ref b102), (.ref b102)])) rfl rfl (hb hby d1_48)
  have V118 := Arv.set Ar117 Aq117 As117 An117 Ah117 Ag117 rfl W117 1 rfl (Nat.le_of_ble_eq_true rfl)
  have Z119 : n0 ≤ h117.size := Nat.le_trans Z112 (Nat.le_of_eq W117.size.symm)
  have N120 := Fr.snoc X117 N113 g103
  have K121 := K114.wr W117 (Or.inr z104)
  have k122 : ∀ t, Steps p.tables e below (T117.setTop (mkF m 49 #[.val (.int (3 : Int32)), .val (.double u1), .second, .val (.double u2), .second, .val (.double u3), .second] [(.ref b102)])) t → Steps p.tables e below (s₁.setTop (entryFrame m #[(.int (3 : Int32)), (.double u1), (.double u2), (.double u3)] 7)) t := fun t k => k116 t (st117 t k)
  have k123 : ∀ t, Steps p.tables e below (T117.setTop (mkF m 53 #[.val (.int (3 : Int32)), .val (.double u1), .second, .val (.double u2), .second, .val (.double u3), .second] [(.double u3), (.int (2 : Int32)), (.ref b102), (.ref b102)])) t → Steps p.tables e below (s₁.setTop (entryFrame m #[(.int (3 : Int32)), (.double u1), (.double u2), (.double u3)] 7)) t := fun t k => k122 t (by
    show Steps p.tables e below (T117.setTop (mkF m 49 #[.val (.int (3 : Int32)), .val (.double u1), .second, .val (.double u2), .second, .val (.double u3), .second] [(.ref b102)])) _
    refine XS.dup X117.here hx rfl (hb hby d1_49) rfl rfl ?_
    show Steps p.tables e below (T117.setTop (mkF m 50 #[.val (.int (3 : Int32)), .val (.double u1), .second, .val (.double u2), .second, .val (.double u3), .second] [(.ref b102), (.ref b102)])) _
    refine XS.iconst X117.here hx rfl (hb hby d1_50) ?_
    show Steps p.tables e below (T117.setTop (mkF m 51 #[.val (.int (3 : Int32)), .val (.double u1), .second, .val (.double u2), .second, .val (.double u3), .second] [(.int (2 : Int32)), (.ref b102), (.ref b102)])) _
    refine XS.dload X117.here hx rfl (hb hby d1_51) rfl ?_
    exact k)
  obtain ⟨c124, Ar124, Aq124, As124, An124, Ah124, Ag124⟩ := id V118
  have hin124 : ¬ ((2 : Int32) < 0 ∨ c124.slots.size ≤ ((2 : Int32)).toNatClampNeg) := inb_of As124 ⟨by decide, by decide⟩
  obtain ⟨T124, h124, X124, e124, W124, st124⟩ := stD X117 hx hZ e117 Ar124 (j := (2 : Int32)) hin124 (g := (mkF m 53 #[.val (.int (3 : Int32)), .val (.double u1), .second, .val (.double u2), .second, .val (.double u3), .second] [(.double u3), (.int (2 : Int32)), (.ref b102), (.ref b102)])) rfl rfl (hb hby d1_53)
  have V125 := Arv.set Ar124 Aq124 As124 An124 Ah124 Ag124 rfl W124 2 rfl (Nat.le_of_ble_eq_true rfl)
  have Z126 : n0 ≤ h124.size := Nat.le_trans Z119 (Nat.le_of_eq W124.size.symm)
  have N127 := Fr.snoc X124 N120 g103
  have K128 := K121.wr W124 (Or.inr z104)
  have k129 : ∀ t, Steps p.tables e below (T124.setTop (mkF m 54 #[.val (.int (3 : Int32)), .val (.double u1), .second, .val (.double u2), .second, .val (.double u3), .second] [(.ref b102)])) t → Steps p.tables e below (s₁.setTop (entryFrame m #[(.int (3 : Int32)), (.double u1), (.double u2), (.double u3)] 7)) t := fun t k => k123 t (st124 t k)
  obtain ⟨fs, hr, hrun, hended, hW, hsame⟩ := X124.leave (v := some (.ref b102)) (fun h => by rw [Bd.returns] at h; cases h)
  refine ⟨_, _, k129 _ (retOut X124 hx (t := (.array .double)) Bd.returns rfl (Or.inr (Or.inr (Or.inr (Or.inr ⟨rfl, rfl, rfl⟩)))) (hb hby d1_54) hr), hrun, hended, _, _, rfl, ?_, ⟨_, rfl⟩, hW, hsame.mono (by decide) (by decide)⟩
  show Q_vec3 Z u1 u2 u3 h0 n0 _ T124.heap _
  rw [e124]
  exact ⟨b102, k102, rfl, N127, g102, K128, V125⟩
theorem ef_2_RR (m : MethodId) (x0 : Addr) (x1 : Addr) : entryFrame m #[(.ref x0), (.ref x1)] 5 = mkF m 0 #[.val (.ref x0), .val (.ref x1), .unset, .unset, .unset] [] := by first | (simp [entryFrame, mkF, argsToLocals, Value.category]; done) | rfl
theorem d2_0 : decode prog_29_method_2_code 0 = .ok (.dconst 0, 1) := by decide +kernel
theorem d2_1 : decode prog_29_method_2_code 1 = .ok (.dstore_n 2, 1) := by decide +kernel
theorem d2_2 : decode prog_29_method_2_code 2 = .ok (.iconst 0, 1) := by decide +kernel
theorem d2_3 : decode prog_29_method_2_code 3 = .ok (.istore 4, 2) := by decide +kernel
theorem d2_5 : decode prog_29_method_2_code 5 = .ok (.iload 4, 2) := by decide +kernel
theorem d2_7 : decode prog_29_method_2_code 7 = .ok (.aload_n 0, 1) := by decide +kernel
theorem d2_8 : decode prog_29_method_2_code 8 = .ok (.arraylength, 1) := by decide +kernel
theorem d2_9 : decode prog_29_method_2_code 9 = .ok (.if_icmp .ge 21, 3) := by decide +kernel
theorem d2_30 : decode prog_29_method_2_code 30 = .ok (.dload_n 2, 1) := by decide +kernel
theorem d2_31 : decode prog_29_method_2_code 31 = .ok (.dreturn, 1) := by decide +kernel
def Q_dot0 (Z : State) (a1 : Addr) (a2 : Addr) (k1 : ClassId) (k2 : ClassId) (h0 : Heap) (n0 : Nat) (v : Option Value) (h : Heap) (L : List Loc) : Prop := v = some (.double (0 : UInt64)) ∧ Fr n0 L ∧ h = h0
theorem pn_com_2fexample_2ffrontweave_2ffrontweave_2fclustering_2fVectors : plainName "com/example/frontweave/frontweave/clustering/Vectors" = true := by first | (simp [plainName, overriddenIn]; done) | decide +kernel
set_option maxRecDepth 65536 in
set_option maxHeartbeats 40000000 in
theorem dot0 (l : Launch) (Z : State) (a0 : Array Value) (hw : ∀ d ∈ tables_1, d.before a0 Z = true) (ws : List Jvm.Cond) (a1 : Addr) (a2 : Addr) (k1 : ClassId) (k2 : ClassId) (h0 : Heap) (n0 : Nat) (Z0 : n0 ≤ h0.size) (V1 : Arv Z h0 a1 k1 .double (0 : Int32) [] (.double (0 : UInt64))) (V2 : Arv Z h0 a2 k2 .double (0 : Int32) [] (.double (0 : UInt64))) :
    MetFree l (⟨"com/example/frontweave/frontweave/clustering/Vectors", "dot", "([D[D)D"⟩ : MethodName) (head1 (Jvm.Cond.code (⟨"com/example/frontweave/frontweave/clustering/Vectors", "dot", "([D[D)D"⟩ : MethodName) prog_29_method_2_code 5 (some .double) :: ws) ({ frames := 0, cells := 0, slots := 0, locals := 0 } : Room)) (fun a U => a = #[(.ref a1), (.ref a2)] ∧ Z.Warmed39 U.vm ∧ U.heap = h0) (fun _ _ _ _ _ => True) (fun _ U o U' => ∃ v L, o = .returned v ∧ Q_dot0 Z a1 a2 k1 k2 h0 n0 v U'.heap L ∧ FrameEnd U o U' L ({ frames := 0, cells := 0, slots := 0, locals := 0 } : Room).cells ({ frames := 0, cells := 0, slots := 0, locals := 0 } : Room).slots) := by
  refine MetFree.of_bodySF (plainFor_of_name pn_com_2fexample_2ffrontweave_2ffrontweave_2fclustering_2fVectors) hisR ?_
  intro p e s m args below meth c s₁ Bd hml0 hP hK
  obtain ⟨rfl, hZ, hh⟩ := hP
  have hx := Bd.exec
  have hby := Bd.bytes
  have hml : c.maxLocals = 5 := hml0
  have hown : s.vm.findClass "com/example/frontweave/frontweave/clustering/Vectors" = some m.cls := findClass_of_methodNamed Bd.named
  have hnm := (name_of_methodNamed Bd.named Bd.method).1
  have X0 : Stand p l e ({ frames := 0, cells := 0, slots := 0, locals := 0 } : Room) s m #[(.ref a1), (.ref a2)] below meth c s₁ [] 0 0 := Stand.of_body Bd
  have e0 : s₁.heap = h0 := by rw [← hh, Bd.state]; rfl
  have N0 := Fr.nil n0
  have k0 : ∀ t, Steps p.tables e below (s₁.setTop (mkF m 0 #[.val (.ref a1), .val (.ref a2), .unset, .unset, .unset] [])) t → Steps p.tables e below (s₁.setTop (entryFrame m #[(.ref a1), (.ref a2)] 5)) t := fun t k => castTop (ef_2_RR m a1 a2) k
  have k101 : ∀ t, Steps p.tables e below (s₁.setTop (mkF m 8 #[.val (.ref a1), .val (.ref a2), .val (.double (0 : UInt64)), .second, .val (.int (0 : Int32))] [(.ref a1), (.int (0 : Int32))])) t → Steps p.tables e below (s₁.setTop (entryFrame m #[(.ref a1), (.ref a2)] 5)) t := fun t k => k0 t (by
    show Steps p.tables e below (s₁.setTop (mkF m 0 #[.val (.ref a1), .val (.ref a2), .unset, .unset, .unset] [])) _
    refine XS.dconst0 X0.here hx rfl (hb hby d2_0) (v := (0 : UInt64)) rfl ?_
    show Steps p.tables e below (s₁.setTop (mkF m 1 #[.val (.ref a1), .val (.ref a2), .unset, .unset, .unset] [(.double (0 : UInt64))])) _
    refine XS.dstoreN X0.here hx rfl (hb hby d2_1) rfl (l' := #[.val (.ref a1), .val (.ref a2), .val (.double (0 : UInt64)), .second, .unset]) rfl ?_
    show Steps p.tables e below (s₁.setTop (mkF m 2 #[.val (.ref a1), .val (.ref a2), .val (.double (0 : UInt64)), .second, .unset] [])) _
    refine XS.iconst X0.here hx rfl (hb hby d2_2) ?_
    show Steps p.tables e below (s₁.setTop (mkF m 3 #[.val (.ref a1), .val (.ref a2), .val (.double (0 : UInt64)), .second, .unset] [(.int (0 : Int32))])) _
    refine XS.istore X0.here hx rfl (hb hby d2_3) rfl (l' := #[.val (.ref a1), .val (.ref a2), .val (.double (0 : UInt64)), .second, .val (.int (0 : Int32))]) rfl ?_
    show Steps p.tables e below (s₁.setTop (mkF m 5 #[.val (.ref a1), .val (.ref a2), .val (.double (0 : UInt64)), .second, .val (.int (0 : Int32))] [])) _
    refine XS.iload X0.here hx rfl (hb hby d2_5) rfl ?_
    show Steps p.tables e below (s₁.setTop (mkF m 7 #[.val (.ref a1), .val (.ref a2), .val (.double (0 : UInt64)), .second, .val (.int (0 : Int32))] [(.int (0 : Int32))])) _
    refine XS.aloadN X0.here hx rfl (hb hby d2_7) rfl rfl ?_
    exact k)
  obtain ⟨c102, Ar102, -, As102, An102, -, -⟩ := id V1
  have k103 : ∀ t, Steps p.tables e below (s₁.setTop (mkF m 31 #[.val (.ref a1), .val (.ref a2), .val (.double (0 : UInt64)), .second, .val (.int (0 : Int32))] [(.double (0 : UInt64))])) t → Steps p.tables e below (s₁.setTop (entryFrame m #[(.ref a1), (.ref a2)] 5)) t := fun t k => k101 t (by
    show Steps p.tables e below (s₁.setTop (mkF m 8 #[.val (.ref a1), .val (.ref a2), .val (.double (0 : UInt64)), .second, .val (.int (0 : Int32))] [(.ref a1), (.int (0 : Int32))])) _
    refine X0.arraylength hx (by rw [e0]; exact Ar102.1) (State.isArrayOf_alike hZ.alike Ar102.2.1) (g := (mkF m 8 #[.val (.ref a1), .val (.ref a2), .val (.double (0 : UInt64)), .second, .val (.int (0 : Int32))] [(.ref a1), (.int (0 : Int32))])) rfl rfl (hb hby d2_8) _ ?_
    rw [len_of As102 An102]
    show Steps p.tables e below (s₁.setTop (mkF m 9 #[.val (.ref a1), .val (.ref a2), .val (.double (0 : UInt64)), .second, .val (.int (0 : Int32))] [(.int (0 : Int32)), (.int (0 : Int32))])) _
    refine XS.icmpYes X0.here hx rfl (pc0 := 9) (pc' := 30) rfl (hb hby d2_9) rfl (flt (by decide)).2.1 (by decide) (by decide) ?_
    show Steps p.tables e below (s₁.setTop (mkF m 30 #[.val (.ref a1), .val (.ref a2), .val (.double (0 : UInt64)), .second, .val (.int (0 : Int32))] [])) _
    refine XS.dloadN X0.here hx rfl (hb hby d2_30) rfl ?_
    exact k)
  obtain ⟨fs, hr, hrun, hended, hW, hsame⟩ := X0.leave (v := some (.double (0 : UInt64))) (fun h => by rw [Bd.returns] at h; cases h)
  refine ⟨_, _, k103 _ (retOut X0 hx (t := .double) Bd.returns rfl (Or.inr (Or.inr (Or.inl ⟨rfl, rfl, _, rfl⟩))) (hb hby d2_31) hr), hrun, hended, _, _, rfl, ?_, ⟨_, rfl⟩, hW, hsame.mono (by decide) (by decide)⟩
  show Q_dot0 Z a1 a2 k1 k2 h0 n0 _ s₁.heap _
  rw [e0]
  exact ⟨rfl, N0, rfl⟩
theorem d2_12 : decode prog_29_method_2_code 12 = .ok (.dload_n 2, 1) := by decide +kernel
theorem d2_13 : decode prog_29_method_2_code 13 = .ok (.aload_n 0, 1) := by decide +kernel
theorem d2_14 : decode prog_29_method_2_code 14 = .ok (.iload 4, 2) := by decide +kernel
theorem d2_16 : decode prog_29_method_2_code 16 = .ok (.daload, 1) := by decide +kernel
theorem d2_17 : decode prog_29_method_2_code 17 = .ok (.aload_n 1, 1) := by decide +kernel
theorem d2_18 : decode prog_29_method_2_code 18 = .ok (.iload 4, 2) := by decide +kernel
theorem d2_20 : decode prog_29_method_2_code 20 = .ok (.daload, 1) := by decide +kernel
theorem d2_21 : decode prog_29_method_2_code 21 = .ok (.dmul, 1) := by decide +kernel
theorem d2_22 : decode prog_29_method_2_code 22 = .ok (.dadd, 1) := by decide +kernel
theorem d2_23 : decode prog_29_method_2_code 23 = .ok (.dstore_n 2, 1) := by decide +kernel
theorem d2_24 : decode prog_29_method_2_code 24 = .ok (.iinc 4 1, 3) := by decide +kernel
theorem d2_27 : decode prog_29_method_2_code 27 = .ok (.goto (-22), 3) := by decide +kernel
def Q_dot1 (Z : State) (a1 : Addr) (a2 : Addr) (k1 : ClassId) (k2 : ClassId) (u1 : UInt64) (w1 : UInt64) (h0 : Heap) (n0 : Nat) (v : Option Value) (h : Heap) (L : List Loc) : Prop := v = some (.double (FP.dadd (0 : UInt64) (FP.dmul u1 w1))) ∧ Fr n0 L ∧ h = h0
set_option maxRecDepth 65536 in
set_option maxHeartbeats 40000000 in
theorem dot1 (l : Launch) (Z : State) (a0 : Array Value) (hw : ∀ d ∈ tables_1, d.before a0 Z = true) (ws : List Jvm.Cond) (a1 : Addr) (a2 : Addr) (k1 : ClassId) (k2 : ClassId) (u1 : UInt64) (w1 : UInt64) (h0 : Heap) (n0 : Nat) (Z0 : n0 ≤ h0.size) (V1 : Arv Z h0 a1 k1 .double (1 : Int32) [(.double u1)] (.double (0 : UInt64))) (V2 : Arv Z h0 a2 k2 .double (1 : Int32) [(.double w1)] (.double (0 : UInt64))) (nm0 : Jvm.Free.Fl.NoNaN64 (FP.dmul u1 w1)) (na0 : Jvm.Free.Fl.NoNaN64 (FP.dadd (0 : UInt64) (FP.dmul u1 w1))) :
    MetFree l (⟨"com/example/frontweave/frontweave/clustering/Vectors", "dot", "([D[D)D"⟩ : MethodName) (head1 (Jvm.Cond.code (⟨"com/example/frontweave/frontweave/clustering/Vectors", "dot", "([D[D)D"⟩ : MethodName) prog_29_method_2_code 5 (some .double) :: ws) ({ frames := 0, cells := 0, slots := 0, locals := 0 } : Room)) (fun a U => a = #[(.ref a1), (.ref a2)] ∧ Z.Warmed39 U.vm ∧ U.heap = h0) (fun _ _ _ _ _ => True) (fun _ U o U' => ∃ v L, o = .returned v ∧ Q_dot1 Z a1 a2 k1 k2 u1 w1 h0 n0 v U'.heap L ∧ FrameEnd U o U' L ({ frames := 0, cells := 0, slots := 0, locals := 0 } : Room).cells ({ frames := 0, cells := 0, slots := 0, locals := 0 } : Room).slots) := by
  refine MetFree.of_bodySF (plainFor_of_name pn_com_2fexample_2ffrontweave_2ffrontweave_2fclustering_2fVectors) hisR ?_
  intro p e s m args below meth c s₁ Bd hml0 hP hK
  obtain ⟨rfl, hZ, hh⟩ := hP
  have hx := Bd.exec
  have hby := Bd.bytes
  have hml : c.maxLocals = 5 := hml0
  have hown : s.vm.findClass "com/example/frontweave/frontweave/clustering/Vectors" = some m.cls := findClass_of_methodNamed Bd.named
  have hnm := (name_of_methodNamed Bd.named Bd.method).1
  have X0 : Stand p l e ({ frames := 0, cells := 0, slots := 0, locals := 0 } : Room) s m #[(.ref a1), (.ref a2)] below meth c s₁ [] 0 0 := Stand.of_body Bd
  have e0 : s₁.heap = h0 := by rw [← hh, Bd.state]; rfl
  have N0 := Fr.nil n0
  have k0 : ∀ t, Steps p.tables e below (s₁.setTop (mkF m 0 #[.val (.ref a1), .val (.ref a2), .unset, .unset, .unset] [])) t → Steps p.tables e below (s₁.setTop (entryFrame m #[(.ref a1), (.ref a2)] 5)) t := fun t k => castTop (ef_2_RR m a1 a2) k
  have k101 : ∀ t, Steps p.tables e below (s₁.setTop (mkF m 8 #[.val (.ref a1), .val (.ref a2), .val (.double (0 : UInt64)), .second, .val (.int (0 : Int32))] [(.ref a1), (.int (0 : Int32))])) t → Steps p.tables e below (s₁.setTop (entryFrame m #[(.ref a1), (.ref a2)] 5)) t := fun t k => k0 t (by
    show Steps p.tables e below (s₁.setTop (mkF m 0 #[.val (.ref a1), .val (.ref a2), .unset, .unset, .unset] [])) _
    refine XS.dconst0 X0.here hx rfl (hb hby d2_0) (v := (0 : UInt64)) rfl ?_
    show Steps p.tables e below (s₁.setTop (mkF m 1 #[.val (.ref a1), .val (.ref a2), .unset, .unset, .unset] [(.double (0 : UInt64))])) _
    refine XS.dstoreN X0.here hx rfl (hb hby d2_1) rfl (l' := #[.val (.ref a1), .val (.ref a2), .val (.double (0 : UInt64)), .second, .unset]) rfl ?_
    show Steps p.tables e below (s₁.setTop (mkF m 2 #[.val (.ref a1), .val (.ref a2), .val (.double (0 : UInt64)), .second, .unset] [])) _
    refine XS.iconst X0.here hx rfl (hb hby d2_2) ?_
    show Steps p.tables e below (s₁.setTop (mkF m 3 #[.val (.ref a1), .val (.ref a2), .val (.double (0 : UInt64)), .second, .unset] [(.int (0 : Int32))])) _
    refine XS.istore X0.here hx rfl (hb hby d2_3) rfl (l' := #[.val (.ref a1), .val (.ref a2), .val (.double (0 : UInt64)), .second, .val (.int (0 : Int32))]) rfl ?_
    show Steps p.tables e below (s₁.setTop (mkF m 5 #[.val (.ref a1), .val (.ref a2), .val (.double (0 : UInt64)), .second, .val (.int (0 : Int32))] [])) _
    refine XS.iload X0.here hx rfl (hb hby d2_5) rfl ?_
    show Steps p.tables e below (s₁.setTop (mkF m 7 #[.val (.ref a1), .val (.ref a2), .val (.double (0 : UInt64)), .second, .val (.int (0 : Int32))] [(.int (0 : Int32))])) _
    refine XS.aloadN X0.here hx rfl (hb hby d2_7) rfl rfl ?_
    exact k)
  obtain ⟨c102, Ar102, -, As102, An102, -, -⟩ := id V1
  have k103 : ∀ t, Steps p.tables e below (s₁.setTop (mkF m 16 #[.val (.ref a1), .val (.ref a2), .val (.double (0 : UInt64)), .second, .val (.int (0 : Int32))] [(.int (0 : Int32)), (.ref a1), (.double (0 : UInt64))])) t → Steps p.tables e below (s₁.setTop (entryFrame m #[(.ref a1), (.ref a2)] 5)) t := fun t k => k101 t (by
    show Steps p.tables e below (s₁.setTop (mkF m 8 #[.val (.ref a1), .val (.ref a2), .val (.double (0 : UInt64)), .second, .val (.int (0 : Int32))] [(.ref a1), (.int (0 : Int32))])) _
    refine X0.arraylength hx (by rw [e0]; exact Ar102.1) (State.isArrayOf_alike hZ.alike Ar102.2.1) (g := (mkF m 8 #[.val (.ref a1), .val (.ref a2), .val (.double (0 : UInt64)), .second, .val (.int (0 : Int32))] [(.ref a1), (.int (0 : Int32))])) rfl rfl (hb hby d2_8) _ ?_
    rw [len_of As102 An102]
    show Steps p.tables e below (s₁.setTop (mkF m 9 #[.val (.ref a1), .val (.ref a2), .val (.double (0 : UInt64)), .second, .val (.int (0 : Int32))] [(.int (1 : Int32)), (.int (0 : Int32))])) _
    refine XS.icmpNo X0.here hx rfl (hb hby d2_9) rfl (tlt (by decide)).2.1 ?_
    show Steps p.tables e below (s₁.setTop (mkF m 12 #[.val (.ref a1), .val (.ref a2), .val (.double (0 : UInt64)), .second, .val (.int (0 : Int32))] [])) _
    refine XS.dloadN X0.here hx rfl (hb hby d2_12) rfl ?_
    show Steps p.tables e below (s₁.setTop (mkF m 13 #[.val (.ref a1), .val (.ref a2), .val (.double (0 : UInt64)), .second, .val (.int (0 : Int32))] [(.double (0 : UInt64))])) _
    refine XS.aloadN X0.here hx rfl (hb hby d2_13) rfl rfl ?_
    show Steps p.tables e below (s₁.setTop (mkF m 14 #[.val (.ref a1), .val (.ref a2), .val (.double (0 : UInt64)), .second, .val (.int (0 : Int32))] [(.ref a1), (.double (0 : UInt64))])) _
    refine XS.iload X0.here hx rfl (hb hby d2_14) rfl ?_
    exact k)
  obtain ⟨c104, Ar104, -, As104, An104, Ah104, -⟩ := id V1
  have hin104 : ¬ ((0 : Int32) < 0 ∨ c104.slots.size ≤ ((0 : Int32)).toNatClampNeg) := inb_of As104 ⟨by decide, by decide⟩
  have hat104 : c104.slots[((0 : Int32)).toNatClampNeg]? = some (.double u1) := Has.at Ah104 hin104 rfl
  have k105 : ∀ t, Steps p.tables e below (s₁.setTop (mkF m 20 #[.val (.ref a1), .val (.ref a2), .val (.double (0 : UInt64)), .second, .val (.int (0 : Int32))] [(.int (0 : Int32)), (.ref a2), (.double u1), (.double (0 : UInt64))])) t → Steps p.tables e below (s₁.setTop (entryFrame m #[(.ref a1), (.ref a2)] 5)) t := fun t k => k103 t (by
    show Steps p.tables e below (s₁.setTop (mkF m 16 #[.val (.ref a1), .val (.ref a2), .val (.double (0 : UInt64)), .second, .val (.int (0 : Int32))] [(.int (0 : Int32)), (.ref a1), (.double (0 : UInt64))])) _
    refine X0.daload hx (j := (0 : Int32)) (v := (.double u1)) (by rw [e0]; exact Ar104.1) (State.isArrayOf_alike hZ.alike Ar104.2.1) Ar104.2.2 hin104 hat104 (g := (mkF m 16 #[.val (.ref a1), .val (.ref a2), .val (.double (0 : UInt64)), .second, .val (.int (0 : Int32))] [(.int (0 : Int32)), (.ref a1), (.double (0 : UInt64))])) rfl rfl (hb hby d2_16) _ ?_
    show Steps p.tables e below (s₁.setTop (mkF m 17 #[.val (.ref a1), .val (.ref a2), .val (.double (0 : UInt64)), .second, .val (.int (0 : Int32))] [(.double u1), (.double (0 : UInt64))])) _
    refine XS.aloadN X0.here hx rfl (hb hby d2_17) rfl rfl ?_
    show Steps p.tables e below (s₁.setTop (mkF m 18 #[.val (.ref a1), .val (.ref a2), .val (.double (0 : UInt64)), .second, .val (.int (0 : Int32))] [(.ref a2), (.double u1), (.double (0 : UInt64))])) _
    refine XS.iload X0.here hx rfl (hb hby d2_18) rfl ?_
    exact k)
  obtain ⟨c106, Ar106, -, As106, An106, Ah106, -⟩ := id V2
  have hin106 : ¬ ((0 : Int32) < 0 ∨ c106.slots.size ≤ ((0 : Int32)).toNatClampNeg) := inb_of As106 ⟨by decide, by decide⟩
  have hat106 : c106.slots[((0 : Int32)).toNatClampNeg]? = some (.double w1) := Has.at Ah106 hin106 rfl
  have k107 : ∀ t, Steps p.tables e below (s₁.setTop (mkF m 8 #[.val (.ref a1), .val (.ref a2), .val (.double (FP.dadd (0 : UInt64) (FP.dmul u1 w1))), .second, .val (.int (1 : Int32))] [(.ref a1), (.int (1 : Int32))])) t → Steps p.tables e below (s₁.setTop (entryFrame m #[(.ref a1), (.ref a2)] 5)) t := fun t k => k105 t (by
    show Steps p.tables e below (s₁.setTop (mkF m 20 #[.val (.ref a1), .val (.ref a2), .val (.double (0 : UInt64)), .second, .val (.int (0 : Int32))] [(.int (0 : Int32)), (.ref a2), (.double u1), (.double (0 : UInt64))])) _
    refine X0.daload hx (j := (0 : Int32)) (v := (.double w1)) (by rw [e0]; exact Ar106.1) (State.isArrayOf_alike hZ.alike Ar106.2.1) Ar106.2.2 hin106 hat106 (g := (mkF m 20 #[.val (.ref a1), .val (.ref a2), .val (.double (0 : UInt64)), .second, .val (.int (0 : Int32))] [(.int (0 : Int32)), (.ref a2), (.double u1), (.double (0 : UInt64))])) rfl rfl (hb hby d2_20) _ ?_
    show Steps p.tables e below (s₁.setTop (mkF m 21 #[.val (.ref a1), .val (.ref a2), .val (.double (0 : UInt64)), .second, .val (.int (0 : Int32))] [(.double w1), (.double u1), (.double (0 : UInt64))])) _
    refine XS.dmulS X0.here hx rfl (hb hby d2_21) rfl (nm0) rfl ?_
    show Steps p.tables e below (s₁.setTop (mkF m 22 #[.val (.ref a1), .val (.ref a2), .val (.double (0 : UInt64)), .second, .val (.int (0 : Int32))] [(.double (FP.dmul u1 w1)), (.double (0 : UInt64))])) _
    refine XS.daddS X0.here hx rfl (hb hby d2_22) rfl (na0) rfl ?_
    show Steps p.tables e below (s₁.setTop (mkF m 23 #[.val (.ref a1), .val (.ref a2), .val (.double (0 : UInt64)), .second, .val (.int (0 : Int32))] [(.double (FP.dadd (0 : UInt64) (FP.dmul u1 w1)))])) _
    refine XS.dstoreN X0.here hx rfl (hb hby d2_23) rfl (l' := #[.val (.ref a1), .val (.ref a2), .val (.double (FP.dadd (0 : UInt64) (FP.dmul u1 w1))), .second, .val (.int (0 : Int32))]) rfl ?_
    show Steps p.tables e below (s₁.setTop (mkF m 24 #[.val (.ref a1), .val (.ref a2), .val (.double (FP.dadd (0 : UInt64) (FP.dmul u1 w1))), .second, .val (.int (0 : Int32))] [])) _
    refine XS.iinc X0.here hx rfl (hb hby d2_24) rfl (l' := #[.val (.ref a1), .val (.ref a2), .val (.double (FP.dadd (0 : UInt64) (FP.dmul u1 w1))), .second, .val (.int (1 : Int32))]) rfl ?_
    show Steps p.tables e below (s₁.setTop (mkF m 27 #[.val (.ref a1), .val (.ref a2), .val (.double (FP.dadd (0 : UInt64) (FP.dmul u1 w1))), .second, .val (.int (1 : Int32))] [])) _
    refine XS.goto X0.here hx rfl (pc0 := 27) (pc' := 5) rfl (hb hby d2_27) (by decide) (by decide) ?_
    show Steps p.tables e below (s₁.setTop (mkF m 5 #[.val (.ref a1), .val (.ref a2), .val (.double (FP.dadd (0 : UInt64) (FP.dmul u1 w1))), .second, .val (.int (1 : Int32))] [])) _
    refine XS.iload X0.here hx rfl (hb hby d2_5) rfl ?_
    show Steps p.tables e below (s₁.setTop (mkF m 7 #[.val (.ref a1), .val (.ref a2), .val (.double (FP.dadd (0 : UInt64) (FP.dmul u1 w1))), .second, .val (.int (1 : Int32))] [(.int (1 : Int32))])) _
    refine XS.aloadN X0.here hx rfl (hb hby d2_7) rfl rfl ?_
    exact k)
  obtain ⟨c108, Ar108, -, As108, An108, -, -⟩ := id V1
  have k109 : ∀ t, Steps p.tables e below (s₁.setTop (mkF m 31 #[.val (.ref a1), .val (.ref a2), .val (.double (FP.dadd (0 : UInt64) (FP.dmul u1 w1))), .second, .val (.int (1 : Int32))] [(.double (FP.dadd (0 : UInt64) (FP.dmul u1 w1)))])) t → Steps p.tables e below (s₁.setTop (entryFrame m #[(.ref a1), (.ref a2)] 5)) t := fun t k => k107 t (by
    show Steps p.tables e below (s₁.setTop (mkF m 8 #[.val (.ref a1), .val (.ref a2), .val (.double (FP.dadd (0 : UInt64) (FP.dmul u1 w1))), .second, .val (.int (1 : Int32))] [(.ref a1), (.int (1 : Int32))])) _
    refine X0.arraylength hx (by rw [e0]; exact Ar108.1) (State.isArrayOf_alike hZ.alike Ar108.2.1) (g := (mkF m 8 #[.val (.ref a1), .val (.ref a2), .val (.double (FP.dadd (0 : UInt64) (FP.dmul u1 w1))), .second, .val (.int (1 : Int32))] [(.ref a1), (.int (1 : Int32))])) rfl rfl (hb hby d2_8) _ ?_
    rw [len_of As108 An108]
    show Steps p.tables e below (s₁.setTop (mkF m 9 #[.val (.ref a1), .val (.ref a2), .val (.double (FP.dadd (0 : UInt64) (FP.dmul u1 w1))), .second, .val (.int (1 : Int32))] [(.int (1 : Int32)), (.int (1 : Int32))])) _
    refine XS.icmpYes X0.here hx rfl (pc0 := 9) (pc' := 30) rfl (hb hby d2_9) rfl (flt (by decide)).2.1 (by decide) (by decide) ?_
    show Steps p.tables e below (s₁.setTop (mkF m 30 #[.val (.ref a1), .val (.ref a2), .val (.double (FP.dadd (0 : UInt64) (FP.dmul u1 w1))), .second, .val (.int (1 : Int32))] [])) _
    refine XS.dloadN X0.here hx rfl (hb hby d2_30) rfl ?_
    exact k)
  obtain ⟨fs, hr, hrun, hended, hW, hsame⟩ := X0.leave (v := some (.double (FP.dadd (0 : UInt64) (FP.dmul u1 w1)))) (fun h => by rw [Bd.returns] at h; cases h)
  refine ⟨_, _, k109 _ (retOut X0 hx (t := .double) Bd.returns rfl (Or.inr (Or.inr (Or.inl ⟨rfl, rfl, _, rfl⟩))) (hb hby d2_31) hr), hrun, hended, _, _, rfl, ?_, ⟨_, rfl⟩, hW, hsame.mono (by decide) (by decide)⟩
  show Q_dot1 Z a1 a2 k1 k2 u1 w1 h0 n0 _ s₁.heap _
  rw [e0]
  exact ⟨rfl, N0, rfl⟩
def Q_dot2 (Z : State) (a1 : Addr) (a2 : Addr) (k1 : ClassId) (k2 : ClassId) (u1 : UInt64) (u2 : UInt64) (w1 : UInt64) (w2 : UInt64) (h0 : Heap) (n0 : Nat) (v : Option Value) (h : Heap) (L : List Loc) : Prop := v = some (.double (FP.dadd (FP.dadd (0 : UInt64) (FP.dmul u1 w1)) (FP.dmul u2 w2))) ∧ Fr n0 L ∧ h = h0
set_option maxRecDepth 65536 in
set_option maxHeartbeats 40000000 in
theorem dot2 (l : Launch) (Z : State) (a0 : Array Value) (hw : ∀ d ∈ tables_1, d.before a0 Z = true) (ws : List Jvm.Cond) (a1 : Addr) (a2 : Addr) (k1 : ClassId) (k2 : ClassId) (u1 : UInt64) (u2 : UInt64) (w1 : UInt64) (w2 : UInt64) (h0 : Heap) (n0 : Nat) (Z0 : n0 ≤ h0.size) (V1 : Arv Z h0 a1 k1 .double (2 : Int32) [(.double u1), (.double u2)] (.double (0 : UInt64))) (V2 : Arv Z h0 a2 k2 .double (2 : Int32) [(.double w1), (.double w2)] (.double (0 : UInt64))) (nm0 : Jvm.Free.Fl.NoNaN64 (FP.dmul u1 w1)) (na0 : Jvm.Free.Fl.NoNaN64 (FP.dadd (0 : UInt64) (FP.dmul u1 w1))) (nm1 : Jvm.Free.Fl.NoNaN64 (FP.dmul u2 w2)) (na1 : Jvm.Free.Fl.NoNaN64 (FP.dadd (FP.dadd (0 : UInt64) (FP.dmul u1 w1)) (FP.dmul u2 w2))) :
    MetFree l (⟨"com/example/frontweave/frontweave/clustering/Vectors", "dot", "([D[D)D"⟩ : MethodName) (head1 (Jvm.Cond.code (⟨"com/example/frontweave/frontweave/clustering/Vectors", "dot", "([D[D)D"⟩ : MethodName) prog_29_method_2_code 5 (some .double) :: ws) ({ frames := 0, cells := 0, slots := 0, locals := 0 } : Room)) (fun a U => a = #[(.ref a1), (.ref a2)] ∧ Z.Warmed39 U.vm ∧ U.heap = h0) (fun _ _ _ _ _ => True) (fun _ U o U' => ∃ v L, o = .returned v ∧ Q_dot2 Z a1 a2 k1 k2 u1 u2 w1 w2 h0 n0 v U'.heap L ∧ FrameEnd U o U' L ({ frames := 0, cells := 0, slots := 0, locals := 0 } : Room).cells ({ frames := 0, cells := 0, slots := 0, locals := 0 } : Room).slots) := by
  refine MetFree.of_bodySF (plainFor_of_name pn_com_2fexample_2ffrontweave_2ffrontweave_2fclustering_2fVectors) hisR ?_
  intro p e s m args below meth c s₁ Bd hml0 hP hK
  obtain ⟨rfl, hZ, hh⟩ := hP
  have hx := Bd.exec
  have hby := Bd.bytes
  have hml : c.maxLocals = 5 := hml0
  have hown : s.vm.findClass "com/example/frontweave/frontweave/clustering/Vectors" = some m.cls := findClass_of_methodNamed Bd.named
  have hnm := (name_of_methodNamed Bd.named Bd.method).1
  have X0 : Stand p l e ({ frames := 0, cells := 0, slots := 0, locals := 0 } : Room) s m #[(.ref a1), (.ref a2)] below meth c s₁ [] 0 0 := Stand.of_body Bd
  have e0 : s₁.heap = h0 := by rw [← hh, Bd.state]; rfl
  have N0 := Fr.nil n0
  have k0 : ∀ t, Steps p.tables e below (s₁.setTop (mkF m 0 #[.val (.ref a1), .val (.ref a2), .unset, .unset, .unset] [])) t → Steps p.tables e below (s₁.setTop (entryFrame m #[(.ref a1), (.ref a2)] 5)) t := fun t k => castTop (ef_2_RR m a1 a2) k
  have k101 : ∀ t, Steps p.tables e below (s₁.setTop (mkF m 8 #[.val (.ref a1), .val (.ref a2), .val (.double (0 : UInt64)), .second, .val (.int (0 : Int32))] [(.ref a1), (.int (0 : Int32))])) t → Steps p.tables e below (s₁.setTop (entryFrame m #[(.ref a1), (.ref a2)] 5)) t := fun t k => k0 t (by
    show Steps p.tables e below (s₁.setTop (mkF m 0 #[.val (.ref a1), .val (.ref a2), .unset, .unset, .unset] [])) _
    refine XS.dconst0 X0.here hx rfl (hb hby d2_0) (v := (0 : UInt64)) rfl ?_
    show Steps p.tables e below (s₁.setTop (mkF m 1 #[.val (.ref a1), .val (.ref a2), .unset, .unset, .unset] [(.double (0 : UInt64))])) _
    refine XS.dstoreN X0.here hx rfl (hb hby d2_1) rfl (l' := #[.val (.ref a1), .val (.ref a2), .val (.double (0 : UInt64)), .second, .unset]) rfl ?_
    show Steps p.tables e below (s₁.setTop (mkF m 2 #[.val (.ref a1), .val (.ref a2), .val (.double (0 : UInt64)), .second, .unset] [])) _
    refine XS.iconst X0.here hx rfl (hb hby d2_2) ?_
    show Steps p.tables e below (s₁.setTop (mkF m 3 #[.val (.ref a1), .val (.ref a2), .val (.double (0 : UInt64)), .second, .unset] [(.int (0 : Int32))])) _
    refine XS.istore X0.here hx rfl (hb hby d2_3) rfl (l' := #[.val (.ref a1), .val (.ref a2), .val (.double (0 : UInt64)), .second, .val (.int (0 : Int32))]) rfl ?_
    show Steps p.tables e below (s₁.setTop (mkF m 5 #[.val (.ref a1), .val (.ref a2), .val (.double (0 : UInt64)), .second, .val (.int (0 : Int32))] [])) _
    refine XS.iload X0.here hx rfl (hb hby d2_5) rfl ?_
    show Steps p.tables e below (s₁.setTop (mkF m 7 #[.val (.ref a1), .val (.ref a2), .val (.double (0 : UInt64)), .second, .val (.int (0 : Int32))] [(.int (0 : Int32))])) _
    refine XS.aloadN X0.here hx rfl (hb hby d2_7) rfl rfl ?_
    exact k)
  obtain ⟨c102, Ar102, -, As102, An102, -, -⟩ := id V1
  have k103 : ∀ t, Steps p.tables e below (s₁.setTop (mkF m 16 #[.val (.ref a1), .val (.ref a2), .val (.double (0 : UInt64)), .second, .val (.int (0 : Int32))] [(.int (0 : Int32)), (.ref a1), (.double (0 : UInt64))])) t → Steps p.tables e below (s₁.setTop (entryFrame m #[(.ref a1), (.ref a2)] 5)) t := fun t k => k101 t (by
    show Steps p.tables e below (s₁.setTop (mkF m 8 #[.val (.ref a1), .val (.ref a2), .val (.double (0 : UInt64)), .second, .val (.int (0 : Int32))] [(.ref a1), (.int (0 : Int32))])) _
    refine X0.arraylength hx (by rw [e0]; exact Ar102.1) (State.isArrayOf_alike hZ.alike Ar102.2.1) (g := (mkF m 8 #[.val (.ref a1), .val (.ref a2), .val (.double (0 : UInt64)), .second, .val (.int (0 : Int32))] [(.ref a1), (.int (0 : Int32))])) rfl rfl (hb hby d2_8) _ ?_
    rw [len_of As102 An102]
    show Steps p.tables e below (s₁.setTop (mkF m 9 #[.val (.ref a1), .val (.ref a2), .val (.double (0 : UInt64)), .second, .val (.int (0 : Int32))] [(.int (2 : Int32)), (.int (0 : Int32))])) _
    refine XS.icmpNo X0.here hx rfl (hb hby d2_9) rfl (tlt (by decide)).2.1 ?_
    show Steps p.tables e below (s₁.setTop (mkF m 12 #[.val (.ref a1), .val (.ref a2), .val (.double (0 : UInt64)), .second, .val (.int (0 : Int32))] [])) _
    refine XS.dloadN X0.here hx rfl (hb hby d2_12) rfl ?_
    show Steps p.tables e below (s₁.setTop (mkF m 13 #[.val (.ref a1), .val (.ref a2), .val (.double (0 : UInt64)), .second, .val (.int (0 : Int32))] [(.double (0 : UInt64))])) _
    refine XS.aloadN X0.here hx rfl (hb hby d2_13) rfl rfl ?_
    show Steps p.tables e below (s₁.setTop (mkF m 14 #[.val (.ref a1), .val (.ref a2), .val (.double (0 : UInt64)), .second, .val (.int (0 : Int32))] [(.ref a1), (.double (0 : UInt64))])) _
    refine XS.iload X0.here hx rfl (hb hby d2_14) rfl ?_
    exact k)
  obtain ⟨c104, Ar104, -, As104, An104, Ah104, -⟩ := id V1
  have hin104 : ¬ ((0 : Int32) < 0 ∨ c104.slots.size ≤ ((0 : Int32)).toNatClampNeg) := inb_of As104 ⟨by decide, by decide⟩
  have hat104 : c104.slots[((0 : Int32)).toNatClampNeg]? = some (.double u1) := Has.at Ah104 hin104 rfl
  have k105 : ∀ t, Steps p.tables e below (s₁.setTop (mkF m 20 #[.val (.ref a1), .val (.ref a2), .val (.double (0 : UInt64)), .second, .val (.int (0 : Int32))] [(.int (0 : Int32)), (.ref a2), (.double u1), (.double (0 : UInt64))])) t → Steps p.tables e below (s₁.setTop (entryFrame m #[(.ref a1), (.ref a2)] 5)) t := fun t k => k103 t (by
    show Steps p.tables e below (s₁.setTop (mkF m 16 #[.val (.ref a1), .val (.ref a2), .val (.double (0 : UInt64)), .second, .val (.int (0 : Int32))] [(.int (0 : Int32)), (.ref a1), (.double (0 : UInt64))])) _
    refine X0.daload hx (j := (0 : Int32)) (v := (.double u1)) (by rw [e0]; exact Ar104.1) (State.isArrayOf_alike hZ.alike Ar104.2.1) Ar104.2.2 hin104 hat104 (g := (mkF m 16 #[.val (.ref a1), .val (.ref a2), .val (.double (0 : UInt64)), .second, .val (.int (0 : Int32))] [(.int (0 : Int32)), (.ref a1), (.double (0 : UInt64))])) rfl rfl (hb hby d2_16) _ ?_
    show Steps p.tables e below (s₁.setTop (mkF m 17 #[.val (.ref a1), .val (.ref a2), .val (.double (0 : UInt64)), .second, .val (.int (0 : Int32))] [(.double u1), (.double (0 : UInt64))])) _
    refine XS.aloadN X0.here hx rfl (hb hby d2_17) rfl rfl ?_
    show Steps p.tables e below (s₁.setTop (mkF m 18 #[.val (.ref a1), .val (.ref a2), .val (.double (0 : UInt64)), .second, .val (.int (0 : Int32))] [(.ref a2), (.double u1), (.double (0 : UInt64))])) _
    refine XS.iload X0.here hx rfl (hb hby d2_18) rfl ?_
    exact k)
  obtain ⟨c106, Ar106, -, As106, An106, Ah106, -⟩ := id V2
  have hin106 : ¬ ((0 : Int32) < 0 ∨ c106.slots.size ≤ ((0 : Int32)).toNatClampNeg) := inb_of As106 ⟨by decide, by decide⟩
  have hat106 : c106.slots[((0 : Int32)).toNatClampNeg]? = some (.double w1) := Has.at Ah106 hin106 rfl
  have k107 : ∀ t, Steps p.tables e below (s₁.setTop (mkF m 8 #[.val (.ref a1), .val (.ref a2), .val (.double (FP.dadd (0 : UInt64) (FP.dmul u1 w1))), .second, .val (.int (1 : Int32))] [(.ref a1), (.int (1 : Int32))])) t → Steps p.tables e below (s₁.setTop (entryFrame m #[(.ref a1), (.ref a2)] 5)) t := fun t k => k105 t (by
    show Steps p.tables e below (s₁.setTop (mkF m 20 #[.val (.ref a1), .val (.ref a2), .val (.double (0 : UInt64)), .second, .val (.int (0 : Int32))] [(.int (0 : Int32)), (.ref a2), (.double u1), (.double (0 : UInt64))])) _
    refine X0.daload hx (j := (0 : Int32)) (v := (.double w1)) (by rw [e0]; exact Ar106.1) (State.isArrayOf_alike hZ.alike Ar106.2.1) Ar106.2.2 hin106 hat106 (g := (mkF m 20 #[.val (.ref a1), .val (.ref a2), .val (.double (0 : UInt64)), .second, .val (.int (0 : Int32))] [(.int (0 : Int32)), (.ref a2), (.double u1), (.double (0 : UInt64))])) rfl rfl (hb hby d2_20) _ ?_
    show Steps p.tables e below (s₁.setTop (mkF m 21 #[.val (.ref a1), .val (.ref a2), .val (.double (0 : UInt64)), .second, .val (.int (0 : Int32))] [(.double w1), (.double u1), (.double (0 : UInt64))])) _
    refine XS.dmulS X0.here hx rfl (hb hby d2_21) rfl (nm0) rfl ?_
    show Steps p.tables e below (s₁.setTop (mkF m 22 #[.val (.ref a1), .val (.ref a2), .val (.double (0 : UInt64)), .second, .val (.int (0 : Int32))] [(.double (FP.dmul u1 w1)), (.double (0 : UInt64))])) _
    refine XS.daddS X0.here hx rfl (hb hby d2_22) rfl (na0) rfl ?_
    show Steps p.tables e below (s₁.setTop (mkF m 23 #[.val (.ref a1), .val (.ref a2), .val (.double (0 : UInt64)), .second, .val (.int (0 : Int32))] [(.double (FP.dadd (0 : UInt64) (FP.dmul u1 w1)))])) _
    refine XS.dstoreN X0.here hx rfl (hb hby d2_23) rfl (l' := #[.val (.ref a1), .val (.ref a2), .val (.double (FP.dadd (0 : UInt64) (FP.dmul u1 w1))), .second, .val (.int (0 : Int32))]) rfl ?_
    show Steps p.tables e below (s₁.setTop (mkF m 24 #[.val (.ref a1), .val (.ref a2), .val (.double (FP.dadd (0 : UInt64) (FP.dmul u1 w1))), .second, .val (.int (0 : Int32))] [])) _
    refine XS.iinc X0.here hx rfl (hb hby d2_24) rfl (l' := #[.val (.ref a1), .val (.ref a2), .val (.double (FP.dadd (0 : UInt64) (FP.dmul u1 w1))), .second, .val (.int (1 : Int32))]) rfl ?_
    show Steps p.tables e below (s₁.setTop (mkF m 27 #[.val (.ref a1), .val (.ref a2), .val (.double (FP.dadd (0 : UInt64) (FP.dmul u1 w1))), .second, .val (.int (1 : Int32))] [])) _
    refine XS.goto X0.here hx rfl (pc0 := 27) (pc' := 5) rfl (hb hby d2_27) (by decide) (by decide) ?_
    show Steps p.tables e below (s₁.setTop (mkF m 5 #[.val (.ref a1), .val (.ref a2), .val (.double (FP.dadd (0 : UInt64) (FP.dmul u1 w1))), .second, .val (.int (1 : Int32))] [])) _
    refine XS.iload X0.here hx rfl (hb hby d2_5) rfl ?_
    show Steps p.tables e below (s₁.setTop (mkF m 7 #[.val (.ref a1), .val (.ref a2), .val (.double (FP.dadd (0 : UInt64) (FP.dmul u1 w1))), .second, .val (.int (1 : Int32))] [(.int (1 : Int32))])) _
    refine XS.aloadN X0.here hx rfl (hb hby d2_7) rfl rfl ?_
    exact k)
  obtain ⟨c108, Ar108, -, As108, An108, -, -⟩ := id V1
  have k109 : ∀ t, Steps p.tables e below (s₁.setTop (mkF m 16 #[.val (.ref a1), .val (.ref a2), .val (.double (FP.dadd (0 : UInt64) (FP.dmul u1 w1))), .second, .val (.int (1 : Int32))] [(.int (1 : Int32)), (.ref a1), (.double (FP.dadd (0 : UInt64) (FP.dmul u1 w1)))])) t → Steps p.tables e below (s₁.setTop (entryFrame m #[(.ref a1), (.ref a2)] 5)) t := fun t k => k107 t (by
    show Steps p.tables e below (s₁.setTop (mkF m 8 #[.val (.ref a1), .val (.ref a2), .val (.double (FP.dadd (0 : UInt64) (FP.dmul u1 w1))), .second, .val (.int (1 : Int32))] [(.ref a1), (.int (1 : Int32))])) _
    refine X0.arraylength hx (by rw [e0]; exact Ar108.1) (State.isArrayOf_alike hZ.alike Ar108.2.1) (g := (mkF m 8 #[.val (.ref a1), .val (.ref a2), .val (.double (FP.dadd (0 : UInt64) (FP.dmul u1 w1))), .second, .val (.int (1 : Int32))] [(.ref a1), (.int (1 : Int32))])) rfl rfl (hb hby d2_8) _ ?_
    rw [len_of As108 An108]
    show Steps p.tables e below (s₁.setTop (mkF m 9 #[.val (.ref a1), .val (.ref a2), .val (.double (FP.dadd (0 : UInt64) (FP.dmul u1 w1))), .second, .val (.int (1 : Int32))] [(.int (2 : Int32)), (.int (1 : Int32))])) _
    refine XS.icmpNo X0.here hx rfl (hb hby d2_9) rfl (tlt (by decide)).2.1 ?_
    show Steps p.tables e below (s₁.setTop (mkF m 12 #[.val (.ref a1), .val (.ref a2), .val (.double (FP.dadd (0 : UInt64) (FP.dmul u1 w1))), .second, .val (.int (1 : Int32))] [])) _
    refine XS.dloadN X0.here hx rfl (hb hby d2_12) rfl ?_
    show Steps p.tables e below (s₁.setTop (mkF m 13 #[.val (.ref a1), .val (.ref a2), .val (.double (FP.dadd (0 : UInt64) (FP.dmul u1 w1))), .second, .val (.int (1 : Int32))] [(.double (FP.dadd (0 : UInt64) (FP.dmul u1 w1)))])) _
    refine XS.aloadN X0.here hx rfl (hb hby d2_13) rfl rfl ?_
    show Steps p.tables e below (s₁.setTop (mkF m 14 #[.val (.ref a1), .val (.ref a2), .val (.double (FP.dadd (0 : UInt64) (FP.dmul u1 w1))), .second, .val (.int (1 : Int32))] [(.ref a1), (.double (FP.dadd (0 : UInt64) (FP.dmul u1 w1)))])) _
    refine XS.iload X0.here hx rfl (hb hby d2_14) rfl ?_
    exact k)
  obtain ⟨c110, Ar110, -, As110, An110, Ah110, -⟩ := id V1
  have hin110 : ¬ ((1 : Int32) < 0 ∨ c110.slots.size ≤ ((1 : Int32)).toNatClampNeg) := inb_of As110 ⟨by decide, by decide⟩
  have hat110 : c110.slots[((1 : Int32)).toNatClampNeg]? = some (.double u2) := Has.at Ah110 hin110 rfl
  have k111 : ∀ t, Steps p.tables e below (s₁.setTop (mkF m 20 #[.val (.ref a1), .val (.ref a2), .val (.double (FP.dadd (0 : UInt64) (FP.dmul u1 w1))), .second, .val (.int (1 : Int32))] [(.int (1 : Int32)), (.ref a2), (.double u2), (.double (FP.dadd (0 : UInt64) (FP.dmul u1 w1)))])) t → Steps p.tables e below (s₁.setTop (entryFrame m #[(.ref a1), (.ref a2)] 5)) t := fun t k => k109 t (by
    show Steps p.tables e below (s₁.setTop (mkF m 16 #[.val (.ref a1), .val (.ref a2), .val (.double (FP.dadd (0 : UInt64) (FP.dmul u1 w1))), .second, .val (.int (1 : Int32))] [(.int (1 : Int32)), (.ref a1), (.double (FP.dadd (0 : UInt64) (FP.dmul u1 w1)))])) _
    refine X0.daload hx (j := (1 : Int32)) (v := (.double u2)) (by rw [e0]; exact Ar110.1) (State.isArrayOf_alike hZ.alike Ar110.2.1) Ar110.2.2 hin110 hat110 (g := (mkF m 16 #[.val (.ref a1), .val (.ref a2), .val (.double (FP.dadd (0 : UInt64) (FP.dmul u1 w1))), .second, .val (.int (1 : Int32))] [(.int (1 : Int32)), (.ref a1), (.double (FP.dadd (0 : UInt64) (FP.dmul u1 w1)))])) rfl rfl (hb hby d2_16) _ ?_
    show Steps p.tables e below (s₁.setTop (mkF m 17 #[.val (.ref a1), .val (.ref a2), .val (.double (FP.dadd (0 : UInt64) (FP.dmul u1 w1))), .second, .val (.int (1 : Int32))] [(.double u2), (.double (FP.dadd (0 : UInt64) (FP.dmul u1 w1)))])) _
    refine XS.aloadN X0.here hx rfl (hb hby d2_17) rfl rfl ?_
    show Steps p.tables e below (s₁.setTop (mkF m 18 #[.val (.ref a1), .val (.ref a2), .val (.double (FP.dadd (0 : UInt64) (FP.dmul u1 w1))), .second, .val (.int (1 : Int32))] [(.ref a2), (.double u2), (.double (FP.dadd (0 : UInt64) (FP.dmul u1 w1)))])) _
    refine XS.iload X0.here hx rfl (hb hby d2_18) rfl ?_
    exact k)
  obtain ⟨c112, Ar112, -, As112, An112, Ah112, -⟩ := id V2
  have hin112 : ¬ ((1 : Int32) < 0 ∨ c112.slots.size ≤ ((1 : Int32)).toNatClampNeg) := inb_of As112 ⟨by decide, by decide⟩
  have hat112 : c112.slots[((1 : Int32)).toNatClampNeg]? = some (.double w2) := Has.at Ah112 hin112 rfl
  have k113 : ∀ t, Steps p.tables e below (s₁.setTop (mkF m 8 #[.val (.ref a1), .val (.ref a2), .val (.double (FP.dadd (FP.dadd (0 : UInt64) (FP.dmul u1 w1)) (FP.dmul u2 w2))), .second, .val (.int (2 : Int32))] [(.ref a1), (.int (2 : Int32))])) t → Steps p.tables e below (s₁.setTop (entryFrame m #[(.ref a1), (.ref a2)] 5)) t := fun t k => k111 t (by
    show Steps p.tables e below (s₁.setTop (mkF m 20 #[.val (.ref a1), .val (.ref a2), .val (.double (FP.dadd (0 : UInt64) (FP.dmul u1 w1))), .second, .val (.int (1 : Int32))] [(.int (1 : Int32)), (.ref a2), (.double u2), (.double (FP.dadd (0 : UInt64) (FP.dmul u1 w1)))])) _
    refine X0.daload hx (j := (1 : Int32)) (v := (.double w2)) (by rw [e0]; exact Ar112.1) (State.isArrayOf_alike hZ.alike Ar112.2.1) Ar112.2.2 hin112 hat112 (g := (mkF m 20 #[.val (.ref a1), .val (.ref a2), .val (.double (FP.dadd (0 : UInt64) (FP.dmul u1 w1))), .second, .val (.int (1 : Int32))] [(.int (1 : Int32)), (.ref a2), (.double u2), (.double (FP.dadd (0 : UInt64) (FP.dmul u1 w1)))])) rfl rfl (hb hby d2_20) _ ?_
    show Steps p.tables e below (s₁.setTop (mkF m 21 #[.val (.ref a1), .val (.ref a2), .val (.double (FP.dadd (0 : UInt64) (FP.dmul u1 w1))), .second, .val (.int (1 : Int32))] [(.double w2), (.double u2), (.double (FP.dadd (0 : UInt64) (FP.dmul u1 w1)))])) _
    refine XS.dmulS X0.here hx rfl (hb hby d2_21) rfl (nm1) rfl ?_
    show Steps p.tables e below (s₁.setTop (mkF m 22 #[.val (.ref a1), .val (.ref a2), .val (.double (FP.dadd (0 : UInt64) (FP.dmul u1 w1))), .second, .val (.int (1 : Int32))] [(.double (FP.dmul u2 w2)), (.double (FP.dadd (0 : UInt64) (FP.dmul u1 w1)))])) _
    refine XS.daddS X0.here hx rfl (hb hby d2_22) rfl (na1) rfl ?_
    show Steps p.tables e below (s₁.setTop (mkF m 23 #[.val (.ref a1), .val (.ref a2), .val (.double (FP.dadd (0 : UInt64) (FP.dmul u1 w1))), .second, .val (.int (1 : Int32))] [(.double (FP.dadd (FP.dadd (0 : UInt64) (FP.dmul u1 w1)) (FP.dmul u2 w2)))])) _
    refine XS.dstoreN X0.here hx rfl (hb hby d2_23) rfl (l' := #[.val (.ref a1), .val (.ref a2), .val (.double (FP.dadd (FP.dadd (0 : UInt64) (FP.dmul u1 w1)) (FP.dmul u2 w2))), .second, .val (.int (1 : Int32))]) rfl ?_
    show Steps p.tables e below (s₁.setTop (mkF m 24 #[.val (.ref a1), .val (.ref a2), .val (.double (FP.dadd (FP.dadd (0 : UInt64) (FP.dmul u1 w1)) (FP.dmul u2 w2))), .second, .val (.int (1 : Int32))] [])) _
    refine XS.iinc X0.here hx rfl (hb hby d2_24) rfl (l' := #[.val (.ref a1), .val (.ref a2), .val (.double (FP.dadd (FP.dadd (0 : UInt64) (FP.dmul u1 w1)) (FP.dmul u2 w2))), .second, .val (.int (2 : Int32))]) rfl ?_
    show Steps p.tables e below (s₁.setTop (mkF m 27 #[.val (.ref a1), .val (.ref a2), .val (.double (FP.dadd (FP.dadd (0 : UInt64) (FP.dmul u1 w1)) (FP.dmul u2 w2))), .second, .val (.int (2 : Int32))] [])) _
    refine XS.goto X0.here hx rfl (pc0 := 27) (pc' := 5) rfl (hb hby d2_27) (by decide) (by decide) ?_
    show Steps p.tables e below (s₁.setTop (mkF m 5 #[.val (.ref a1), .val (.ref a2), .val (.double (FP.dadd (FP.dadd (0 : UInt64) (FP.dmul u1 w1)) (FP.dmul u2 w2))), .second, .val (.int (2 : Int32))] [])) _
    refine XS.iload X0.here hx rfl (hb hby d2_5) rfl ?_
    show Steps p.tables e below (s₁.setTop (mkF m 7 #[.val (.ref a1), .val (.ref a2), .val (.double (FP.dadd (FP.dadd (0 : UInt64) (FP.dmul u1 w1)) (FP.dmul u2 w2))), .second, .val (.int (2 : Int32))] [(.int (2 : Int32))])) _
    refine XS.aloadN X0.here hx rfl (hb hby d2_7) rfl rfl ?_
    exact k)
  obtain ⟨c114, Ar114, -, As114, An114, -, -⟩ := id V1
  have k115 : ∀ t, Steps p.tables e below (s₁.setTop (mkF m 31 #[.val (.ref a1), .val (.ref a2), .val (.double (FP.dadd (FP.dadd (0 : UInt64) (FP.dmul u1 w1)) (FP.dmul u2 w2))), .second, .val (.int (2 : Int32))] [(.double (FP.dadd (FP.dadd (0 : UInt64) (FP.dmul u1 w1)) (FP.dmul u2 w2)))])) t → Steps p.tables e below (s₁.setTop (entryFrame m #[(.ref a1), (.ref a2)] 5)) t := fun t k => k113 t (by
    show Steps p.tables e below (s₁.setTop (mkF m 8 #[.val (.ref a1), .val (.ref a2), .val (.double (FP.dadd (FP.dadd (0 : UInt64) (FP.dmul u1 w1)) (FP.dmul u2 w2))), .second, .val (.int (2 : Int32))] [(.ref a1), (.int (2 : Int32))])) _
    refine X0.arraylength hx (by rw [e0]; exact Ar114.1) (State.isArrayOf_alike hZ.alike Ar114.2.1) (g := (mkF m 8 #[.val (.ref a1), .val (.ref a2), .val (.double (FP.dadd (FP.dadd (0 : UInt64) (FP.dmul u1 w1)) (FP.dmul u2 w2))), .second, .val (.int (2 : Int32))] [(.ref a1), (.int (2 : Int32))])) rfl rfl (hb hby d2_8) _ ?_
    rw [len_of As114 An114]
    show Steps p.tables e below (s₁.setTop (mkF m 9 #[.val (.ref a1), .val (.ref a2), .val (.double (FP.dadd (FP.dadd (0 : UInt64) (FP.dmul u1 w1)) (FP.dmul u2 w2))), .second, .val (.int (2 : Int32))] [(.int (2 : Int32)), (.int (2 : Int32))])) _
    refine XS.icmpYes X0.here hx rfl (pc0 := 9) (pc' := 30) rfl (hb hby d2_9) rfl (flt (by decide)).2.1 (by decide) (by decide) ?_
    show Steps p.tables e below (s₁.setTop (mkF m 30 #[.val (.ref a1), .val (.ref a2), .val (.double (FP.dadd (FP.dadd (0 : UInt64) (FP.dmul u1 w1)) (FP.dmul u2 w2))), .second, .val (.int (2 : Int32))] [])) _
    refine XS.dloadN X0.here hx rfl (hb hby d2_30) rfl ?_
    exact k)
  obtain ⟨fs, hr, hrun, hended, hW, hsame⟩ := X0.leave (v := some (.double (FP.dadd (FP.dadd (0 : UInt64) (FP.dmul u1 w1)) (FP.dmul u2 w2)))) (fun h => by rw [Bd.returns] at h; cases h)
  refine ⟨_, _, k115 _ (retOut X0 hx (t := .double) Bd.returns rfl (Or.inr (Or.inr (Or.inl ⟨rfl, rfl, _, rfl⟩))) (hb hby d2_31) hr), hrun, hended, _, _, rfl, ?_, ⟨_, rfl⟩, hW, hsame.mono (by decide) (by decide)⟩
  show Q_dot2 Z a1 a2 k1 k2 u1 u2 w1 w2 h0 n0 _ s₁.heap _
  rw [e0]
  exact ⟨rfl, N0, rfl⟩
def Q_dot3 (Z : State) (a1 : Addr) (a2 : Addr) (k1 : ClassId) (k2 : ClassId) (u1 : UInt64) (u2 : UInt64) (u3 : UInt64) (w1 : UInt64) (w2 : UInt64) (w3 : UInt64) (h0 : Heap) (n0 : Nat) (v : Option Value) (h : Heap) (L : List Loc) : Prop := v = some (.double (FP.dadd (FP.dadd (FP.dadd (0 : UInt64) (FP.dmul u1 w1)) (FP.dmul u2 w2)) (FP.dmul u3 w3))) ∧ Fr n0 L ∧ h = h0
set_option maxRecDepth 65536 in
set_option maxHeartbeats 40000000 in
theorem dot3 (l : Launch) (Z : State) (a0 : Array Value) (hw : ∀ d ∈ tables_1, d.before a0 Z = true) (ws : List Jvm.Cond) (a1 : Addr) (a2 : Addr) (k1 : ClassId) (k2 : ClassId) (u1 : UInt64) (u2 : UInt64) (u3 : UInt64) (w1 : UInt64) (w2 : UInt64) (w3 : UInt64) (h0 : Heap) (n0 : Nat) (Z0 : n0 ≤ h0.size) (V1 : Arv Z h0 a1 k1 .double (3 : Int32) [(.double u1), (.double u2), (.double u3)] (.double (0 : UInt64))) (V2 : Arv Z h0 a2 k2 .double (3 : Int32) [(.double w1), (.double w2), (.double w3)] (.double (0 : UInt64))) (nm0 : Jvm.Free.Fl.NoNaN64 (FP.dmul u1 w1)) (na0 : Jvm.Free.Fl.NoNaN64 (FP.dadd (0 : UInt64) (FP.dmul u1 w1))) (nm1 : Jvm.Free.Fl.NoNaN64 (FP.dmul u2 w2)) (na1 : Jvm.Free.Fl.NoNaN64 (FP.dadd (FP.dadd (0 : UInt64) (FP.dmul u1 w1)) (FP.dmul u2 w2))) (nm2 : Jvm.Free.Fl.NoNaN64 (FP.dmul u3 w3)) (na2 : Jvm.Free.Fl.NoNaN64 (FP.dadd (FP.dadd (FP.dadd (0 : UInt64) (FP.dmul u1 w1)) (FP.dmul u2 w2)) (FP.dmul u3 w3))) :
    MetFree l (⟨"com/example/frontweave/frontweave/clustering/Vectors", "dot", "([D[D)D"⟩ : MethodName) (head1 (Jvm.Cond.code (⟨"com/example/frontweave/frontweave/clustering/Vectors", "dot", "([D[D)D"⟩ : MethodName) prog_29_method_2_code 5 (some .double) :: ws) ({ frames := 0, cells := 0, slots := 0, locals := 0 } : Room)) (fun a U => a = #[(.ref a1), (.ref a2)] ∧ Z.Warmed39 U.vm ∧ U.heap = h0) (fun _ _ _ _ _ => True) (fun _ U o U' => ∃ v L, o = .returned v ∧ Q_dot3 Z a1 a2 k1 k2 u1 u2 u3 w1 w2 w3 h0 n0 v U'.heap L ∧ FrameEnd U o U' L ({ frames := 0, cells := 0, slots := 0, locals := 0 } : Room).cells ({ frames := 0, cells := 0, slots := 0, locals := 0 } : Room).slots) := by
  refine MetFree.of_bodySF (plainFor_of_name pn_com_2fexample_2ffrontweave_2ffrontweave_2fclustering_2fVectors) hisR ?_
  intro p e s m args below meth c s₁ Bd hml0 hP hK
  obtain ⟨rfl, hZ, hh⟩ := hP
  have hx := Bd.exec
  have hby := Bd.bytes
  have hml : c.maxLocals = 5 := hml0
  have hown : s.vm.findClass "com/example/frontweave/frontweave/clustering/Vectors" = some m.cls := findClass_of_methodNamed Bd.named
  have hnm := (name_of_methodNamed Bd.named Bd.method).1
  have X0 : Stand p l e ({ frames := 0, cells := 0, slots := 0, locals := 0 } : Room) s m #[(.ref a1), (.ref a2)] below meth c s₁ [] 0 0 := Stand.of_body Bd
  have e0 : s₁.heap = h0 := by rw [← hh, Bd.state]; rfl
  have N0 := Fr.nil n0
  have k0 : ∀ t, Steps p.tables e below (s₁.setTop (mkF m 0 #[.val (.ref a1), .val (.ref a2), .unset, .unset, .unset] [])) t → Steps p.tables e below (s₁.setTop (entryFrame m #[(.ref a1), (.ref a2)] 5)) t := fun t k => castTop (ef_2_RR m a1 a2) k
  have k101 : ∀ t, Steps p.tables e below (s₁.setTop (mkF m 8 #[.val (.ref a1), .val (.ref a2), .val (.double (0 : UInt64)), .second, .val (.int (0 : Int32))] [(.ref a1), (.int (0 : Int32))])) t → Steps p.tables e below (s₁.setTop (entryFrame m #[(.ref a1), (.ref a2)] 5)) t := fun t k => k0 t (by
    show Steps p.tables e below (s₁.setTop (mkF m 0 #[.val (.ref a1), .val (.ref a2), .unset, .unset, .unset] [])) _
    refine XS.dconst0 X0.here hx rfl (hb hby d2_0) (v := (0 : UInt64)) rfl ?_
    show Steps p.tables e below (s₁.setTop (mkF m 1 #[.val (.ref a1), .val (.ref a2), .unset, .unset, .unset] [(.double (0 : UInt64))])) _
    refine XS.dstoreN X0.here hx rfl (hb hby d2_1) rfl (l' := #[.val (.ref a1), .val (.ref a2), .val (.double (0 : UInt64)), .second, .unset]) rfl ?_
    show Steps p.tables e below (s₁.setTop (mkF m 2 #[.val (.ref a1), .val (.ref a2), .val (.double (0 : UInt64)), .second, .unset] [])) _
    refine XS.iconst X0.here hx rfl (hb hby d2_2) ?_
    show Steps p.tables e below (s₁.setTop (mkF m 3 #[.val (.ref a1), .val (.ref a2), .val (.double (0 : UInt64)), .second, .unset] [(.int (0 : Int32))])) _
    refine XS.istore X0.here hx rfl (hb hby d2_3) rfl (l' := #[.val (.ref a1), .val (.ref a2), .val (.double (0 : UInt64)), .second, .val (.int (0 : Int32))]) rfl ?_
    show Steps p.tables e below (s₁.setTop (mkF m 5 #[.val (.ref a1), .val (.ref a2), .val (.double (0 : UInt64)), .second, .val (.int (0 : Int32))] [])) _
    refine XS.iload X0.here hx rfl (hb hby d2_5) rfl ?_
    show Steps p.tables e below (s₁.setTop (mkF m 7 #[.val (.ref a1), .val (.ref a2), .val (.double (0 : UInt64)), .second, .val (.int (0 : Int32))] [(.int (0 : Int32))])) _
    refine XS.aloadN X0.here hx rfl (hb hby d2_7) rfl rfl ?_
    exact k)
  obtain ⟨c102, Ar102, -, As102, An102, -, -⟩ := id V1
  have k103 : ∀ t, Steps p.tables e below (s₁.setTop (mkF m 16 #[.val (.ref a1), .val (.ref a2), .val (.double (0 : UInt64)), .second, .val (.int (0 : Int32))] [(.int (0 : Int32)), (.ref a1), (.double (0 : UInt64))])) t → Steps p.tables e below (s₁.setTop (entryFrame m #[(.ref a1), (.ref a2)] 5)) t := fun t k => k101 t (by
    show Steps p.tables e below (s₁.setTop (mkF m 8 #[.val (.ref a1), .val (.ref a2), .val (.double (0 : UInt64)), .second, .val (.int (0 : Int32))] [(.ref a1), (.int (0 : Int32))])) _
    refine X0.arraylength hx (by rw [e0]; exact Ar102.1) (State.isArrayOf_alike hZ.alike Ar102.2.1) (g := (mkF m 8 #[.val (.ref a1), .val (.ref a2), .val (.double (0 : UInt64)), .second, .val (.int (0 : Int32))] [(.ref a1), (.int (0 : Int32))])) rfl rfl (hb hby d2_8) _ ?_
    rw [len_of As102 An102]
    show Steps p.tables e below (s₁.setTop (mkF m 9 #[.val (.ref a1), .val (.ref a2), .val (.double (0 : UInt64)), .second, .val (.int (0 : Int32))] [(.int (3 : Int32)), (.int (0 : Int32))])) _
    refine XS.icmpNo X0.here hx rfl (hb hby d2_9) rfl (tlt (by decide)).2.1 ?_
    show Steps p.tables e below (s₁.setTop (mkF m 12 #[.val (.ref a1), .val (.ref a2), .val (.double (0 : UInt64)), .second, .val (.int (0 : Int32))] [])) _
    refine XS.dloadN X0.here hx rfl (hb hby d2_12) rfl ?_
    show Steps p.tables e below (s₁.setTop (mkF m 13 #[.val (.ref a1), .val (.ref a2), .val (.double (0 : UInt64)), .second, .val (.int (0 : Int32))] [(.double (0 : UInt64))])) _
    refine XS.aloadN X0.here hx rfl (hb hby d2_13) rfl rfl ?_
    show Steps p.tables e below (s₁.setTop (mkF m 14 #[.val (.ref a1), .val (.ref a2), .val (.double (0 : UInt64)), .second, .val (.int (0 : Int32))] [(.ref a1), (.double (0 : UInt64))])) _
    refine XS.iload X0.here hx rfl (hb hby d2_14) rfl ?_
    exact k)
  obtain ⟨c104, Ar104, -, As104, An104, Ah104, -⟩ := id V1
  have hin104 : ¬ ((0 : Int32) < 0 ∨ c104.slots.size ≤ ((0 : Int32)).toNatClampNeg) := inb_of As104 ⟨by decide, by decide⟩
  have hat104 : c104.slots[((0 : Int32)).toNatClampNeg]? = some (.double u1) := Has.at Ah104 hin104 rfl
  have k105 : ∀ t, Steps p.tables e below (s₁.setTop (mkF m 20 #[.val (.ref a1), .val (.ref a2), .val (.double (0 : UInt64)), .second, .val (.int (0 : Int32))] [(.int (0 : Int32)), (.ref a2), (.double u1), (.double (0 : UInt64))])) t → Steps p.tables e below (s₁.setTop (entryFrame m #[(.ref a1), (.ref a2)] 5)) t := fun t k => k103 t (by
    show Steps p.tables e below (s₁.setTop (mkF m 16 #[.val (.ref a1), .val (.ref a2), .val (.double (0 : UInt64)), .second, .val (.int (0 : Int32))] [(.int (0 : Int32)), (.ref a1), (.double (0 : UInt64))])) _
    refine X0.daload hx (j := (0 : Int32)) (v := (.double u1)) (by rw [e0]; exact Ar104.1) (State.isArrayOf_alike hZ.alike Ar104.2.1) Ar104.2.2 hin104 hat104 (g := (mkF m 16 #[.val (.ref a1), .val (.ref a2), .val (.double (0 : UInt64)), .second, .val (.int (0 : Int32))] [(.int (0 : Int32)), (.ref a1), (.double (0 : UInt64))])) rfl rfl (hb hby d2_16) _ ?_
    show Steps p.tables e below (s₁.setTop (mkF m 17 #[.val (.ref a1), .val (.ref a2), .val (.double (0 : UInt64)), .second, .val (.int (0 : Int32))] [(.double u1), (.double (0 : UInt64))])) _
    refine XS.aloadN X0.here hx rfl (hb hby d2_17) rfl rfl ?_
    show Steps p.tables e below (s₁.setTop (mkF m 18 #[.val (.ref a1), .val (.ref a2), .val (.double (0 : UInt64)), .second, .val (.int (0 : Int32))] [(.ref a2), (.double u1), (.double (0 : UInt64))])) _
    refine XS.iload X0.here hx rfl (hb hby d2_18) rfl ?_
    exact k)
  obtain ⟨c106, Ar106, -, As106, An106, Ah106, -⟩ := id V2
  have hin106 : ¬ ((0 : Int32) < 0 ∨ c106.slots.size ≤ ((0 : Int32)).toNatClampNeg) := inb_of As106 ⟨by decide, by decide⟩
  have hat106 : c106.slots[((0 : Int32)).toNatClampNeg]? = some (.double w1) := Has.at Ah106 hin106 rfl
  have k107 : ∀ t, Steps p.tables e below (s₁.setTop (mkF m 8 #[.val (.ref a1), .val (.ref a2), .val (.double (FP.dadd (0 : UInt64) (FP.dmul u1 w1))), .second, .val (.int (1 : Int32))] [(.ref a1), (.int (1 : Int32))])) t → Steps p.tables e below (s₁.setTop (entryFrame m #[(.ref a1), (.ref a2)] 5)) t := fun t k => k105 t (by
    show Steps p.tables e below (s₁.setTop (mkF m 20 #[.val (.ref a1), .val (.ref a2), .val (.double (0 : UInt64)), .second, .val (.int (0 : Int32))] [(.int (0 : Int32)), (.ref a2), (.double u1), (.double (0 : UInt64))])) _
    refine X0.daload hx (j := (0 : Int32)) (v := (.double w1)) (by rw [e0]; exact Ar106.1) (State.isArrayOf_alike hZ.alike Ar106.2.1) Ar106.2.2 hin106 hat106 (g := (mkF m 20 #[.val (.ref a1), .val (.ref a2), .val (.double (0 : UInt64)), .second, .val (.int (0 : Int32))] [(.int (0 : Int32)), (.ref a2), (.double u1), (.double (0 : UInt64))])) rfl rfl (hb hby d2_20) _ ?_
    show Steps p.tables e below (s₁.setTop (mkF m 21 #[.val (.ref a1), .val (.ref a2), .val (.double (0 : UInt64)), .second, .val (.int (0 : Int32))] [(.double w1), (.double u1), (.double (0 : UInt64))])) _
    refine XS.dmulS X0.here hx rfl (hb hby d2_21) rfl (nm0) rfl ?_
    show Steps p.tables e below (s₁.setTop (mkF m 22 #[.val (.ref a1), .val (.ref a2), .val (.double (0 : UInt64)), .second, .val (.int (0 : Int32))] [(.double (FP.dmul u1 w1)), (.double (0 : UInt64))])) _
    refine XS.daddS X0.here hx rfl (hb hby d2_22) rfl (na0) rfl ?_
    show Steps p.tables e below (s₁.setTop (mkF m 23 #[.val (.ref a1), .val (.ref a2), .val (.double (0 : UInt64)), .second, .val (.int (0 : Int32))] [(.double (FP.dadd (0 : UInt64) (FP.dmul u1 w1)))])) _
    refine XS.dstoreN X0.here hx rfl (hb hby d2_23) rfl (l' := #[.val (.ref a1), .val (.ref a2), .val (.double (FP.dadd (0 : UInt64) (FP.dmul u1 w1))), .second, .val (.int (0 : Int32))]) rfl ?_
    show Steps p.tables e below (s₁.setTop (mkF m 24 #[.val (.ref a1), .val (.ref a2), .val (.double (FP.dadd (0 : UInt64) (FP.dmul u1 w1))), .second, .val (.int (0 : Int32))] [])) _
    refine XS.iinc X0.here hx rfl (hb hby d2_24) rfl (l' := #[.val (.ref a1), .val (.ref a2), .val (.double (FP.dadd (0 : UInt64) (FP.dmul u1 w1))), .second, .val (.int (1 : Int32))]) rfl ?_
    show Steps p.tables e below (s₁.setTop (mkF m 27 #[.val (.ref a1), .val (.ref a2), .val (.double (FP.dadd (0 : UInt64) (FP.dmul u1 w1))), .second, .val (.int (1 : Int32))] [])) _
    refine XS.goto X0.here hx rfl (pc0 := 27) (pc' := 5) rfl (hb hby d2_27) (by decide) (by decide) ?_
    show Steps p.tables e below (s₁.setTop (mkF m 5 #[.val (.ref a1), .val (.ref a2), .val (.double (FP.dadd (0 : UInt64) (FP.dmul u1 w1))), .second, .val (.int (1 : Int32))] [])) _
    refine XS.iload X0.here hx rfl (hb hby d2_5) rfl ?_
    show Steps p.tables e below (s₁.setTop (mkF m 7 #[.val (.ref a1), .val (.ref a2), .val (.double (FP.dadd (0 : UInt64) (FP.dmul u1 w1))), .second, .val (.int (1 : Int32))] [(.int (1 : Int32))])) _
    refine XS.aloadN X0.here hx rfl (hb hby d2_7) rfl rfl ?_
    exact k)
  obtain ⟨c108, Ar108, -, As108, An108, -, -⟩ := id V1
  have k109 : ∀ t, Steps p.tables e below (s₁.setTop (mkF m 16 #[.val (.ref a1), .val (.ref a2), .val (.double (FP.dadd (0 : UInt64) (FP.dmul u1 w1))), .second, .val (.int (1 : Int32))] [(.int (1 : Int32)), (.ref a1), (.double (FP.dadd (0 : UInt64) (FP.dmul u1 w1)))])) t → Steps p.tables e below (s₁.setTop (entryFrame m #[(.ref a1), (.ref a2)] 5)) t := fun t k => k107 t (by
    show Steps p.tables e below (s₁.setTop (mkF m 8 #[.val (.ref a1), .val (.ref a2), .val (.double (FP.dadd (0 : UInt64) (FP.dmul u1 w1))), .second, .val (.int (1 : Int32))] [(.ref a1), (.int (1 : Int32))])) _
    refine X0.arraylength hx (by rw [e0]; exact Ar108.1) (State.isArrayOf_alike hZ.alike Ar108.2.1) (g := (mkF m 8 #[.val (.ref a1), .val (.ref a2), .val (.double (FP.dadd (0 : UInt64) (FP.dmul u1 w1))), .second, .val (.int (1 : Int32))] [(.ref a1), (.int (1 : Int32))])) rfl rfl (hb hby d2_8) _ ?_
    rw [len_of As108 An108]
    show Steps p.tables e below (s₁.setTop (mkF m 9 #[.val (.ref a1), .val (.ref a2), .val (.double (FP.dadd (0 : UInt64) (FP.dmul u1 w1))), .second, .val (.int (1 : Int32))] [(.int (3 : Int32)), (.int (1 : Int32))])) _
    refine XS.icmpNo X0.here hx rfl (hb hby d2_9) rfl (tlt (by decide)).2.1 ?_
    show Steps p.tables e below (s₁.setTop (mkF m 12 #[.val (.ref a1), .val (.ref a2), .val (.double (FP.dadd (0 : UInt64) (FP.dmul u1 w1))), .second, .val (.int (1 : Int32))] [])) _
    refine XS.dloadN X0.here hx rfl (hb hby d2_12) rfl ?_
    show Steps p.tables e below (s₁.setTop (mkF m 13 #[.val (.ref a1), .val (.ref a2), .val (.double (FP.dadd (0 : UInt64) (FP.dmul u1 w1))), .second, .val (.int (1 : Int32))] [(.double (FP.dadd (0 : UInt64) (FP.dmul u1 w1)))])) _
    refine XS.aloadN X0.here hx rfl (hb hby d2_13) rfl rfl ?_
    show Steps p.tables e below (s₁.setTop (mkF m 14 #[.val (.ref a1), .val (.ref a2), .val (.double (FP.dadd (0 : UInt64) (FP.dmul u1 w1))), .second, .val (.int (1 : Int32))] [(.ref a1), (.double (FP.dadd (0 : UInt64) (FP.dmul u1 w1)))])) _
    refine XS.iload X0.here hx rfl (hb hby d2_14) rfl ?_
    exact k)
  obtain ⟨c110, Ar110, -, As110, An110, Ah110, -⟩ := id V1
  have hin110 : ¬ ((1 : Int32) < 0 ∨ c110.slots.size ≤ ((1 : Int32)).toNatClampNeg) := inb_of As110 ⟨by decide, by decide⟩
  have hat110 : c110.slots[((1 : Int32)).toNatClampNeg]? = some (.double u2) := Has.at Ah110 hin110 rfl
  have k111 : ∀ t, Steps p.tables e below (s₁.setTop (mkF m 20 #[.val (.ref a1), .val (.ref a2), .val (.double (FP.dadd (0 : UInt64) (FP.dmul u1 w1))), .second, .val (.int (1 : Int32))] [(.int (1 : Int32)), (.ref a2), (.double u2), (.double (FP.dadd (0 : UInt64) (FP.dmul u1 w1)))])) t → Steps p.tables e below (s₁.setTop (entryFrame m #[(.ref a1), (.ref a2)] 5)) t := fun t k => k109 t (by
    show Steps p.tables e below (s₁.setTop (mkF m 16 #[.val (.ref a1), .val (.ref a2), .val (.double (FP.dadd (0 : UInt64) (FP.dmul u1 w1))), .second, .val (.int (1 : Int32))] [(.int (1 : Int32)), (.ref a1), (.double (FP.dadd (0 : UInt64) (FP.dmul u1 w1)))])) _
    refine X0.daload hx (j := (1 : Int32)) (v := (.double u2)) (by rw [e0]; exact Ar110.1) (State.isArrayOf_alike hZ.alike Ar110.2.1) Ar110.2.2 hin110 hat110 (g := (mkF m 16 #[.val (.ref a1), .val (.ref a2), .val (.double (FP.dadd (0 : UInt64) (FP.dmul u1 w1))), .second, .val (.int (1 : Int32))] [(.int (1 : Int32)), (.ref a1), (.double (FP.dadd (0 : UInt64) (FP.dmul u1 w1)))])) rfl rfl (hb hby d2_16) _ ?_
    show Steps p.tables e below (s₁.setTop (mkF m 17 #[.val (.ref a1), .val (.ref a2), .val (.double (FP.dadd (0 : UInt64) (FP.dmul u1 w1))), .second, .val (.int (1 : Int32))] [(.double u2), (.double (FP.dadd (0 : UInt64) (FP.dmul u1 w1)))])) _
    refine XS.aloadN X0.here hx rfl (hb hby d2_17) rfl rfl ?_
    show Steps p.tables e below (s₁.setTop (mkF m 18 #[.val (.ref a1), .val (.ref a2), .val (.double (FP.dadd (0 : UInt64) (FP.dmul u1 w1))), .second, .val (.int (1 : Int32))] [(.ref a2), (.double u2), (.double (FP.dadd (0 : UInt64) (FP.dmul u1 w1)))])) _
    refine XS.iload X0.here hx rfl (hb hby d2_18) rfl ?_
    exact k)
  obtain ⟨c112, Ar112, -, As112, An112, Ah112, -⟩ := id V2
  have hin112 : ¬ ((1 : Int32) < 0 ∨ c112.slots.size ≤ ((1 : Int32)).toNatClampNeg) := inb_of As112 ⟨by decide, by decide⟩
  have hat112 : c112.slots[((1 : Int32)).toNatClampNeg]? = some (.double w2) := Has.at Ah112 hin112 rfl
  have k113 : ∀ t, Steps p.tables e below (s₁.setTop (mkF m 8 #[.val (.ref a1), .val (.ref a2), .val (.double (FP.dadd (FP.dadd (0 : UInt64) (FP.dmul u1 w1)) (FP.dmul u2 w2))), .second, .val (.int (2 : Int32))] [(.ref a1), (.int (2 : Int32))])) t → Steps p.tables e below (s₁.setTop (entryFrame m #[(.ref a1), (.ref a2)] 5)) t := fun t k => k111 t (by
    show Steps p.tables e below (s₁.setTop (mkF m 20 #[.val (.ref a1), .val (.ref a2), .val (.double (FP.dadd (0 : UInt64) (FP.dmul u1 w1))), .second, .val (.int (1 : Int32))] [(.int (1 : Int32)), (.ref a2), (.double u2), (.double (FP.dadd (0 : UInt64) (FP.dmul u1 w1)))])) _
    refine X0.daload hx (j := (1 : Int32)) (v := (.double w2)) (by rw [e0]; exact Ar112.1) (State.isArrayOf_alike hZ.alike Ar112.2.1) Ar112.2.2 hin112 hat112 (g := (mkF m 20 #[.val (.ref a1), .val (.ref a2), .val (.double (FP.dadd (0 : UInt64) (FP.dmul u1 w1))), .second, .val (.int (1 : Int32))] [(.int (1 : Int32)), (.ref a2), (.double u2), (.double (FP.dadd (0 : UInt64) (FP.dmul u1 w1)))])) rfl rfl (hb hby d2_20) _ ?_
    show Steps p.tables e below (s₁.setTop (mkF m 21 #[.val (.ref a1), .val (.ref a2), .val (.double (FP.dadd (0 : UInt64) (FP.dmul u1 w1))), .second, .val (.int (1 : Int32))] [(.double w2), (.double u2), (.double (FP.dadd (0 : UInt64) (FP.dmul u1 w1)))])) _
    refine XS.dmulS X0.here hx rfl (hb hby d2_21) rfl (nm1) rfl ?_
    show Steps p.tables e below (s₁.setTop (mkF m 22 #[.val (.ref a1), .val (.ref a2), .val (.double (FP.dadd (0 : UInt64) (FP.dmul u1 w1))), .second, .val (.int (1 : Int32))] [(.double (FP.dmul u2 w2)), (.double (FP.dadd (0 : UInt64) (FP.dmul u1 w1)))])) _
    refine XS.daddS X0.here hx rfl (hb hby d2_22) rfl (na1) rfl ?_
    show Steps p.tables e below (s₁.setTop (mkF m 23 #[.val (.ref a1), .val (.ref a2), .val (.double (FP.dadd (0 : UInt64) (FP.dmul u1 w1))), .second, .val (.int (1 : Int32))] [(.double (FP.dadd (FP.dadd (0 : UInt64) (FP.dmul u1 w1)) (FP.dmul u2 w2)))])) _
    refine XS.dstoreN X0.here hx rfl (hb hby d2_23) rfl (l' := #[.val (.ref a1), .val (.ref a2), .val (.double (FP.dadd (FP.dadd (0 : UInt64) (FP.dmul u1 w1)) (FP.dmul u2 w2))), .second, .val (.int (1 : Int32))]) rfl ?_
    show Steps p.tables e below (s₁.setTop (mkF m 24 #[.val (.ref a1), .val (.ref a2), .val (.double (FP.dadd (FP.dadd (0 : UInt64) (FP.dmul u1 w1)) (FP.dmul u2 w2))), .second, .val (.int (1 : Int32))] [])) _
    refine XS.iinc X0.here hx rfl (hb hby d2_24) rfl (l' := #[.val (.ref a1), .val (.ref a2), .val (.double (FP.dadd (FP.dadd (0 : UInt64) (FP.dmul u1 w1)) (FP.dmul u2 w2))), .second, .val (.int (2 : Int32))]) rfl ?_
    show Steps p.tables e below (s₁.setTop (mkF m 27 #[.val (.ref a1), .val (.ref a2), .val (.double (FP.dadd (FP.dadd (0 : UInt64) (FP.dmul u1 w1)) (FP.dmul u2 w2))), .second, .val (.int (2 : Int32))] [])) _
    refine XS.goto X0.here hx rfl (pc0 := 27) (pc' := 5) rfl (hb hby d2_27) (by decide) (by decide) ?_
    show Steps p.tables e below (s₁.setTop (mkF m 5 #[.val (.ref a1), .val (.ref a2), .val (.double (FP.dadd (FP.dadd (0 : UInt64) (FP.dmul u1 w1)) (FP.dmul u2 w2))), .second, .val (.int (2 : Int32))] [])) _
    refine XS.iload X0.here hx rfl (hb hby d2_5) rfl ?_
    show Steps p.tables e below (s₁.setTop (mkF m 7 #[.val (.ref a1), .val (.ref a2), .val (.double (FP.dadd (FP.dadd (0 : UInt64) (FP.dmul u1 w1)) (FP.dmul u2 w2))), .second, .val (.int (2 : Int32))] [(.int (2 : Int32))])) _
    refine XS.aloadN X0.here hx rfl (hb hby d2_7) rfl rfl ?_
    exact k)
  obtain ⟨c114, Ar114, -, As114, An114, -, -⟩ := id V1
  have k115 : ∀ t, Steps p.tables e below (s₁.setTop (mkF m 16 #[.val (.ref a1), .val (.ref a2), .val (.double (FP.dadd (FP.dadd (0 : UInt64) (FP.dmul u1 w1)) (FP.dmul u2 w2))), .second, .val (.int (2 : Int32))] [(.int (2 : Int32)), (.ref a1), (.double (FP.dadd (FP.dadd (0 : UInt64) (FP.dmul u1 w1)) (FP.dmul u2 w2)))])) t → Steps p.tables e below (s₁.setTop (entryFrame m #[(.ref a1), (.ref a2)] 5)) t := fun t k => k113 t (by
    show Steps p.tables e below (s₁.setTop (mkF m 8 #[.val (.ref a1), .val (.ref a2), .val (.double (FP.dadd (FP.dadd (0 : UInt64) (FP.dmul u1 w1)) (FP.dmul u2 w2))), .second, .val (.int (2 : Int32))] [(.ref a1), (.int (2 : Int32))])) _
    refine X0.arraylength hx (by rw [e0]; exact Ar114.1) (State.isArrayOf_alike hZ.alike Ar114.2.1) (g := (mkF m 8 #[.val (.ref a1), .val (.ref a2), .val (.double (FP.dadd (FP.dadd (0 : UInt64) (FP.dmul u1 w1)) (FP.dmul u2 w2))), .second, .val (.int (2 : Int32))] [(.ref a1), (.int (2 : Int32))])) rfl rfl (hb hby d2_8) _ ?_
    rw [len_of As114 An114]
    show Steps p.tables e below (s₁.setTop (mkF m 9 #[.val (.ref a1), .val (.ref a2), .val (.double (FP.dadd (FP.dadd (0 : UInt64) (FP.dmul u1 w1)) (FP.dmul u2 w2))), .second, .val (.int (2 : Int32))] [(.int (3 : Int32)), (.int (2 : Int32))])) _
    refine XS.icmpNo X0.here hx rfl (hb hby d2_9) rfl (tlt (by decide)).2.1 ?_
    show Steps p.tables e below (s₁.setTop (mkF m 12 #[.val (.ref a1), .val (.ref a2), .val (.double (FP.dadd (FP.dadd (0 : UInt64) (FP.dmul u1 w1)) (FP.dmul u2 w2))), .second, .val (.int (2 : Int32))] [])) _
    refine XS.dloadN X0.here hx rfl (hb hby d2_12) rfl ?_
    show Steps p.tables e below (s₁.setTop (mkF m 13 #[.val (.ref a1), .val (.ref a2), .val (.double (FP.dadd (FP.dadd (0 : UInt64) (FP.dmul u1 w1)) (FP.dmul u2 w2))), .second, .val (.int (2 : Int32))] [(.double (FP.dadd (FP.dadd (0 : UInt64) (FP.dmul u1 w1)) (FP.dmul u2 w2)))])) _
    refine XS.aloadN X0.here hx rfl (hb hby d2_13) rfl rfl ?_
    show Steps p.tables e below (s₁.setTop (mkF m 14 #[.val (.ref a1), .val (.ref a2), .val (.double (FP.dadd (FP.dadd (0 : UInt64) (FP.dmul u1 w1)) (FP.dmul u2 w2))), .second, .val (.int (2 : Int32))] [(.ref a1), (.double (FP.dadd (FP.dadd (0 : UInt64) (FP.dmul u1 w1)) (FP.dmul u2 w2)))])) _
    refine XS.iload X0.here hx rfl (hb hby d2_14) rfl ?_
    exact k)
  obtain ⟨c116, Ar116, -, As116, An116, Ah116, -⟩ := id V1
  have hin116 : ¬ ((2 : Int32) < 0 ∨ c116.slots.size ≤ ((2 : Int32)).toNatClampNeg) := inb_of As116 ⟨by decide, by decide⟩
  have hat116 : c116.slots[((2 : Int32)).toNatClampNeg]? = some (.double u3) := Has.at Ah116 hin116 rfl
  have k117 : ∀ t, Steps p.tables e below (s₁.setTop (mkF m 20 #[.val (.ref a1), .val (.ref a2), .val (.double (FP.dadd (FP.dadd (0 : UInt64) (FP.dmul u1 w1)) (FP.dmul u2 w2))), .second, .val (.int (2 : Int32))] [(.int (2 : Int32)), (.ref a2), (.double u3), (.double (FP.dadd (FP.dadd (0 : UInt64) (FP.dmul u1 w1)) (FP.dmul u2 w2)))])) t → Steps p.tables e below (s₁.setTop (entryFrame m #[(.ref a1), (.ref a2)] 5)) t := fun t k => k115 t (by
    show Steps p.tables e below (s₁.setTop (mkF m 16 #[.val (.ref a1), .val (.ref a2), .val (.double (FP.dadd (FP.dadd (0 : UInt64) (FP.dmul u1 w1)) (FP.dmul u2 w2))), .second, .val (.int (2 : Int32))] [(.int (2 : Int32)), (.ref a1), (.double (FP.dadd (FP.dadd (0 : UInt64) (FP.dmul u1 w1)) (FP.dmul u2 w2)))])) _
    refine X0.daload hx (j := (2 : Int32)) (v := (.double u3)) (by rw [e0]; exact Ar116.1) (State.isArrayOf_alike hZ.alike Ar116.2.1) Ar116.2.2 hin116 hat116 (g := (mkF m 16 #[.val (.ref a1), .val (.ref a2), .val (.double (FP.dadd (FP.dadd (0 : UInt64) (FP.dmul u1 w1)) (FP.dmul u2 w2))), .second, .val (.int (2 : Int32))] [(.int (2 : Int32)), (.ref a1), (.double (FP.dadd (FP.dadd (0 : UInt64) (FP.dmul u1 w1)) (FP.dmul u2 w2)))])) rfl rfl (hb hby d2_16) _ ?_
    show Steps p.tables e below (s₁.setTop (mkF m 17 #[.val (.ref a1), .val (.ref a2), .val (.double (FP.dadd (FP.dadd (0 : UInt64) (FP.dmul u1 w1)) (FP.dmul u2 w2))), .second, .val (.int (2 : Int32))] [(.double u3), (.double (FP.dadd (FP.dadd (0 : UInt64) (FP.dmul u1 w1)) (FP.dmul u2 w2)))])) _
    refine XS.aloadN X0.here hx rfl (hb hby d2_17) rfl rfl ?_
    show Steps p.tables e below (s₁.setTop (mkF m 18 #[.val (.ref a1), .val (.ref a2), .val (.double (FP.dadd (FP.dadd (0 : UInt64) (FP.dmul u1 w1)) (FP.dmul u2 w2))), .second, .val (.int (2 : Int32))] [(.ref a2), (.double u3), (.double (FP.dadd (FP.dadd (0 : UInt64) (FP.dmul u1 w1)) (FP.dmul u2 w2)))])) _
    refine XS.iload X0.here hx rfl (hb hby d2_18) rfl ?_
    exact k)
  obtain ⟨c118, Ar118, -, As118, An118, Ah118, -⟩ := id V2
  have hin118 : ¬ ((2 : Int32) < 0 ∨ c118.slots.size ≤ ((2 : Int32)).toNatClampNeg) := inb_of As118 ⟨by decide, by decide⟩
  have hat118 : c118.slots[((2 : Int32)).toNatClampNeg]? = some (.double w3) := Has.at Ah118 hin118 rfl
  have k119 : ∀ t, Steps p.tables e below (s₁.setTop (mkF m 8 #[.val (.ref a1), .val (.ref a2), .val (.double (FP.dadd (FP.dadd (FP.dadd (0 : UInt64) (FP.dmul u1 w1)) (FP.dmul u2 w2)) (FP.dmul u3 w3))), .second, .val (.int (3 : Int32))] [(.ref a1), (.int (3 : Int32))])) t → Steps p.tables e below (s₁.setTop (entryFrame m #[(.ref a1), (.ref a2)] 5)) t := fun t k => k117 t (by
    show Steps p.tables e below (s₁.setTop (mkF m 20 #[.val (.ref a1), .val (.ref a2), .val (.double (FP.dadd (FP.dadd (0 : UInt64) (FP.dmul u1 w1)) (FP.dmul u2 w2))), .second, .val (.int (2 : Int32))] [(.int (2 : Int32)), (.ref a2), (.double u3), (.double (FP.dadd (FP.dadd (0 : UInt64) (FP.dmul u1 w1)) (FP.dmul u2 w2)))])) _
    refine X0.daload hx (j := (2 : Int32)) (v := (.double w3)) (by rw [e0]; exact Ar118.1) (State.isArrayOf_alike hZ.alike Ar118.2.1) Ar118.2.2 hin118 hat118 (g := (mkF m 20 #[.val (.ref a1), .val (.ref a2), .val (.double (FP.dadd (FP.dadd (0 : UInt64) (FP.dmul u1 w1)) (FP.dmul u2 w2))), .second, .val (.int (2 : Int32))] [(.int (2 : Int32)), (.ref a2), (.double u3), (.double (FP.dadd (FP.dadd (0 : UInt64) (FP.dmul u1 w1)) (FP.dmul u2 w2)))])) rfl rfl (hb hby d2_20) _ ?_
    show Steps p.tables e below (s₁.setTop (mkF m 21 #[.val (.ref a1), .val (.ref a2), .val (.double (FP.dadd (FP.dadd (0 : UInt64) (FP.dmul u1 w1)) (FP.dmul u2 w2))), .second, .val (.int (2 : Int32))] [(.double w3), (.double u3), (.double (FP.dadd (FP.dadd (0 : UInt64) (FP.dmul u1 w1)) (FP.dmul u2 w2)))])) _
    refine XS.dmulS X0.here hx rfl (hb hby d2_21) rfl (nm2) rfl ?_
    show Steps p.tables e below (s₁.setTop (mkF m 22 #[.val (.ref a1), .val (.ref a2), .val (.double (FP.dadd (FP.dadd (0 : UInt64) (FP.dmul u1 w1)) (FP.dmul u2 w2))), .second, .val (.int (2 : Int32))] [(.double (FP.dmul u3 w3)), (.double (FP.dadd (FP.dadd (0 : UInt64) (FP.dmul u1 w1)) (FP.dmul u2 w2)))])) _
    refine XS.daddS X0.here hx rfl (hb hby d2_22) rfl (na2) rfl ?_
    show Steps p.tables e below (s₁.setTop (mkF m 23 #[.val (.ref a1), .val (.ref a2), .val (.double (FP.dadd (FP.dadd (0 : UInt64) (FP.dmul u1 w1)) (FP.dmul u2 w2))), .second, .val (.int (2 : Int32))] [(.double (FP.dadd (FP.dadd (FP.dadd (0 : UInt64) (FP.dmul u1 w1)) (FP.dmul u2 w2)) (FP.dmul u3 w3)))])) _
    refine XS.dstoreN X0.here hx rfl (hb hby d2_23) rfl (l' := #[.val (.ref a1), .val (.ref a2), .val (.double (FP.dadd (FP.dadd (FP.dadd (0 : UInt64) (FP.dmul u1 w1)) (FP.dmul u2 w2)) (FP.dmul u3 w3))), .second, .val (.int (2 : Int32))]) rfl ?_
    show Steps p.tables e below (s₁.setTop (mkF m 24 #[.val (.ref a1), .val (.ref a2), .val (.double (FP.dadd (FP.dadd (FP.dadd (0 : UInt64) (FP.dmul u1 w1)) (FP.dmul u2 w2)) (FP.dmul u3 w3))), .second, .val (.int (2 : Int32))] [])) _
    refine XS.iinc X0.here hx rfl (hb hby d2_24) rfl (l' := #[.val (.ref a1), .val (.ref a2), .val (.double (FP.dadd (FP.dadd (FP.dadd (0 : UInt64) (FP.dmul u1 w1)) (FP.dmul u2 w2)) (FP.dmul u3 w3))), .second, .val (.int (3 : Int32))]) rfl ?_
    show Steps p.tables e below (s₁.setTop (mkF m 27 #[.val (.ref a1), .val (.ref a2), .val (.double (FP.dadd (FP.dadd (FP.dadd (0 : UInt64) (FP.dmul u1 w1)) (FP.dmul u2 w2)) (FP.dmul u3 w3))), .second, .val (.int (3 : Int32))] [])) _
    refine XS.goto X0.here hx rfl (pc0 := 27) (pc' := 5) rfl (hb hby d2_27) (by decide) (by decide) ?_
    show Steps p.tables e below (s₁.setTop (mkF m 5 #[.val (.ref a1), .val (.ref a2), .val (.double (FP.dadd (FP.dadd (FP.dadd (0 : UInt64) (FP.dmul u1 w1)) (FP.dmul u2 w2)) (FP.dmul u3 w3))), .second, .val (.int (3 : Int32))] [])) _
    refine XS.iload X0.here hx rfl (hb hby d2_5) rfl ?_
    show Steps p.tables e below (s₁.setTop (mkF m 7 #[.val (.ref a1), .val (.ref a2), .val (.double (FP.dadd (FP.dadd (FP.dadd (0 : UInt64) (FP.dmul u1 w1)) (FP.dmul u2 w2)) (FP.dmul u3 w3))), .second, .val (.int (3 : Int32))] [(.int (3 : Int32))])) _
    refine XS.aloadN X0.here hx rfl (hb hby d2_7) rfl rfl ?_
    exact k)
  obtain ⟨c120, Ar120, -, As120, An120, -, -⟩ := id V1
  have k121 : ∀ t, Steps p.tables e below (s₁.setTop (mkF m 31 #[.val (.ref a1), .val (.ref a2), .val (.double (FP.dadd (FP.dadd (FP.dadd (0 : UInt64) (FP.dmul u1 w1)) (FP.dmul u2 w2)) (FP.dmul u3 w3))), .second, .val (.int (3 : Int32))] [(.double (FP.dadd (FP.dadd (FP.dadd (0 : UInt64) (FP.dmul u1 w1)) (FP.dmul u2 w2)) (FP.dmul u3 w3)))])) t → Steps p.tables e below (s₁.setTop (entryFrame m #[(.ref a1), (.ref a2)] 5)) t := fun t k => k119 t (by
    show Steps p.tables e below (s₁.setTop (mkF m 8 #[.val (.ref a1), .val (.ref a2), .val (.double (FP.dadd (FP.dadd (FP.dadd (0 : UInt64) (FP.dmul u1 w1)) (FP.dmul u2 w2)) (FP.dmul u3 w3))), .second, .val (.int (3 : Int32))] [(.ref a1), (.int (3 : Int32))])) _
    refine X0.arraylength hx (by rw [e0]; exact Ar120.1) (State.isArrayOf_alike hZ.alike Ar120.2.1) (g := (mkF m 8 #[.val (.ref a1), .val (.ref a2), .val (.double (FP.dadd (FP.dadd (FP.dadd (0 : UInt64) (FP.dmul u1 w1)) (FP.dmul u2 w2)) (FP.dmul u3 w3))), .second, .val (.int (3 : Int32))] [(.ref a1), (.int (3 : Int32))])) rfl rfl (hb hby d2_8) _ ?_
    rw [len_of As120 An120]
    show Steps p.tables e below (s₁.setTop (mkF m 9 #[.val (.ref a1), .val (.ref a2), .val (.double (FP.dadd (FP.dadd (FP.dadd (0 : UInt64) (FP.dmul u1 w1)) (FP.dmul u2 w2)) (FP.dmul u3 w3))), .second, .val (.int (3 : Int32))] [(.int (3 : Int32)), (.int (3 : Int32))])) _
    refine XS.icmpYes X0.here hx rfl (pc0 := 9) (pc' := 30) rfl (hb hby d2_9) rfl (flt (by decide)).2.1 (by decide) (by decide) ?_
    show Steps p.tables e below (s₁.setTop (mkF m 30 #[.val (.ref a1), .val (.ref a2), .val (.double (FP.dadd (FP.dadd (FP.dadd (0 : UInt64) (FP.dmul u1 w1)) (FP.dmul u2 w2)) (FP.dmul u3 w3))), .second, .val (.int (3 : Int32))] [])) _
    refine XS.dloadN X0.here hx rfl (hb hby d2_30) rfl ?_
    exact k)
  obtain ⟨fs, hr, hrun, hended, hW, hsame⟩ := X0.leave (v := some (.double (FP.dadd (FP.dadd (FP.dadd (0 : UInt64) (FP.dmul u1 w1)) (FP.dmul u2 w2)) (FP.dmul u3 w3)))) (fun h => by rw [Bd.returns] at h; cases h)
  refine ⟨_, _, k121 _ (retOut X0 hx (t := .double) Bd.returns rfl (Or.inr (Or.inr (Or.inl ⟨rfl, rfl, _, rfl⟩))) (hb hby d2_31) hr), hrun, hended, _, _, rfl, ?_, ⟨_, rfl⟩, hW, hsame.mono (by decide) (by decide)⟩
  show Q_dot3 Z a1 a2 k1 k2 u1 u2 u3 w1 w2 w3 h0 n0 _ s₁.heap _
  rw [e0]
  exact ⟨rfl, N0, rfl⟩
theorem ef_0_IIIIII (m : MethodId) (x0 : Int32) (x1 : Int32) (x2 : Int32) (x3 : Int32) (x4 : Int32) (x5 : Int32) : entryFrame m #[(.int x0), (.int x1), (.int x2), (.int x3), (.int x4), (.int x5)] maxLocals = mkF m 0 #[.val (.int x0), .val (.int x1), .val (.int x2), .val (.int x3), .val (.int x4), .val (.int x5), .unset, .unset, .unset, .unset, .unset, .unset, .unset, .unset, .unset, .unset, .unset, .unset, .unset, .unset, .unset, .unset, .unset, .unset, .unset] [] := by first | (simp [entryFrame, mkF, argsToLocals, Value.category, maxLocals]; done) | rfl
theorem pd__28IDDD_29_5bD : parseMethodDescriptor "(IDDD)[D" = some ⟨[.int, .double, .double, .double], some (.array .double)⟩ := by decide +kernel
theorem pd__28_5bD_5bD_29D : parseMethodDescriptor "([D[D)D" = some ⟨[(.array .double), (.array .double)], some .double⟩ := by decide +kernel
def Q_rm0 (Z : State) (x0 : Int32) (x1 : Int32) (x2 : Int32) (y0 : Int32) (y1 : Int32) (y2 : Int32) (h0 : Heap) (n0 : Nat) (v : Option Value) (h : Heap) (L : List Loc) : Prop := v = some (.int 1) ∧ Fr n0 L
set_option maxRecDepth 65536 in
set_option maxHeartbeats 40000000 in
theorem rm0 (l : Launch) (Z : State) (a0 : Array Value) (hw : ∀ d ∈ tables_1, d.before a0 Z = true) (ws : List Jvm.Cond) (x0 : Int32) (x1 : Int32) (x2 : Int32) (y0 : Int32) (y1 : Int32) (y2 : Int32) (h0 : Heap) (n0 : Nat) (Z0 : n0 ≤ h0.size) :
    MetFree l x (head1 (Jvm.Cond.code x code maxLocals ret :: ws) room_1) (fun a U => a = #[(.int x0), (.int x1), (.int x2), (.int y0), (.int y1), (.int y2)] ∧ Z.Warmed39 U.vm ∧ U.heap = h0) (fun _ _ _ _ _ => True) (fun _ U o U' => ∃ v L, o = .returned v ∧ Q_rm0 Z x0 x1 x2 y0 y1 y2 h0 n0 v U'.heap L ∧ FrameEnd U o U' L room_1.cells room_1.slots) := by
  refine MetFree.of_bodySF (plainFor_of_name pn_com_2fexample_2ffrontweave_2ffrontweave_2fclustering_2fVectorsDotPinLaw) hisR ?_
  intro p e s m args below meth c s₁ Bd hml0 hP hK
  obtain ⟨rfl, hZ, hh⟩ := hP
  have hx := Bd.exec
  have hby := Bd.bytes
  have hml : c.maxLocals = 25 := hml0
  have hown : s.vm.findClass "com/example/frontweave/frontweave/clustering/VectorsDotPinLaw" = some m.cls := findClass_of_methodNamed Bd.named
  have hnm := (name_of_methodNamed Bd.named Bd.method).1
  have X0 : Stand p l e room_1 s m #[(.int x0), (.int x1), (.int x2), (.int y0), (.int y1), (.int y2)] below meth c s₁ [] 0 0 := Stand.of_body Bd
  have e0 : s₁.heap = h0 := by rw [← hh, Bd.state]; rfl
  have N0 := Fr.nil n0
  have k0 : ∀ t, Steps p.tables e below (s₁.setTop (mkF m 0 #[.val (.int x0), .val (.int x1), .val (.int x2), .val (.int y0), .val (.int y1), .val (.int y2), .unset, .unset, .unset, .unset, .unset, .unset, .unset, .unset, .unset, .unset, .unset, .unset, .unset, .unset, .unset, .unset, .unset, .unset, .unset] [])) t → Steps p.tables e below (s₁.setTop (entryFrame m #[(.int x0), (.int x1), (.int x2), (.int y0), (.int y1), (.int y2)] maxLocals)) t := fun t k => castTop (ef_0_IIIIII m x0 x1 x2 y0 y1 y2) k
  obtain ⟨n, hn⟩ : ∃ z : Int32, z = (((x0.toUInt32 >>> ((24 : Int32) &&& 31).toUInt32).toInt32) &&& (3 : Int32)) := ⟨_, rfl⟩
  obtain ⟨la0, hla0⟩ : ∃ z : Int64, z = (((x0 <<< ((8 : Int32) &&& 31)) >>> ((8 : Int32) &&& 31)).toInt64) := ⟨_, rfl⟩
  obtain ⟨la1, hla1⟩ : ∃ z : Int64, z = (((x1 <<< ((8 : Int32) &&& 31)) >>> ((8 : Int32) &&& 31)).toInt64) := ⟨_, rfl⟩
  obtain ⟨la2, hla2⟩ : ∃ z : Int64, z = (((x2 <<< ((8 : Int32) &&& 31)) >>> ((8 : Int32) &&& 31)).toInt64) := ⟨_, rfl⟩
  obtain ⟨lb0, hlb0⟩ : ∃ z : Int64, z = (((y0 <<< ((8 : Int32) &&& 31)) >>> ((8 : Int32) &&& 31)).toInt64) := ⟨_, rfl⟩
  obtain ⟨lb1, hlb1⟩ : ∃ z : Int64, z = (((y1 <<< ((8 : Int32) &&& 31)) >>> ((8 : Int32) &&& 31)).toInt64) := ⟨_, rfl⟩
  obtain ⟨lb2, hlb2⟩ : ∃ z : Int64, z = (((y2 <<< ((8 : Int32) &&& 31)) >>> ((8 : Int32) &&& 31)).toInt64) := ⟨_, rfl⟩
  have k101 : ∀ t, Steps p.tables e below (s₁.setTop (mkF m 70 #[.val (.int x0), .val (.int x1), .val (.int x2), .val (.int y0), .val (.int y1), .val (.int y2), .val (.int n), .val (.long la0), .second, .val (.long la1), .second, .val (.long la2), .second, .val (.long lb0), .second, .val (.long lb1), .second, .val (.long lb2), .second, .unset, .unset, .unset, .unset, .unset, .unset] [])) t → Steps p.tables e below (s₁.setTop (entryFrame m #[(.int x0), (.int x1), (.int x2), (.int y0), (.int y1), (.int y2)] maxLocals)) t := fun t k => k0 t (by
    show Steps p.tables e below (s₁.setTop (mkF m 0 #[.val (.int x0), .val (.int x1), .val (.int x2), .val (.int y0), .val (.int y1), .val (.int y2), .unset, .unset, .unset, .unset, .unset, .unset, .unset, .unset, .unset, .unset, .unset, .unset, .unset, .unset, .unset, .unset, .unset, .unset, .unset] [])) _
    refine XS.iloadN X0.here hx rfl (hb hby at_0) rfl ?_
    show Steps p.tables e below (s₁.setTop (mkF m 1 #[.val (.int x0), .val (.int x1), .val (.int x2), .val (.int y0), .val (.int y1), .val (.int y2), .unset, .unset, .unset, .unset, .unset, .unset, .unset, .unset, .unset, .unset, .unset, .unset, .unset, .unset, .unset, .unset, .unset, .unset, .unset] [(.int x0)])) _
    refine XS.bipush X0.here hx rfl (hb hby at_1) ?_
    show Steps p.tables e below (s₁.setTop (mkF m 3 #[.val (.int x0), .val (.int x1), .val (.int x2), .val (.int y0), .val (.int y1), .val (.int y2), .unset, .unset, .unset, .unset, .unset, .unset, .unset, .unset, .unset, .unset, .unset, .unset, .unset, .unset, .unset, .unset, .unset, .unset, .unset] [(.int (24 : Int32)), (.int x0)])) _
    refine XS.iushr X0.here hx rfl (hb hby at_3) rfl ?_
    show Steps p.tables e below (s₁.setTop (mkF m 4 #[.val (.int x0), .val (.int x1), .val (.int x2), .val (.int y0), .val (.int y1), .val (.int y2), .unset, .unset, .unset, .unset, .unset, .unset, .unset, .unset, .unset, .unset, .unset, .unset, .unset, .unset, .unset, .unset, .unset, .unset, .unset] [(.int ((x0.toUInt32 >>> ((24 : Int32) &&& 31).toUInt32).toInt32))])) _
    refine XS.iconst X0.here hx rfl (hb hby at_4) ?_
    show Steps p.tables e below (s₁.setTop (mkF m 5 #[.val (.int x0), .val (.int x1), .val (.int x2), .val (.int y0), .val (.int y1), .val (.int y2), .unset, .unset, .unset, .unset, .unset, .unset, .unset, .unset, .unset, .unset, .unset, .unset, .unset, .unset, .unset, .unset, .unset, .unset, .unset] [(.int (3 : Int32)), (.int ((x0.toUInt32 >>> ((24 : Int32) &&& 31).toUInt32).toInt32))])) _
    refine XS.iand X0.here hx rfl (hb hby at_5) rfl ?_
    show Steps p.tables e below (s₁.setTop (mkF m 6 #[.val (.int x0), .val (.int x1), .val (.int x2), .val (.int y0), .val (.int y1), .val (.int y2), .unset, .unset, .unset, .unset, .unset, .unset, .unset, .unset, .unset, .unset, .unset, .unset, .unset, .unset, .unset, .unset, .unset, .unset, .unset] [(.int (((x0.toUInt32 >>> ((24 : Int32) &&& 31).toUInt32).toInt32) &&& (3 : Int32)))])) _
    refine castTop (g' := (mkF m 6 #[.val (.int x0), .val (.int x1), .val (.int x2), .val (.int y0), .val (.int y1), .val (.int y2), .unset, .unset, .unset, .unset, .unset, .unset, .unset, .unset, .unset, .unset, .unset, .unset, .unset, .unset, .unset, .unset, .unset, .unset, .unset] [(.int n)])) (by rw [hn]) ?_
    show Steps p.tables e below (s₁.setTop (mkF m 6 #[.val (.int x0), .val (.int x1), .val (.int x2), .val (.int y0), .val (.int y1), .val (.int y2), .unset, .unset, .unset, .unset, .unset, .unset, .unset, .unset, .unset, .unset, .unset, .unset, .unset, .unset, .unset, .unset, .unset, .unset, .unset] [(.int n)])) _
    refine XS.istore X0.here hx rfl (hb hby at_6) rfl (l' := #[.val (.int x0), .val (.int x1), .val (.int x2), .val (.int y0), .val (.int y1), .val (.int y2), .val (.int n), .unset, .unset, .unset, .unset, .unset, .unset, .unset, .unset, .unset, .unset, .unset, .unset, .unset, .unset, .unset, .unset, .unset, .unset]) rfl ?_
    show Steps p.tables e below (s₁.setTop (mkF m 8 #[.val (.int x0), .val (.int x1), .val (.int x2), .val (.int y0), .val (.int y1), .val (.int y2), .val (.int n), .unset, .unset, .unset, .unset, .unset, .unset, .unset, .unset, .unset, .unset, .unset, .unset, .unset, .unset, .unset, .unset, .unset, .unset] [])) _
    refine XS.iloadN X0.here hx rfl (hb hby at_8) rfl ?_
    show Steps p.tables e below (s₁.setTop (mkF m 9 #[.val (.int x0), .val (.int x1), .val (.int x2), .val (.int y0), .val (.int y1), .val (.int y2), .val (.int n), .unset, .unset, .unset, .unset, .unset, .unset, .unset, .unset, .unset, .unset, .unset, .unset, .unset, .unset, .unset, .unset, .unset, .unset] [(.int x0)])) _
    refine XS.bipush X0.here hx rfl (hb hby at_9) ?_
    show Steps p.tables e below (s₁.setTop (mkF m 11 #[.val (.int x0), .val (.int x1), .val (.int x2), .val (.int y0), .val (.int y1), .val (.int y2), .val (.int n), .unset, .unset, .unset, .unset, .unset, .unset, .unset, .unset, .unset, .unset, .unset, .unset, .unset, .unset, .unset, .unset, .unset, .unset] [(.int (8 : Int32)), (.int x0)])) _
    refine XS.ishl X0.here hx rfl (hb hby at_11) rfl ?_
    show Steps p.tables e below (s₁.setTop (mkF m 12 #[.val (.int x0), .val (.int x1), .val (.int x2), .val (.int y0), .val (.int y1), .val (.int y2), .val (.int n), .unset, .unset, .unset, .unset, .unset, .unset, .unset, .unset, .unset, .unset, .unset, .unset, .unset, .unset, .unset, .unset, .unset, .unset] [(.int (x0 <<< ((8 : Int32) &&& 31)))])) _
    refine XS.bipush X0.here hx rfl (hb hby at_12) ?_
    show Steps p.tables e below (s₁.setTop (mkF m 14 #[.val (.int x0), .val (.int x1), .val (.int x2), .val (.int y0), .val (.int y1), .val (.int y2), .val (.int n), .unset, .unset, .unset, .unset, .unset, .unset, .unset, .unset, .unset, .unset, .unset, .unset, .unset, .unset, .unset, .unset, .unset, .unset] [(.int (8 : Int32)), (.int (x0 <<< ((8 : Int32) &&& 31)))])) _
    refine XS.ishr X0.here hx rfl (hb hby at_14) rfl ?_
    show Steps p.tables e below (s₁.setTop (mkF m 15 #[.val (.int x0), .val (.int x1), .val (.int x2), .val (.int y0), .val (.int y1), .val (.int y2), .val (.int n), .unset, .unset, .unset, .unset, .unset, .unset, .unset, .unset, .unset, .unset, .unset, .unset, .unset, .unset, .unset, .unset, .unset, .unset] [(.int ((x0 <<< ((8 : Int32) &&& 31)) >>> ((8 : Int32) &&& 31)))])) _
    refine XS.i2l X0.here hx rfl (hb hby at_15) rfl ?_
    show Steps p.tables e below (s₁.setTop (mkF m 16 #[.val (.int x0), .val (.int x1), .val (.int x2), .val (.int y0), .val (.int y1), .val (.int y2), .val (.int n), .unset, .unset, .unset, .unset, .unset, .unset, .unset, .unset, .unset, .unset, .unset, .unset, .unset, .unset, .unset, .unset, .unset, .unset] [(.long (((x0 <<< ((8 : Int32) &&& 31)) >>> ((8 : Int32) &&& 31)).toInt64))])) _
    refine castTop (g' := (mkF m 16 #[.val (.int x0), .val (.int x1), .val (.int x2), .val (.int y0), .val (.int y1), .val (.int y2), .val (.int n), .unset, .unset, .unset, .unset, .unset, .unset, .unset, .unset, .unset, .unset, .unset, .unset, .unset, .unset, .unset, .unset, .unset, .unset] [(.long la0)])) (by rw [hla0]) ?_
    show Steps p.tables e below (s₁.setTop (mkF m 16 #[.val (.int x0), .val (.int x1), .val (.int x2), .val (.int y0), .val (.int y1), .val (.int y2), .val (.int n), .unset, .unset, .unset, .unset, .unset, .unset, .unset, .unset, .unset, .unset, .unset, .unset, .unset, .unset, .unset, .unset, .unset, .unset] [(.long la0)])) _
    refine XS.lstore X0.here hx rfl (hb hby at_16) rfl (l' := #[.val (.int x0), .val (.int x1), .val (.int x2), .val (.int y0), .val (.int y1), .val (.int y2), .val (.int n), .val (.long la0), .second, .unset, .unset, .unset, .unset, .unset, .unset, .unset, .unset, .unset, .unset, .unset, .unset, .unset, .unset, .unset, .unset]) rfl ?_
    show Steps p.tables e below (s₁.setTop (mkF m 18 #[.val (.int x0), .val (.int x1), .val (.int x2), .val (.int y0), .val (.int y1), .val (.int y2), .val (.int n), .val (.long la0), .second, .unset, .unset, .unset, .unset, .unset, .unset, .unset, .unset, .unset, .unset, .unset, .unset, .unset, .unset, .unset, .unset] [])) _
    refine XS.iloadN X0.here hx rfl (hb hby at_18) rfl ?_
    show Steps p.tables e below (s₁.setTop (mkF m 19 #[.val (.int x0), .val (.int x1), .val (.int x2), .val (.int y0), .val (.int y1), .val (.int y2), .val (.int n), .val (.long la0), .second, .unset, .unset, .unset, .unset, .unset, .unset, .unset, .unset, .unset, .unset, .unset, .unset, .unset, .unset, .unset, .unset] [(.int x1)])) _
    refine XS.bipush X0.here hx rfl (hb hby at_19) ?_
    show Steps p.tables e below (s₁.setTop (mkF m 21 #[.val (.int x0), .val (.int x1), .val (.int x2), .val (.int y0), .val (.int y1), .val (.int y2), .val (.int n), .val (.long la0), .second, .unset, .unset, .unset, .unset, .unset, .unset, .unset, .unset, .unset, .unset, .unset, .unset, .unset, .unset, .unset, .unset] [(.int (8 : Int32)), (.int x1)])) _
    refine XS.ishl X0.here hx rfl (hb hby at_21) rfl ?_
    show Steps p.tables e below (s₁.setTop (mkF m 22 #[.val (.int x0), .val (.int x1), .val (.int x2), .val (.int y0), .val (.int y1), .val (.int y2), .val (.int n), .val (.long la0), .second, .unset, .unset, .unset, .unset, .unset, .unset, .unset, .unset, .unset, .unset, .unset, .unset, .unset, .unset, .unset, .unset] [(.int (x1 <<< ((8 : Int32) &&& 31)))])) _
    refine XS.bipush X0.here hx rfl (hb hby at_22) ?_
    show Steps p.tables e below (s₁.setTop (mkF m 24 #[.val (.int x0), .val (.int x1), .val (.int x2), .val (.int y0), .val (.int y1), .val (.int y2), .val (.int n), .val (.long la0), .second, .unset, .unset, .unset, .unset, .unset, .unset, .unset, .unset, .unset, .unset, .unset, .unset, .unset, .unset, .unset, .unset] [(.int (8 : Int32)), (.int (x1 <<< ((8 : Int32) &&& 31)))])) _
    refine XS.ishr X0.here hx rfl (hb hby at_24) rfl ?_
    show Steps p.tables e below (s₁.setTop (mkF m 25 #[.val (.int x0), .val (.int x1), .val (.int x2), .val (.int y0), .val (.int y1), .val (.int y2), .val (.int n), .val (.long la0), .second, .unset, .unset, .unset, .unset, .unset, .unset, .unset, .unset, .unset, .unset, .unset, .unset, .unset, .unset, .unset, .unset] [(.int ((x1 <<< ((8 : Int32) &&& 31)) >>> ((8 : Int32) &&& 31)))])) _
    refine XS.i2l X0.here hx rfl (hb hby at_25) rfl ?_
    show Steps p.tables e below (s₁.setTop (mkF m 26 #[.val (.int x0), .val (.int x1), .val (.int x2), .val (.int y0), .val (.int y1), .val (.int y2), .val (.int n), .val (.long la0), .second, .unset, .unset, .unset, .unset, .unset, .unset, .unset, .unset, .unset, .unset, .unset, .unset, .unset, .unset, .unset, .unset] [(.long (((x1 <<< ((8 : Int32) &&& 31)) >>> ((8 : Int32) &&& 31)).toInt64))])) _
    refine castTop (g' := (mkF m 26 #[.val (.int x0), .val (.int x1), .val (.int x2), .val (.int y0), .val (.int y1), .val (.int y2), .val (.int n), .val (.long la0), .second, .unset, .unset, .unset, .unset, .unset, .unset, .unset, .unset, .unset, .unset, .unset, .unset, .unset, .unset, .unset, .unset] [(.long la1)])) (by rw [hla1]) ?_
    show Steps p.tables e below (s₁.setTop (mkF m 26 #[.val (.int x0), .val (.int x1), .val (.int x2), .val (.int y0), .val (.int y1), .val (.int y2), .val (.int n), .val (.long la0), .second, .unset, .unset, .unset, .unset, .unset, .unset, .unset, .unset, .unset, .unset, .unset, .unset, .unset, .unset, .unset, .unset] [(.long la1)])) _
    refine XS.lstore X0.here hx rfl (hb hby at_26) rfl (l' := #[.val (.int x0), .val (.int x1), .val (.int x2), .val (.int y0), .val (.int y1), .val (.int y2), .val (.int n), .val (.long la0), .second, .val (.long la1), .second, .unset, .unset, .unset, .unset, .unset, .unset, .unset, .unset, .unset, .unset, .unset, .unset, .unset, .unset]) rfl ?_
    show Steps p.tables e below (s₁.setTop (mkF m 28 #[.val (.int x0), .val (.int x1), .val (.int x2), .val (.int y0), .val (.int y1), .val (.int y2), .val (.int n), .val (.long la0), .second, .val (.long la1), .second, .unset, .unset, .unset, .unset, .unset, .unset, .unset, .unset, .unset, .unset, .unset, .unset, .unset, .unset] [])) _
    refine XS.iloadN X0.here hx rfl (hb hby at_28) rfl ?_
    show Steps p.tables e below (s₁.setTop (mkF m 29 #[.val (.int x0), .val (.int x1), .val (.int x2), .val (.int y0), .val (.int y1), .val (.int y2), .val (.int n), .val (.long la0), .second, .val (.long la1), .second, .unset, .unset, .unset, .unset, .unset, .unset, .unset, .unset, .unset, .unset, .unset, .unset, .unset, .unset] [(.int x2)])) _
    refine XS.bipush X0.here hx rfl (hb hby at_29) ?_
    show Steps p.tables e below (s₁.setTop (mkF m 31 #[.val (.int x0), .val (.int x1), .val (.int x2), .val (.int y0), .val (.int y1), .val (.int y2), .val (.int n), .val (.long la0), .second, .val (.long la1), .second, .unset, .unset, .unset, .unset, .unset, .unset, .unset, .unset, .unset, .unset, .unset, .unset, .unset, .unset] [(.int (8 : Int32)), (.int x2)])) _
    refine XS.ishl X0.here hx rfl (hb hby at_31) rfl ?_
    show Steps p.tables e below (s₁.setTop (mkF m 32 #[.val (.int x0), .val (.int x1), .val (.int x2), .val (.int y0), .val (.int y1), .val (.int y2), .val (.int n), .val (.long la0), .second, .val (.long la1), .second, .unset, .unset, .unset, .unset, .unset, .unset, .unset, .unset, .unset, .unset, .unset, .unset, .unset, .unset] [(.int (x2 <<< ((8 : Int32) &&& 31)))])) _
    refine XS.bipush X0.here hx rfl (hb hby at_32) ?_
    show Steps p.tables e below (s₁.setTop (mkF m 34 #[.val (.int x0), .val (.int x1), .val (.int x2), .val (.int y0), .val (.int y1), .val (.int y2), .val (.int n), .val (.long la0), .second, .val (.long la1), .second, .unset, .unset, .unset, .unset, .unset, .unset, .unset, .unset, .unset, .unset, .unset, .unset, .unset, .unset] [(.int (8 : Int32)), (.int (x2 <<< ((8 : Int32) &&& 31)))])) _
    refine XS.ishr X0.here hx rfl (hb hby at_34) rfl ?_
    show Steps p.tables e below (s₁.setTop (mkF m 35 #[.val (.int x0), .val (.int x1), .val (.int x2), .val (.int y0), .val (.int y1), .val (.int y2), .val (.int n), .val (.long la0), .second, .val (.long la1), .second, .unset, .unset, .unset, .unset, .unset, .unset, .unset, .unset, .unset, .unset, .unset, .unset, .unset, .unset] [(.int ((x2 <<< ((8 : Int32) &&& 31)) >>> ((8 : Int32) &&& 31)))])) _
    refine XS.i2l X0.here hx rfl (hb hby at_35) rfl ?_
    show Steps p.tables e below (s₁.setTop (mkF m 36 #[.val (.int x0), .val (.int x1), .val (.int x2), .val (.int y0), .val (.int y1), .val (.int y2), .val (.int n), .val (.long la0), .second, .val (.long la1), .second, .unset, .unset, .unset, .unset, .unset, .unset, .unset, .unset, .unset, .unset, .unset, .unset, .unset, .unset] [(.long (((x2 <<< ((8 : Int32) &&& 31)) >>> ((8 : Int32) &&& 31)).toInt64))])) _
    refine castTop (g' := (mkF m 36 #[.val (.int x0), .val (.int x1), .val (.int x2), .val (.int y0), .val (.int y1), .val (.int y2), .val (.int n), .val (.long la0), .second, .val (.long la1), .second, .unset, .unset, .unset, .unset, .unset, .unset, .unset, .unset, .unset, .unset, .unset, .unset, .unset, .unset] [(.long la2)])) (by rw [hla2]) ?_
    show Steps p.tables e below (s₁.setTop (mkF m 36 #[.val (.int x0), .val (.int x1), .val (.int x2), .val (.int y0), .val (.int y1), .val (.int y2), .val (.int n), .val (.long la0), .second, .val (.long la1), .second, .unset, .unset, .unset, .unset, .unset, .unset, .unset, .unset, .unset, .unset, .unset, .unset, .unset, .unset] [(.long la2)])) _
    refine XS.lstore X0.here hx rfl (hb hby at_36) rfl (l' := #[.val (.int x0), .val (.int x1), .val (.int x2), .val (.int y0), .val (.int y1), .val (.int y2), .val (.int n), .val (.long la0), .second, .val (.long la1), .second, .val (.long la2), .second, .unset, .unset, .unset, .unset, .unset, .unset, .unset, .unset, .unset, .unset, .unset, .unset]) rfl ?_
    show Steps p.tables e below (s₁.setTop (mkF m 38 #[.val (.int x0), .val (.int x1), .val (.int x2), .val (.int y0), .val (.int y1), .val (.int y2), .val (.int n), .val (.long la0), .second, .val (.long la1), .second, .val (.long la2), .second, .unset, .unset, .unset, .unset, .unset, .unset, .unset, .unset, .unset, .unset, .unset, .unset] [])) _
    refine XS.iloadN X0.here hx rfl (hb hby at_38) rfl ?_
    show Steps p.tables e below (s₁.setTop (mkF m 39 #[.val (.int x0), .val (.int x1), .val (.int x2), .val (.int y0), .val (.int y1), .val (.int y2), .val (.int n), .val (.long la0), .second, .val (.long la1), .second, .val (.long la2), .second, .unset, .unset, .unset, .unset, .unset, .unset, .unset, .unset, .unset, .unset, .unset, .unset] [(.int y0)])) _
    refine XS.bipush X0.here hx rfl (hb hby at_39) ?_
    show Steps p.tables e below (s₁.setTop (mkF m 41 #[.val (.int x0), .val (.int x1), .val (.int x2), .val (.int y0), .val (.int y1), .val (.int y2), .val (.int n), .val (.long la0), .second, .val (.long la1), .second, .val (.long la2), .second, .unset, .unset, .unset, .unset, .unset, .unset, .unset, .unset, .unset, .unset, .unset, .unset] [(.int (8 : Int32)), (.int y0)])) _
    refine XS.ishl X0.here hx rfl (hb hby at_41) rfl ?_
    show Steps p.tables e below (s₁.setTop (mkF m 42 #[.val (.int x0), .val (.int x1), .val (.int x2), .val (.int y0), .val (.int y1), .val (.int y2), .val (.int n), .val (.long la0), .second, .val (.long la1), .second, .val (.long la2), .second, .unset, .unset, .unset, .unset, .unset, .unset, .unset, .unset, .unset, .unset, .unset, .unset] [(.int (y0 <<< ((8 : Int32) &&& 31)))])) _
    refine XS.bipush X0.here hx rfl (hb hby at_42) ?_
    show Steps p.tables e below (s₁.setTop (mkF m 44 #[.val (.int x0), .val (.int x1), .val (.int x2), .val (.int y0), .val (.int y1), .val (.int y2), .val (.int n), .val (.long la0), .second, .val (.long la1), .second, .val (.long la2), .second, .unset, .unset, .unset, .unset, .unset, .unset, .unset, .unset, .unset, .unset, .unset, .unset] [(.int (8 : Int32)), (.int (y0 <<< ((8 : Int32) &&& 31)))])) _
    refine XS.ishr X0.here hx rfl (hb hby at_44) rfl ?_
    show Steps p.tables e below (s₁.setTop (mkF m 45 #[.val (.int x0), .val (.int x1), .val (.int x2), .val (.int y0), .val (.int y1), .val (.int y2), .val (.int n), .val (.long la0), .second, .val (.long la1), .second, .val (.long la2), .second, .unset, .unset, .unset, .unset, .unset, .unset, .unset, .unset, .unset, .unset, .unset, .unset] [(.int ((y0 <<< ((8 : Int32) &&& 31)) >>> ((8 : Int32) &&& 31)))])) _
    refine XS.i2l X0.here hx rfl (hb hby at_45) rfl ?_
    show Steps p.tables e below (s₁.setTop (mkF m 46 #[.val (.int x0), .val (.int x1), .val (.int x2), .val (.int y0), .val (.int y1), .val (.int y2), .val (.int n), .val (.long la0), .second, .val (.long la1), .second, .val (.long la2), .second, .unset, .unset, .unset, .unset, .unset, .unset, .unset, .unset, .unset, .unset, .unset, .unset] [(.long (((y0 <<< ((8 : Int32) &&& 31)) >>> ((8 : Int32) &&& 31)).toInt64))])) _
    refine castTop (g' := (mkF m 46 #[.val (.int x0), .val (.int x1), .val (.int x2), .val (.int y0), .val (.int y1), .val (.int y2), .val (.int n), .val (.long la0), .second, .val (.long la1), .second, .val (.long la2), .second, .unset, .unset, .unset, .unset, .unset, .unset, .unset, .unset, .unset, .unset, .unset, .unset] [(.long lb0)])) (by rw [hlb0]) ?_
    show Steps p.tables e below (s₁.setTop (mkF m 46 #[.val (.int x0), .val (.int x1), .val (.int x2), .val (.int y0), .val (.int y1), .val (.int y2), .val (.int n), .val (.long la0), .second, .val (.long la1), .second, .val (.long la2), .second, .unset, .unset, .unset, .unset, .unset, .unset, .unset, .unset, .unset, .unset, .unset, .unset] [(.long lb0)])) _
    refine XS.lstore X0.here hx rfl (hb hby at_46) rfl (l' := #[.val (.int x0), .val (.int x1), .val (.int x2), .val (.int y0), .val (.int y1), .val (.int y2), .val (.int n), .val (.long la0), .second, .val (.long la1), .second, .val (.long la2), .second, .val (.long lb0), .second, .unset, .unset, .unset, .unset, .unset, .unset, .unset, .unset, .unset, .unset]) rfl ?_
    show Steps p.tables e below (s₁.setTop (mkF m 48 #[.val (.int x0), .val (.int x1), .val (.int x2), .val (.int y0), .val (.int y1), .val (.int y2), .val (.int n), .val (.long la0), .second, .val (.long la1), .second, .val (.long la2), .second, .val (.long lb0), .second, .unset, .unset, .unset, .unset, .unset, .unset, .unset, .unset, .unset, .unset] [])) _
    refine XS.iload X0.here hx rfl (hb hby at_48) rfl ?_
    show Steps p.tables e below (s₁.setTop (mkF m 50 #[.val (.int x0), .val (.int x1), .val (.int x2), .val (.int y0), .val (.int y1), .val (.int y2), .val (.int n), .val (.long la0), .second, .val (.long la1), .second, .val (.long la2), .second, .val (.long lb0), .second, .unset, .unset, .unset, .unset, .unset, .unset, .unset, .unset, .unset, .unset] [(.int y1)])) _
    refine XS.bipush X0.here hx rfl (hb hby at_50) ?_
    show Steps p.tables e below (s₁.setTop (mkF m 52 #[.val (.int x0), .val (.int x1), .val (.int x2), .val (.int y0), .val (.int y1), .val (.int y2), .val (.int n), .val (.long la0), .second, .val (.long la1), .second, .val (.long la2), .second, .val (.long lb0), .second, .unset, .unset, .unset, .unset, .unset, .unset, .unset, .unset, .unset, .unset] [(.int (8 : Int32)), (.int y1)])) _
    refine XS.ishl X0.here hx rfl (hb hby at_52) rfl ?_
    show Steps p.tables e below (s₁.setTop (mkF m 53 #[.val (.int x0), .val (.int x1), .val (.int x2), .val (.int y0), .val (.int y1), .val (.int y2), .val (.int n), .val (.long la0), .second, .val (.long la1), .second, .val (.long la2), .second, .val (.long lb0), .second, .unset, .unset, .unset, .unset, .unset, .unset, .unset, .unset, .unset, .unset] [(.int (y1 <<< ((8 : Int32) &&& 31)))])) _
    refine XS.bipush X0.here hx rfl (hb hby at_53) ?_
    show Steps p.tables e below (s₁.setTop (mkF m 55 #[.val (.int x0), .val (.int x1), .val (.int x2), .val (.int y0), .val (.int y1), .val (.int y2), .val (.int n), .val (.long la0), .second, .val (.long la1), .second, .val (.long la2), .second, .val (.long lb0), .second, .unset, .unset, .unset, .unset, .unset, .unset, .unset, .unset, .unset, .unset] [(.int (8 : Int32)), (.int (y1 <<< ((8 : Int32) &&& 31)))])) _
    refine XS.ishr X0.here hx rfl (hb hby at_55) rfl ?_
    show Steps p.tables e below (s₁.setTop (mkF m 56 #[.val (.int x0), .val (.int x1), .val (.int x2), .val (.int y0), .val (.int y1), .val (.int y2), .val (.int n), .val (.long la0), .second, .val (.long la1), .second, .val (.long la2), .second, .val (.long lb0), .second, .unset, .unset, .unset, .unset, .unset, .unset, .unset, .unset, .unset, .unset] [(.int ((y1 <<< ((8 : Int32) &&& 31)) >>> ((8 : Int32) &&& 31)))])) _
    refine XS.i2l X0.here hx rfl (hb hby at_56) rfl ?_
    show Steps p.tables e below (s₁.setTop (mkF m 57 #[.val (.int x0), .val (.int x1), .val (.int x2), .val (.int y0), .val (.int y1), .val (.int y2), .val (.int n), .val (.long la0), .second, .val (.long la1), .second, .val (.long la2), .second, .val (.long lb0), .second, .unset, .unset, .unset, .unset, .unset, .unset, .unset, .unset, .unset, .unset] [(.long (((y1 <<< ((8 : Int32) &&& 31)) >>> ((8 : Int32) &&& 31)).toInt64))])) _
    refine castTop (g' := (mkF m 57 #[.val (.int x0), .val (.int x1), .val (.int x2), .val (.int y0), .val (.int y1), .val (.int y2), .val (.int n), .val (.long la0), .second, .val (.long la1), .second, .val (.long la2), .second, .val (.long lb0), .second, .unset, .unset, .unset, .unset, .unset, .unset, .unset, .unset, .unset, .unset] [(.long lb1)])) (by rw [hlb1]) ?_
    show Steps p.tables e below (s₁.setTop (mkF m 57 #[.val (.int x0), .val (.int x1), .val (.int x2), .val (.int y0), .val (.int y1), .val (.int y2), .val (.int n), .val (.long la0), .second, .val (.long la1), .second, .val (.long la2), .second, .val (.long lb0), .second, .unset, .unset, .unset, .unset, .unset, .unset, .unset, .unset, .unset, .unset] [(.long lb1)])) _
    refine XS.lstore X0.here hx rfl (hb hby at_57) rfl (l' := #[.val (.int x0), .val (.int x1), .val (.int x2), .val (.int y0), .val (.int y1), .val (.int y2), .val (.int n), .val (.long la0), .second, .val (.long la1), .second, .val (.long la2), .second, .val (.long lb0), .second, .val (.long lb1), .second, .unset, .unset, .unset, .unset, .unset, .unset, .unset, .unset]) rfl ?_
    show Steps p.tables e below (s₁.setTop (mkF m 59 #[.val (.int x0), .val (.int x1), .val (.int x2), .val (.int y0), .val (.int y1), .val (.int y2), .val (.int n), .val (.long la0), .second, .val (.long la1), .second, .val (.long la2), .second, .val (.long lb0), .second, .val (.long lb1), .second, .unset, .unset, .unset, .unset, .unset, .unset, .unset, .unset] [])) _
    refine XS.iload X0.here hx rfl (hb hby at_59) rfl ?_
    show Steps p.tables e below (s₁.setTop (mkF m 61 #[.val (.int x0), .val (.int x1), .val (.int x2), .val (.int y0), .val (.int y1), .val (.int y2), .val (.int n), .val (.long la0), .second, .val (.long la1), .second, .val (.long la2), .second, .val (.long lb0), .second, .val (.long lb1), .second, .unset, .unset, .unset, .unset, .unset, .unset, .unset, .unset] [(.int y2)])) _
    refine XS.bipush X0.here hx rfl (hb hby at_61) ?_
    show Steps p.tables e below (s₁.setTop (mkF m 63 #[.val (.int x0), .val (.int x1), .val (.int x2), .val (.int y0), .val (.int y1), .val (.int y2), .val (.int n), .val (.long la0), .second, .val (.long la1), .second, .val (.long la2), .second, .val (.long lb0), .second, .val (.long lb1), .second, .unset, .unset, .unset, .unset, .unset, .unset, .unset, .unset] [(.int (8 : Int32)), (.int y2)])) _
    refine XS.ishl X0.here hx rfl (hb hby at_63) rfl ?_
    show Steps p.tables e below (s₁.setTop (mkF m 64 #[.val (.int x0), .val (.int x1), .val (.int x2), .val (.int y0), .val (.int y1), .val (.int y2), .val (.int n), .val (.long la0), .second, .val (.long la1), .second, .val (.long la2), .second, .val (.long lb0), .second, .val (.long lb1), .second, .unset, .unset, .unset, .unset, .unset, .unset, .unset, .unset] [(.int (y2 <<< ((8 : Int32) &&& 31)))])) _
    refine XS.bipush X0.here hx rfl (hb hby at_64) ?_
    show Steps p.tables e below (s₁.setTop (mkF m 66 #[.val (.int x0), .val (.int x1), .val (.int x2), .val (.int y0), .val (.int y1), .val (.int y2), .val (.int n), .val (.long la0), .second, .val (.long la1), .second, .val (.long la2), .second, .val (.long lb0), .second, .val (.long lb1), .second, .unset, .unset, .unset, .unset, .unset, .unset, .unset, .unset] [(.int (8 : Int32)), (.int (y2 <<< ((8 : Int32) &&& 31)))])) _
    refine XS.ishr X0.here hx rfl (hb hby at_66) rfl ?_
    show Steps p.tables e below (s₁.setTop (mkF m 67 #[.val (.int x0), .val (.int x1), .val (.int x2), .val (.int y0), .val (.int y1), .val (.int y2), .val (.int n), .val (.long la0), .second, .val (.long la1), .second, .val (.long la2), .second, .val (.long lb0), .second, .val (.long lb1), .second, .unset, .unset, .unset, .unset, .unset, .unset, .unset, .unset] [(.int ((y2 <<< ((8 : Int32) &&& 31)) >>> ((8 : Int32) &&& 31)))])) _
    refine XS.i2l X0.here hx rfl (hb hby at_67) rfl ?_
    show Steps p.tables e below (s₁.setTop (mkF m 68 #[.val (.int x0), .val (.int x1), .val (.int x2), .val (.int y0), .val (.int y1), .val (.int y2), .val (.int n), .val (.long la0), .second, .val (.long la1), .second, .val (.long la2), .second, .val (.long lb0), .second, .val (.long lb1), .second, .unset, .unset, .unset, .unset, .unset, .unset, .unset, .unset] [(.long (((y2 <<< ((8 : Int32) &&& 31)) >>> ((8 : Int32) &&& 31)).toInt64))])) _
    refine castTop (g' := (mkF m 68 #[.val (.int x0), .val (.int x1), .val (.int x2), .val (.int y0), .val (.int y1), .val (.int y2), .val (.int n), .val (.long la0), .second, .val (.long la1), .second, .val (.long la2), .second, .val (.long lb0), .second, .val (.long lb1), .second, .unset, .unset, .unset, .unset, .unset, .unset, .unset, .unset] [(.long lb2)])) (by rw [hlb2]) ?_
    show Steps p.tables e below (s₁.setTop (mkF m 68 #[.val (.int x0), .val (.int x1), .val (.int x2), .val (.int y0), .val (.int y1), .val (.int y2), .val (.int n), .val (.long la0), .second, .val (.long la1), .second, .val (.long la2), .second, .val (.long lb0), .second, .val (.long lb1), .second, .unset, .unset, .unset, .unset, .unset, .unset, .unset, .unset] [(.long lb2)])) _
    refine XS.lstore X0.here hx rfl (hb hby at_68) rfl (l' := #[.val (.int x0), .val (.int x1), .val (.int x2), .val (.int y0), .val (.int y1), .val (.int y2), .val (.int n), .val (.long la0), .second, .val (.long la1), .second, .val (.long la2), .second, .val (.long lb0), .second, .val (.long lb1), .second, .val (.long lb2), .second, .unset, .unset, .unset, .unset, .unset, .unset]) rfl ?_
    exact k)
  have B_la0 : -8388608 ≤ la0.toInt ∧ la0.toInt ≤ 8388607 := by rw [hla0]; exact own_sx _
  have B_la1 : -8388608 ≤ la1.toInt ∧ la1.toInt ≤ 8388607 := by rw [hla1]; exact own_sx _
  have B_la2 : -8388608 ≤ la2.toInt ∧ la2.toInt ≤ 8388607 := by rw [hla2]; exact own_sx _
  have B_lb0 : -8388608 ≤ lb0.toInt ∧ lb0.toInt ≤ 8388607 := by rw [hlb0]; exact own_sx _
  have B_lb1 : -8388608 ≤ lb1.toInt ∧ lb1.toInt ≤ 8388607 := by rw [hlb1]; exact own_sx _
  have B_lb2 : -8388608 ≤ lb2.toInt ∧ lb2.toInt ≤ 8388607 := by rw [hlb2]; exact own_sx _
  have k102 : ∀ t, Steps p.tables e below (s₁.setTop (mkF m 73 #[.val (.int x0), .val (.int x1), .val (.int x2), .val (.int y0), .val (.int y1), .val (.int y2), .val (.int n), .val (.long la0), .second, .val (.long la1), .second, .val (.long la2), .second, .val (.long lb0), .second, .val (.long lb1), .second, .val (.long lb2), .second, .val (.long (0 : Int64)), .second, .unset, .unset, .unset, .unset] [])) t → Steps p.tables e below (s₁.setTop (entryFrame m #[(.int x0), (.int x1), (.int x2), (.int y0), (.int y1), (.int y2)] maxLocals)) t := fun t k => k101 t (by
    show Steps p.tables e below (s₁.setTop (mkF m 70 #[.val (.int x0), .val (.int x1), .val (.int x2), .val (.int y0), .val (.int y1), .val (.int y2), .val (.int n), .val (.long la0), .second, .val (.long la1), .second, .val (.long la2), .second, .val (.long lb0), .second, .val (.long lb1), .second, .val (.long lb2), .second, .unset, .unset, .unset, .unset, .unset, .unset] [])) _
    refine XS.lconst X0.here hx rfl (hb hby at_70) ?_
    show Steps p.tables e below (s₁.setTop (mkF m 71 #[.val (.int x0), .val (.int x1), .val (.int x2), .val (.int y0), .val (.int y1), .val (.int y2), .val (.int n), .val (.long la0), .second, .val (.long la1), .second, .val (.long la2), .second, .val (.long lb0), .second, .val (.long lb1), .second, .val (.long lb2), .second, .unset, .unset, .unset, .unset, .unset, .unset] [(.long (0 : Int64))])) _
    refine XS.lstore X0.here hx rfl (hb hby at_71) rfl (l' := #[.val (.int x0), .val (.int x1), .val (.int x2), .val (.int y0), .val (.int y1), .val (.int y2), .val (.int n), .val (.long la0), .second, .val (.long la1), .second, .val (.long la2), .second, .val (.long lb0), .second, .val (.long lb1), .second, .val (.long lb2), .second, .val (.long (0 : Int64)), .second, .unset, .unset, .unset, .unset]) rfl ?_
    exact k)
  rcases own_n x0 n hn with rfl | rfl | rfl | rfl
  · obtain ⟨vla0, hvla0⟩ : ∃ z : UInt64, FP.l2d la0 = z := ⟨_, rfl⟩
    have Dvla0 : Dy (la0.toInt) (0) vla0 := by rw [← hvla0]; exact Dy.l2d (by omega)
    obtain ⟨vla1, hvla1⟩ : ∃ z : UInt64, FP.l2d la1 = z := ⟨_, rfl⟩
    have Dvla1 : Dy (la1.toInt) (0) vla1 := by rw [← hvla1]; exact Dy.l2d (by omega)
    obtain ⟨vla2, hvla2⟩ : ∃ z : UInt64, FP.l2d la2 = z := ⟨_, rfl⟩
    have Dvla2 : Dy (la2.toInt) (0) vla2 := by rw [← hvla2]; exact Dy.l2d (by omega)
    have k103 : ∀ t, Steps p.tables e below (s₁.setTop (mkF m 132 #[.val (.int x0), .val (.int x1), .val (.int x2), .val (.int y0), .val (.int y1), .val (.int y2), .val (.int (0 : Int32)), .val (.long la0), .second, .val (.long la1), .second, .val (.long la2), .second, .val (.long lb0), .second, .val (.long lb1), .second, .val (.long lb2), .second, .val (.long (0 : Int64)), .second, .unset, .unset, .unset, .unset] [(.double vla2), (.double vla1), (.double vla0), (.int (0 : Int32))])) t → Steps p.tables e below (s₁.setTop (entryFrame m #[(.int x0), (.int x1), (.int x2), (.int y0), (.int y1), (.int y2)] maxLocals)) t := fun t k => k102 t (by
      show Steps p.tables e below (s₁.setTop (mkF m 73 #[.val (.int x0), .val (.int x1), .val (.int x2), .val (.int y0), .val (.int y1), .val (.int y2), .val (.int (0 : Int32)), .val (.long la0), .second, .val (.long la1), .second, .val (.long la2), .second, .val (.long lb0), .second, .val (.long lb1), .second, .val (.long lb2), .second, .val (.long (0 : Int64)), .second, .unset, .unset, .unset, .unset] [])) _
      refine XS.iload X0.here hx rfl (hb hby at_73) rfl ?_
      show Steps p.tables e below (s₁.setTop (mkF m 75 #[.val (.int x0), .val (.int x1), .val (.int x2), .val (.int y0), .val (.int y1), .val (.int y2), .val (.int (0 : Int32)), .val (.long la0), .second, .val (.long la1), .second, .val (.long la2), .second, .val (.long lb0), .second, .val (.long lb1), .second, .val (.long lb2), .second, .val (.long (0 : Int64)), .second, .unset, .unset, .unset, .unset] [(.int (0 : Int32))])) _
      refine XS.iconst X0.here hx rfl (hb hby at_75) ?_
      show Steps p.tables e below (s₁.setTop (mkF m 76 #[.val (.int x0), .val (.int x1), .val (.int x2), .val (.int y0), .val (.int y1), .val (.int y2), .val (.int (0 : Int32)), .val (.long la0), .second, .val (.long la1), .second, .val (.long la2), .second, .val (.long lb0), .second, .val (.long lb1), .second, .val (.long lb2), .second, .val (.long (0 : Int64)), .second, .unset, .unset, .unset, .unset] [(.int (1 : Int32)), (.int (0 : Int32))])) _
      refine XS.icmpYes X0.here hx rfl (pc0 := 76) (pc' := 89) rfl (hb hby at_76) rfl (tlt (by decide)).1 (by decide) (by decide) ?_
      show Steps p.tables e below (s₁.setTop (mkF m 89 #[.val (.int x0), .val (.int x1), .val (.int x2), .val (.int y0), .val (.int y1), .val (.int y2), .val (.int (0 : Int32)), .val (.long la0), .second, .val (.long la1), .second, .val (.long la2), .second, .val (.long lb0), .second, .val (.long lb1), .second, .val (.long lb2), .second, .val (.long (0 : Int64)), .second, .unset, .unset, .unset, .unset] [])) _
      refine XS.iload X0.here hx rfl (hb hby at_89) rfl ?_
      show Steps p.tables e below (s₁.setTop (mkF m 91 #[.val (.int x0), .val (.int x1), .val (.int x2), .val (.int y0), .val (.int y1), .val (.int y2), .val (.int (0 : Int32)), .val (.long la0), .second, .val (.long la1), .second, .val (.long la2), .second, .val (.long lb0), .second, .val (.long lb1), .second, .val (.long lb2), .second, .val (.long (0 : Int64)), .second, .unset, .unset, .unset, .unset] [(.int (0 : Int32))])) _
      refine XS.iconst X0.here hx rfl (hb hby at_91) ?_
      show Steps p.tables e below (s₁.setTop (mkF m 92 #[.val (.int x0), .val (.int x1), .val (.int x2), .val (.int y0), .val (.int y1), .val (.int y2), .val (.int (0 : Int32)), .val (.long la0), .second, .val (.long la1), .second, .val (.long la2), .second, .val (.long lb0), .second, .val (.long lb1), .second, .val (.long lb2), .second, .val (.long (0 : Int64)), .second, .unset, .unset, .unset, .unset] [(.int (2 : Int32)), (.int (0 : Int32))])) _
      refine XS.icmpYes X0.here hx rfl (pc0 := 92) (pc' := 105) rfl (hb hby at_92) rfl (tlt (by decide)).1 (by decide) (by decide) ?_
      show Steps p.tables e below (s₁.setTop (mkF m 105 #[.val (.int x0), .val (.int x1), .val (.int x2), .val (.int y0), .val (.int y1), .val (.int y2), .val (.int (0 : Int32)), .val (.long la0), .second, .val (.long la1), .second, .val (.long la2), .second, .val (.long lb0), .second, .val (.long lb1), .second, .val (.long lb2), .second, .val (.long (0 : Int64)), .second, .unset, .unset, .unset, .unset] [])) _
      refine XS.iload X0.here hx rfl (hb hby at_105) rfl ?_
      show Steps p.tables e below (s₁.setTop (mkF m 107 #[.val (.int x0), .val (.int x1), .val (.int x2), .val (.int y0), .val (.int y1), .val (.int y2), .val (.int (0 : Int32)), .val (.long la0), .second, .val (.long la1), .second, .val (.long la2), .second, .val (.long lb0), .second, .val (.long lb1), .second, .val (.long lb2), .second, .val (.long (0 : Int64)), .second, .unset, .unset, .unset, .unset] [(.int (0 : Int32))])) _
      refine XS.iconst X0.here hx rfl (hb hby at_107) ?_
      show Steps p.tables e below (s₁.setTop (mkF m 108 #[.val (.int x0), .val (.int x1), .val (.int x2), .val (.int y0), .val (.int y1), .val (.int y2), .val (.int (0 : Int32)), .val (.long la0), .second, .val (.long la1), .second, .val (.long la2), .second, .val (.long lb0), .second, .val (.long lb1), .second, .val (.long lb2), .second, .val (.long (0 : Int64)), .second, .unset, .unset, .unset, .unset] [(.int (3 : Int32)), (.int (0 : Int32))])) _
      refine XS.icmpYes X0.here hx rfl (pc0 := 108) (pc' := 121) rfl (hb hby at_108) rfl (tlt (by decide)).1 (by decide) (by decide) ?_
      show Steps p.tables e below (s₁.setTop (mkF m 121 #[.val (.int x0), .val (.int x1), .val (.int x2), .val (.int y0), .val (.int y1), .val (.int y2), .val (.int (0 : Int32)), .val (.long la0), .second, .val (.long la1), .second, .val (.long la2), .second, .val (.long lb0), .second, .val (.long lb1), .second, .val (.long lb2), .second, .val (.long (0 : Int64)), .second, .unset, .unset, .unset, .unset] [])) _
      refine XS.iload X0.here hx rfl (hb hby at_121) rfl ?_
      show Steps p.tables e below (s₁.setTop (mkF m 123 #[.val (.int x0), .val (.int x1), .val (.int x2), .val (.int y0), .val (.int y1), .val (.int y2), .val (.int (0 : Int32)), .val (.long la0), .second, .val (.long la1), .second, .val (.long la2), .second, .val (.long lb0), .second, .val (.long lb1), .second, .val (.long lb2), .second, .val (.long (0 : Int64)), .second, .unset, .unset, .unset, .unset] [(.int (0 : Int32))])) _
      refine XS.lload X0.here hx rfl (hb hby at_123) rfl ?_
      show Steps p.tables e below (s₁.setTop (mkF m 125 #[.val (.int x0), .val (.int x1), .val (.int x2), .val (.int y0), .val (.int y1), .val (.int y2), .val (.int (0 : Int32)), .val (.long la0), .second, .val (.long la1), .second, .val (.long la2), .second, .val (.long lb0), .second, .val (.long lb1), .second, .val (.long lb2), .second, .val (.long (0 : Int64)), .second, .unset, .unset, .unset, .unset] [(.long la0), (.int (0 : Int32))])) _
      refine XS.l2dS X0.here hx rfl (hb hby at_125) rfl hvla0 ?_
      show Steps p.tables e below (s₁.setTop (mkF m 126 #[.val (.int x0), .val (.int x1), .val (.int x2), .val (.int y0), .val (.int y1), .val (.int y2), .val (.int (0 : Int32)), .val (.long la0), .second, .val (.long la1), .second, .val (.long la2), .second, .val (.long lb0), .second, .val (.long lb1), .second, .val (.long lb2), .second, .val (.long (0 : Int64)), .second, .unset, .unset, .unset, .unset] [(.double vla0), (.int (0 : Int32))])) _
      refine XS.lload X0.here hx rfl (hb hby at_126) rfl ?_
      show Steps p.tables e below (s₁.setTop (mkF m 128 #[.val (.int x0), .val (.int x1), .val (.int x2), .val (.int y0), .val (.int y1), .val (.int y2), .val (.int (0 : Int32)), .val (.long la0), .second, .val (.long la1), .second, .val (.long la2), .second, .val (.long lb0), .second, .val (.long lb1), .second, .val (.long lb2), .second, .val (.long (0 : Int64)), .second, .unset, .unset, .unset, .unset] [(.long la1), (.double vla0), (.int (0 : Int32))])) _
      refine XS.l2dS X0.here hx rfl (hb hby at_128) rfl hvla1 ?_
      show Steps p.tables e below (s₁.setTop (mkF m 129 #[.val (.int x0), .val (.int x1), .val (.int x2), .val (.int y0), .val (.int y1), .val (.int y2), .val (.int (0 : Int32)), .val (.long la0), .second, .val (.long la1), .second, .val (.long la2), .second, .val (.long lb0), .second, .val (.long lb1), .second, .val (.long lb2), .second, .val (.long (0 : Int64)), .second, .unset, .unset, .unset, .unset] [(.double vla1), (.double vla0), (.int (0 : Int32))])) _
      refine XS.lload X0.here hx rfl (hb hby at_129) rfl ?_
      show Steps p.tables e below (s₁.setTop (mkF m 131 #[.val (.int x0), .val (.int x1), .val (.int x2), .val (.int y0), .val (.int y1), .val (.int y2), .val (.int (0 : Int32)), .val (.long la0), .second, .val (.long la1), .second, .val (.long la2), .second, .val (.long lb0), .second, .val (.long lb1), .second, .val (.long lb2), .second, .val (.long (0 : Int64)), .second, .unset, .unset, .unset, .unset] [(.long la2), (.double vla1), (.double vla0), (.int (0 : Int32))])) _
      refine XS.l2dS X0.here hx rfl (hb hby at_131) rfl hvla2 ?_
      exact k)
    obtain ⟨_, _, ⟨T104, L104, k104, n104⟩, -, X104, ⟨Lc104, hQ104, l104, y104, z104⟩, st104⟩ := Jvm.LawKit.callS X0 hx (y := (⟨"com/example/frontweave/frontweave/clustering/VectorsDotPinLaw", "vec", "(IDDD)[D"⟩ : MethodName)) hown (mvT hZ (hw _ (List.mem_of_getElem? (i := 0) rfl))) (mvT hZ (hw _ (List.mem_of_getElem? (i := 1) rfl))) (mvT hZ (hw _ (List.mem_of_getElem? (i := 2) rfl))) (mvT hZ (hw _ (List.mem_of_getElem? (i := 3) rfl))) (by decide) (backOf (W := 0) (vec0 l Z a0 hw [] vla0 vla1 vla2 h0 n0 Z0 ) hZ (hw _ (List.mem_of_getElem? (i := 3) rfl)) (hw _ (List.mem_of_getElem? (i := 2) rfl)) (by decide) (by decide)) (g := (mkF m 132 #[.val (.int x0), .val (.int x1), .val (.int x2), .val (.int y0), .val (.int y1), .val (.int y2), .val (.int (0 : Int32)), .val (.long la0), .second, .val (.long la1), .second, .val (.long la2), .second, .val (.long lb0), .second, .val (.long lb1), .second, .val (.long lb2), .second, .val (.long (0 : Int64)), .second, .unset, .unset, .unset, .unset] [(.double vla2), (.double vla1), (.double vla0), (.int (0 : Int32))])) rfl (by rw [hml]; rfl) (argsL := [(.int (0 : Int32)), (.double vla0), (.double vla1), (.double vla2)]) (rest := []) (lenOf pd__28IDDD_29_5bD rfl) rfl (by show 2 * 0 + _ ≤ _; exact Nat.le_of_eq rfl) (hb hby at_132) (fun _ _ => ⟨rfl, e0, (by decide : 0 + 1 ≤ _), (by decide : 0 + 0 ≤ _)⟩)
    dsimp only [Pt.U, Pt.locs, Pt.cells, Pt.slots] at X104 l104 y104 z104 st104 hQ104
    subst l104 y104 z104
    obtain ⟨h104, e104⟩ : ∃ h', T104.heap = h' := ⟨_, rfl⟩
    rw [e104] at hQ104
    obtain ⟨b104, kk104, rfl, N104q, gb104, K104, V104⟩ := hQ104
    have N105 := Fr.app N0 N104q
    have k106 : ∀ t, Steps p.tables e below (T104.setTop (mkF m 135 #[.val (.int x0), .val (.int x1), .val (.int x2), .val (.int y0), .val (.int y1), .val (.int y2), .val (.int (0 : Int32)), .val (.long la0), .second, .val (.long la1), .second, .val (.long la2), .second, .val (.long lb0), .second, .val (.long lb1), .second, .val (.long lb2), .second, .val (.long (0 : Int64)), .second, .unset, .unset, .unset, .unset] [(.ref b104)])) t → Steps p.tables e below (s₁.setTop (entryFrame m #[(.int x0), (.int x1), (.int x2), (.int y0), (.int y1), (.int y2)] maxLocals)) t := fun t k => k103 t (st104 t k)
    have g107 : n0 ≤ b104 := Nat.le_trans Z0 (Nat.le_of_eq gb104.symm)
    have Z108 : n0 ≤ h104.size := Nat.le_trans Z0 K104.1
    obtain ⟨vlb0, hvlb0⟩ : ∃ z : UInt64, FP.l2d lb0 = z := ⟨_, rfl⟩
    have Dvlb0 : Dy (lb0.toInt) (0) vlb0 := by rw [← hvlb0]; exact Dy.l2d (by omega)
    obtain ⟨vlb1, hvlb1⟩ : ∃ z : UInt64, FP.l2d lb1 = z := ⟨_, rfl⟩
    have Dvlb1 : Dy (lb1.toInt) (0) vlb1 := by rw [← hvlb1]; exact Dy.l2d (by omega)
    obtain ⟨vlb2, hvlb2⟩ : ∃ z : UInt64, FP.l2d lb2 = z := ⟨_, rfl⟩
    have Dvlb2 : Dy (lb2.toInt) (0) vlb2 := by rw [← hvlb2]; exact Dy.l2d (by omega)
    have k109 : ∀ t, Steps p.tables e below (T104.setTop (mkF m 148 #[.val (.int x0), .val (.int x1), .val (.int x2), .val (.int y0), .val (.int y1), .val (.int y2), .val (.int (0 : Int32)), .val (.long la0), .second, .val (.long la1), .second, .val (.long la2), .second, .val (.long lb0), .second, .val (.long lb1), .second, .val (.long lb2), .second, .val (.long (0 : Int64)), .second, .val (.ref b104), .unset, .unset, .unset] [(.double vlb2), (.double vlb1), (.double vlb0), (.int (0 : Int32))])) t → Steps p.tables e below (s₁.setTop (entryFrame m #[(.int x0), (.int x1), (.int x2), (.int y0), (.int y1), (.int y2)] maxLocals)) t := fun t k => k106 t (by
      show Steps p.tables e below (T104.setTop (mkF m 135 #[.val (.int x0), .val (.int x1), .val (.int x2), .val (.int y0), .val (.int y1), .val (.int y2), .val (.int (0 : Int32)), .val (.long la0), .second, .val (.long la1), .second, .val (.long la2), .second, .val (.long lb0), .second, .val (.long lb1), .second, .val (.long lb2), .second, .val (.long (0 : Int64)), .second, .unset, .unset, .unset, .unset] [(.ref b104)])) _
      refine XS.astore X104.here hx rfl (hb hby at_135) rfl rfl (l' := #[.val (.int x0), .val (.int x1), .val (.int x2), .val (.int y0), .val (.int y1), .val (.int y2), .val (.int (0 : Int32)), .val (.long la0), .second, .val (.long la1), .second, .val (.long la2), .second, .val (.long lb0), .second, .val (.long lb1), .second, .val (.long lb2), .second, .val (.long (0 : Int64)), .second, .val (.ref b104), .unset, .unset, .unset]) rfl ?_
      show Steps p.tables e below (T104.setTop (mkF m 137 #[.val (.int x0), .val (.int x1), .val (.int x2), .val (.int y0), .val (.int y1), .val (.int y2), .val (.int (0 : Int32)), .val (.long la0), .second, .val (.long la1), .second, .val (.long la2), .second, .val (.long lb0), .second, .val (.long lb1), .second, .val (.long lb2), .second, .val (.long (0 : Int64)), .second, .val (.ref b104), .unset, .unset, .unset] [])) _
      refine XS.iload X104.here hx rfl (hb hby at_137) rfl ?_
      show Steps p.tables e below (T104.setTop (mkF m 139 #[.val (.int x0), .val (.int x1), .val (.int x2), .val (.int y0), .val (.int y1), .val (.int y2), .val (.int (0 : Int32)), .val (.long la0), .second, .val (.long la1), .second, .val (.long la2), .second, .val (.long lb0), .second, .val (.long lb1), .second, .val (.long lb2), .second, .val (.long (0 : Int64)), .second, .val (.ref b104), .unset, .unset, .unset] [(.int (0 : Int32))])) _
      refine XS.lload X104.here hx rfl (hb hby at_139) rfl ?_
      show Steps p.tables e below (T104.setTop (mkF m 141 #[.val (.int x0), .val (.int x1), .val (.int x2), .val (.int y0), .val (.int y1), .val (.int y2), .val (.int (0 : Int32)), .val (.long la0), .second, .val (.long la1), .second, .val (.long la2), .second, .val (.long lb0), .second, .val (.long lb1), .second, .val (.long lb2), .second, .val (.long (0 : Int64)), .second, .val (.ref b104), .unset, .unset, .unset] [(.long lb0), (.int (0 : Int32))])) _
      refine XS.l2dS X104.here hx rfl (hb hby at_141) rfl hvlb0 ?_
      show Steps p.tables e below (T104.setTop (mkF m 142 #[.val (.int x0), .val (.int x1), .val (.int x2), .val (.int y0), .val (.int y1), .val (.int y2), .val (.int (0 : Int32)), .val (.long la0), .second, .val (.long la1), .second, .val (.long la2), .second, .val (.long lb0), .second, .val (.long lb1), .second, .val (.long lb2), .second, .val (.long (0 : Int64)), .second, .val (.ref b104), .unset, .unset, .unset] [(.double vlb0), (.int (0 : Int32))])) _
      refine XS.lload X104.here hx rfl (hb hby at_142) rfl ?_
      show Steps p.tables e below (T104.setTop (mkF m 144 #[.val (.int x0), .val (.int x1), .val (.int x2), .val (.int y0), .val (.int y1), .val (.int y2), .val (.int (0 : Int32)), .val (.long la0), .second, .val (.long la1), .second, .val (.long la2), .second, .val (.long lb0), .second, .val (.long lb1), .second, .val (.long lb2), .second, .val (.long (0 : Int64)), .second, .val (.ref b104), .unset, .unset, .unset] [(.long lb1), (.double vlb0), (.int (0 : Int32))])) _
      refine XS.l2dS X104.here hx rfl (hb hby at_144) rfl hvlb1 ?_
      show Steps p.tables e below (T104.setTop (mkF m 145 #[.val (.int x0), .val (.int x1), .val (.int x2), .val (.int y0), .val (.int y1), .val (.int y2), .val (.int (0 : Int32)), .val (.long la0), .second, .val (.long la1), .second, .val (.long la2), .second, .val (.long lb0), .second, .val (.long lb1), .second, .val (.long lb2), .second, .val (.long (0 : Int64)), .second, .val (.ref b104), .unset, .unset, .unset] [(.double vlb1), (.double vlb0), (.int (0 : Int32))])) _
      refine XS.lload X104.here hx rfl (hb hby at_145) rfl ?_
      show Steps p.tables e below (T104.setTop (mkF m 147 #[.val (.int x0), .val (.int x1), .val (.int x2), .val (.int y0), .val (.int y1), .val (.int y2), .val (.int (0 : Int32)), .val (.long la0), .second, .val (.long la1), .second, .val (.long la2), .second, .val (.long lb0), .second, .val (.long lb1), .second, .val (.long lb2), .second, .val (.long (0 : Int64)), .second, .val (.ref b104), .unset, .unset, .unset] [(.long lb2), (.double vlb1), (.double vlb0), (.int (0 : Int32))])) _
      refine XS.l2dS X104.here hx rfl (hb hby at_147) rfl hvlb2 ?_
      exact k)
    obtain ⟨_, _, ⟨T110, L110, k110, n110⟩, -, X110, ⟨Lc110, hQ110, l110, y110, z110⟩, st110⟩ := Jvm.LawKit.callS X104 hx (y := (⟨"com/example/frontweave/frontweave/clustering/VectorsDotPinLaw", "vec", "(IDDD)[D"⟩ : MethodName)) hown (mvT hZ (hw _ (List.mem_of_getElem? (i := 0) rfl))) (mvT hZ (hw _ (List.mem_of_getElem? (i := 1) rfl))) (mvT hZ (hw _ (List.mem_of_getElem? (i := 2) rfl))) (mvT hZ (hw _ (List.mem_of_getElem? (i := 3) rfl))) (by decide) (backOf (W := 0) (vec0 l Z a0 hw [] vlb0 vlb1 vlb2 h104 n0 Z108 ) hZ (hw _ (List.mem_of_getElem? (i := 3) rfl)) (hw _ (List.mem_of_getElem? (i := 2) rfl)) (by decide) (by decide)) (g := (mkF m 148 #[.val (.int x0), .val (.int x1), .val (.int x2), .val (.int y0), .val (.int y1), .val (.int y2), .val (.int (0 : Int32)), .val (.long la0), .second, .val (.long la1), .second, .val (.long la2), .second, .val (.long lb0), .second, .val (.long lb1), .second, .val (.long lb2), .second, .val (.long (0 : Int64)), .second, .val (.ref b104), .unset, .unset, .unset] [(.double vlb2), (.double vlb1), (.double vlb0), (.int (0 : Int32))])) rfl (by rw [hml]; rfl) (argsL := [(.int (0 : Int32)), (.double vlb0), (.double vlb1), (.double vlb2)]) (rest := []) (lenOf pd__28IDDD_29_5bD rfl) rfl (by show 2 * 0 + _ ≤ _; exact Nat.le_of_eq rfl) (hb hby at_148) (fun _ _ => ⟨rfl, e104, (by decide : 1 + 1 ≤ _), (by decide : 0 + 0 ≤ _)⟩)
    dsimp only [Pt.U, Pt.locs, Pt.cells, Pt.slots] at X110 l110 y110 z110 st110 hQ110
    subst l110 y110 z110
    obtain ⟨h110, e110⟩ : ∃ h', T110.heap = h' := ⟨_, rfl⟩
    rw [e110] at hQ110
    obtain ⟨b110, kk110, rfl, N110q, gb110, K110, V110⟩ := hQ110
    have N111 := Fr.app N105 N110q
    have k112 : ∀ t, Steps p.tables e below (T110.setTop (mkF m 151 #[.val (.int x0), .val (.int x1), .val (.int x2), .val (.int y0), .val (.int y1), .val (.int y2), .val (.int (0 : Int32)), .val (.long la0), .second, .val (.long la1), .second, .val (.long la2), .second, .val (.long lb0), .second, .val (.long lb1), .second, .val (.long lb2), .second, .val (.long (0 : Int64)), .second, .val (.ref b104), .unset, .unset, .unset] [(.ref b110)])) t → Steps p.tables e below (s₁.setTop (entryFrame m #[(.int x0), (.int x1), (.int x2), (.int y0), (.int y1), (.int y2)] maxLocals)) t := fun t k => k109 t (st110 t k)
    have n113 : b104 ≠ b110 := Nat.ne_of_lt (Nat.lt_of_lt_of_le V104.lt (Nat.le_of_eq gb110.symm))
    have g114 : n0 ≤ b110 := Nat.le_trans Z108 (Nat.le_of_eq gb110.symm)
    have F115 := V104.keep K110 nin0
    have Z116 : n0 ≤ h110.size := Nat.le_trans Z108 K110.1
    have k117 : ∀ t, Steps p.tables e below (T110.setTop (mkF m 157 #[.val (.int x0), .val (.int x1), .val (.int x2), .val (.int y0), .val (.int y1), .val (.int y2), .val (.int (0 : Int32)), .val (.long la0), .second, .val (.long la1), .second, .val (.long la2), .second, .val (.long lb0), .second, .val (.long lb1), .second, .val (.long lb2), .second, .val (.long (0 : Int64)), .second, .val (.ref b104), .val (.ref b110), .unset, .unset] [(.ref b110), (.ref b104)])) t → Steps p.tables e below (s₁.setTop (entryFrame m #[(.int x0), (.int x1), (.int x2), (.int y0), (.int y1), (.int y2)] maxLocals)) t := fun t k => k112 t (by
      show Steps p.tables e below (T110.setTop (mkF m 151 #[.val (.int x0), .val (.int x1), .val (.int x2), .val (.int y0), .val (.int y1), .val (.int y2), .val (.int (0 : Int32)), .val (.long la0), .second, .val (.long la1), .second, .val (.long la2), .second, .val (.long lb0), .second, .val (.long lb1), .second, .val (.long lb2), .second, .val (.long (0 : Int64)), .second, .val (.ref b104), .unset, .unset, .unset] [(.ref b110)])) _
      refine XS.astore X110.here hx rfl (hb hby at_151) rfl rfl (l' := #[.val (.int x0), .val (.int x1), .val (.int x2), .val (.int y0), .val (.int y1), .val (.int y2), .val (.int (0 : Int32)), .val (.long la0), .second, .val (.long la1), .second, .val (.long la2), .second, .val (.long lb0), .second, .val (.long lb1), .second, .val (.long lb2), .second, .val (.long (0 : Int64)), .second, .val (.ref b104), .val (.ref b110), .unset, .unset]) rfl ?_
      show Steps p.tables e below (T110.setTop (mkF m 153 #[.val (.int x0), .val (.int x1), .val (.int x2), .val (.int y0), .val (.int y1), .val (.int y2), .val (.int (0 : Int32)), .val (.long la0), .second, .val (.long la1), .second, .val (.long la2), .second, .val (.long lb0), .second, .val (.long lb1), .second, .val (.long lb2), .second, .val (.long (0 : Int64)), .second, .val (.ref b104), .val (.ref b110), .unset, .unset] [])) _
      refine XS.aload X110.here hx rfl (hb hby at_153) rfl rfl ?_
      show Steps p.tables e below (T110.setTop (mkF m 155 #[.val (.int x0), .val (.int x1), .val (.int x2), .val (.int y0), .val (.int y1), .val (.int y2), .val (.int (0 : Int32)), .val (.long la0), .second, .val (.long la1), .second, .val (.long la2), .second, .val (.long lb0), .second, .val (.long lb1), .second, .val (.long lb2), .second, .val (.long (0 : Int64)), .second, .val (.ref b104), .val (.ref b110), .unset, .unset] [(.ref b104)])) _
      refine XS.aload X110.here hx rfl (hb hby at_155) rfl rfl ?_
      exact k)
    obtain ⟨_, _, ⟨T118, L118, k118, n118⟩, -, X118, ⟨Lc118, hQ118, l118, y118, z118⟩, st118⟩ := Jvm.LawKit.callS X110 hx (y := (⟨"com/example/frontweave/frontweave/clustering/Vectors", "dot", "([D[D)D"⟩ : MethodName)) hown (mvT hZ (hw _ (List.mem_of_getElem? (i := 5) rfl))) (mvT hZ (hw _ (List.mem_of_getElem? (i := 6) rfl))) (mvT hZ (hw _ (List.mem_of_getElem? (i := 7) rfl))) (mvT hZ (hw _ (List.mem_of_getElem? (i := 8) rfl))) (by decide) (backOf (W := 0) (dot0 l Z a0 hw [] b104 b110 kk104 kk110 h110 n0 Z116 F115 V110) hZ (hw _ (List.mem_of_getElem? (i := 8) rfl)) (hw _ (List.mem_of_getElem? (i := 7) rfl)) (by decide) (by decide)) (g := (mkF m 157 #[.val (.int x0), .val (.int x1), .val (.int x2), .val (.int y0), .val (.int y1), .val (.int y2), .val (.int (0 : Int32)), .val (.long la0), .second, .val (.long la1), .second, .val (.long la2), .second, .val (.long lb0), .second, .val (.long lb1), .second, .val (.long lb2), .second, .val (.long (0 : Int64)), .second, .val (.ref b104), .val (.ref b110), .unset, .unset] [(.ref b110), (.ref b104)])) rfl (by rw [hml]; rfl) (argsL := [(.ref b104), (.ref b110)]) (rest := []) (lenOf pd__28_5bD_5bD_29D rfl) rfl (by show 2 * 0 + _ ≤ _; exact Nat.le_of_eq rfl) (hb hby at_157) (fun _ _ => ⟨rfl, e110, (by decide : 2 + 0 ≤ _), (by decide : 0 + 0 ≤ _)⟩)
    dsimp only [Pt.U, Pt.locs, Pt.cells, Pt.slots] at X118 l118 y118 z118 st118 hQ118
    subst l118 y118 z118
    obtain ⟨rfl, N118q, e118⟩ := hQ118
    have N119 := Fr.app N111 N118q
    have k120 : ∀ t, Steps p.tables e below (T118.setTop (mkF m 160 #[.val (.int x0), .val (.int x1), .val (.int x2), .val (.int y0), .val (.int y1), .val (.int y2), .val (.int (0 : Int32)), .val (.long la0), .second, .val (.long la1), .second, .val (.long la2), .second, .val (.long lb0), .second, .val (.long lb1), .second, .val (.long lb2), .second, .val (.long (0 : Int64)), .second, .val (.ref b104), .val (.ref b110), .unset, .unset] [(.double (0 : UInt64))])) t → Steps p.tables e below (s₁.setTop (entryFrame m #[(.int x0), (.int x1), (.int x2), (.int y0), (.int y1), (.int y2)] maxLocals)) t := fun t k => k117 t (st118 t k)
    have hr : (0 : Int64).toInt = 0 := by decide
    have hbw : (0 : Int).natAbs < 9007199254740992 := by decide
    obtain ⟨want, hwant⟩ : ∃ z : UInt64, FP.l2d (0 : Int64) = z := ⟨_, rfl⟩
    have Dwant : Dy (0) (0) want := by rw [← hwant]; exact hr ▸ Dy.l2d (by rw [hr]; exact hbw)
    have hfin : cmpValue (FP.dcmp (0 : UInt64) want) .l = (0 : Int32) := by exact Dy.cmp_eq (dy0 0) Dwant rfl .l
    have k121 : ∀ t, Steps p.tables e below (T118.setTop (mkF m 176 #[.val (.int x0), .val (.int x1), .val (.int x2), .val (.int y0), .val (.int y1), .val (.int y2), .val (.int (0 : Int32)), .val (.long la0), .second, .val (.long la1), .second, .val (.long la2), .second, .val (.long lb0), .second, .val (.long lb1), .second, .val (.long lb2), .second, .val (.long (0 : Int64)), .second, .val (.ref b104), .val (.ref b110), .val (.double (0 : UInt64)), .second] [(.int (1 : Int32))])) t → Steps p.tables e below (s₁.setTop (entryFrame m #[(.int x0), (.int x1), (.int x2), (.int y0), (.int y1), (.int y2)] maxLocals)) t := fun t k => k120 t (by
      show Steps p.tables e below (T118.setTop (mkF m 160 #[.val (.int x0), .val (.int x1), .val (.int x2), .val (.int y0), .val (.int y1), .val (.int y2), .val (.int (0 : Int32)), .val (.long la0), .second, .val (.long la1), .second, .val (.long la2), .second, .val (.long lb0), .second, .val (.long lb1), .second, .val (.long lb2), .second, .val (.long (0 : Int64)), .second, .val (.ref b104), .val (.ref b110), .unset, .unset] [(.double (0 : UInt64))])) _
      refine XS.dstore X118.here hx rfl (hb hby at_160) rfl (l' := #[.val (.int x0), .val (.int x1), .val (.int x2), .val (.int y0), .val (.int y1), .val (.int y2), .val (.int (0 : Int32)), .val (.long la0), .second, .val (.long la1), .second, .val (.long la2), .second, .val (.long lb0), .second, .val (.long lb1), .second, .val (.long lb2), .second, .val (.long (0 : Int64)), .second, .val (.ref b104), .val (.ref b110), .val (.double (0 : UInt64)), .second]) rfl ?_
      show Steps p.tables e below (T118.setTop (mkF m 162 #[.val (.int x0), .val (.int x1), .val (.int x2), .val (.int y0), .val (.int y1), .val (.int y2), .val (.int (0 : Int32)), .val (.long la0), .second, .val (.long la1), .second, .val (.long la2), .second, .val (.long lb0), .second, .val (.long lb1), .second, .val (.long lb2), .second, .val (.long (0 : Int64)), .second, .val (.ref b104), .val (.ref b110), .val (.double (0 : UInt64)), .second] [])) _
      refine XS.dload X118.here hx rfl (hb hby at_162) rfl ?_
      show Steps p.tables e below (T118.setTop (mkF m 164 #[.val (.int x0), .val (.int x1), .val (.int x2), .val (.int y0), .val (.int y1), .val (.int y2), .val (.int (0 : Int32)), .val (.long la0), .second, .val (.long la1), .second, .val (.long la2), .second, .val (.long lb0), .second, .val (.long lb1), .second, .val (.long lb2), .second, .val (.long (0 : Int64)), .second, .val (.ref b104), .val (.ref b110), .val (.double (0 : UInt64)), .second] [(.double (0 : UInt64))])) _
      refine XS.lload X118.here hx rfl (hb hby at_164) rfl ?_
      show Steps p.tables e below (T118.setTop (mkF m 166 #[.val (.int x0), .val (.int x1), .val (.int x2), .val (.int y0), .val (.int y1), .val (.int y2), .val (.int (0 : Int32)), .val (.long la0), .second, .val (.long la1), .second, .val (.long la2), .second, .val (.long lb0), .second, .val (.long lb1), .second, .val (.long lb2), .second, .val (.long (0 : Int64)), .second, .val (.ref b104), .val (.ref b110), .val (.double (0 : UInt64)), .second] [(.long (0 : Int64)), (.double (0 : UInt64))])) _
      refine XS.l2dS X118.here hx rfl (hb hby at_166) rfl hwant ?_
      show Steps p.tables e below (T118.setTop (mkF m 167 #[.val (.int x0), .val (.int x1), .val (.int x2), .val (.int y0), .val (.int y1), .val (.int y2), .val (.int (0 : Int32)), .val (.long la0), .second, .val (.long la1), .second, .val (.long la2), .second, .val (.long lb0), .second, .val (.long lb1), .second, .val (.long lb2), .second, .val (.long (0 : Int64)), .second, .val (.ref b104), .val (.ref b110), .val (.double (0 : UInt64)), .second] [(.double want), (.double (0 : UInt64))])) _
      refine XS.dcmpS X118.here hx rfl (hb hby at_167) rfl rfl ?_
      show Steps p.tables e below (T118.setTop (mkF m 168 #[.val (.int x0), .val (.int x1), .val (.int x2), .val (.int y0), .val (.int y1), .val (.int y2), .val (.int (0 : Int32)), .val (.long la0), .second, .val (.long la1), .second, .val (.long la2), .second, .val (.long lb0), .second, .val (.long lb1), .second, .val (.long lb2), .second, .val (.long (0 : Int64)), .second, .val (.ref b104), .val (.ref b110), .val (.double (0 : UInt64)), .second] [(.int (cmpValue (FP.dcmp (0 : UInt64) want) .l))])) _
      refine XS.ifNo X118.here hx rfl (hb hby at_168) rfl ((if0 _ _).trans (teq hfin).2) ?_
      show Steps p.tables e below (T118.setTop (mkF m 171 #[.val (.int x0), .val (.int x1), .val (.int x2), .val (.int y0), .val (.int y1), .val (.int y2), .val (.int (0 : Int32)), .val (.long la0), .second, .val (.long la1), .second, .val (.long la2), .second, .val (.long lb0), .second, .val (.long lb1), .second, .val (.long lb2), .second, .val (.long (0 : Int64)), .second, .val (.ref b104), .val (.ref b110), .val (.double (0 : UInt64)), .second] [])) _
      refine XS.iconst X118.here hx rfl (hb hby at_171) ?_
      show Steps p.tables e below (T118.setTop (mkF m 172 #[.val (.int x0), .val (.int x1), .val (.int x2), .val (.int y0), .val (.int y1), .val (.int y2), .val (.int (0 : Int32)), .val (.long la0), .second, .val (.long la1), .second, .val (.long la2), .second, .val (.long lb0), .second, .val (.long lb1), .second, .val (.long lb2), .second, .val (.long (0 : Int64)), .second, .val (.ref b104), .val (.ref b110), .val (.double (0 : UInt64)), .second] [(.int (1 : Int32))])) _
      refine XS.goto X118.here hx rfl (pc0 := 172) (pc' := 176) rfl (hb hby at_172) (by decide) (by decide) ?_
      exact k)
    obtain ⟨fs, hr, hrun, hended, hW, hsame⟩ := X118.leave (v := some (.int (1 : Int32))) (fun h => by rw [Bd.returns] at h; cases h)
    refine ⟨_, _, k121 _ (retOut X118 hx (t := .boolean) Bd.returns rfl (Or.inl ⟨rfl, Or.inr (Or.inl rfl), _, rfl⟩) (hb hby at_176) hr), hrun, hended, _, _, rfl, ?_, ⟨_, rfl⟩, hW, hsame.mono (by decide) (by decide)⟩
    show Q_rm0 Z x0 x1 x2 y0 y1 y2 h0 n0 _ T118.heap _
    rw [e118]
    exact ⟨rfl, N119⟩
  · obtain ⟨r1, hr1⟩ : ∃ z : Int64, z = ((0 : Int64) + (la0 * lb0)) := ⟨_, rfl⟩
    obtain ⟨vla0, hvla0⟩ : ∃ z : UInt64, FP.l2d la0 = z := ⟨_, rfl⟩
    have Dvla0 : Dy (la0.toInt) (0) vla0 := by rw [← hvla0]; exact Dy.l2d (by omega)
    obtain ⟨vla1, hvla1⟩ : ∃ z : UInt64, FP.l2d la1 = z := ⟨_, rfl⟩
    have Dvla1 : Dy (la1.toInt) (0) vla1 := by rw [← hvla1]; exact Dy.l2d (by omega)
    obtain ⟨vla2, hvla2⟩ : ∃ z : UInt64, FP.l2d la2 = z := ⟨_, rfl⟩
    have Dvla2 : Dy (la2.toInt) (0) vla2 := by rw [← hvla2]; exact Dy.l2d (by omega)
    have k122 : ∀ t, Steps p.tables e below (s₁.setTop (mkF m 132 #[.val (.int x0), .val (.int x1), .val (.int x2), .val (.int y0), .val (.int y1), .val (.int y2), .val (.int (1 : Int32)), .val (.long la0), .second, .val (.long la1), .second, .val (.long la2), .second, .val (.long lb0), .second, .val (.long lb1), .second, .val (.long lb2), .second, .val (.long r1), .second, .unset, .unset, .unset, .unset] [(.double vla2), (.double vla1), (.double vla0), (.int (1 : Int32))])) t → Steps p.tables e below (s₁.setTop (entryFrame m #[(.int x0), (.int x1), (.int x2), (.int y0), (.int y1), (.int y2)] maxLocals)) t := fun t k => k102 t (by
      show Steps p.tables e below (s₁.setTop (mkF m 73 #[.val (.int x0), .val (.int x1), .val (.int x2), .val (.int y0), .val (.int y1), .val (.int y2), .val (.int (1 : Int32)), .val (.long la0), .second, .val (.long la1), .second, .val (.long la2), .second, .val (.long lb0), .second, .val (.long lb1), .second, .val (.long lb2), .second, .val (.long (0 : Int64)), .second, .unset, .unset, .unset, .unset] [])) _
      refine XS.iload X0.here hx rfl (hb hby at_73) rfl ?_
      show Steps p.tables e below (s₁.setTop (mkF m 75 #[.val (.int x0), .val (.int x1), .val (.int x2), .val (.int y0), .val (.int y1), .val (.int y2), .val (.int (1 : Int32)), .val (.long la0), .second, .val (.long la1), .second, .val (.long la2), .second, .val (.long lb0), .second, .val (.long lb1), .second, .val (.long lb2), .second, .val (.long (0 : Int64)), .second, .unset, .unset, .unset, .unset] [(.int (1 : Int32))])) _
      refine XS.iconst X0.here hx rfl (hb hby at_75) ?_
      show Steps p.tables e below (s₁.setTop (mkF m 76 #[.val (.int x0), .val (.int x1), .val (.int x2), .val (.int y0), .val (.int y1), .val (.int y2), .val (.int (1 : Int32)), .val (.long la0), .second, .val (.long la1), .second, .val (.long la2), .second, .val (.long lb0), .second, .val (.long lb1), .second, .val (.long lb2), .second, .val (.long (0 : Int64)), .second, .unset, .unset, .unset, .unset] [(.int (1 : Int32)), (.int (1 : Int32))])) _
      refine XS.icmpNo X0.here hx rfl (hb hby at_76) rfl (flt (by decide)).1 ?_
      show Steps p.tables e below (s₁.setTop (mkF m 79 #[.val (.int x0), .val (.int x1), .val (.int x2), .val (.int y0), .val (.int y1), .val (.int y2), .val (.int (1 : Int32)), .val (.long la0), .second, .val (.long la1), .second, .val (.long la2), .second, .val (.long lb0), .second, .val (.long lb1), .second, .val (.long lb2), .second, .val (.long (0 : Int64)), .second, .unset, .unset, .unset, .unset] [])) _
      refine XS.lload X0.here hx rfl (hb hby at_79) rfl ?_
      show Steps p.tables e below (s₁.setTop (mkF m 81 #[.val (.int x0), .val (.int x1), .val (.int x2), .val (.int y0), .val (.int y1), .val (.int y2), .val (.int (1 : Int32)), .val (.long la0), .second, .val (.long la1), .second, .val (.long la2), .second, .val (.long lb0), .second, .val (.long lb1), .second, .val (.long lb2), .second, .val (.long (0 : Int64)), .second, .unset, .unset, .unset, .unset] [(.long (0 : Int64))])) _
      refine XS.lload X0.here hx rfl (hb hby at_81) rfl ?_
      show Steps p.tables e below (s₁.setTop (mkF m 83 #[.val (.int x0), .val (.int x1), .val (.int x2), .val (.int y0), .val (.int y1), .val (.int y2), .val (.int (1 : Int32)), .val (.long la0), .second, .val (.long la1), .second, .val (.long la2), .second, .val (.long lb0), .second, .val (.long lb1), .second, .val (.long lb2), .second, .val (.long (0 : Int64)), .second, .unset, .unset, .unset, .unset] [(.long la0), (.long (0 : Int64))])) _
      refine XS.lload X0.here hx rfl (hb hby at_83) rfl ?_
      show Steps p.tables e below (s₁.setTop (mkF m 85 #[.val (.int x0), .val (.int x1), .val (.int x2), .val (.int y0), .val (.int y1), .val (.int y2), .val (.int (1 : Int32)), .val (.long la0), .second, .val (.long la1), .second, .val (.long la2), .second, .val (.long lb0), .second, .val (.long lb1), .second, .val (.long lb2), .second, .val (.long (0 : Int64)), .second, .unset, .unset, .unset, .unset] [(.long lb0), (.long la0), (.long (0 : Int64))])) _
      refine XS.lmul X0.here hx rfl (hb hby at_85) rfl ?_
      show Steps p.tables e below (s₁.setTop (mkF m 86 #[.val (.int x0), .val (.int x1), .val (.int x2), .val (.int y0), .val (.int y1), .val (.int y2), .val (.int (1 : Int32)), .val (.long la0), .second, .val (.long la1), .second, .val (.long la2), .second, .val (.long lb0), .second, .val (.long lb1), .second, .val (.long lb2), .second, .val (.long (0 : Int64)), .second, .unset, .unset, .unset, .unset] [(.long (la0 * lb0)), (.long (0 : Int64))])) _
      refine XS.ladd X0.here hx rfl (hb hby at_86) rfl ?_
      show Steps p.tables e below (s₁.setTop (mkF m 87 #[.val (.int x0), .val (.int x1), .val (.int x2), .val (.int y0), .val (.int y1), .val (.int y2), .val (.int (1 : Int32)), .val (.long la0), .second, .val (.long la1), .second, .val (.long la2), .second, .val (.long lb0), .second, .val (.long lb1), .second, .val (.long lb2), .second, .val (.long (0 : Int64)), .second, .unset, .unset, .unset, .unset] [(.long ((0 : Int64) + (la0 * lb0)))])) _
      refine castTop (g' := (mkF m 87 #[.val (.int x0), .val (.int x1), .val (.int x2), .val (.int y0), .val (.int y1), .val (.int y2), .val (.int (1 : Int32)), .val (.long la0), .second, .val (.long la1), .second, .val (.long la2), .second, .val (.long lb0), .second, .val (.long lb1), .second, .val (.long lb2), .second, .val (.long (0 : Int64)), .second, .unset, .unset, .unset, .unset] [(.long r1)])) (by rw [hr1]) ?_
      show Steps p.tables e below (s₁.setTop (mkF m 87 #[.val (.int x0), .val (.int x1), .val (.int x2), .val (.int y0), .val (.int y1), .val (.int y2), .val (.int (1 : Int32)), .val (.long la0), .second, .val (.long la1), .second, .val (.long la2), .second, .val (.long lb0), .second, .val (.long lb1), .second, .val (.long lb2), .second, .val (.long (0 : Int64)), .second, .unset, .unset, .unset, .unset] [(.long r1)])) _
      refine XS.lstore X0.here hx rfl (hb hby at_87) rfl (l' := #[.val (.int x0), .val (.int x1), .val (.int x2), .val (.int y0), .val (.int y1), .val (.int y2), .val (.int (1 : Int32)), .val (.long la0), .second, .val (.long la1), .second, .val (.long la2), .second, .val (.long lb0), .second, .val (.long lb1), .second, .val (.long lb2), .second, .val (.long r1), .second, .unset, .unset, .unset, .unset]) rfl ?_
      show Steps p.tables e below (s₁.setTop (mkF m 89 #[.val (.int x0), .val (.int x1), .val (.int x2), .val (.int y0), .val (.int y1), .val (.int y2), .val (.int (1 : Int32)), .val (.long la0), .second, .val (.long la1), .second, .val (.long la2), .second, .val (.long lb0), .second, .val (.long lb1), .second, .val (.long lb2), .second, .val (.long r1), .second, .unset, .unset, .unset, .unset] [])) _
      refine XS.iload X0.here hx rfl (hb hby at_89) rfl ?_
      show Steps p.tables e below (s₁.setTop (mkF m 91 #[.val (.int x0), .val (.int x1), .val (.int x2), .val (.int y0), .val (.int y1), .val (.int y2), .val (.int (1 : Int32)), .val (.long la0), .second, .val (.long la1), .second, .val (.long la2), .second, .val (.long lb0), .second, .val (.long lb1), .second, .val (.long lb2), .second, .val (.long r1), .second, .unset, .unset, .unset, .unset] [(.int (1 : Int32))])) _
      refine XS.iconst X0.here hx rfl (hb hby at_91) ?_
      show Steps p.tables e below (s₁.setTop (mkF m 92 #[.val (.int x0), .val (.int x1), .val (.int x2), .val (.int y0), .val (.int y1), .val (.int y2), .val (.int (1 : Int32)), .val (.long la0), .second, .val (.long la1), .second, .val (.long la2), .second, .val (.long lb0), .second, .val (.long lb1), .second, .val (.long lb2), .second, .val (.long r1), .second, .unset, .unset, .unset, .unset] [(.int (2 : Int32)), (.int (1 : Int32))])) _
      refine XS.icmpYes X0.here hx rfl (pc0 := 92) (pc' := 105) rfl (hb hby at_92) rfl (tlt (by decide)).1 (by decide) (by decide) ?_
      show Steps p.tables e below (s₁.setTop (mkF m 105 #[.val (.int x0), .val (.int x1), .val (.int x2), .val (.int y0), .val (.int y1), .val (.int y2), .val (.int (1 : Int32)), .val (.long la0), .second, .val (.long la1), .second, .val (.long la2), .second, .val (.long lb0), .second, .val (.long lb1), .second, .val (.long lb2), .second, .val (.long r1), .second, .unset, .unset, .unset, .unset] [])) _
      refine XS.iload X0.here hx rfl (hb hby at_105) rfl ?_
      show Steps p.tables e below (s₁.setTop (mkF m 107 #[.val (.int x0), .val (.int x1), .val (.int x2), .val (.int y0), .val (.int y1), .val (.int y2), .val (.int (1 : Int32)), .val (.long la0), .second, .val (.long la1), .second, .val (.long la2), .second, .val (.long lb0), .second, .val (.long lb1), .second, .val (.long lb2), .second, .val (.long r1), .second, .unset, .unset, .unset, .unset] [(.int (1 : Int32))])) _
      refine XS.iconst X0.here hx rfl (hb hby at_107) ?_
      show Steps p.tables e below (s₁.setTop (mkF m 108 #[.val (.int x0), .val (.int x1), .val (.int x2), .val (.int y0), .val (.int y1), .val (.int y2), .val (.int (1 : Int32)), .val (.long la0), .second, .val (.long la1), .second, .val (.long la2), .second, .val (.long lb0), .second, .val (.long lb1), .second, .val (.long lb2), .second, .val (.long r1), .second, .unset, .unset, .unset, .unset] [(.int (3 : Int32)), (.int (1 : Int32))])) _
      refine XS.icmpYes X0.here hx rfl (pc0 := 108) (pc' := 121) rfl (hb hby at_108) rfl (tlt (by decide)).1 (by decide) (by decide) ?_
      show Steps p.tables e below (s₁.setTop (mkF m 121 #[.val (.int x0), .val (.int x1), .val (.int x2), .val (.int y0), .val (.int y1), .val (.int y2), .val (.int (1 : Int32)), .val (.long la0), .second, .val (.long la1), .second, .val (.long la2), .second, .val (.long lb0), .second, .val (.long lb1), .second, .val (.long lb2), .second, .val (.long r1), .second, .unset, .unset, .unset, .unset] [])) _
      refine XS.iload X0.here hx rfl (hb hby at_121) rfl ?_
      show Steps p.tables e below (s₁.setTop (mkF m 123 #[.val (.int x0), .val (.int x1), .val (.int x2), .val (.int y0), .val (.int y1), .val (.int y2), .val (.int (1 : Int32)), .val (.long la0), .second, .val (.long la1), .second, .val (.long la2), .second, .val (.long lb0), .second, .val (.long lb1), .second, .val (.long lb2), .second, .val (.long r1), .second, .unset, .unset, .unset, .unset] [(.int (1 : Int32))])) _
      refine XS.lload X0.here hx rfl (hb hby at_123) rfl ?_
      show Steps p.tables e below (s₁.setTop (mkF m 125 #[.val (.int x0), .val (.int x1), .val (.int x2), .val (.int y0), .val (.int y1), .val (.int y2), .val (.int (1 : Int32)), .val (.long la0), .second, .val (.long la1), .second, .val (.long la2), .second, .val (.long lb0), .second, .val (.long lb1), .second, .val (.long lb2), .second, .val (.long r1), .second, .unset, .unset, .unset, .unset] [(.long la0), (.int (1 : Int32))])) _
      refine XS.l2dS X0.here hx rfl (hb hby at_125) rfl hvla0 ?_
      show Steps p.tables e below (s₁.setTop (mkF m 126 #[.val (.int x0), .val (.int x1), .val (.int x2), .val (.int y0), .val (.int y1), .val (.int y2), .val (.int (1 : Int32)), .val (.long la0), .second, .val (.long la1), .second, .val (.long la2), .second, .val (.long lb0), .second, .val (.long lb1), .second, .val (.long lb2), .second, .val (.long r1), .second, .unset, .unset, .unset, .unset] [(.double vla0), (.int (1 : Int32))])) _
      refine XS.lload X0.here hx rfl (hb hby at_126) rfl ?_
      show Steps p.tables e below (s₁.setTop (mkF m 128 #[.val (.int x0), .val (.int x1), .val (.int x2), .val (.int y0), .val (.int y1), .val (.int y2), .val (.int (1 : Int32)), .val (.long la0), .second, .val (.long la1), .second, .val (.long la2), .second, .val (.long lb0), .second, .val (.long lb1), .second, .val (.long lb2), .second, .val (.long r1), .second, .unset, .unset, .unset, .unset] [(.long la1), (.double vla0), (.int (1 : Int32))])) _
      refine XS.l2dS X0.here hx rfl (hb hby at_128) rfl hvla1 ?_
      show Steps p.tables e below (s₁.setTop (mkF m 129 #[.val (.int x0), .val (.int x1), .val (.int x2), .val (.int y0), .val (.int y1), .val (.int y2), .val (.int (1 : Int32)), .val (.long la0), .second, .val (.long la1), .second, .val (.long la2), .second, .val (.long lb0), .second, .val (.long lb1), .second, .val (.long lb2), .second, .val (.long r1), .second, .unset, .unset, .unset, .unset] [(.double vla1), (.double vla0), (.int (1 : Int32))])) _
      refine XS.lload X0.here hx rfl (hb hby at_129) rfl ?_
      show Steps p.tables e below (s₁.setTop (mkF m 131 #[.val (.int x0), .val (.int x1), .val (.int x2), .val (.int y0), .val (.int y1), .val (.int y2), .val (.int (1 : Int32)), .val (.long la0), .second, .val (.long la1), .second, .val (.long la2), .second, .val (.long lb0), .second, .val (.long lb1), .second, .val (.long lb2), .second, .val (.long r1), .second, .unset, .unset, .unset, .unset] [(.long la2), (.double vla1), (.double vla0), (.int (1 : Int32))])) _
      refine XS.l2dS X0.here hx rfl (hb hby at_131) rfl hvla2 ?_
      exact k)
    obtain ⟨_, _, ⟨T123, L123, k123, n123⟩, -, X123, ⟨Lc123, hQ123, l123, y123, z123⟩, st123⟩ := Jvm.LawKit.callS X0 hx (y := (⟨"com/example/frontweave/frontweave/clustering/VectorsDotPinLaw", "vec", "(IDDD)[D"⟩ : MethodName)) hown (mvT hZ (hw _ (List.mem_of_getElem? (i := 0) rfl))) (mvT hZ (hw _ (List.mem_of_getElem? (i := 1) rfl))) (mvT hZ (hw _ (List.mem_of_getElem? (i := 2) rfl))) (mvT hZ (hw _ (List.mem_of_getElem? (i := 3) rfl))) (by decide) (backOf (W := 0) (vec1 l Z a0 hw [] vla0 vla1 vla2 h0 n0 Z0 ) hZ (hw _ (List.mem_of_getElem? (i := 3) rfl)) (hw _ (List.mem_of_getElem? (i := 2) rfl)) (by decide) (by decide)) (g := (mkF m 132 #[.val (.int x0), .val (.int x1), .val (.int x2), .val (.int y0), .val (.int y1), .val (.int y2), .val (.int (1 : Int32)), .val (.long la0), .second, .val (.long la1), .second, .val (.long la2), .second, .val (.long lb0), .second, .val (.long lb1), .second, .val (.long lb2), .second, .val (.long r1), .second, .unset, .unset, .unset, .unset] [(.double vla2), (.double vla1), (.double vla0), (.int (1 : Int32))])) rfl (by rw [hml]; rfl) (argsL := [(.int (1 : Int32)), (.double vla0), (.double vla1), (.double vla2)]) (rest := []) (lenOf pd__28IDDD_29_5bD rfl) rfl (by show 2 * 0 + _ ≤ _; exact Nat.le_of_eq rfl) (hb hby at_132) (fun _ _ => ⟨rfl, e0, (by decide : 0 + 1 ≤ _), (by decide : 0 + 1 ≤ _)⟩)
    dsimp only [Pt.U, Pt.locs, Pt.cells, Pt.slots] at X123 l123 y123 z123 st123 hQ123
    subst l123 y123 z123
    obtain ⟨h123, e123⟩ : ∃ h', T123.heap = h' := ⟨_, rfl⟩
    rw [e123] at hQ123
    obtain ⟨b123, kk123, rfl, N123q, gb123, K123, V123⟩ := hQ123
    have N124 := Fr.app N0 N123q
    have k125 : ∀ t, Steps p.tables e below (T123.setTop (mkF m 135 #[.val (.int x0), .val (.int x1), .val (.int x2), .val (.int y0), .val (.int y1), .val (.int y2), .val (.int (1 : Int32)), .val (.long la0), .second, .val (.long la1), .second, .val (.long la2), .second, .val (.long lb0), .second, .val (.long lb1), .second, .val (.long lb2), .second, .val (.long r1), .second, .unset, .unset, .unset, .unset] [(.ref b123)])) t → Steps p.tables e below (s₁.setTop (entryFrame m #[(.int x0), (.int x1), (.int x2), (.int y0), (.int y1), (.int y2)] maxLocals)) t := fun t k => k122 t (st123 t k)
    have g126 : n0 ≤ b123 := Nat.le_trans Z0 (Nat.le_of_eq gb123.symm)
    have Z127 : n0 ≤ h123.size := Nat.le_trans Z0 K123.1
    obtain ⟨vlb0, hvlb0⟩ : ∃ z : UInt64, FP.l2d lb0 = z := ⟨_, rfl⟩
    have Dvlb0 : Dy (lb0.toInt) (0) vlb0 := by rw [← hvlb0]; exact Dy.l2d (by omega)
    obtain ⟨vlb1, hvlb1⟩ : ∃ z : UInt64, FP.l2d lb1 = z := ⟨_, rfl⟩
    have Dvlb1 : Dy (lb1.toInt) (0) vlb1 := by rw [← hvlb1]; exact Dy.l2d (by omega)
    obtain ⟨vlb2, hvlb2⟩ : ∃ z : UInt64, FP.l2d lb2 = z := ⟨_, rfl⟩
    have Dvlb2 : Dy (lb2.toInt) (0) vlb2 := by rw [← hvlb2]; exact Dy.l2d (by omega)
    have k128 : ∀ t, Steps p.tables e below (T123.setTop (mkF m 148 #[.val (.int x0), .val (.int x1), .val (.int x2), .val (.int y0), .val (.int y1), .val (.int y2), .val (.int (1 : Int32)), .val (.long la0), .second, .val (.long la1), .second, .val (.long la2), .second, .val (.long lb0), .second, .val (.long lb1), .second, .val (.long lb2), .second, .val (.long r1), .second, .val (.ref b123), .unset, .unset, .unset] [(.double vlb2), (.double vlb1), (.double vlb0), (.int (1 : Int32))])) t → Steps p.tables e below (s₁.setTop (entryFrame m #[(.int x0), (.int x1), (.int x2), (.int y0), (.int y1), (.int y2)] maxLocals)) t := fun t k => k125 t (by
      show Steps p.tables e below (T123.setTop (mkF m 135 #[.val (.int x0), .val (.int x1), .val (.int x2), .val (.int y0), .val (.int y1), .val (.int y2), .val (.int (1 : Int32)), .val (.long la0), .second, .val (.long la1), .second, .val (.long la2), .second, .val (.long lb0), .second, .val (.long lb1), .second, .val (.long lb2), .second, .val (.long r1), .second, .unset, .unset, .unset, .unset] [(.ref b123)])) _
      refine XS.astore X123.here hx rfl (hb hby at_135) rfl rfl (l' := #[.val (.int x0), .val (.int x1), .val (.int x2), .val (.int y0), .val (.int y1), .val (.int y2), .val (.int (1 : Int32)), .val (.long la0), .second, .val (.long la1), .second, .val (.long la2), .second, .val (.long lb0), .second, .val (.long lb1), .second, .val (.long lb2), .second, .val (.long r1), .second, .val (.ref b123), .unset, .unset, .unset]) rfl ?_
      show Steps p.tables e below (T123.setTop (mkF m 137 #[.val (.int x0), .val (.int x1), .val (.int x2), .val (.int y0), .val (.int y1), .val (.int y2), .val (.int (1 : Int32)), .val (.long la0), .second, .val (.long la1), .second, .val (.long la2), .second, .val (.long lb0), .second, .val (.long lb1), .second, .val (.long lb2), .second, .val (.long r1), .second, .val (.ref b123), .unset, .unset, .unset] [])) _
      refine XS.iload X123.here hx rfl (hb hby at_137) rfl ?_
      show Steps p.tables e below (T123.setTop (mkF m 139 #[.val (.int x0), .val (.int x1), .val (.int x2), .val (.int y0), .val (.int y1), .val (.int y2), .val (.int (1 : Int32)), .val (.long la0), .second, .val (.long la1), .second, .val (.long la2), .second, .val (.long lb0), .second, .val (.long lb1), .second, .val (.long lb2), .second, .val (.long r1), .second, .val (.ref b123), .unset, .unset, .unset] [(.int (1 : Int32))])) _
      refine XS.lload X123.here hx rfl (hb hby at_139) rfl ?_
      show Steps p.tables e below (T123.setTop (mkF m 141 #[.val (.int x0), .val (.int x1), .val (.int x2), .val (.int y0), .val (.int y1), .val (.int y2), .val (.int (1 : Int32)), .val (.long la0), .second, .val (.long la1), .second, .val (.long la2), .second, .val (.long lb0), .second, .val (.long lb1), .second, .val (.long lb2), .second, .val (.long r1), .second, .val (.ref b123), .unset, .unset, .unset] [(.long lb0), (.int (1 : Int32))])) _
      refine XS.l2dS X123.here hx rfl (hb hby at_141) rfl hvlb0 ?_
      show Steps p.tables e below (T123.setTop (mkF m 142 #[.val (.int x0), .val (.int x1), .val (.int x2), .val (.int y0), .val (.int y1), .val (.int y2), .val (.int (1 : Int32)), .val (.long la0), .second, .val (.long la1), .second, .val (.long la2), .second, .val (.long lb0), .second, .val (.long lb1), .second, .val (.long lb2), .second, .val (.long r1), .second, .val (.ref b123), .unset, .unset, .unset] [(.double vlb0), (.int (1 : Int32))])) _
      refine XS.lload X123.here hx rfl (hb hby at_142) rfl ?_
      show Steps p.tables e below (T123.setTop (mkF m 144 #[.val (.int x0), .val (.int x1), .val (.int x2), .val (.int y0), .val (.int y1), .val (.int y2), .val (.int (1 : Int32)), .val (.long la0), .second, .val (.long la1), .second, .val (.long la2), .second, .val (.long lb0), .second, .val (.long lb1), .second, .val (.long lb2), .second, .val (.long r1), .second, .val (.ref b123), .unset, .unset, .unset] [(.long lb1), (.double vlb0), (.int (1 : Int32))])) _
      refine XS.l2dS X123.here hx rfl (hb hby at_144) rfl hvlb1 ?_
      show Steps p.tables e below (T123.setTop (mkF m 145 #[.val (.int x0), .val (.int x1), .val (.int x2), .val (.int y0), .val (.int y1), .val (.int y2), .val (.int (1 : Int32)), .val (.long la0), .second, .val (.long la1), .second, .val (.long la2), .second, .val (.long lb0), .second, .val (.long lb1), .second, .val (.long lb2), .second, .val (.long r1), .second, .val (.ref b123), .unset, .unset, .unset] [(.double vlb1), (.double vlb0), (.int (1 : Int32))])) _
      refine XS.lload X123.here hx rfl (hb hby at_145) rfl ?_
      show Steps p.tables e below (T123.setTop (mkF m 147 #[.val (.int x0), .val (.int x1), .val (.int x2), .val (.int y0), .val (.int y1), .val (.int y2), .val (.int (1 : Int32)), .val (.long la0), .second, .val (.long la1), .second, .val (.long la2), .second, .val (.long lb0), .second, .val (.long lb1), .second, .val (.long lb2), .second, .val (.long r1), .second, .val (.ref b123), .unset, .unset, .unset] [(.long lb2), (.double vlb1), (.double vlb0), (.int (1 : Int32))])) _
      refine XS.l2dS X123.here hx rfl (hb hby at_147) rfl hvlb2 ?_
      exact k)
    obtain ⟨_, _, ⟨T129, L129, k129, n129⟩, -, X129, ⟨Lc129, hQ129, l129, y129, z129⟩, st129⟩ := Jvm.LawKit.callS X123 hx (y := (⟨"com/example/frontweave/frontweave/clustering/VectorsDotPinLaw", "vec", "(IDDD)[D"⟩ : MethodName)) hown (mvT hZ (hw _ (List.mem_of_getElem? (i := 0) rfl))) (mvT hZ (hw _ (List.mem_of_getElem? (i := 1) rfl))) (mvT hZ (hw _ (List.mem_of_getElem? (i := 2) rfl))) (mvT hZ (hw _ (List.mem_of_getElem? (i := 3) rfl))) (by decide) (backOf (W := 0) (vec1 l Z a0 hw [] vlb0 vlb1 vlb2 h123 n0 Z127 ) hZ (hw _ (List.mem_of_getElem? (i := 3) rfl)) (hw _ (List.mem_of_getElem? (i := 2) rfl)) (by decide) (by decide)) (g := (mkF m 148 #[.val (.int x0), .val (.int x1), .val (.int x2), .val (.int y0), .val (.int y1), .val (.int y2), .val (.int (1 : Int32)), .val (.long la0), .second, .val (.long la1), .second, .val (.long la2), .second, .val (.long lb0), .second, .val (.long lb1), .second, .val (.long lb2), .second, .val (.long r1), .second, .val (.ref b123), .unset, .unset, .unset] [(.double vlb2), (.double vlb1), (.double vlb0), (.int (1 : Int32))])) rfl (by rw [hml]; rfl) (argsL := [(.int (1 : Int32)), (.double vlb0), (.double vlb1), (.double vlb2)]) (rest := []) (lenOf pd__28IDDD_29_5bD rfl) rfl (by show 2 * 0 + _ ≤ _; exact Nat.le_of_eq rfl) (hb hby at_148) (fun _ _ => ⟨rfl, e123, (by decide : 1 + 1 ≤ _), (by decide : 1 + 1 ≤ _)⟩)
    dsimp only [Pt.U, Pt.locs, Pt.cells, Pt.slots] at X129 l129 y129 z129 st129 hQ129
    subst l129 y129 z129
    obtain ⟨h129, e129⟩ : ∃ h', T129.heap = h' := ⟨_, rfl⟩
    rw [e129] at hQ129
    obtain ⟨b129, kk129, rfl, N129q, gb129, K129, V129⟩ := hQ129
    have N130 := Fr.app N124 N129q
    have k131 : ∀ t, Steps p.tables e below (T129.setTop (mkF m 151 #[.val (.int x0), .val (.int x1), .val (.int x2), .val (.int y0), .val (.int y1), .val (.int y2), .val (.int (1 : Int32)), .val (.long la0), .second, .val (.long la1), .second, .val (.long la2), .second, .val (.long lb0), .second, .val (.long lb1), .second, .val (.long lb2), .second, .val (.long r1), .second, .val (.ref b123), .unset, .unset, .unset] [(.ref b129)])) t → Steps p.tables e below (s₁.setTop (entryFrame m #[(.int x0), (.int x1), (.int x2), (.int y0), (.int y1), (.int y2)] maxLocals)) t := fun t k => k128 t (st129 t k)
    have n132 : b123 ≠ b129 := Nat.ne_of_lt (Nat.lt_of_lt_of_le V123.lt (Nat.le_of_eq gb129.symm))
    have g133 : n0 ≤ b129 := Nat.le_trans Z127 (Nat.le_of_eq gb129.symm)
    have F134 := V123.keep K129 nin0
    have Z135 : n0 ≤ h129.size := Nat.le_trans Z127 K129.1
    obtain ⟨O0, O1⟩ := own_dot1 B_la0 B_lb0 Dvla0 Dvlb0
    have k136 : ∀ t, Steps p.tables e below (T129.setTop (mkF m 157 #[.val (.int x0), .val (.int x1), .val (.int x2), .val (.int y0), .val (.int y1), .val (.int y2), .val (.int (1 : Int32)), .val (.long la0), .second, .val (.long la1), .second, .val (.long la2), .second, .val (.long lb0), .second, .val (.long lb1), .second, .val (.long lb2), .second, .val (.long r1), .second, .val (.ref b123), .val (.ref b129), .unset, .unset] [(.ref b129), (.ref b123)])) t → Steps p.tables e below (s₁.setTop (entryFrame m #[(.int x0), (.int x1), (.int x2), (.int y0), (.int y1), (.int y2)] maxLocals)) t := fun t k => k131 t (by
      show Steps p.tables e below (T129.setTop (mkF m 151 #[.val (.int x0), .val (.int x1), .val (.int x2), .val (.int y0), .val (.int y1), .val (.int y2), .val (.int (1 : Int32)), .val (.long la0), .second, .val (.long la1), .second, .val (.long la2), .second, .val (.long lb0), .second, .val (.long lb1), .second, .val (.long lb2), .second, .val (.long r1), .second, .val (.ref b123), .unset, .unset, .unset] [(.ref b129)])) _
      refine XS.astore X129.here hx rfl (hb hby at_151) rfl rfl (l' := #[.val (.int x0), .val (.int x1), .val (.int x2), .val (.int y0), .val (.int y1), .val (.int y2), .val (.int (1 : Int32)), .val (.long la0), .second, .val (.long la1), .second, .val (.long la2), .second, .val (.long lb0), .second, .val (.long lb1), .second, .val (.long lb2), .second, .val (.long r1), .second, .val (.ref b123), .val (.ref b129), .unset, .unset]) rfl ?_
      show Steps p.tables e below (T129.setTop (mkF m 153 #[.val (.int x0), .val (.int x1), .val (.int x2), .val (.int y0), .val (.int y1), .val (.int y2), .val (.int (1 : Int32)), .val (.long la0), .second, .val (.long la1), .second, .val (.long la2), .second, .val (.long lb0), .second, .val (.long lb1), .second, .val (.long lb2), .second, .val (.long r1), .second, .val (.ref b123), .val (.ref b129), .unset, .unset] [])) _
      refine XS.aload X129.here hx rfl (hb hby at_153) rfl rfl ?_
      show Steps p.tables e below (T129.setTop (mkF m 155 #[.val (.int x0), .val (.int x1), .val (.int x2), .val (.int y0), .val (.int y1), .val (.int y2), .val (.int (1 : Int32)), .val (.long la0), .second, .val (.long la1), .second, .val (.long la2), .second, .val (.long lb0), .second, .val (.long lb1), .second, .val (.long lb2), .second, .val (.long r1), .second, .val (.ref b123), .val (.ref b129), .unset, .unset] [(.ref b123)])) _
      refine XS.aload X129.here hx rfl (hb hby at_155) rfl rfl ?_
      exact k)
    obtain ⟨_, _, ⟨T137, L137, k137, n137⟩, -, X137, ⟨Lc137, hQ137, l137, y137, z137⟩, st137⟩ := Jvm.LawKit.callS X129 hx (y := (⟨"com/example/frontweave/frontweave/clustering/Vectors", "dot", "([D[D)D"⟩ : MethodName)) hown (mvT hZ (hw _ (List.mem_of_getElem? (i := 5) rfl))) (mvT hZ (hw _ (List.mem_of_getElem? (i := 6) rfl))) (mvT hZ (hw _ (List.mem_of_getElem? (i := 7) rfl))) (mvT hZ (hw _ (List.mem_of_getElem? (i := 8) rfl))) (by decide) (backOf (W := 0) (dot1 l Z a0 hw [] b123 b129 kk123 kk129 vla0 vlb0 h129 n0 Z135 F134 V129 O0.nn O1.nn) hZ (hw _ (List.mem_of_getElem? (i := 8) rfl)) (hw _ (List.mem_of_getElem? (i := 7) rfl)) (by decide) (by decide)) (g := (mkF m 157 #[.val (.int x0), .val (.int x1), .val (.int x2), .val (.int y0), .val (.int y1), .val (.int y2), .val (.int (1 : Int32)), .val (.long la0), .second, .val (.long la1), .second, .val (.long la2), .second, .val (.long lb0), .second, .val (.long lb1), .second, .val (.long lb2), .second, .val (.long r1), .second, .val (.ref b123), .val (.ref b129), .unset, .unset] [(.ref b129), (.ref b123)])) rfl (by rw [hml]; rfl) (argsL := [(.ref b123), (.ref b129)]) (rest := []) (lenOf pd__28_5bD_5bD_29D rfl) rfl (by show 2 * 0 + _ ≤ _; exact Nat.le_of_eq rfl) (hb hby at_157) (fun _ _ => ⟨rfl, e129, (by decide : 2 + 0 ≤ _), (by decide : 2 + 0 ≤ _)⟩)
    dsimp only [Pt.U, Pt.locs, Pt.cells, Pt.slots] at X137 l137 y137 z137 st137 hQ137
    subst l137 y137 z137
    obtain ⟨rfl, N137q, e137⟩ := hQ137
    have N138 := Fr.app N130 N137q
    have k139 : ∀ t, Steps p.tables e below (T137.setTop (mkF m 160 #[.val (.int x0), .val (.int x1), .val (.int x2), .val (.int y0), .val (.int y1), .val (.int y2), .val (.int (1 : Int32)), .val (.long la0), .second, .val (.long la1), .second, .val (.long la2), .second, .val (.long lb0), .second, .val (.long lb1), .second, .val (.long lb2), .second, .val (.long r1), .second, .val (.ref b123), .val (.ref b129), .unset, .unset] [(.double (FP.dadd (0 : UInt64) (FP.dmul vla0 vlb0)))])) t → Steps p.tables e below (s₁.setTop (entryFrame m #[(.int x0), (.int x1), (.int x2), (.int y0), (.int y1), (.int y2)] maxLocals)) t := fun t k => k136 t (st137 t k)
    obtain ⟨got, hgot⟩ : ∃ z : UInt64, z = (FP.dadd (0 : UInt64) (FP.dmul vla0 vlb0)) := ⟨_, rfl⟩
    have hr : r1.toInt = 0 + la0.toInt * lb0.toInt := by rw [hr1]; exact own_ref1 B_la0 B_lb0
    have hbw : (0 + la0.toInt * lb0.toInt).natAbs < 9007199254740992 := own_refb1 B_la0 B_lb0
    obtain ⟨want, hwant⟩ : ∃ z : UInt64, FP.l2d r1 = z := ⟨_, rfl⟩
    have Dwant : Dy (0 + la0.toInt * lb0.toInt) (0) want := by rw [← hwant]; exact hr ▸ Dy.l2d (by rw [hr]; exact hbw)
    have hfin : cmpValue (FP.dcmp got want) .l = (0 : Int32) := by rw [hgot]; exact Dy.cmp_eq O1 Dwant rfl .l
    have k140 : ∀ t, Steps p.tables e below (T137.setTop (mkF m 176 #[.val (.int x0), .val (.int x1), .val (.int x2), .val (.int y0), .val (.int y1), .val (.int y2), .val (.int (1 : Int32)), .val (.long la0), .second, .val (.long la1), .second, .val (.long la2), .second, .val (.long lb0), .second, .val (.long lb1), .second, .val (.long lb2), .second, .val (.long r1), .second, .val (.ref b123), .val (.ref b129), .val (.double got), .second] [(.int (1 : Int32))])) t → Steps p.tables e below (s₁.setTop (entryFrame m #[(.int x0), (.int x1), (.int x2), (.int y0), (.int y1), (.int y2)] maxLocals)) t := fun t k => k139 t (by
      show Steps p.tables e below (T137.setTop (mkF m 160 #[.val (.int x0), .val (.int x1), .val (.int x2), .val (.int y0), .val (.int y1), .val (.int y2), .val (.int (1 : Int32)), .val (.long la0), .second, .val (.long la1), .second, .val (.long la2), .second, .val (.long lb0), .second, .val (.long lb1), .second, .val (.long lb2), .second, .val (.long r1), .second, .val (.ref b123), .val (.ref b129), .unset, .unset] [(.double (FP.dadd (0 : UInt64) (FP.dmul vla0 vlb0)))])) _
      refine castTop (g' := (mkF m 160 #[.val (.int x0), .val (.int x1), .val (.int x2), .val (.int y0), .val (.int y1), .val (.int y2), .val (.int (1 : Int32)), .val (.long la0), .second, .val (.long la1), .second, .val (.long la2), .second, .val (.long lb0), .second, .val (.long lb1), .second, .val (.long lb2), .second, .val (.long r1), .second, .val (.ref b123), .val (.ref b129), .unset, .unset] [(.double got)])) (by rw [hgot]) ?_
      show Steps p.tables e below (T137.setTop (mkF m 160 #[.val (.int x0), .val (.int x1), .val (.int x2), .val (.int y0), .val (.int y1), .val (.int y2), .val (.int (1 : Int32)), .val (.long la0), .second, .val (.long la1), .second, .val (.long la2), .second, .val (.long lb0), .second, .val (.long lb1), .second, .val (.long lb2), .second, .val (.long r1), .second, .val (.ref b123), .val (.ref b129), .unset, .unset] [(.double got)])) _
      refine XS.dstore X137.here hx rfl (hb hby at_160) rfl (l' := #[.val (.int x0), .val (.int x1), .val (.int x2), .val (.int y0), .val (.int y1), .val (.int y2), .val (.int (1 : Int32)), .val (.long la0), .second, .val (.long la1), .second, .val (.long la2), .second, .val (.long lb0), .second, .val (.long lb1), .second, .val (.long lb2), .second, .val (.long r1), .second, .val (.ref b123), .val (.ref b129), .val (.double got), .second]) rfl ?_
      show Steps p.tables e below (T137.setTop (mkF m 162 #[.val (.int x0), .val (.int x1), .val (.int x2), .val (.int y0), .val (.int y1), .val (.int y2), .val (.int (1 : Int32)), .val (.long la0), .second, .val (.long la1), .second, .val (.long la2), .second, .val (.long lb0), .second, .val (.long lb1), .second, .val (.long lb2), .second, .val (.long r1), .second, .val (.ref b123), .val (.ref b129), .val (.double got), .second] [])) _
      refine XS.dload X137.here hx rfl (hb hby at_162) rfl ?_
      show Steps p.tables e below (T137.setTop (mkF m 164 #[.val (.int x0), .val (.int x1), .val (.int x2), .val (.int y0), .val (.int y1), .val (.int y2), .val (.int (1 : Int32)), .val (.long la0), .second, .val (.long la1), .second, .val (.long la2), .second, .val (.long lb0), .second, .val (.long lb1), .second, .val (.long lb2), .second, .val (.long r1), .second, .val (.ref b123), .val (.ref b129), .val (.double got), .second] [(.double got)])) _
      refine XS.lload X137.here hx rfl (hb hby at_164) rfl ?_
      show Steps p.tables e below (T137.setTop (mkF m 166 #[.val (.int x0), .val (.int x1), .val (.int x2), .val (.int y0), .val (.int y1), .val (.int y2), .val (.int (1 : Int32)), .val (.long la0), .second, .val (.long la1), .second, .val (.long la2), .second, .val (.long lb0), .second, .val (.long lb1), .second, .val (.long lb2), .second, .val (.long r1), .second, .val (.ref b123), .val (.ref b129), .val (.double got), .second] [(.long r1), (.double got)])) _
      refine XS.l2dS X137.here hx rfl (hb hby at_166) rfl hwant ?_
      show Steps p.tables e below (T137.setTop (mkF m 167 #[.val (.int x0), .val (.int x1), .val (.int x2), .val (.int y0), .val (.int y1), .val (.int y2), .val (.int (1 : Int32)), .val (.long la0), .second, .val (.long la1), .second, .val (.long la2), .second, .val (.long lb0), .second, .val (.long lb1), .second, .val (.long lb2), .second, .val (.long r1), .second, .val (.ref b123), .val (.ref b129), .val (.double got), .second] [(.double want), (.double got)])) _
      refine XS.dcmpS X137.here hx rfl (hb hby at_167) rfl rfl ?_
      show Steps p.tables e below (T137.setTop (mkF m 168 #[.val (.int x0), .val (.int x1), .val (.int x2), .val (.int y0), .val (.int y1), .val (.int y2), .val (.int (1 : Int32)), .val (.long la0), .second, .val (.long la1), .second, .val (.long la2), .second, .val (.long lb0), .second, .val (.long lb1), .second, .val (.long lb2), .second, .val (.long r1), .second, .val (.ref b123), .val (.ref b129), .val (.double got), .second] [(.int (cmpValue (FP.dcmp got want) .l))])) _
      refine XS.ifNo X137.here hx rfl (hb hby at_168) rfl ((if0 _ _).trans (teq hfin).2) ?_
      show Steps p.tables e below (T137.setTop (mkF m 171 #[.val (.int x0), .val (.int x1), .val (.int x2), .val (.int y0), .val (.int y1), .val (.int y2), .val (.int (1 : Int32)), .val (.long la0), .second, .val (.long la1), .second, .val (.long la2), .second, .val (.long lb0), .second, .val (.long lb1), .second, .val (.long lb2), .second, .val (.long r1), .second, .val (.ref b123), .val (.ref b129), .val (.double got), .second] [])) _
      refine XS.iconst X137.here hx rfl (hb hby at_171) ?_
      show Steps p.tables e below (T137.setTop (mkF m 172 #[.val (.int x0), .val (.int x1), .val (.int x2), .val (.int y0), .val (.int y1), .val (.int y2), .val (.int (1 : Int32)), .val (.long la0), .second, .val (.long la1), .second, .val (.long la2), .second, .val (.long lb0), .second, .val (.long lb1), .second, .val (.long lb2), .second, .val (.long r1), .second, .val (.ref b123), .val (.ref b129), .val (.double got), .second] [(.int (1 : Int32))])) _
      refine XS.goto X137.here hx rfl (pc0 := 172) (pc' := 176) rfl (hb hby at_172) (by decide) (by decide) ?_
      exact k)
    obtain ⟨fs, hr, hrun, hended, hW, hsame⟩ := X137.leave (v := some (.int (1 : Int32))) (fun h => by rw [Bd.returns] at h; cases h)
    refine ⟨_, _, k140 _ (retOut X137 hx (t := .boolean) Bd.returns rfl (Or.inl ⟨rfl, Or.inr (Or.inl rfl), _, rfl⟩) (hb hby at_176) hr), hrun, hended, _, _, rfl, ?_, ⟨_, rfl⟩, hW, hsame.mono (by decide) (by decide)⟩
    show Q_rm0 Z x0 x1 x2 y0 y1 y2 h0 n0 _ T137.heap _
    rw [e137]
    exact ⟨rfl, N138⟩
  · obtain ⟨r1, hr1⟩ : ∃ z : Int64, z = ((0 : Int64) + (la0 * lb0)) := ⟨_, rfl⟩
    obtain ⟨r2, hr2⟩ : ∃ z : Int64, z = (r1 + (la1 * lb1)) := ⟨_, rfl⟩
    obtain ⟨vla0, hvla0⟩ : ∃ z : UInt64, FP.l2d la0 = z := ⟨_, rfl⟩
    have Dvla0 : Dy (la0.toInt) (0) vla0 := by rw [← hvla0]; exact Dy.l2d (by omega)
    obtain ⟨vla1, hvla1⟩ : ∃ z : UInt64, FP.l2d la1 = z := ⟨_, rfl⟩
    have Dvla1 : Dy (la1.toInt) (0) vla1 := by rw [← hvla1]; exact Dy.l2d (by omega)
    obtain ⟨vla2, hvla2⟩ : ∃ z : UInt64, FP.l2d la2 = z := ⟨_, rfl⟩
    have Dvla2 : Dy (la2.toInt) (0) vla2 := by rw [← hvla2]; exact Dy.l2d (by omega)
    have k141 : ∀ t, Steps p.tables e below (s₁.setTop (mkF m 132 #[.val (.int x0), .val (.int x1), .val (.int x2), .val (.int y0), .val (.int y1), .val (.int y2), .val (.int (2 : Int32)), .val (.long la0), .second, .val (.long la1), .second, .val (.long la2), .second, .val (.long lb0), .second, .val (.long lb1), .second, .val (.long lb2), .second, .val (.long r2), .second, .unset, .unset, .unset, .unset] [(.double vla2), (.double vla1), (.double vla0), (.int (2 : Int32))])) t → Steps p.tables e below (s₁.setTop (entryFrame m #[(.int x0), (.int x1), (.int x2), (.int y0), (.int y1), (.int y2)] maxLocals)) t := fun t k => k102 t (by
      show Steps p.tables e below (s₁.setTop (mkF m 73 #[.val (.int x0), .val (.int x1), .val (.int x2), .val (.int y0), .val (.int y1), .val (.int y2), .val (.int (2 : Int32)), .val (.long la0), .second, .val (.long la1), .second, .val (.long la2), .second, .val (.long lb0), .second, .val (.long lb1), .second, .val (.long lb2), .second, .val (.long (0 : Int64)), .second, .unset, .unset, .unset, .unset] [])) _
      refine XS.iload X0.here hx rfl (hb hby at_73) rfl ?_
      show Steps p.tables e below (s₁.setTop (mkF m 75 #[.val (.int x0), .val (.int x1), .val (.int x2), .val (.int y0), .val (.int y1), .val (.int y2), .val (.int (2 : Int32)), .val (.long la0), .second, .val (.long la1), .second, .val (.long la2), .second, .val (.long lb0), .second, .val (.long lb1), .second, .val (.long lb2), .second, .val (.long (0 : Int64)), .second, .unset, .unset, .unset, .unset] [(.int (2 : Int32))])) _
      refine XS.iconst X0.here hx rfl (hb hby at_75) ?_
      show Steps p.tables e below (s₁.setTop (mkF m 76 #[.val (.int x0), .val (.int x1), .val (.int x2), .val (.int y0), .val (.int y1), .val (.int y2), .val (.int (2 : Int32)), .val (.long la0), .second, .val (.long la1), .second, .val (.long la2), .second, .val (.long lb0), .second, .val (.long lb1), .second, .val (.long lb2), .second, .val (.long (0 : Int64)), .second, .unset, .unset, .unset, .unset] [(.int (1 : Int32)), (.int (2 : Int32))])) _
      refine XS.icmpNo X0.here hx rfl (hb hby at_76) rfl (flt (by decide)).1 ?_
      show Steps p.tables e below (s₁.setTop (mkF m 79 #[.val (.int x0), .val (.int x1), .val (.int x2), .val (.int y0), .val (.int y1), .val (.int y2), .val (.int (2 : Int32)), .val (.long la0), .second, .val (.long la1), .second, .val (.long la2), .second, .val (.long lb0), .second, .val (.long lb1), .second, .val (.long lb2), .second, .val (.long (0 : Int64)), .second, .unset, .unset, .unset, .unset] [])) _
      refine XS.lload X0.here hx rfl (hb hby at_79) rfl ?_
      show Steps p.tables e below (s₁.setTop (mkF m 81 #[.val (.int x0), .val (.int x1), .val (.int x2), .val (.int y0), .val (.int y1), .val (.int y2), .val (.int (2 : Int32)), .val (.long la0), .second, .val (.long la1), .second, .val (.long la2), .second, .val (.long lb0), .second, .val (.long lb1), .second, .val (.long lb2), .second, .val (.long (0 : Int64)), .second, .unset, .unset, .unset, .unset] [(.long (0 : Int64))])) _
      refine XS.lload X0.here hx rfl (hb hby at_81) rfl ?_
      show Steps p.tables e below (s₁.setTop (mkF m 83 #[.val (.int x0), .val (.int x1), .val (.int x2), .val (.int y0), .val (.int y1), .val (.int y2), .val (.int (2 : Int32)), .val (.long la0), .second, .val (.long la1), .second, .val (.long la2), .second, .val (.long lb0), .second, .val (.long lb1), .second, .val (.long lb2), .second, .val (.long (0 : Int64)), .second, .unset, .unset, .unset, .unset] [(.long la0), (.long (0 : Int64))])) _
      refine XS.lload X0.here hx rfl (hb hby at_83) rfl ?_
      show Steps p.tables e below (s₁.setTop (mkF m 85 #[.val (.int x0), .val (.int x1), .val (.int x2), .val (.int y0), .val (.int y1), .val (.int y2), .val (.int (2 : Int32)), .val (.long la0), .second, .val (.long la1), .second, .val (.long la2), .second, .val (.long lb0), .second, .val (.long lb1), .second, .val (.long lb2), .second, .val (.long (0 : Int64)), .second, .unset, .unset, .unset, .unset] [(.long lb0), (.long la0), (.long (0 : Int64))])) _
      refine XS.lmul X0.here hx rfl (hb hby at_85) rfl ?_
      show Steps p.tables e below (s₁.setTop (mkF m 86 #[.val (.int x0), .val (.int x1), .val (.int x2), .val (.int y0), .val (.int y1), .val (.int y2), .val (.int (2 : Int32)), .val (.long la0), .second, .val (.long la1), .second, .val (.long la2), .second, .val (.long lb0), .second, .val (.long lb1), .second, .val (.long lb2), .second, .val (.long (0 : Int64)), .second, .unset, .unset, .unset, .unset] [(.long (la0 * lb0)), (.long (0 : Int64))])) _
      refine XS.ladd X0.here hx rfl (hb hby at_86) rfl ?_
      show Steps p.tables e below (s₁.setTop (mkF m 87 #[.val (.int x0), .val (.int x1), .val (.int x2), .val (.int y0), .val (.int y1), .val (.int y2), .val (.int (2 : Int32)), .val (.long la0), .second, .val (.long la1), .second, .val (.long la2), .second, .val (.long lb0), .second, .val (.long lb1), .second, .val (.long lb2), .second, .val (.long (0 : Int64)), .second, .unset, .unset, .unset, .unset] [(.long ((0 : Int64) + (la0 * lb0)))])) _
      refine castTop (g' := (mkF m 87 #[.val (.int x0), .val (.int x1), .val (.int x2), .val (.int y0), .val (.int y1), .val (.int y2), .val (.int (2 : Int32)), .val (.long la0), .second, .val (.long la1), .second, .val (.long la2), .second, .val (.long lb0), .second, .val (.long lb1), .second, .val (.long lb2), .second, .val (.long (0 : Int64)), .second, .unset, .unset, .unset, .unset] [(.long r1)])) (by rw [hr1]) ?_
      show Steps p.tables e below (s₁.setTop (mkF m 87 #[.val (.int x0), .val (.int x1), .val (.int x2), .val (.int y0), .val (.int y1), .val (.int y2), .val (.int (2 : Int32)), .val (.long la0), .second, .val (.long la1), .second, .val (.long la2), .second, .val (.long lb0), .second, .val (.long lb1), .second, .val (.long lb2), .second, .val (.long (0 : Int64)), .second, .unset, .unset, .unset, .unset] [(.long r1)])) _
      refine XS.lstore X0.here hx rfl (hb hby at_87) rfl (l' := #[.val (.int x0), .val (.int x1), .val (.int x2), .val (.int y0), .val (.int y1), .val (.int y2), .val (.int (2 : Int32)), .val (.long la0), .second, .val (.long la1), .second, .val (.long la2), .second, .val (.long lb0), .second, .val (.long lb1), .second, .val (.long lb2), .second, .val (.long r1), .second, .unset, .unset, .unset, .unset]) rfl ?_
      show Steps p.tables e below (s₁.setTop (mkF m 89 #[.val (.int x0), .val (.int x1), .val (.int x2), .val (.int y0), .val (.int y1), .val (.int y2), .val (.int (2 : Int32)), .val (.long la0), .second, .val (.long la1), .second, .val (.long la2), .second, .val (.long lb0), .second, .val (.long lb1), .second, .val (.long lb2), .second, .val (.long r1), .second, .unset, .unset, .unset, .unset] [])) _
      refine XS.iload X0.here hx rfl (hb hby at_89) rfl ?_
      show Steps p.tables e below (s₁.setTop (mkF m 91 #[.val (.int x0), .val (.int x1), .val (.int x2), .val (.int y0), .val (.int y1), .val (.int y2), .val (.int (2 : Int32)), .val (.long la0), .second, .val (.long la1), .second, .val (.long la2), .second, .val (.long lb0), .second, .val (.long lb1), .second, .val (.long lb2), .second, .val (.long r1), .second, .unset, .unset, .unset, .unset] [(.int (2 : Int32))])) _
      refine XS.iconst X0.here hx rfl (hb hby at_91) ?_
      show Steps p.tables e below (s₁.setTop (mkF m 92 #[.val (.int x0), .val (.int x1), .val (.int x2), .val (.int y0), .val (.int y1), .val (.int y2), .val (.int (2 : Int32)), .val (.long la0), .second, .val (.long la1), .second, .val (.long la2), .second, .val (.long lb0), .second, .val (.long lb1), .second, .val (.long lb2), .second, .val (.long r1), .second, .unset, .unset, .unset, .unset] [(.int (2 : Int32)), (.int (2 : Int32))])) _
      refine XS.icmpNo X0.here hx rfl (hb hby at_92) rfl (flt (by decide)).1 ?_
      show Steps p.tables e below (s₁.setTop (mkF m 95 #[.val (.int x0), .val (.int x1), .val (.int x2), .val (.int y0), .val (.int y1), .val (.int y2), .val (.int (2 : Int32)), .val (.long la0), .second, .val (.long la1), .second, .val (.long la2), .second, .val (.long lb0), .second, .val (.long lb1), .second, .val (.long lb2), .second, .val (.long r1), .second, .unset, .unset, .unset, .unset] [])) _
      refine XS.lload X0.here hx rfl (hb hby at_95) rfl ?_
      show Steps p.tables e below (s₁.setTop (mkF m 97 #[.val (.int x0), .val (.int x1), .val (.int x2), .val (.int y0), .val (.int y1), .val (.int y2), .val (.int (2 : Int32)), .val (.long la0), .second, .val (.long la1), .second, .val (.long la2), .second, .val (.long lb0), .second, .val (.long lb1), .second, .val (.long lb2), .second, .val (.long r1), .second, .unset, .unset, .unset, .unset] [(.long r1)])) _
      refine XS.lload X0.here hx rfl (hb hby at_97) rfl ?_
      show Steps p.tables e below (s₁.setTop (mkF m 99 #[.val (.int x0), .val (.int x1), .val (.int x2), .val (.int y0), .val (.int y1), .val (.int y2), .val (.int (2 : Int32)), .val (.long la0), .second, .val (.long la1), .second, .val (.long la2), .second, .val (.long lb0), .second, .val (.long lb1), .second, .val (.long lb2), .second, .val (.long r1), .second, .unset, .unset, .unset, .unset] [(.long la1), (.long r1)])) _
      refine XS.lload X0.here hx rfl (hb hby at_99) rfl ?_
      show Steps p.tables e below (s₁.setTop (mkF m 101 #[.val (.int x0), .val (.int x1), .val (.int x2), .val (.int y0), .val (.int y1), .val (.int y2), .val (.int (2 : Int32)), .val (.long la0), .second, .val (.long la1), .second, .val (.long la2), .second, .val (.long lb0), .second, .val (.long lb1), .second, .val (.long lb2), .second, .val (.long r1), .second, .unset, .unset, .unset, .unset] [(.long lb1), (.long la1), (.long r1)])) _
      refine XS.lmul X0.here hx rfl (hb hby at_101) rfl ?_
      show Steps p.tables e below (s₁.setTop (mkF m 102 #[.val (.int x0), .val (.int x1), .val (.int x2), .val (.int y0), .val (.int y1), .val (.int y2), .val (.int (2 : Int32)), .val (.long la0), .second, .val (.long la1), .second, .val (.long la2), .second, .val (.long lb0), .second, .val (.long lb1), .second, .val (.long lb2), .second, .val (.long r1), .second, .unset, .unset, .unset, .unset] [(.long (la1 * lb1)), (.long r1)])) _
      refine XS.ladd X0.here hx rfl (hb hby at_102) rfl ?_
      show Steps p.tables e below (s₁.setTop (mkF m 103 #[.val (.int x0), .val (.int x1), .val (.int x2), .val (.int y0), .val (.int y1), .val (.int y2), .val (.int (2 : Int32)), .val (.long la0), .second, .val (.long la1), .second, .val (.long la2), .second, .val (.long lb0), .second, .val (.long lb1), .second, .val (.long lb2), .second, .val (.long r1), .second, .unset, .unset, .unset, .unset] [(.long (r1 + (la1 * lb1)))])) _
      refine castTop (g' := (mkF m 103 #[.val (.int x0), .val (.int x1), .val (.int x2), .val (.int y0), .val (.int y1), .val (.int y2), .val (.int (2 : Int32)), .val (.long la0), .second, .val (.long la1), .second, .val (.long la2), .second, .val (.long lb0), .second, .val (.long lb1), .second, .val (.long lb2), .second, .val (.long r1), .second, .unset, .unset, .unset, .unset] [(.long r2)])) (by rw [hr2]) ?_
      show Steps p.tables e below (s₁.setTop (mkF m 103 #[.val (.int x0), .val (.int x1), .val (.int x2), .val (.int y0), .val (.int y1), .val (.int y2), .val (.int (2 : Int32)), .val (.long la0), .second, .val (.long la1), .second, .val (.long la2), .second, .val (.long lb0), .second, .val (.long lb1), .second, .val (.long lb2), .second, .val (.long r1), .second, .unset, .unset, .unset, .unset] [(.long r2)])) _
      refine XS.lstore X0.here hx rfl (hb hby at_103) rfl (l' := #[.val (.int x0), .val (.int x1), .val (.int x2), .val (.int y0), .val (.int y1), .val (.int y2), .val (.int (2 : Int32)), .val (.long la0), .second, .val (.long la1), .second, .val (.long la2), .second, .val (.long lb0), .second, .val (.long lb1), .second, .val (.long lb2), .second, .val (.long r2), .second, .unset, .unset, .unset, .unset]) rfl ?_
      show Steps p.tables e below (s₁.setTop (mkF m 105 #[.val (.int x0), .val (.int x1), .val (.int x2), .val (.int y0), .val (.int y1), .val (.int y2), .val (.int (2 : Int32)), .val (.long la0), .second, .val (.long la1), .second, .val (.long la2), .second, .val (.long lb0), .second, .val (.long lb1), .second, .val (.long lb2), .second, .val (.long r2), .second, .unset, .unset, .unset, .unset] [])) _
      refine XS.iload X0.here hx rfl (hb hby at_105) rfl ?_
      show Steps p.tables e below (s₁.setTop (mkF m 107 #[.val (.int x0), .val (.int x1), .val (.int x2), .val (.int y0), .val (.int y1), .val (.int y2), .val (.int (2 : Int32)), .val (.long la0), .second, .val (.long la1), .second, .val (.long la2), .second, .val (.long lb0), .second, .val (.long lb1), .second, .val (.long lb2), .second, .val (.long r2), .second, .unset, .unset, .unset, .unset] [(.int (2 : Int32))])) _
      refine XS.iconst X0.here hx rfl (hb hby at_107) ?_
      show Steps p.tables e below (s₁.setTop (mkF m 108 #[.val (.int x0), .val (.int x1), .val (.int x2), .val (.int y0), .val (.int y1), .val (.int y2), .val (.int (2 : Int32)), .val (.long la0), .second, .val (.long la1), .second, .val (.long la2), .second, .val (.long lb0), .second, .val (.long lb1), .second, .val (.long lb2), .second, .val (.long r2), .second, .unset, .unset, .unset, .unset] [(.int (3 : Int32)), (.int (2 : Int32))])) _
      refine XS.icmpYes X0.here hx rfl (pc0 := 108) (pc' := 121) rfl (hb hby at_108) rfl (tlt (by decide)).1 (by decide) (by decide) ?_
      show Steps p.tables e below (s₁.setTop (mkF m 121 #[.val (.int x0), .val (.int x1), .val (.int x2), .val (.int y0), .val (.int y1), .val (.int y2), .val (.int (2 : Int32)), .val (.long la0), .second, .val (.long la1), .second, .val (.long la2), .second, .val (.long lb0), .second, .val (.long lb1), .second, .val (.long lb2), .second, .val (.long r2), .second, .unset, .unset, .unset, .unset] [])) _
      refine XS.iload X0.here hx rfl (hb hby at_121) rfl ?_
      show Steps p.tables e below (s₁.setTop (mkF m 123 #[.val (.int x0), .val (.int x1), .val (.int x2), .val (.int y0), .val (.int y1), .val (.int y2), .val (.int (2 : Int32)), .val (.long la0), .second, .val (.long la1), .second, .val (.long la2), .second, .val (.long lb0), .second, .val (.long lb1), .second, .val (.long lb2), .second, .val (.long r2), .second, .unset, .unset, .unset, .unset] [(.int (2 : Int32))])) _
      refine XS.lload X0.here hx rfl (hb hby at_123) rfl ?_
      show Steps p.tables e below (s₁.setTop (mkF m 125 #[.val (.int x0), .val (.int x1), .val (.int x2), .val (.int y0), .val (.int y1), .val (.int y2), .val (.int (2 : Int32)), .val (.long la0), .second, .val (.long la1), .second, .val (.long la2), .second, .val (.long lb0), .second, .val (.long lb1), .second, .val (.long lb2), .second, .val (.long r2), .second, .unset, .unset, .unset, .unset] [(.long la0), (.int (2 : Int32))])) _
      refine XS.l2dS X0.here hx rfl (hb hby at_125) rfl hvla0 ?_
      show Steps p.tables e below (s₁.setTop (mkF m 126 #[.val (.int x0), .val (.int x1), .val (.int x2), .val (.int y0), .val (.int y1), .val (.int y2), .val (.int (2 : Int32)), .val (.long la0), .second, .val (.long la1), .second, .val (.long la2), .second, .val (.long lb0), .second, .val (.long lb1), .second, .val (.long lb2), .second, .val (.long r2), .second, .unset, .unset, .unset, .unset] [(.double vla0), (.int (2 : Int32))])) _
      refine XS.lload X0.here hx rfl (hb hby at_126) rfl ?_
      show Steps p.tables e below (s₁.setTop (mkF m 128 #[.val (.int x0), .val (.int x1), .val (.int x2), .val (.int y0), .val (.int y1), .val (.int y2), .val (.int (2 : Int32)), .val (.long la0), .second, .val (.long la1), .second, .val (.long la2), .second, .val (.long lb0), .second, .val (.long lb1), .second, .val (.long lb2), .second, .val (.long r2), .second, .unset, .unset, .unset, .unset] [(.long la1), (.double vla0), (.int (2 : Int32))])) _
      refine XS.l2dS X0.here hx rfl (hb hby at_128) rfl hvla1 ?_
      show Steps p.tables e below (s₁.setTop (mkF m 129 #[.val (.int x0), .val (.int x1), .val (.int x2), .val (.int y0), .val (.int y1), .val (.int y2), .val (.int (2 : Int32)), .val (.long la0), .second, .val (.long la1), .second, .val (.long la2), .second, .val (.long lb0), .second, .val (.long lb1), .second, .val (.long lb2), .second, .val (.long r2), .second, .unset, .unset, .unset, .unset] [(.double vla1), (.double vla0), (.int (2 : Int32))])) _
      refine XS.lload X0.here hx rfl (hb hby at_129) rfl ?_
      show Steps p.tables e below (s₁.setTop (mkF m 131 #[.val (.int x0), .val (.int x1), .val (.int x2), .val (.int y0), .val (.int y1), .val (.int y2), .val (.int (2 : Int32)), .val (.long la0), .second, .val (.long la1), .second, .val (.long la2), .second, .val (.long lb0), .second, .val (.long lb1), .second, .val (.long lb2), .second, .val (.long r2), .second, .unset, .unset, .unset, .unset] [(.long la2), (.double vla1), (.double vla0), (.int (2 : Int32))])) _
      refine XS.l2dS X0.here hx rfl (hb hby at_131) rfl hvla2 ?_
      exact k)
    obtain ⟨_, _, ⟨T142, L142, k142, n142⟩, -, X142, ⟨Lc142, hQ142, l142, y142, z142⟩, st142⟩ := Jvm.LawKit.callS X0 hx (y := (⟨"com/example/frontweave/frontweave/clustering/VectorsDotPinLaw", "vec", "(IDDD)[D"⟩ : MethodName)) hown (mvT hZ (hw _ (List.mem_of_getElem? (i := 0) rfl))) (mvT hZ (hw _ (List.mem_of_getElem? (i := 1) rfl))) (mvT hZ (hw _ (List.mem_of_getElem? (i := 2) rfl))) (mvT hZ (hw _ (List.mem_of_getElem? (i := 3) rfl))) (by decide) (backOf (W := 0) (vec2 l Z a0 hw [] vla0 vla1 vla2 h0 n0 Z0 ) hZ (hw _ (List.mem_of_getElem? (i := 3) rfl)) (hw _ (List.mem_of_getElem? (i := 2) rfl)) (by decide) (by decide)) (g := (mkF m 132 #[.val (.int x0), .val (.int x1), .val (.int x2), .val (.int y0), .val (.int y1), .val (.int y2), .val (.int (2 : Int32)), .val (.long la0), .second, .val (.long la1), .second, .val (.long la2), .second, .val (.long lb0), .second, .val (.long lb1), .second, .val (.long lb2), .second, .val (.long r2), .second, .unset, .unset, .unset, .unset] [(.double vla2), (.double vla1), (.double vla0), (.int (2 : Int32))])) rfl (by rw [hml]; rfl) (argsL := [(.int (2 : Int32)), (.double vla0), (.double vla1), (.double vla2)]) (rest := []) (lenOf pd__28IDDD_29_5bD rfl) rfl (by show 2 * 0 + _ ≤ _; exact Nat.le_of_eq rfl) (hb hby at_132) (fun _ _ => ⟨rfl, e0, (by decide : 0 + 1 ≤ _), (by decide : 0 + 2 ≤ _)⟩)
    dsimp only [Pt.U, Pt.locs, Pt.cells, Pt.slots] at X142 l142 y142 z142 st142 hQ142
    subst l142 y142 z142
    obtain ⟨h142, e142⟩ : ∃ h', T142.heap = h' := ⟨_, rfl⟩
    rw [e142] at hQ142
    obtain ⟨b142, kk142, rfl, N142q, gb142, K142, V142⟩ := hQ142
    have N143 := Fr.app N0 N142q
    have k144 : ∀ t, Steps p.tables e below (T142.setTop (mkF m 135 #[.val (.int x0), .val (.int x1), .val (.int x2), .val (.int y0), .val (.int y1), .val (.int y2), .val (.int (2 : Int32)), .val (.long la0), .second, .val (.long la1), .second, .val (.long la2), .second, .val (.long lb0), .second, .val (.long lb1), .second, .val (.long lb2), .second, .val (.long r2), .second, .unset, .unset, .unset, .unset] [(.ref b142)])) t → Steps p.tables e below (s₁.setTop (entryFrame m #[(.int x0), (.int x1), (.int x2), (.int y0), (.int y1), (.int y2)] maxLocals)) t := fun t k => k141 t (st142 t k)
    have g145 : n0 ≤ b142 := Nat.le_trans Z0 (Nat.le_of_eq gb142.symm)
    have Z146 : n0 ≤ h142.size := Nat.le_trans Z0 K142.1
    obtain ⟨vlb0, hvlb0⟩ : ∃ z : UInt64, FP.l2d lb0 = z := ⟨_, rfl⟩
    have Dvlb0 : Dy (lb0.toInt) (0) vlb0 := by rw [← hvlb0]; exact Dy.l2d (by omega)
    obtain ⟨vlb1, hvlb1⟩ : ∃ z : UInt64, FP.l2d lb1 = z := ⟨_, rfl⟩
    have Dvlb1 : Dy (lb1.toInt) (0) vlb1 := by rw [← hvlb1]; exact Dy.l2d (by omega)
    obtain ⟨vlb2, hvlb2⟩ : ∃ z : UInt64, FP.l2d lb2 = z := ⟨_, rfl⟩
    have Dvlb2 : Dy (lb2.toInt) (0) vlb2 := by rw [← hvlb2]; exact Dy.l2d (by omega)
    have k147 : ∀ t, Steps p.tables e below (T142.setTop (mkF m 148 #[.val (.int x0), .val (.int x1), .val (.int x2), .val (.int y0), .val (.int y1), .val (.int y2), .val (.int (2 : Int32)), .val (.long la0), .second, .val (.long la1), .second, .val (.long la2), .second, .val (.long lb0), .second, .val (.long lb1), .second, .val (.long lb2), .second, .val (.long r2), .second, .val (.ref b142), .unset, .unset, .unset] [(.double vlb2), (.double vlb1), (.double vlb0), (.int (2 : Int32))])) t → Steps p.tables e below (s₁.setTop (entryFrame m #[(.int x0), (.int x1), (.int x2), (.int y0), (.int y1), (.int y2)] maxLocals)) t := fun t k => k144 t (by
      show Steps p.tables e below (T142.setTop (mkF m 135 #[.val (.int x0), .val (.int x1), .val (.int x2), .val (.int y0), .val (.int y1), .val (.int y2), .val (.int (2 : Int32)), .val (.long la0), .second, .val (.long la1), .second, .val (.long la2), .second, .val (.long lb0), .second, .val (.long lb1), .second, .val (.long lb2), .second, .val (.long r2), .second, .unset, .unset, .unset, .unset] [(.ref b142)])) _
      refine XS.astore X142.here hx rfl (hb hby at_135) rfl rfl (l' := #[.val (.int x0), .val (.int x1), .val (.int x2), .val (.int y0), .val (.int y1), .val (.int y2), .val (.int (2 : Int32)), .val (.long la0), .second, .val (.long la1), .second, .val (.long la2), .second, .val (.long lb0), .second, .val (.long lb1), .second, .val (.long lb2), .second, .val (.long r2), .second, .val (.ref b142), .unset, .unset, .unset]) rfl ?_
      show Steps p.tables e below (T142.setTop (mkF m 137 #[.val (.int x0), .val (.int x1), .val (.int x2), .val (.int y0), .val (.int y1), .val (.int y2), .val (.int (2 : Int32)), .val (.long la0), .second, .val (.long la1), .second, .val (.long la2), .second, .val (.long lb0), .second, .val (.long lb1), .second, .val (.long lb2), .second, .val (.long r2), .second, .val (.ref b142), .unset, .unset, .unset] [])) _
      refine XS.iload X142.here hx rfl (hb hby at_137) rfl ?_
      show Steps p.tables e below (T142.setTop (mkF m 139 #[.val (.int x0), .val (.int x1), .val (.int x2), .val (.int y0), .val (.int y1), .val (.int y2), .val (.int (2 : Int32)), .val (.long la0), .second, .val (.long la1), .second, .val (.long la2), .second, .val (.long lb0), .second, .val (.long lb1), .second, .val (.long lb2), .second, .val (.long r2), .second, .val (.ref b142), .unset, .unset, .unset] [(.int (2 : Int32))])) _
      refine XS.lload X142.here hx rfl (hb hby at_139) rfl ?_
      show Steps p.tables e below (T142.setTop (mkF m 141 #[.val (.int x0), .val (.int x1), .val (.int x2), .val (.int y0), .val (.int y1), .val (.int y2), .val (.int (2 : Int32)), .val (.long la0), .second, .val (.long la1), .second, .val (.long la2), .second, .val (.long lb0), .second, .val (.long lb1), .second, .val (.long lb2), .second, .val (.long r2), .second, .val (.ref b142), .unset, .unset, .unset] [(.long lb0), (.int (2 : Int32))])) _
      refine XS.l2dS X142.here hx rfl (hb hby at_141) rfl hvlb0 ?_
      show Steps p.tables e below (T142.setTop (mkF m 142 #[.val (.int x0), .val (.int x1), .val (.int x2), .val (.int y0), .val (.int y1), .val (.int y2), .val (.int (2 : Int32)), .val (.long la0), .second, .val (.long la1), .second, .val (.long la2), .second, .val (.long lb0), .second, .val (.long lb1), .second, .val (.long lb2), .second, .val (.long r2), .second, .val (.ref b142), .unset, .unset, .unset] [(.double vlb0), (.int (2 : Int32))])) _
      refine XS.lload X142.here hx rfl (hb hby at_142) rfl ?_
      show Steps p.tables e below (T142.setTop (mkF m 144 #[.val (.int x0), .val (.int x1), .val (.int x2), .val (.int y0), .val (.int y1), .val (.int y2), .val (.int (2 : Int32)), .val (.long la0), .second, .val (.long la1), .second, .val (.long la2), .second, .val (.long lb0), .second, .val (.long lb1), .second, .val (.long lb2), .second, .val (.long r2), .second, .val (.ref b142), .unset, .unset, .unset] [(.long lb1), (.double vlb0), (.int (2 : Int32))])) _
      refine XS.l2dS X142.here hx rfl (hb hby at_144) rfl hvlb1 ?_
      show Steps p.tables e below (T142.setTop (mkF m 145 #[.val (.int x0), .val (.int x1), .val (.int x2), .val (.int y0), .val (.int y1), .val (.int y2), .val (.int (2 : Int32)), .val (.long la0), .second, .val (.long la1), .second, .val (.long la2), .second, .val (.long lb0), .second, .val (.long lb1), .second, .val (.long lb2), .second, .val (.long r2), .second, .val (.ref b142), .unset, .unset, .unset] [(.double vlb1), (.double vlb0), (.int (2 : Int32))])) _
      refine XS.lload X142.here hx rfl (hb hby at_145) rfl ?_
      show Steps p.tables e below (T142.setTop (mkF m 147 #[.val (.int x0), .val (.int x1), .val (.int x2), .val (.int y0), .val (.int y1), .val (.int y2), .val (.int (2 : Int32)), .val (.long la0), .second, .val (.long la1), .second, .val (.long la2), .second, .val (.long lb0), .second, .val (.long lb1), .second, .val (.long lb2), .second, .val (.long r2), .second, .val (.ref b142), .unset, .unset, .unset] [(.long lb2), (.double vlb1), (.double vlb0), (.int (2 : Int32))])) _
      refine XS.l2dS X142.here hx rfl (hb hby at_147) rfl hvlb2 ?_
      exact k)
    obtain ⟨_, _, ⟨T148, L148, k148, n148⟩, -, X148, ⟨Lc148, hQ148, l148, y148, z148⟩, st148⟩ := Jvm.LawKit.callS X142 hx (y := (⟨"com/example/frontweave/frontweave/clustering/VectorsDotPinLaw", "vec", "(IDDD)[D"⟩ : MethodName)) hown (mvT hZ (hw _ (List.mem_of_getElem? (i := 0) rfl))) (mvT hZ (hw _ (List.mem_of_getElem? (i := 1) rfl))) (mvT hZ (hw _ (List.mem_of_getElem? (i := 2) rfl))) (mvT hZ (hw _ (List.mem_of_getElem? (i := 3) rfl))) (by decide) (backOf (W := 0) (vec2 l Z a0 hw [] vlb0 vlb1 vlb2 h142 n0 Z146 ) hZ (hw _ (List.mem_of_getElem? (i := 3) rfl)) (hw _ (List.mem_of_getElem? (i := 2) rfl)) (by decide) (by decide)) (g := (mkF m 148 #[.val (.int x0), .val (.int x1), .val (.int x2), .val (.int y0), .val (.int y1), .val (.int y2), .val (.int (2 : Int32)), .val (.long la0), .second, .val (.long la1), .second, .val (.long la2), .second, .val (.long lb0), .second, .val (.long lb1), .second, .val (.long lb2), .second, .val (.long r2), .second, .val (.ref b142), .unset, .unset, .unset] [(.double vlb2), (.double vlb1), (.double vlb0), (.int (2 : Int32))])) rfl (by rw [hml]; rfl) (argsL := [(.int (2 : Int32)), (.double vlb0), (.double vlb1), (.double vlb2)]) (rest := []) (lenOf pd__28IDDD_29_5bD rfl) rfl (by show 2 * 0 + _ ≤ _; exact Nat.le_of_eq rfl) (hb hby at_148) (fun _ _ => ⟨rfl, e142, (by decide : 1 + 1 ≤ _), (by decide : 2 + 2 ≤ _)⟩)
    dsimp only [Pt.U, Pt.locs, Pt.cells, Pt.slots] at X148 l148 y148 z148 st148 hQ148
    subst l148 y148 z148
    obtain ⟨h148, e148⟩ : ∃ h', T148.heap = h' := ⟨_, rfl⟩
    rw [e148] at hQ148
    obtain ⟨b148, kk148, rfl, N148q, gb148, K148, V148⟩ := hQ148
    have N149 := Fr.app N143 N148q
    have k150 : ∀ t, Steps p.tables e below (T148.setTop (mkF m 151 #[.val (.int x0), .val (.int x1), .val (.int x2), .val (.int y0), .val (.int y1), .val (.int y2), .val (.int (2 : Int32)), .val (.long la0), .second, .val (.long la1), .second, .val (.long la2), .second, .val (.long lb0), .second, .val (.long lb1), .second, .val (.long lb2), .second, .val (.long r2), .second, .val (.ref b142), .unset, .unset, .unset] [(.ref b148)])) t → Steps p.tables e below (s₁.setTop (entryFrame m #[(.int x0), (.int x1), (.int x2), (.int y0), (.int y1), (.int y2)] maxLocals)) t := fun t k => k147 t (st148 t k)
    have n151 : b142 ≠ b148 := Nat.ne_of_lt (Nat.lt_of_lt_of_le V142.lt (Nat.le_of_eq gb148.symm))
    have g152 : n0 ≤ b148 := Nat.le_trans Z146 (Nat.le_of_eq gb148.symm)
    have F153 := V142.keep K148 nin0
    have Z154 : n0 ≤ h148.size := Nat.le_trans Z146 K148.1
    obtain ⟨O0, O1, O2, O3⟩ := own_dot2 B_la0 B_la1 B_lb0 B_lb1 Dvla0 Dvla1 Dvlb0 Dvlb1
    have k155 : ∀ t, Steps p.tables e below (T148.setTop (mkF m 157 #[.val (.int x0), .val (.int x1), .val (.int x2), .val (.int y0), .val (.int y1), .val (.int y2), .val (.int (2 : Int32)), .val (.long la0), .second, .val (.long la1), .second, .val (.long la2), .second, .val (.long lb0), .second, .val (.long lb1), .second, .val (.long lb2), .second, .val (.long r2), .second, .val (.ref b142), .val (.ref b148), .unset, .unset] [(.ref b148), (.ref b142)])) t → Steps p.tables e below (s₁.setTop (entryFrame m #[(.int x0), (.int x1), (.int x2), (.int y0), (.int y1), (.int y2)] maxLocals)) t := fun t k => k150 t (by
      show Steps p.tables e below (T148.setTop (mkF m 151 #[.val (.int x0), .val (.int x1), .val (.int x2), .val (.int y0), .val (.int y1), .val (.int y2), .val (.int (2 : Int32)), .val (.long la0), .second, .val (.long la1), .second, .val (.long la2), .second, .val (.long lb0), .second, .val (.long lb1), .second, .val (.long lb2), .second, .val (.long r2), .second, .val (.ref b142), .unset, .unset, .unset] [(.ref b148)])) _
      refine XS.astore X148.here hx rfl (hb hby at_151) rfl rfl (l' := #[.val (.int x0), .val (.int x1), .val (.int x2), .val (.int y0), .val (.int y1), .val (.int y2), .val (.int (2 : Int32)), .val (.long la0), .second, .val (.long la1), .second, .val (.long la2), .second, .val (.long lb0), .second, .val (.long lb1), .second, .val (.long lb2), .second, .val (.long r2), .second, .val (.ref b142), .val (.ref b148), .unset, .unset]) rfl ?_
      show Steps p.tables e below (T148.setTop (mkF m 153 #[.val (.int x0), .val (.int x1), .val (.int x2), .val (.int y0), .val (.int y1), .val (.int y2), .val (.int (2 : Int32)), .val (.long la0), .second, .val (.long la1), .second, .val (.long la2), .second, .val (.long lb0), .second, .val (.long lb1), .second, .val (.long lb2), .second, .val (.long r2), .second, .val (.ref b142), .val (.ref b148), .unset, .unset] [])) _
      refine XS.aload X148.here hx rfl (hb hby at_153) rfl rfl ?_
      show Steps p.tables e below (T148.setTop (mkF m 155 #[.val (.int x0), .val (.int x1), .val (.int x2), .val (.int y0), .val (.int y1), .val (.int y2), .val (.int (2 : Int32)), .val (.long la0), .second, .val (.long la1), .second, .val (.long la2), .second, .val (.long lb0), .second, .val (.long lb1), .second, .val (.long lb2), .second, .val (.long r2), .second, .val (.ref b142), .val (.ref b148), .unset, .unset] [(.ref b142)])) _
      refine XS.aload X148.here hx rfl (hb hby at_155) rfl rfl ?_
      exact k)
    obtain ⟨_, _, ⟨T156, L156, k156, n156⟩, -, X156, ⟨Lc156, hQ156, l156, y156, z156⟩, st156⟩ := Jvm.LawKit.callS X148 hx (y := (⟨"com/example/frontweave/frontweave/clustering/Vectors", "dot", "([D[D)D"⟩ : MethodName)) hown (mvT hZ (hw _ (List.mem_of_getElem? (i := 5) rfl))) (mvT hZ (hw _ (List.mem_of_getElem? (i := 6) rfl))) (mvT hZ (hw _ (List.mem_of_getElem? (i := 7) rfl))) (mvT hZ (hw _ (List.mem_of_getElem? (i := 8) rfl))) (by decide) (backOf (W := 0) (dot2 l Z a0 hw [] b142 b148 kk142 kk148 vla0 vla1 vlb0 vlb1 h148 n0 Z154 F153 V148 O0.nn O1.nn O2.nn O3.nn) hZ (hw _ (List.mem_of_getElem? (i := 8) rfl)) (hw _ (List.mem_of_getElem? (i := 7) rfl)) (by decide) (by decide)) (g := (mkF m 157 #[.val (.int x0), .val (.int x1), .val (.int x2), .val (.int y0), .val (.int y1), .val (.int y2), .val (.int (2 : Int32)), .val (.long la0), .second, .val (.long la1), .second, .val (.long la2), .second, .val (.long lb0), .second, .val (.long lb1), .second, .val (.long lb2), .second, .val (.long r2), .second, .val (.ref b142), .val (.ref b148), .unset, .unset] [(.ref b148), (.ref b142)])) rfl (by rw [hml]; rfl) (argsL := [(.ref b142), (.ref b148)]) (rest := []) (lenOf pd__28_5bD_5bD_29D rfl) rfl (by show 2 * 0 + _ ≤ _; exact Nat.le_of_eq rfl) (hb hby at_157) (fun _ _ => ⟨rfl, e148, (by decide : 2 + 0 ≤ _), (by decide : 4 + 0 ≤ _)⟩)
    dsimp only [Pt.U, Pt.locs, Pt.cells, Pt.slots] at X156 l156 y156 z156 st156 hQ156
    subst l156 y156 z156
    obtain ⟨rfl, N156q, e156⟩ := hQ156
    have N157 := Fr.app N149 N156q
    have k158 : ∀ t, Steps p.tables e below (T156.setTop (mkF m 160 #[.val (.int x0), .val (.int x1), .val (.int x2), .val (.int y0), .val (.int y1), .val (.int y2), .val (.int (2 : Int32)), .val (.long la0), .second, .val (.long la1), .second, .val (.long la2), .second, .val (.long lb0), .second, .val (.long lb1), .second, .val (.long lb2), .second, .val (.long r2), .second, .val (.ref b142), .val (.ref b148), .unset, .unset] [(.double (FP.dadd (FP.dadd (0 : UInt64) (FP.dmul vla0 vlb0)) (FP.dmul vla1 vlb1)))])) t → Steps p.tables e below (s₁.setTop (entryFrame m #[(.int x0), (.int x1), (.int x2), (.int y0), (.int y1), (.int y2)] maxLocals)) t := fun t k => k155 t (st156 t k)
    obtain ⟨got, hgot⟩ : ∃ z : UInt64, z = (FP.dadd (FP.dadd (0 : UInt64) (FP.dmul vla0 vlb0)) (FP.dmul vla1 vlb1)) := ⟨_, rfl⟩
    have hr : r2.toInt = 0 + la0.toInt * lb0.toInt + la1.toInt * lb1.toInt := by rw [hr2, hr1]; exact own_ref2 B_la0 B_la1 B_lb0 B_lb1
    have hbw : (0 + la0.toInt * lb0.toInt + la1.toInt * lb1.toInt).natAbs < 9007199254740992 := own_refb2 B_la0 B_la1 B_lb0 B_lb1
    obtain ⟨want, hwant⟩ : ∃ z : UInt64, FP.l2d r2 = z := ⟨_, rfl⟩
    have Dwant : Dy (0 + la0.toInt * lb0.toInt + la1.toInt * lb1.toInt) (0) want := by rw [← hwant]; exact hr ▸ Dy.l2d (by rw [hr]; exact hbw)
    have hfin : cmpValue (FP.dcmp got want) .l = (0 : Int32) := by rw [hgot]; exact Dy.cmp_eq O3 Dwant rfl .l
    have k159 : ∀ t, Steps p.tables e below (T156.setTop (mkF m 176 #[.val (.int x0), .val (.int x1), .val (.int x2), .val (.int y0), .val (.int y1), .val (.int y2), .val (.int (2 : Int32)), .val (.long la0), .second, .val (.long la1), .second, .val (.long la2), .second, .val (.long lb0), .second, .val (.long lb1), .second, .val (.long lb2), .second, .val (.long r2), .second, .val (.ref b142), .val (.ref b148), .val (.double got), .second] [(.int (1 : Int32))])) t → Steps p.tables e below (s₁.setTop (entryFrame m #[(.int x0), (.int x1), (.int x2), (.int y0), (.int y1), (.int y2)] maxLocals)) t := fun t k => k158 t (by
      show Steps p.tables e below (T156.setTop (mkF m 160 #[.val (.int x0), .val (.int x1), .val (.int x2), .val (.int y0), .val (.int y1), .val (.int y2), .val (.int (2 : Int32)), .val (.long la0), .second, .val (.long la1), .second, .val (.long la2), .second, .val (.long lb0), .second, .val (.long lb1), .second, .val (.long lb2), .second, .val (.long r2), .second, .val (.ref b142), .val (.ref b148), .unset, .unset] [(.double (FP.dadd (FP.dadd (0 : UInt64) (FP.dmul vla0 vlb0)) (FP.dmul vla1 vlb1)))])) _
      refine castTop (g' := (mkF m 160 #[.val (.int x0), .val (.int x1), .val (.int x2), .val (.int y0), .val (.int y1), .val (.int y2), .val (.int (2 : Int32)), .val (.long la0), .second, .val (.long la1), .second, .val (.long la2), .second, .val (.long lb0), .second, .val (.long lb1), .second, .val (.long lb2), .second, .val (.long r2), .second, .val (.ref b142), .val (.ref b148), .unset, .unset] [(.double got)])) (by rw [hgot]) ?_
      show Steps p.tables e below (T156.setTop (mkF m 160 #[.val (.int x0), .val (.int x1), .val (.int x2), .val (.int y0), .val (.int y1), .val (.int y2), .val (.int (2 : Int32)), .val (.long la0), .second, .val (.long la1), .second, .val (.long la2), .second, .val (.long lb0), .second, .val (.long lb1), .second, .val (.long lb2), .second, .val (.long r2), .second, .val (.ref b142), .val (.ref b148), .unset, .unset] [(.double got)])) _
      refine XS.dstore X156.here hx rfl (hb hby at_160) rfl (l' := #[.val (.int x0), .val (.int x1), .val (.int x2), .val (.int y0), .val (.int y1), .val (.int y2), .val (.int (2 : Int32)), .val (.long la0), .second, .val (.long la1), .second, .val (.long la2), .second, .val (.long lb0), .second, .val (.long lb1), .second, .val (.long lb2), .second, .val (.long r2), .second, .val (.ref b142), .val (.ref b148), .val (.double got), .second]) rfl ?_
      show Steps p.tables e below (T156.setTop (mkF m 162 #[.val (.int x0), .val (.int x1), .val (.int x2), .val (.int y0), .val (.int y1), .val (.int y2), .val (.int (2 : Int32)), .val (.long la0), .second, .val (.long la1), .second, .val (.long la2), .second, .val (.long lb0), .second, .val (.long lb1), .second, .val (.long lb2), .second, .val (.long r2), .second, .val (.ref b142), .val (.ref b148), .val (.double got), .second] [])) _
      refine XS.dload X156.here hx rfl (hb hby at_162) rfl ?_
      show Steps p.tables e below (T156.setTop (mkF m 164 #[.val (.int x0), .val (.int x1), .val (.int x2), .val (.int y0), .val (.int y1), .val (.int y2), .val (.int (2 : Int32)), .val (.long la0), .second, .val (.long la1), .second, .val (.long la2), .second, .val (.long lb0), .second, .val (.long lb1), .second, .val (.long lb2), .second, .val (.long r2), .second, .val (.ref b142), .val (.ref b148), .val (.double got), .second] [(.double got)])) _
      refine XS.lload X156.here hx rfl (hb hby at_164) rfl ?_
      show Steps p.tables e below (T156.setTop (mkF m 166 #[.val (.int x0), .val (.int x1), .val (.int x2), .val (.int y0), .val (.int y1), .val (.int y2), .val (.int (2 : Int32)), .val (.long la0), .second, .val (.long la1), .second, .val (.long la2), .second, .val (.long lb0), .second, .val (.long lb1), .second, .val (.long lb2), .second, .val (.long r2), .second, .val (.ref b142), .val (.ref b148), .val (.double got), .second] [(.long r2), (.double got)])) _
      refine XS.l2dS X156.here hx rfl (hb hby at_166) rfl hwant ?_
      show Steps p.tables e below (T156.setTop (mkF m 167 #[.val (.int x0), .val (.int x1), .val (.int x2), .val (.int y0), .val (.int y1), .val (.int y2), .val (.int (2 : Int32)), .val (.long la0), .second, .val (.long la1), .second, .val (.long la2), .second, .val (.long lb0), .second, .val (.long lb1), .second, .val (.long lb2), .second, .val (.long r2), .second, .val (.ref b142), .val (.ref b148), .val (.double got), .second] [(.double want), (.double got)])) _
      refine XS.dcmpS X156.here hx rfl (hb hby at_167) rfl rfl ?_
      show Steps p.tables e below (T156.setTop (mkF m 168 #[.val (.int x0), .val (.int x1), .val (.int x2), .val (.int y0), .val (.int y1), .val (.int y2), .val (.int (2 : Int32)), .val (.long la0), .second, .val (.long la1), .second, .val (.long la2), .second, .val (.long lb0), .second, .val (.long lb1), .second, .val (.long lb2), .second, .val (.long r2), .second, .val (.ref b142), .val (.ref b148), .val (.double got), .second] [(.int (cmpValue (FP.dcmp got want) .l))])) _
      refine XS.ifNo X156.here hx rfl (hb hby at_168) rfl ((if0 _ _).trans (teq hfin).2) ?_
      show Steps p.tables e below (T156.setTop (mkF m 171 #[.val (.int x0), .val (.int x1), .val (.int x2), .val (.int y0), .val (.int y1), .val (.int y2), .val (.int (2 : Int32)), .val (.long la0), .second, .val (.long la1), .second, .val (.long la2), .second, .val (.long lb0), .second, .val (.long lb1), .second, .val (.long lb2), .second, .val (.long r2), .second, .val (.ref b142), .val (.ref b148), .val (.double got), .second] [])) _
      refine XS.iconst X156.here hx rfl (hb hby at_171) ?_
      show Steps p.tables e below (T156.setTop (mkF m 172 #[.val (.int x0), .val (.int x1), .val (.int x2), .val (.int y0), .val (.int y1), .val (.int y2), .val (.int (2 : Int32)), .val (.long la0), .second, .val (.long la1), .second, .val (.long la2), .second, .val (.long lb0), .second, .val (.long lb1), .second, .val (.long lb2), .second, .val (.long r2), .second, .val (.ref b142), .val (.ref b148), .val (.double got), .second] [(.int (1 : Int32))])) _
      refine XS.goto X156.here hx rfl (pc0 := 172) (pc' := 176) rfl (hb hby at_172) (by decide) (by decide) ?_
      exact k)
    obtain ⟨fs, hr, hrun, hended, hW, hsame⟩ := X156.leave (v := some (.int (1 : Int32))) (fun h => by rw [Bd.returns] at h; cases h)
    refine ⟨_, _, k159 _ (retOut X156 hx (t := .boolean) Bd.returns rfl (Or.inl ⟨rfl, Or.inr (Or.inl rfl), _, rfl⟩) (hb hby at_176) hr), hrun, hended, _, _, rfl, ?_, ⟨_, rfl⟩, hW, hsame.mono (by decide) (by decide)⟩
    show Q_rm0 Z x0 x1 x2 y0 y1 y2 h0 n0 _ T156.heap _
    rw [e156]
    exact ⟨rfl, N157⟩
  · obtain ⟨r1, hr1⟩ : ∃ z : Int64, z = ((0 : Int64) + (la0 * lb0)) := ⟨_, rfl⟩
    obtain ⟨r2, hr2⟩ : ∃ z : Int64, z = (r1 + (la1 * lb1)) := ⟨_, rfl⟩
    obtain ⟨r3, hr3⟩ : ∃ z : Int64, z = (r2 + (la2 * lb2)) := ⟨_, rfl⟩
    obtain ⟨vla0, hvla0⟩ : ∃ z : UInt64, FP.l2d la0 = z := ⟨_, rfl⟩
    have Dvla0 : Dy (la0.toInt) (0) vla0 := by rw [← hvla0]; exact Dy.l2d (by omega)
    obtain ⟨vla1, hvla1⟩ : ∃ z : UInt64, FP.l2d la1 = z := ⟨_, rfl⟩
    have Dvla1 : Dy (la1.toInt) (0) vla1 := by rw [← hvla1]; exact Dy.l2d (by omega)
    obtain ⟨vla2, hvla2⟩ : ∃ z : UInt64, FP.l2d la2 = z := ⟨_, rfl⟩
    have Dvla2 : Dy (la2.toInt) (0) vla2 := by rw [← hvla2]; exact Dy.l2d (by omega)
    have k160 : ∀ t, Steps p.tables e below (s₁.setTop (mkF m 132 #[.val (.int x0), .val (.int x1), .val (.int x2), .val (.int y0), .val (.int y1), .val (.int y2), .val (.int (3 : Int32)), .val (.long la0), .second, .val (.long la1), .second, .val (.long la2), .second, .val (.long lb0), .second, .val (.long lb1), .second, .val (.long lb2), .second, .val (.long r3), .second, .unset, .unset, .unset, .unset] [(.double vla2), (.double vla1), (.double vla0), (.int (3 : Int32))])) t → Steps p.tables e below (s₁.setTop (entryFrame m #[(.int x0), (.int x1), (.int x2), (.int y0), (.int y1), (.int y2)] maxLocals)) t := fun t k => k102 t (by
      show Steps p.tables e below (s₁.setTop (mkF m 73 #[.val (.int x0), .val (.int x1), .val (.int x2), .val (.int y0), .val (.int y1), .val (.int y2), .val (.int (3 : Int32)), .val (.long la0), .second, .val (.long la1), .second, .val (.long la2), .second, .val (.long lb0), .second, .val (.long lb1), .second, .val (.long lb2), .second, .val (.long (0 : Int64)), .second, .unset, .unset, .unset, .unset] [])) _
      refine XS.iload X0.here hx rfl (hb hby at_73) rfl ?_
      show Steps p.tables e below (s₁.setTop (mkF m 75 #[.val (.int x0), .val (.int x1), .val (.int x2), .val (.int y0), .val (.int y1), .val (.int y2), .val (.int (3 : Int32)), .val (.long la0), .second, .val (.long la1), .second, .val (.long la2), .second, .val (.long lb0), .second, .val (.long lb1), .second, .val (.long lb2), .second, .val (.long (0 : Int64)), .second, .unset, .unset, .unset, .unset] [(.int (3 : Int32))])) _
      refine XS.iconst X0.here hx rfl (hb hby at_75) ?_
      show Steps p.tables e below (s₁.setTop (mkF m 76 #[.val (.int x0), .val (.int x1), .val (.int x2), .val (.int y0), .val (.int y1), .val (.int y2), .val (.int (3 : Int32)), .val (.long la0), .second, .val (.long la1), .second, .val (.long la2), .second, .val (.long lb0), .second, .val (.long lb1), .second, .val (.long lb2), .second, .val (.long (0 : Int64)), .second, .unset, .unset, .unset, .unset] [(.int (1 : Int32)), (.int (3 : Int32))])) _
      refine XS.icmpNo X0.here hx rfl (hb hby at_76) rfl (flt (by decide)).1 ?_
      show Steps p.tables e below (s₁.setTop (mkF m 79 #[.val (.int x0), .val (.int x1), .val (.int x2), .val (.int y0), .val (.int y1), .val (.int y2), .val (.int (3 : Int32)), .val (.long la0), .second, .val (.long la1), .second, .val (.long la2), .second, .val (.long lb0), .second, .val (.long lb1), .second, .val (.long lb2), .second, .val (.long (0 : Int64)), .second, .unset, .unset, .unset, .unset] [])) _
      refine XS.lload X0.here hx rfl (hb hby at_79) rfl ?_
      show Steps p.tables e below (s₁.setTop (mkF m 81 #[.val (.int x0), .val (.int x1), .val (.int x2), .val (.int y0), .val (.int y1), .val (.int y2), .val (.int (3 : Int32)), .val (.long la0), .second, .val (.long la1), .second, .val (.long la2), .second, .val (.long lb0), .second, .val (.long lb1), .second, .val (.long lb2), .second, .val (.long (0 : Int64)), .second, .unset, .unset, .unset, .unset] [(.long (0 : Int64))])) _
      refine XS.lload X0.here hx rfl (hb hby at_81) rfl ?_
      show Steps p.tables e below (s₁.setTop (mkF m 83 #[.val (.int x0), .val (.int x1), .val (.int x2), .val (.int y0), .val (.int y1), .val (.int y2), .val (.int (3 : Int32)), .val (.long la0), .second, .val (.long la1), .second, .val (.long la2), .second, .val (.long lb0), .second, .val (.long lb1), .second, .val (.long lb2), .second, .val (.long (0 : Int64)), .second, .unset, .unset, .unset, .unset] [(.long la0), (.long (0 : Int64))])) _
      refine XS.lload X0.here hx rfl (hb hby at_83) rfl ?_
      show Steps p.tables e below (s₁.setTop (mkF m 85 #[.val (.int x0), .val (.int x1), .val (.int x2), .val (.int y0), .val (.int y1), .val (.int y2), .val (.int (3 : Int32)), .val (.long la0), .second, .val (.long la1), .second, .val (.long la2), .second, .val (.long lb0), .second, .val (.long lb1), .second, .val (.long lb2), .second, .val (.long (0 : Int64)), .second, .unset, .unset, .unset, .unset] [(.long lb0), (.long la0), (.long (0 : Int64))])) _
      refine XS.lmul X0.here hx rfl (hb hby at_85) rfl ?_
      show Steps p.tables e below (s₁.setTop (mkF m 86 #[.val (.int x0), .val (.int x1), .val (.int x2), .val (.int y0), .val (.int y1), .val (.int y2), .val (.int (3 : Int32)), .val (.long la0), .second, .val (.long la1), .second, .val (.long la2), .second, .val (.long lb0), .second, .val (.long lb1), .second, .val (.long lb2), .second, .val (.long (0 : Int64)), .second, .unset, .unset, .unset, .unset] [(.long (la0 * lb0)), (.long (0 : Int64))])) _
      refine XS.ladd X0.here hx rfl (hb hby at_86) rfl ?_
      show Steps p.tables e below (s₁.setTop (mkF m 87 #[.val (.int x0), .val (.int x1), .val (.int x2), .val (.int y0), .val (.int y1), .val (.int y2), .val (.int (3 : Int32)), .val (.long la0), .second, .val (.long la1), .second, .val (.long la2), .second, .val (.long lb0), .second, .val (.long lb1), .second, .val (.long lb2), .second, .val (.long (0 : Int64)), .second, .unset, .unset, .unset, .unset] [(.long ((0 : Int64) + (la0 * lb0)))])) _
      refine castTop (g' := (mkF m 87 #[.val (.int x0), .val (.int x1), .val (.int x2), .val (.int y0), .val (.int y1), .val (.int y2), .val (.int (3 : Int32)), .val (.long la0), .second, .val (.long la1), .second, .val (.long la2), .second, .val (.long lb0), .second, .val (.long lb1), .second, .val (.long lb2), .second, .val (.long (0 : Int64)), .second, .unset, .unset, .unset, .unset] [(.long r1)])) (by rw [hr1]) ?_
      show Steps p.tables e below (s₁.setTop (mkF m 87 #[.val (.int x0), .val (.int x1), .val (.int x2), .val (.int y0), .val (.int y1), .val (.int y2), .val (.int (3 : Int32)), .val (.long la0), .second, .val (.long la1), .second, .val (.long la2), .second, .val (.long lb0), .second, .val (.long lb1), .second, .val (.long lb2), .second, .val (.long (0 : Int64)), .second, .unset, .unset, .unset, .unset] [(.long r1)])) _
      refine XS.lstore X0.here hx rfl (hb hby at_87) rfl (l' := #[.val (.int x0), .val (.int x1), .val (.int x2), .val (.int y0), .val (.int y1), .val (.int y2), .val (.int (3 : Int32)), .val (.long la0), .second, .val (.long la1), .second, .val (.long la2), .second, .val (.long lb0), .second, .val (.long lb1), .second, .val (.long lb2), .second, .val (.long r1), .second, .unset, .unset, .unset, .unset]) rfl ?_
      show Steps p.tables e below (s₁.setTop (mkF m 89 #[.val (.int x0), .val (.int x1), .val (.int x2), .val (.int y0), .val (.int y1), .val (.int y2), .val (.int (3 : Int32)), .val (.long la0), .second, .val (.long la1), .second, .val (.long la2), .second, .val (.long lb0), .second, .val (.long lb1), .second, .val (.long lb2), .second, .val (.long r1), .second, .unset, .unset, .unset, .unset] [])) _
      refine XS.iload X0.here hx rfl (hb hby at_89) rfl ?_
      show Steps p.tables e below (s₁.setTop (mkF m 91 #[.val (.int x0), .val (.int x1), .val (.int x2), .val (.int y0), .val (.int y1), .val (.int y2), .val (.int (3 : Int32)), .val (.long la0), .second, .val (.long la1), .second, .val (.long la2), .second, .val (.long lb0), .second, .val (.long lb1), .second, .val (.long lb2), .second, .val (.long r1), .second, .unset, .unset, .unset, .unset] [(.int (3 : Int32))])) _
      refine XS.iconst X0.here hx rfl (hb hby at_91) ?_
      show Steps p.tables e below (s₁.setTop (mkF m 92 #[.val (.int x0), .val (.int x1), .val (.int x2), .val (.int y0), .val (.int y1), .val (.int y2), .val (.int (3 : Int32)), .val (.long la0), .second, .val (.long la1), .second, .val (.long la2), .second, .val (.long lb0), .second, .val (.long lb1), .second, .val (.long lb2), .second, .val (.long r1), .second, .unset, .unset, .unset, .unset] [(.int (2 : Int32)), (.int (3 : Int32))])) _
      refine XS.icmpNo X0.here hx rfl (hb hby at_92) rfl (flt (by decide)).1 ?_
      show Steps p.tables e below (s₁.setTop (mkF m 95 #[.val (.int x0), .val (.int x1), .val (.int x2), .val (.int y0), .val (.int y1), .val (.int y2), .val (.int (3 : Int32)), .val (.long la0), .second, .val (.long la1), .second, .val (.long la2), .second, .val (.long lb0), .second, .val (.long lb1), .second, .val (.long lb2), .second, .val (.long r1), .second, .unset, .unset, .unset, .unset] [])) _
      refine XS.lload X0.here hx rfl (hb hby at_95) rfl ?_
      show Steps p.tables e below (s₁.setTop (mkF m 97 #[.val (.int x0), .val (.int x1), .val (.int x2), .val (.int y0), .val (.int y1), .val (.int y2), .val (.int (3 : Int32)), .val (.long la0), .second, .val (.long la1), .second, .val (.long la2), .second, .val (.long lb0), .second, .val (.long lb1), .second, .val (.long lb2), .second, .val (.long r1), .second, .unset, .unset, .unset, .unset] [(.long r1)])) _
      refine XS.lload X0.here hx rfl (hb hby at_97) rfl ?_
      show Steps p.tables e below (s₁.setTop (mkF m 99 #[.val (.int x0), .val (.int x1), .val (.int x2), .val (.int y0), .val (.int y1), .val (.int y2), .val (.int (3 : Int32)), .val (.long la0), .second, .val (.long la1), .second, .val (.long la2), .second, .val (.long lb0), .second, .val (.long lb1), .second, .val (.long lb2), .second, .val (.long r1), .second, .unset, .unset, .unset, .unset] [(.long la1), (.long r1)])) _
      refine XS.lload X0.here hx rfl (hb hby at_99) rfl ?_
      show Steps p.tables e below (s₁.setTop (mkF m 101 #[.val (.int x0), .val (.int x1), .val (.int x2), .val (.int y0), .val (.int y1), .val (.int y2), .val (.int (3 : Int32)), .val (.long la0), .second, .val (.long la1), .second, .val (.long la2), .second, .val (.long lb0), .second, .val (.long lb1), .second, .val (.long lb2), .second, .val (.long r1), .second, .unset, .unset, .unset, .unset] [(.long lb1), (.long la1), (.long r1)])) _
      refine XS.lmul X0.here hx rfl (hb hby at_101) rfl ?_
      show Steps p.tables e below (s₁.setTop (mkF m 102 #[.val (.int x0), .val (.int x1), .val (.int x2), .val (.int y0), .val (.int y1), .val (.int y2), .val (.int (3 : Int32)), .val (.long la0), .second, .val (.long la1), .second, .val (.long la2), .second, .val (.long lb0), .second, .val (.long lb1), .second, .val (.long lb2), .second, .val (.long r1), .second, .unset, .unset, .unset, .unset] [(.long (la1 * lb1)), (.long r1)])) _
      refine XS.ladd X0.here hx rfl (hb hby at_102) rfl ?_
      show Steps p.tables e below (s₁.setTop (mkF m 103 #[.val (.int x0), .val (.int x1), .val (.int x2), .val (.int y0), .val (.int y1), .val (.int y2), .val (.int (3 : Int32)), .val (.long la0), .second, .val (.long la1), .second, .val (.long la2), .second, .val (.long lb0), .second, .val (.long lb1), .second, .val (.long lb2), .second, .val (.long r1), .second, .unset, .unset, .unset, .unset] [(.long (r1 + (la1 * lb1)))])) _
      refine castTop (g' := (mkF m 103 #[.val (.int x0), .val (.int x1), .val (.int x2), .val (.int y0), .val (.int y1), .val (.int y2), .val (.int (3 : Int32)), .val (.long la0), .second, .val (.long la1), .second, .val (.long la2), .second, .val (.long lb0), .second, .val (.long lb1), .second, .val (.long lb2), .second, .val (.long r1), .second, .unset, .unset, .unset, .unset] [(.long r2)])) (by rw [hr2]) ?_
      show Steps p.tables e below (s₁.setTop (mkF m 103 #[.val (.int x0), .val (.int x1), .val (.int x2), .val (.int y0), .val (.int y1), .val (.int y2), .val (.int (3 : Int32)), .val (.long la0), .second, .val (.long la1), .second, .val (.long la2), .second, .val (.long lb0), .second, .val (.long lb1), .second, .val (.long lb2), .second, .val (.long r1), .second, .unset, .unset, .unset, .unset] [(.long r2)])) _
      refine XS.lstore X0.here hx rfl (hb hby at_103) rfl (l' := #[.val (.int x0), .val (.int x1), .val (.int x2), .val (.int y0), .val (.int y1), .val (.int y2), .val (.int (3 : Int32)), .val (.long la0), .second, .val (.long la1), .second, .val (.long la2), .second, .val (.long lb0), .second, .val (.long lb1), .second, .val (.long lb2), .second, .val (.long r2), .second, .unset, .unset, .unset, .unset]) rfl ?_
      show Steps p.tables e below (s₁.setTop (mkF m 105 #[.val (.int x0), .val (.int x1), .val (.int x2), .val (.int y0), .val (.int y1), .val (.int y2), .val (.int (3 : Int32)), .val (.long la0), .second, .val (.long la1), .second, .val (.long la2), .second, .val (.long lb0), .second, .val (.long lb1), .second, .val (.long lb2), .second, .val (.long r2), .second, .unset, .unset, .unset, .unset] [])) _
      refine XS.iload X0.here hx rfl (hb hby at_105) rfl ?_
      show Steps p.tables e below (s₁.setTop (mkF m 107 #[.val (.int x0), .val (.int x1), .val (.int x2), .val (.int y0), .val (.int y1), .val (.int y2), .val (.int (3 : Int32)), .val (.long la0), .second, .val (.long la1), .second, .val (.long la2), .second, .val (.long lb0), .second, .val (.long lb1), .second, .val (.long lb2), .second, .val (.long r2), .second, .unset, .unset, .unset, .unset] [(.int (3 : Int32))])) _
      refine XS.iconst X0.here hx rfl (hb hby at_107) ?_
      show Steps p.tables e below (s₁.setTop (mkF m 108 #[.val (.int x0), .val (.int x1), .val (.int x2), .val (.int y0), .val (.int y1), .val (.int y2), .val (.int (3 : Int32)), .val (.long la0), .second, .val (.long la1), .second, .val (.long la2), .second, .val (.long lb0), .second, .val (.long lb1), .second, .val (.long lb2), .second, .val (.long r2), .second, .unset, .unset, .unset, .unset] [(.int (3 : Int32)), (.int (3 : Int32))])) _
      refine XS.icmpNo X0.here hx rfl (hb hby at_108) rfl (flt (by decide)).1 ?_
      show Steps p.tables e below (s₁.setTop (mkF m 111 #[.val (.int x0), .val (.int x1), .val (.int x2), .val (.int y0), .val (.int y1), .val (.int y2), .val (.int (3 : Int32)), .val (.long la0), .second, .val (.long la1), .second, .val (.long la2), .second, .val (.long lb0), .second, .val (.long lb1), .second, .val (.long lb2), .second, .val (.long r2), .second, .unset, .unset, .unset, .unset] [])) _
      refine XS.lload X0.here hx rfl (hb hby at_111) rfl ?_
      show Steps p.tables e below (s₁.setTop (mkF m 113 #[.val (.int x0), .val (.int x1), .val (.int x2), .val (.int y0), .val (.int y1), .val (.int y2), .val (.int (3 : Int32)), .val (.long la0), .second, .val (.long la1), .second, .val (.long la2), .second, .val (.long lb0), .second, .val (.long lb1), .second, .val (.long lb2), .second, .val (.long r2), .second, .unset, .unset, .unset, .unset] [(.long r2)])) _
      refine XS.lload X0.here hx rfl (hb hby at_113) rfl ?_
      show Steps p.tables e below (s₁.setTop (mkF m 115 #[.val (.int x0), .val (.int x1), .val (.int x2), .val (.int y0), .val (.int y1), .val (.int y2), .val (.int (3 : Int32)), .val (.long la0), .second, .val (.long la1), .second, .val (.long la2), .second, .val (.long lb0), .second, .val (.long lb1), .second, .val (.long lb2), .second, .val (.long r2), .second, .unset, .unset, .unset, .unset] [(.long la2), (.long r2)])) _
      refine XS.lload X0.here hx rfl (hb hby at_115) rfl ?_
      show Steps p.tables e below (s₁.setTop (mkF m 117 #[.val (.int x0), .val (.int x1), .val (.int x2), .val (.int y0), .val (.int y1), .val (.int y2), .val (.int (3 : Int32)), .val (.long la0), .second, .val (.long la1), .second, .val (.long la2), .second, .val (.long lb0), .second, .val (.long lb1), .second, .val (.long lb2), .second, .val (.long r2), .second, .unset, .unset, .unset, .unset] [(.long lb2), (.long la2), (.long r2)])) _
      refine XS.lmul X0.here hx rfl (hb hby at_117) rfl ?_
      show Steps p.tables e below (s₁.setTop (mkF m 118 #[.val (.int x0), .val (.int x1), .val (.int x2), .val (.int y0), .val (.int y1), .val (.int y2), .val (.int (3 : Int32)), .val (.long la0), .second, .val (.long la1), .second, .val (.long la2), .second, .val (.long lb0), .second, .val (.long lb1), .second, .val (.long lb2), .second, .val (.long r2), .second, .unset, .unset, .unset, .unset] [(.long (la2 * lb2)), (.long r2)])) _
      refine XS.ladd X0.here hx rfl (hb hby at_118) rfl ?_
      show Steps p.tables e below (s₁.setTop (mkF m 119 #[.val (.int x0), .val (.int x1), .val (.int x2), .val (.int y0), .val (.int y1), .val (.int y2), .val (.int (3 : Int32)), .val (.long la0), .second, .val (.long la1), .second, .val (.long la2), .second, .val (.long lb0), .second, .val (.long lb1), .second, .val (.long lb2), .second, .val (.long r2), .second, .unset, .unset, .unset, .unset] [(.long (r2 + (la2 * lb2)))])) _
      refine castTop (g' := (mkF m 119 #[.val (.int x0), .val (.int x1), .val (.int x2), .val (.int y0), .val (.int y1), .val (.int y2), .val (.int (3 : Int32)), .val (.long la0), .second, .val (.long la1), .second, .val (.long la2), .second, .val (.long lb0), .second, .val (.long lb1), .second, .val (.long lb2), .second, .val (.long r2), .second, .unset, .unset, .unset, .unset] [(.long r3)])) (by rw [hr3]) ?_
      show Steps p.tables e below (s₁.setTop (mkF m 119 #[.val (.int x0), .val (.int x1), .val (.int x2), .val (.int y0), .val (.int y1), .val (.int y2), .val (.int (3 : Int32)), .val (.long la0), .second, .val (.long la1), .second, .val (.long la2), .second, .val (.long lb0), .second, .val (.long lb1), .second, .val (.long lb2), .second, .val (.long r2), .second, .unset, .unset, .unset, .unset] [(.long r3)])) _
      refine XS.lstore X0.here hx rfl (hb hby at_119) rfl (l' := #[.val (.int x0), .val (.int x1), .val (.int x2), .val (.int y0), .val (.int y1), .val (.int y2), .val (.int (3 : Int32)), .val (.long la0), .second, .val (.long la1), .second, .val (.long la2), .second, .val (.long lb0), .second, .val (.long lb1), .second, .val (.long lb2), .second, .val (.long r3), .second, .unset, .unset, .unset, .unset]) rfl ?_
      show Steps p.tables e below (s₁.setTop (mkF m 121 #[.val (.int x0), .val (.int x1), .val (.int x2), .val (.int y0), .val (.int y1), .val (.int y2), .val (.int (3 : Int32)), .val (.long la0), .second, .val (.long la1), .second, .val (.long la2), .second, .val (.long lb0), .second, .val (.long lb1), .second, .val (.long lb2), .second, .val (.long r3), .second, .unset, .unset, .unset, .unset] [])) _
      refine XS.iload X0.here hx rfl (hb hby at_121) rfl ?_
      show Steps p.tables e below (s₁.setTop (mkF m 123 #[.val (.int x0), .val (.int x1), .val (.int x2), .val (.int y0), .val (.int y1), .val (.int y2), .val (.int (3 : Int32)), .val (.long la0), .second, .val (.long la1), .second, .val (.long la2), .second, .val (.long lb0), .second, .val (.long lb1), .second, .val (.long lb2), .second, .val (.long r3), .second, .unset, .unset, .unset, .unset] [(.int (3 : Int32))])) _
      refine XS.lload X0.here hx rfl (hb hby at_123) rfl ?_
      show Steps p.tables e below (s₁.setTop (mkF m 125 #[.val (.int x0), .val (.int x1), .val (.int x2), .val (.int y0), .val (.int y1), .val (.int y2), .val (.int (3 : Int32)), .val (.long la0), .second, .val (.long la1), .second, .val (.long la2), .second, .val (.long lb0), .second, .val (.long lb1), .second, .val (.long lb2), .second, .val (.long r3), .second, .unset, .unset, .unset, .unset] [(.long la0), (.int (3 : Int32))])) _
      refine XS.l2dS X0.here hx rfl (hb hby at_125) rfl hvla0 ?_
      show Steps p.tables e below (s₁.setTop (mkF m 126 #[.val (.int x0), .val (.int x1), .val (.int x2), .val (.int y0), .val (.int y1), .val (.int y2), .val (.int (3 : Int32)), .val (.long la0), .second, .val (.long la1), .second, .val (.long la2), .second, .val (.long lb0), .second, .val (.long lb1), .second, .val (.long lb2), .second, .val (.long r3), .second, .unset, .unset, .unset, .unset] [(.double vla0), (.int (3 : Int32))])) _
      refine XS.lload X0.here hx rfl (hb hby at_126) rfl ?_
      show Steps p.tables e below (s₁.setTop (mkF m 128 #[.val (.int x0), .val (.int x1), .val (.int x2), .val (.int y0), .val (.int y1), .val (.int y2), .val (.int (3 : Int32)), .val (.long la0), .second, .val (.long la1), .second, .val (.long la2), .second, .val (.long lb0), .second, .val (.long lb1), .second, .val (.long lb2), .second, .val (.long r3), .second, .unset, .unset, .unset, .unset] [(.long la1), (.double vla0), (.int (3 : Int32))])) _
      refine XS.l2dS X0.here hx rfl (hb hby at_128) rfl hvla1 ?_
      show Steps p.tables e below (s₁.setTop (mkF m 129 #[.val (.int x0), .val (.int x1), .val (.int x2), .val (.int y0), .val (.int y1), .val (.int y2), .val (.int (3 : Int32)), .val (.long la0), .second, .val (.long la1), .second, .val (.long la2), .second, .val (.long lb0), .second, .val (.long lb1), .second, .val (.long lb2), .second, .val (.long r3), .second, .unset, .unset, .unset, .unset] [(.double vla1), (.double vla0), (.int (3 : Int32))])) _
      refine XS.lload X0.here hx rfl (hb hby at_129) rfl ?_
      show Steps p.tables e below (s₁.setTop (mkF m 131 #[.val (.int x0), .val (.int x1), .val (.int x2), .val (.int y0), .val (.int y1), .val (.int y2), .val (.int (3 : Int32)), .val (.long la0), .second, .val (.long la1), .second, .val (.long la2), .second, .val (.long lb0), .second, .val (.long lb1), .second, .val (.long lb2), .second, .val (.long r3), .second, .unset, .unset, .unset, .unset] [(.long la2), (.double vla1), (.double vla0), (.int (3 : Int32))])) _
      refine XS.l2dS X0.here hx rfl (hb hby at_131) rfl hvla2 ?_
      exact k)
    obtain ⟨_, _, ⟨T161, L161, k161, n161⟩, -, X161, ⟨Lc161, hQ161, l161, y161, z161⟩, st161⟩ := Jvm.LawKit.callS X0 hx (y := (⟨"com/example/frontweave/frontweave/clustering/VectorsDotPinLaw", "vec", "(IDDD)[D"⟩ : MethodName)) hown (mvT hZ (hw _ (List.mem_of_getElem? (i := 0) rfl))) (mvT hZ (hw _ (List.mem_of_getElem? (i := 1) rfl))) (mvT hZ (hw _ (List.mem_of_getElem? (i := 2) rfl))) (mvT hZ (hw _ (List.mem_of_getElem? (i := 3) rfl))) (by decide) (backOf (W := 0) (vec3 l Z a0 hw [] vla0 vla1 vla2 h0 n0 Z0 ) hZ (hw _ (List.mem_of_getElem? (i := 3) rfl)) (hw _ (List.mem_of_getElem? (i := 2) rfl)) (by decide) (by decide)) (g := (mkF m 132 #[.val (.int x0), .val (.int x1), .val (.int x2), .val (.int y0), .val (.int y1), .val (.int y2), .val (.int (3 : Int32)), .val (.long la0), .second, .val (.long la1), .second, .val (.long la2), .second, .val (.long lb0), .second, .val (.long lb1), .second, .val (.long lb2), .second, .val (.long r3), .second, .unset, .unset, .unset, .unset] [(.double vla2), (.double vla1), (.double vla0), (.int (3 : Int32))])) rfl (by rw [hml]; rfl) (argsL := [(.int (3 : Int32)), (.double vla0), (.double vla1), (.double vla2)]) (rest := []) (lenOf pd__28IDDD_29_5bD rfl) rfl (by show 2 * 0 + _ ≤ _; exact Nat.le_of_eq rfl) (hb hby at_132) (fun _ _ => ⟨rfl, e0, (by decide : 0 + 1 ≤ _), (by decide : 0 + 3 ≤ _)⟩)
    dsimp only [Pt.U, Pt.locs, Pt.cells, Pt.slots] at X161 l161 y161 z161 st161 hQ161
    subst l161 y161 z161
    obtain ⟨h161, e161⟩ : ∃ h', T161.heap = h' := ⟨_, rfl⟩
    rw [e161] at hQ161
    obtain ⟨b161, kk161, rfl, N161q, gb161, K161, V161⟩ := hQ161
    have N162 := Fr.app N0 N161q
    have k163 : ∀ t, Steps p.tables e below (T161.setTop (mkF m 135 #[.val (.int x0), .val (.int x1), .val (.int x2), .val (.int y0), .val (.int y1), .val (.int y2), .val (.int (3 : Int32)), .val (.long la0), .second, .val (.long la1), .second, .val (.long la2), .second, .val (.long lb0), .second, .val (.long lb1), .second, .val (.long lb2), .second, .val (.long r3), .second, .unset, .unset, .unset, .unset] [(.ref b161)])) t → Steps p.tables e below (s₁.setTop (entryFrame m #[(.int x0), (.int x1), (.int x2), (.int y0), (.int y1), (.int y2)] maxLocals)) t := fun t k => k160 t (st161 t k)
    have g164 : n0 ≤ b161 := Nat.le_trans Z0 (Nat.le_of_eq gb161.symm)
    have Z165 : n0 ≤ h161.size := Nat.le_trans Z0 K161.1
    obtain ⟨vlb0, hvlb0⟩ : ∃ z : UInt64, FP.l2d lb0 = z := ⟨_, rfl⟩
    have Dvlb0 : Dy (lb0.toInt) (0) vlb0 := by rw [← hvlb0]; exact Dy.l2d (by omega)
    obtain ⟨vlb1, hvlb1⟩ : ∃ z : UInt64, FP.l2d lb1 = z := ⟨_, rfl⟩
    have Dvlb1 : Dy (lb1.toInt) (0) vlb1 := by rw [← hvlb1]; exact Dy.l2d (by omega)
    obtain ⟨vlb2, hvlb2⟩ : ∃ z : UInt64, FP.l2d lb2 = z := ⟨_, rfl⟩
    have Dvlb2 : Dy (lb2.toInt) (0) vlb2 := by rw [← hvlb2]; exact Dy.l2d (by omega)
    have k166 : ∀ t, Steps p.tables e below (T161.setTop (mkF m 148 #[.val (.int x0), .val (.int x1), .val (.int x2), .val (.int y0), .val (.int y1), .val (.int y2), .val (.int (3 : Int32)), .val (.long la0), .second, .val (.long la1), .second, .val (.long la2), .second, .val (.long lb0), .second, .val (.long lb1), .second, .val (.long lb2), .second, .val (.long r3), .second, .val (.ref b161), .unset, .unset, .unset] [(.double vlb2), (.double vlb1), (.double vlb0), (.int (3 : Int32))])) t → Steps p.tables e below (s₁.setTop (entryFrame m #[(.int x0), (.int x1), (.int x2), (.int y0), (.int y1), (.int y2)] maxLocals)) t := fun t k => k163 t (by
      show Steps p.tables e below (T161.setTop (mkF m 135 #[.val (.int x0), .val (.int x1), .val (.int x2), .val (.int y0), .val (.int y1), .val (.int y2), .val (.int (3 : Int32)), .val (.long la0), .second, .val (.long la1), .second, .val (.long la2), .second, .val (.long lb0), .second, .val (.long lb1), .second, .val (.long lb2), .second, .val (.long r3), .second, .unset, .unset, .unset, .unset] [(.ref b161)])) _
      refine XS.astore X161.here hx rfl (hb hby at_135) rfl rfl (l' := #[.val (.int x0), .val (.int x1), .val (.int x2), .val (.int y0), .val (.int y1), .val (.int y2), .val (.int (3 : Int32)), .val (.long la0), .second, .val (.long la1), .second, .val (.long la2), .second, .val (.long lb0), .second, .val (.long lb1), .second, .val (.long lb2), .second, .val (.long r3), .second, .val (.ref b161), .unset, .unset, .unset]) rfl ?_
      show Steps p.tables e below (T161.setTop (mkF m 137 #[.val (.int x0), .val (.int x1), .val (.int x2), .val (.int y0), .val (.int y1), .val (.int y2), .val (.int (3 : Int32)), .val (.long la0), .second, .val (.long la1), .second, .val (.long la2), .second, .val (.long lb0), .second, .val (.long lb1), .second, .val (.long lb2), .second, .val (.long r3), .second, .val (.ref b161), .unset, .unset, .unset] [])) _
      refine XS.iload X161.here hx rfl (hb hby at_137) rfl ?_
      show Steps p.tables e below (T161.setTop (mkF m 139 #[.val (.int x0), .val (.int x1), .val (.int x2), .val (.int y0), .val (.int y1), .val (.int y2), .val (.int (3 : Int32)), .val (.long la0), .second, .val (.long la1), .second, .val (.long la2), .second, .val (.long lb0), .second, .val (.long lb1), .second, .val (.long lb2), .second, .val (.long r3), .second, .val (.ref b161), .unset, .unset, .unset] [(.int (3 : Int32))])) _
      refine XS.lload X161.here hx rfl (hb hby at_139) rfl ?_
      show Steps p.tables e below (T161.setTop (mkF m 141 #[.val (.int x0), .val (.int x1), .val (.int x2), .val (.int y0), .val (.int y1), .val (.int y2), .val (.int (3 : Int32)), .val (.long la0), .second, .val (.long la1), .second, .val (.long la2), .second, .val (.long lb0), .second, .val (.long lb1), .second, .val (.long lb2), .second, .val (.long r3), .second, .val (.ref b161), .unset, .unset, .unset] [(.long lb0), (.int (3 : Int32))])) _
      refine XS.l2dS X161.here hx rfl (hb hby at_141) rfl hvlb0 ?_
      show Steps p.tables e below (T161.setTop (mkF m 142 #[.val (.int x0), .val (.int x1), .val (.int x2), .val (.int y0), .val (.int y1), .val (.int y2), .val (.int (3 : Int32)), .val (.long la0), .second, .val (.long la1), .second, .val (.long la2), .second, .val (.long lb0), .second, .val (.long lb1), .second, .val (.long lb2), .second, .val (.long r3), .second, .val (.ref b161), .unset, .unset, .unset] [(.double vlb0), (.int (3 : Int32))])) _
      refine XS.lload X161.here hx rfl (hb hby at_142) rfl ?_
      show Steps p.tables e below (T161.setTop (mkF m 144 #[.val (.int x0), .val (.int x1), .val (.int x2), .val (.int y0), .val (.int y1), .val (.int y2), .val (.int (3 : Int32)), .val (.long la0), .second, .val (.long la1), .second, .val (.long la2), .second, .val (.long lb0), .second, .val (.long lb1), .second, .val (.long lb2), .second, .val (.long r3), .second, .val (.ref b161), .unset, .unset, .unset] [(.long lb1), (.double vlb0), (.int (3 : Int32))])) _
      refine XS.l2dS X161.here hx rfl (hb hby at_144) rfl hvlb1 ?_
      show Steps p.tables e below (T161.setTop (mkF m 145 #[.val (.int x0), .val (.int x1), .val (.int x2), .val (.int y0), .val (.int y1), .val (.int y2), .val (.int (3 : Int32)), .val (.long la0), .second, .val (.long la1), .second, .val (.long la2), .second, .val (.long lb0), .second, .val (.long lb1), .second, .val (.long lb2), .second, .val (.long r3), .second, .val (.ref b161), .unset, .unset, .unset] [(.double vlb1), (.double vlb0), (.int (3 : Int32))])) _
      refine XS.lload X161.here hx rfl (hb hby at_145) rfl ?_
      show Steps p.tables e below (T161.setTop (mkF m 147 #[.val (.int x0), .val (.int x1), .val (.int x2), .val (.int y0), .val (.int y1), .val (.int y2), .val (.int (3 : Int32)), .val (.long la0), .second, .val (.long la1), .second, .val (.long la2), .second, .val (.long lb0), .second, .val (.long lb1), .second, .val (.long lb2), .second, .val (.long r3), .second, .val (.ref b161), .unset, .unset, .unset] [(.long lb2), (.double vlb1), (.double vlb0), (.int (3 : Int32))])) _
      refine XS.l2dS X161.here hx rfl (hb hby at_147) rfl hvlb2 ?_
      exact k)
    obtain ⟨_, _, ⟨T167, L167, k167, n167⟩, -, X167, ⟨Lc167, hQ167, l167, y167, z167⟩, st167⟩ := Jvm.LawKit.callS X161 hx (y := (⟨"com/example/frontweave/frontweave/clustering/VectorsDotPinLaw", "vec", "(IDDD)[D"⟩ : MethodName)) hown (mvT hZ (hw _ (List.mem_of_getElem? (i := 0) rfl))) (mvT hZ (hw _ (List.mem_of_getElem? (i := 1) rfl))) (mvT hZ (hw _ (List.mem_of_getElem? (i := 2) rfl))) (mvT hZ (hw _ (List.mem_of_getElem? (i := 3) rfl))) (by decide) (backOf (W := 0) (vec3 l Z a0 hw [] vlb0 vlb1 vlb2 h161 n0 Z165 ) hZ (hw _ (List.mem_of_getElem? (i := 3) rfl)) (hw _ (List.mem_of_getElem? (i := 2) rfl)) (by decide) (by decide)) (g := (mkF m 148 #[.val (.int x0), .val (.int x1), .val (.int x2), .val (.int y0), .val (.int y1), .val (.int y2), .val (.int (3 : Int32)), .val (.long la0), .second, .val (.long la1), .second, .val (.long la2), .second, .val (.long lb0), .second, .val (.long lb1), .second, .val (.long lb2), .second, .val (.long r3), .second, .val (.ref b161), .unset, .unset, .unset] [(.double vlb2), (.double vlb1), (.double vlb0), (.int (3 : Int32))])) rfl (by rw [hml]; rfl) (argsL := [(.int (3 : Int32)), (.double vlb0), (.double vlb1), (.double vlb2)]) (rest := []) (lenOf pd__28IDDD_29_5bD rfl) rfl (by show 2 * 0 + _ ≤ _; exact Nat.le_of_eq rfl) (hb hby at_148) (fun _ _ => ⟨rfl, e161, (by decide : 1 + 1 ≤ _), (by decide : 3 + 3 ≤ _)⟩)
    dsimp only [Pt.U, Pt.locs, Pt.cells, Pt.slots] at X167 l167 y167 z167 st167 hQ167
    subst l167 y167 z167
    obtain ⟨h167, e167⟩ : ∃ h', T167.heap = h' := ⟨_, rfl⟩
    rw [e167] at hQ167
    obtain ⟨b167, kk167, rfl, N167q, gb167, K167, V167⟩ := hQ167
    have N168 := Fr.app N162 N167q
    have k169 : ∀ t, Steps p.tables e below (T167.setTop (mkF m 151 #[.val (.int x0), .val (.int x1), .val (.int x2), .val (.int y0), .val (.int y1), .val (.int y2), .val (.int (3 : Int32)), .val (.long la0), .second, .val (.long la1), .second, .val (.long la2), .second, .val (.long lb0), .second, .val (.long lb1), .second, .val (.long lb2), .second, .val (.long r3), .second, .val (.ref b161), .unset, .unset, .unset] [(.ref b167)])) t → Steps p.tables e below (s₁.setTop (entryFrame m #[(.int x0), (.int x1), (.int x2), (.int y0), (.int y1), (.int y2)] maxLocals)) t := fun t k => k166 t (st167 t k)
    have n170 : b161 ≠ b167 := Nat.ne_of_lt (Nat.lt_of_lt_of_le V161.lt (Nat.le_of_eq gb167.symm))
    have g171 : n0 ≤ b167 := Nat.le_trans Z165 (Nat.le_of_eq gb167.symm)
    have F172 := V161.keep K167 nin0
    have Z173 : n0 ≤ h167.size := Nat.le_trans Z165 K167.1
    obtain ⟨O0, O1, O2, O3, O4, O5⟩ := own_dot3 B_la0 B_la1 B_la2 B_lb0 B_lb1 B_lb2 Dvla0 Dvla1 Dvla2 Dvlb0 Dvlb1 Dvlb2
    have k174 : ∀ t, Steps p.tables e below (T167.setTop (mkF m 157 #[.val (.int x0), .val (.int x1), .val (.int x2), .val (.int y0), .val (.int y1), .val (.int y2), .val (.int (3 : Int32)), .val (.long la0), .second, .val (.long la1), .second, .val (.long la2), .second, .val (.long lb0), .second, .val (.long lb1), .second, .val (.long lb2), .second, .val (.long r3), .second, .val (.ref b161), .val (.ref b167), .unset, .unset] [(.ref b167), (.ref b161)])) t → Steps p.tables e below (s₁.setTop (entryFrame m #[(.int x0), (.int x1), (.int x2), (.int y0), (.int y1), (.int y2)] maxLocals)) t := fun t k => k169 t (by
      show Steps p.tables e below (T167.setTop (mkF m 151 #[.val (.int x0), .val (.int x1), .val (.int x2), .val (.int y0), .val (.int y1), .val (.int y2), .val (.int (3 : Int32)), .val (.long la0), .second, .val (.long la1), .second, .val (.long la2), .second, .val (.long lb0), .second, .val (.long lb1), .second, .val (.long lb2), .second, .val (.long r3), .second, .val (.ref b161), .unset, .unset, .unset] [(.ref b167)])) _
      refine XS.astore X167.here hx rfl (hb hby at_151) rfl rfl (l' := #[.val (.int x0), .val (.int x1), .val (.int x2), .val (.int y0), .val (.int y1), .val (.int y2), .val (.int (3 : Int32)), .val (.long la0), .second, .val (.long la1), .second, .val (.long la2), .second, .val (.long lb0), .second, .val (.long lb1), .second, .val (.long lb2), .second, .val (.long r3), .second, .val (.ref b161), .val (.ref b167), .unset, .unset]) rfl ?_
      show Steps p.tables e below (T167.setTop (mkF m 153 #[.val (.int x0), .val (.int x1), .val (.int x2), .val (.int y0), .val (.int y1), .val (.int y2), .val (.int (3 : Int32)), .val (.long la0), .second, .val (.long la1), .second, .val (.long la2), .second, .val (.long lb0), .second, .val (.long lb1), .second, .val (.long lb2), .second, .val (.long r3), .second, .val (.ref b161), .val (.ref b167), .unset, .unset] [])) _
      refine XS.aload X167.here hx rfl (hb hby at_153) rfl rfl ?_
      show Steps p.tables e below (T167.setTop (mkF m 155 #[.val (.int x0), .val (.int x1), .val (.int x2), .val (.int y0), .val (.int y1), .val (.int y2), .val (.int (3 : Int32)), .val (.long la0), .second, .val (.long la1), .second, .val (.long la2), .second, .val (.long lb0), .second, .val (.long lb1), .second, .val (.long lb2), .second, .val (.long r3), .second, .val (.ref b161), .val (.ref b167), .unset, .unset] [(.ref b161)])) _
      refine XS.aload X167.here hx rfl (hb hby at_155) rfl rfl ?_
      exact k)
    obtain ⟨_, _, ⟨T175, L175, k175, n175⟩, -, X175, ⟨Lc175, hQ175, l175, y175, z175⟩, st175⟩ := Jvm.LawKit.callS X167 hx (y := (⟨"com/example/frontweave/frontweave/clustering/Vectors", "dot", "([D[D)D"⟩ : MethodName)) hown (mvT hZ (hw _ (List.mem_of_getElem? (i := 5) rfl))) (mvT hZ (hw _ (List.mem_of_getElem? (i := 6) rfl))) (mvT hZ (hw _ (List.mem_of_getElem? (i := 7) rfl))) (mvT hZ (hw _ (List.mem_of_getElem? (i := 8) rfl))) (by decide) (backOf (W := 0) (dot3 l Z a0 hw [] b161 b167 kk161 kk167 vla0 vla1 vla2 vlb0 vlb1 vlb2 h167 n0 Z173 F172 V167 O0.nn O1.nn O2.nn O3.nn O4.nn O5.nn) hZ (hw _ (List.mem_of_getElem? (i := 8) rfl)) (hw _ (List.mem_of_getElem? (i := 7) rfl)) (by decide) (by decide)) (g := (mkF m 157 #[.val (.int x0), .val (.int x1), .val (.int x2), .val (.int y0), .val (.int y1), .val (.int y2), .val (.int (3 : Int32)), .val (.long la0), .second, .val (.long la1), .second, .val (.long la2), .second, .val (.long lb0), .second, .val (.long lb1), .second, .val (.long lb2), .second, .val (.long r3), .second, .val (.ref b161), .val (.ref b167), .unset, .unset] [(.ref b167), (.ref b161)])) rfl (by rw [hml]; rfl) (argsL := [(.ref b161), (.ref b167)]) (rest := []) (lenOf pd__28_5bD_5bD_29D rfl) rfl (by show 2 * 0 + _ ≤ _; exact Nat.le_of_eq rfl) (hb hby at_157) (fun _ _ => ⟨rfl, e167, (by decide : 2 + 0 ≤ _), (by decide : 6 + 0 ≤ _)⟩)
    dsimp only [Pt.U, Pt.locs, Pt.cells, Pt.slots] at X175 l175 y175 z175 st175 hQ175
    subst l175 y175 z175
    obtain ⟨rfl, N175q, e175⟩ := hQ175
    have N176 := Fr.app N168 N175q
    have k177 : ∀ t, Steps p.tables e below (T175.setTop (mkF m 160 #[.val (.int x0), .val (.int x1), .val (.int x2), .val (.int y0), .val (.int y1), .val (.int y2), .val (.int (3 : Int32)), .val (.long la0), .second, .val (.long la1), .second, .val (.long la2), .second, .val (.long lb0), .second, .val (.long lb1), .second, .val (.long lb2), .second, .val (.long r3), .second, .val (.ref b161), .val (.ref b167), .unset, .unset] [(.double (FP.dadd (FP.dadd (FP.dadd (0 : UInt64) (FP.dmul vla0 vlb0)) (FP.dmul vla1 vlb1)) (FP.dmul vla2 vlb2)))])) t → Steps p.tables e below (s₁.setTop (entryFrame m #[(.int x0), (.int x1), (.int x2), (.int y0), (.int y1), (.int y2)] maxLocals)) t := fun t k => k174 t (st175 t k)
    obtain ⟨got, hgot⟩ : ∃ z : UInt64, z = (FP.dadd (FP.dadd (FP.dadd (0 : UInt64) (FP.dmul vla0 vlb0)) (FP.dmul vla1 vlb1)) (FP.dmul vla2 vlb2)) := ⟨_, rfl⟩
    have hr : r3.toInt = 0 + la0.toInt * lb0.toInt + la1.toInt * lb1.toInt + la2.toInt * lb2.toInt := by rw [hr3, hr2, hr1]; exact own_ref3 B_la0 B_la1 B_la2 B_lb0 B_lb1 B_lb2
    have hbw : (0 + la0.toInt * lb0.toInt + la1.toInt * lb1.toInt + la2.toInt * lb2.toInt).natAbs < 9007199254740992 := own_refb3 B_la0 B_la1 B_la2 B_lb0 B_lb1 B_lb2
    obtain ⟨want, hwant⟩ : ∃ z : UInt64, FP.l2d r3 = z := ⟨_, rfl⟩
    have Dwant : Dy (0 + la0.toInt * lb0.toInt + la1.toInt * lb1.toInt + la2.toInt * lb2.toInt) (0) want := by rw [← hwant]; exact hr ▸ Dy.l2d (by rw [hr]; exact hbw)
    have hfin : cmpValue (FP.dcmp got want) .l = (0 : Int32) := by rw [hgot]; exact Dy.cmp_eq O5 Dwant rfl .l
    have k178 : ∀ t, Steps p.tables e below (T175.setTop (mkF m 176 #[.val (.int x0), .val (.int x1), .val (.int x2), .val (.int y0), .val (.int y1), .val (.int y2), .val (.int (3 : Int32)), .val (.long la0), .second, .val (.long la1), .second, .val (.long la2), .second, .val (.long lb0), .second, .val (.long lb1), .second, .val (.long lb2), .second, .val (.long r3), .second, .val (.ref b161), .val (.ref b167), .val (.double got), .second] [(.int (1 : Int32))])) t → Steps p.tables e below (s₁.setTop (entryFrame m #[(.int x0), (.int x1), (.int x2), (.int y0), (.int y1), (.int y2)] maxLocals)) t := fun t k => k177 t (by
      show Steps p.tables e below (T175.setTop (mkF m 160 #[.val (.int x0), .val (.int x1), .val (.int x2), .val (.int y0), .val (.int y1), .val (.int y2), .val (.int (3 : Int32)), .val (.long la0), .second, .val (.long la1), .second, .val (.long la2), .second, .val (.long lb0), .second, .val (.long lb1), .second, .val (.long lb2), .second, .val (.long r3), .second, .val (.ref b161), .val (.ref b167), .unset, .unset] [(.double (FP.dadd (FP.dadd (FP.dadd (0 : UInt64) (FP.dmul vla0 vlb0)) (FP.dmul vla1 vlb1)) (FP.dmul vla2 vlb2)))])) _
      refine castTop (g' := (mkF m 160 #[.val (.int x0), .val (.int x1), .val (.int x2), .val (.int y0), .val (.int y1), .val (.int y2), .val (.int (3 : Int32)), .val (.long la0), .second, .val (.long la1), .second, .val (.long la2), .second, .val (.long lb0), .second, .val (.long lb1), .second, .val (.long lb2), .second, .val (.long r3), .second, .val (.ref b161), .val (.ref b167), .unset, .unset] [(.double got)])) (by rw [hgot]) ?_
      show Steps p.tables e below (T175.setTop (mkF m 160 #[.val (.int x0), .val (.int x1), .val (.int x2), .val (.int y0), .val (.int y1), .val (.int y2), .val (.int (3 : Int32)), .val (.long la0), .second, .val (.long la1), .second, .val (.long la2), .second, .val (.long lb0), .second, .val (.long lb1), .second, .val (.long lb2), .second, .val (.long r3), .second, .val (.ref b161), .val (.ref b167), .unset, .unset] [(.double got)])) _
      refine XS.dstore X175.here hx rfl (hb hby at_160) rfl (l' := #[.val (.int x0), .val (.int x1), .val (.int x2), .val (.int y0), .val (.int y1), .val (.int y2), .val (.int (3 : Int32)), .val (.long la0), .second, .val (.long la1), .second, .val (.long la2), .second, .val (.long lb0), .second, .val (.long lb1), .second, .val (.long lb2), .second, .val (.long r3), .second, .val (.ref b161), .val (.ref b167), .val (.double got), .second]) rfl ?_
      show Steps p.tables e below (T175.setTop (mkF m 162 #[.val (.int x0), .val (.int x1), .val (.int x2), .val (.int y0), .val (.int y1), .val (.int y2), .val (.int (3 : Int32)), .val (.long la0), .second, .val (.long la1), .second, .val (.long la2), .second, .val (.long lb0), .second, .val (.long lb1), .second, .val (.long lb2), .second, .val (.long r3), .second, .val (.ref b161), .val (.ref b167), .val (.double got), .second] [])) _
      refine XS.dload X175.here hx rfl (hb hby at_162) rfl ?_
      show Steps p.tables e below (T175.setTop (mkF m 164 #[.val (.int x0), .val (.int x1), .val (.int x2), .val (.int y0), .val (.int y1), .val (.int y2), .val (.int (3 : Int32)), .val (.long la0), .second, .val (.long la1), .second, .val (.long la2), .second, .val (.long lb0), .second, .val (.long lb1), .second, .val (.long lb2), .second, .val (.long r3), .second, .val (.ref b161), .val (.ref b167), .val (.double got), .second] [(.double got)])) _
      refine XS.lload X175.here hx rfl (hb hby at_164) rfl ?_
      show Steps p.tables e below (T175.setTop (mkF m 166 #[.val (.int x0), .val (.int x1), .val (.int x2), .val (.int y0), .val (.int y1), .val (.int y2), .val (.int (3 : Int32)), .val (.long la0), .second, .val (.long la1), .second, .val (.long la2), .second, .val (.long lb0), .second, .val (.long lb1), .second, .val (.long lb2), .second, .val (.long r3), .second, .val (.ref b161), .val (.ref b167), .val (.double got), .second] [(.long r3), (.double got)])) _
      refine XS.l2dS X175.here hx rfl (hb hby at_166) rfl hwant ?_
      show Steps p.tables e below (T175.setTop (mkF m 167 #[.val (.int x0), .val (.int x1), .val (.int x2), .val (.int y0), .val (.int y1), .val (.int y2), .val (.int (3 : Int32)), .val (.long la0), .second, .val (.long la1), .second, .val (.long la2), .second, .val (.long lb0), .second, .val (.long lb1), .second, .val (.long lb2), .second, .val (.long r3), .second, .val (.ref b161), .val (.ref b167), .val (.double got), .second] [(.double want), (.double got)])) _
      refine XS.dcmpS X175.here hx rfl (hb hby at_167) rfl rfl ?_
      show Steps p.tables e below (T175.setTop (mkF m 168 #[.val (.int x0), .val (.int x1), .val (.int x2), .val (.int y0), .val (.int y1), .val (.int y2), .val (.int (3 : Int32)), .val (.long la0), .second, .val (.long la1), .second, .val (.long la2), .second, .val (.long lb0), .second, .val (.long lb1), .second, .val (.long lb2), .second, .val (.long r3), .second, .val (.ref b161), .val (.ref b167), .val (.double got), .second] [(.int (cmpValue (FP.dcmp got want) .l))])) _
      refine XS.ifNo X175.here hx rfl (hb hby at_168) rfl ((if0 _ _).trans (teq hfin).2) ?_
      show Steps p.tables e below (T175.setTop (mkF m 171 #[.val (.int x0), .val (.int x1), .val (.int x2), .val (.int y0), .val (.int y1), .val (.int y2), .val (.int (3 : Int32)), .val (.long la0), .second, .val (.long la1), .second, .val (.long la2), .second, .val (.long lb0), .second, .val (.long lb1), .second, .val (.long lb2), .second, .val (.long r3), .second, .val (.ref b161), .val (.ref b167), .val (.double got), .second] [])) _
      refine XS.iconst X175.here hx rfl (hb hby at_171) ?_
      show Steps p.tables e below (T175.setTop (mkF m 172 #[.val (.int x0), .val (.int x1), .val (.int x2), .val (.int y0), .val (.int y1), .val (.int y2), .val (.int (3 : Int32)), .val (.long la0), .second, .val (.long la1), .second, .val (.long la2), .second, .val (.long lb0), .second, .val (.long lb1), .second, .val (.long lb2), .second, .val (.long r3), .second, .val (.ref b161), .val (.ref b167), .val (.double got), .second] [(.int (1 : Int32))])) _
      refine XS.goto X175.here hx rfl (pc0 := 172) (pc' := 176) rfl (hb hby at_172) (by decide) (by decide) ?_
      exact k)
    obtain ⟨fs, hr, hrun, hended, hW, hsame⟩ := X175.leave (v := some (.int (1 : Int32))) (fun h => by rw [Bd.returns] at h; cases h)
    refine ⟨_, _, k178 _ (retOut X175 hx (t := .boolean) Bd.returns rfl (Or.inl ⟨rfl, Or.inr (Or.inl rfl), _, rfl⟩) (hb hby at_176) hr), hrun, hended, _, _, rfl, ?_, ⟨_, rfl⟩, hW, hsame.mono (by decide) (by decide)⟩
    show Q_rm0 Z x0 x1 x2 y0 y1 y2 h0 n0 _ T175.heap _
    rw [e175]
    exact ⟨rfl, N176⟩
set_option maxRecDepth 65536 in
set_option maxHeartbeats 40000000 in
theorem comes_1 {Post : Tables → Env → Array Value → State → Outcome → State → Prop} (hpost : ∀ tb e args s v u, (limb_1_1.after args s (.returned v) u = true ∧ limb_1_2.after args s (.returned v) u = true ∧ True) → FrameEnd s (.returned v) u (Jvm.fieldLocs frame_1_writes args s ++ Jvm.arrayLocs frame_1_arrays args s ++ Jvm.staticLocs frame_1_statics s) 16 128 → Post tb e args s (.returned v) u) :
    ArmFor flags0 classFile x code maxLocals ret World_1 tables_1 room_1 Calls_1 rest_1 Pre_1 Post := by
  intro l hfl _ _ p e ha hc hk s m args below hf hA hF happ hP
  obtain ⟨hcalls, hrest, hpre⟩ := hP
  obtain ⟨-, -, -, hnamed, -, -, -, hat⟩ := (Spec.applies_iff hf).mp happ
  obtain ⟨hg, hn⟩ := and_e (Cond.before_iff.mp (show (Jvm.Cond.and given_1 narrow_1).before args s = true from hpre))
  obtain ⟨g1, g2⟩ := and_e hg
  obtain ⟨g3, g4⟩ := and_e g2
  obtain ⟨g5, g6⟩ := and_e g4
  obtain ⟨g7, g8⟩ := and_e g6
  obtain ⟨g9, g10⟩ := and_e g8
  obtain ⟨g11, g12⟩ := and_e g10
  obtain ⟨w0, w1, w2, w3, w4, w5, rfl⟩ : ∃ w0 w1 w2 w3 w4 w5 : Value, args = #[w0, w1, w2, w3, w4, w5] := by
    have hs : args.size = 6 := by simpa [Cond.value, given_1] using g1
    obtain ⟨L⟩ := args
    match L, hs with
    | [w0, w1, w2, w3, w4, w5], _ => exact ⟨w0, w1, w2, w3, w4, w5, rfl⟩
  have hw := fun d (hd : d ∈ tables_1) => atoms_spec (ws := Jvm.Cond.code x code maxLocals ret :: tables_1) hat d (List.mem_cons_of_mem _ hd)
  obtain ⟨i0, ei0⟩ := is_v g3
  obtain rfl : w0 = (.int i0) := Option.some.inj ei0
  obtain ⟨i1, ei1⟩ := is_v g5
  obtain rfl : w1 = (.int i1) := Option.some.inj ei1
  obtain ⟨i2, ei2⟩ := is_v g7
  obtain rfl : w2 = (.int i2) := Option.some.inj ei2
  obtain ⟨i3, ei3⟩ := is_v g9
  obtain rfl : w3 = (.int i3) := Option.some.inj ei3
  obtain ⟨i4, ei4⟩ := is_v g11
  obtain rfl : w4 = (.int i4) := Option.some.inj ei4
  obtain ⟨i5, ei5⟩ := is_v g12
  obtain rfl : w5 = (.int i5) := Option.some.inj ei5
  obtain ⟨n, o, h1, h2, h3, _, L, rfl, ⟨rfl, N⟩, hq⟩ := rm0 l s _ hw tables_1 i0 i1 i2 i3 i4 i5 s.heap s.heap.size (Nat.le_refl _) p e ha hc hk s m _ below hf ((Spec.applies_iff_loose hf).mp happ).1 ⟨rfl, State.Warmed39.refl s, rfl⟩ trivial
  refine ⟨n, _, h1, h2, h3, hpost _ _ _ _ _ _ ⟨Cond.after_iff.mpr rfl, Cond.after_iff.mpr (eq_i res_at (Term.int_eval (1)) rfl), trivial⟩ ⟨hq.1, hq.2.1, (hq.2.2.sift fun y hy => Or.inr (N y hy)).mono (by decide) (by decide)⟩⟩
theorem main_1_1 : Claimed_1_1 := comes_1 fun _ _ _ _ _ _ h hF => ⟨h.1, hF⟩
theorem main_1_2 : Claimed_1_2 := comes_1 fun _ _ _ _ _ _ h hF => ⟨h.2.1, hF⟩
end Jvm.Pilot.@@N@@
namespace Jvm.Pilot.@@N@@
open Jvm Jvm.ClassFile Sem Op Lib Jvm.Free Jvm.Stand Jvm.Pilot.@@N@@.Jvm.D
/-! MADE BY PROGRAM (witnessworld.py) out of the Statement's table words and the real class files: 11 classes; the members and pool entries that the words name. The judged class is class 1, her method 2. -/
namespace start1
open Jvm.ClassFile
def u (s : String) : CpInfo := .utf8 (stringToUtf16 s)
/-- a pool by its gaps: so many unusable entries, then the entry; so many at the end -/
def gap : Nat → List CpInfo → List CpInfo
  | 0, r => r
  | n + 1, r => .unusable :: gap n r
def poolList (es : List (Nat × CpInfo)) (last : Nat) : List CpInfo := es.foldr (fun e r => gap e.1 (e.2 :: r)) (gap last [])
def pool (es : List (Nat × CpInfo)) (last : Nat) : Array CpInfo := ⟨poolList es last⟩
def fileOf (pool : Array CpInfo) (this : Nat) (attrs : Array Attribute := #[]) (ms : Array MethodInfo := #[]) (fl : Nat := 33) (sup : Nat := 0) (ifs : Array Nat := #[]) (fds : Array FieldInfo := #[]) : ClassFile where
  minorVersion := 0
  majorVersion := 65
  constantPool := pool
  accessFlags := fl
  thisClass := this
  superClass := sup
  interfaces := ifs
  fields := fds
  methods := ms
  attributes := attrs
def plain (name : String) (sup : Option ClassId) : Class where
  name := name
  kind := .ordinary
  loader := none
  accessFlags := 33
  super := sup
  interfaces := #[]
  cf := none
  fields := #[]
  methods := #[]
  instanceTypes := #[]
  staticTypes := #[]
  resolved := #[]
  callSites := []
  init := .initialized
  statics := none
  mirror := none

def pool0 : Array CpInfo := pool [(5, u "<init>"), (0, u "()V"), (1, .class_ 10), (1, u "java/lang/Object")] 113

def k0m0 : Method := { name := "<init>", desc := "()V", sig := { parameters := [], returnType := none }, accessFlags := 1, code := none }
/-- java/lang/Object -/
def k0 : Class := { plain "java/lang/Object" none with
  accessFlags := 33
  interfaces := #[]
  cf := some (fileOf pool0 8 #[] #[{ accessFlags := 1, nameIndex := 5, descriptorIndex := 6, attributes := #[] }] 33 0 #[] #[])
  fields := #[]
  methods := #[k0m0]
  instanceTypes := #[]
  staticTypes := #[]
  resolved := Array.replicate 124 none
  statics := none }

def pool1 : Array CpInfo := pool [(2, .class_ 4), (1, u "java/lang/Object"), (0, u "<init>"), (0, u "()V"), (0, .methodref 8 9), (0, .class_ 10), (0, .nameAndType 11 12), (0, u "com/example/frontweave/frontweave/clustering/VectorsDotPinLaw"), (0, u "vec"), (0, u "(IDDD)[D"), (0, .methodref 14 15), (0, .class_ 16), (0, .nameAndType 17 18), (0, u "com/example/frontweave/frontweave/clustering/Vectors"), (0, u "dot"), (0, u "([D[D)D"), (3, u "law"), (0, u "(IIIIII)Z")] 4

def k1m0 : Method := { name := "<init>", desc := "()V", sig := { parameters := [], returnType := none }, accessFlags := 2, code := none }
def k1c1 : Code := { maxStack := 5, maxLocals := 7, code := method_2_code, exceptionTable := #[], attributes := #[] }
def k1m1 : Method := { name := "vec", desc := "(IDDD)[D", sig := { parameters := [.int, .double, .double, .double], returnType := some (.array .double) }, accessFlags := 10, code := some k1c1 }
def k1c2 : Code := { maxStack := 7, maxLocals := 25, code := code, exceptionTable := #[], attributes := #[] }
def k1m2 : Method := { name := "law", desc := "(IIIIII)Z", sig := { parameters := [.int, .int, .int, .int, .int, .int], returnType := some .boolean }, accessFlags := 9, code := some k1c2 }
/-- com/example/frontweave/frontweave/clustering/VectorsDotPinLaw -/
def k1 : Class := { plain "com/example/frontweave/frontweave/clustering/VectorsDotPinLaw" (some 0) with
  accessFlags := 49
  interfaces := #[]
  cf := some (fileOf pool1 8 #[] #[{ accessFlags := 2, nameIndex := 5, descriptorIndex := 6, attributes := #[] }, { accessFlags := 10, nameIndex := 11, descriptorIndex := 12, attributes := #[] }, { accessFlags := 9, nameIndex := 22, descriptorIndex := 23, attributes := #[] }] 49 2 #[] #[])
  fields := #[]
  methods := #[k1m0, k1m1, k1m2]
  instanceTypes := #[]
  staticTypes := #[]
  resolved := Array.replicate 28 none
  statics := none }

def pool2 : Array CpInfo := pool [(2, .class_ 4), (1, u "java/lang/Object"), (0, u "<init>"), (0, u "()V"), (22, .class_ 31), (1, u "com/example/frontweave/frontweave/clustering/Vectors"), (0, u "dot"), (0, u "([D[D)D")] 33

def k2m0 : Method := { name := "<init>", desc := "()V", sig := { parameters := [], returnType := none }, accessFlags := 2, code := none }
def k2c1 : Code := { maxStack := 6, maxLocals := 5, code := prog_29_method_2_code, exceptionTable := #[], attributes := #[] }
def k2m1 : Method := { name := "dot", desc := "([D[D)D", sig := { parameters := [(.array .double), (.array .double)], returnType := some .double }, accessFlags := 8, code := some k2c1 }
/-- com/example/frontweave/frontweave/clustering/Vectors -/
def k2 : Class := { plain "com/example/frontweave/frontweave/clustering/Vectors" (some 0) with
  accessFlags := 48
  interfaces := #[]
  cf := some (fileOf pool2 29 #[] #[{ accessFlags := 2, nameIndex := 5, descriptorIndex := 6, attributes := #[] }, { accessFlags := 8, nameIndex := 32, descriptorIndex := 33, attributes := #[] }] 48 2 #[] #[])
  fields := #[]
  methods := #[k2m0, k2m1]
  instanceTypes := #[]
  staticTypes := #[]
  resolved := Array.replicate 67 none
  statics := none }

def pool3 : Array CpInfo := pool [(1, u "java/lang/Cloneable"), (0, .class_ 1), (0, u "java/lang/Object"), (0, .class_ 3)] 3

/-- java/lang/Cloneable -/
def k3 : Class := { plain "java/lang/Cloneable" (some 0) with
  accessFlags := 1537
  interfaces := #[]
  cf := some (fileOf pool3 2 #[] #[] 1537 4 #[] #[])
  fields := #[]
  methods := #[]
  instanceTypes := #[]
  staticTypes := #[]
  resolved := Array.replicate 8 none
  statics := none }

def pool4 : Array CpInfo := pool [(1, u "java/io/Serializable"), (0, .class_ 1), (0, u "java/lang/Object"), (0, .class_ 3)] 3

/-- java/io/Serializable -/
def k4 : Class := { plain "java/io/Serializable" (some 0) with
  accessFlags := 1537
  interfaces := #[]
  cf := some (fileOf pool4 2 #[] #[] 1537 4 #[] #[])
  fields := #[]
  methods := #[]
  instanceTypes := #[]
  staticTypes := #[]
  resolved := Array.replicate 8 none
  statics := none }

/-- the primitive byte -/
def k5 : Class := { plain "byte" none with kind := .primitive 'B', accessFlags := 0x411 }
/-- [B -/
def k6 : Class := { plain "[B" (some 0) with kind := .array 5 .byte, interfaces := #[3, 4], accessFlags := 1041 }

/-- the primitive double -/
def k7 : Class := { plain "double" none with kind := .primitive 'D', accessFlags := 0x411 }
/-- [D -/
def k8 : Class := { plain "[D" (some 0) with kind := .array 7 .double, interfaces := #[3, 4], accessFlags := 1041 }

/-- the primitive int -/
def k9 : Class := { plain "int" none with kind := .primitive 'I', accessFlags := 0x411 }
/-- [I -/
def k10 : Class := { plain "[I" (some 0) with kind := .array 9 .int, interfaces := #[3, 4], accessFlags := 1041 }

def heap : Heap := #[]
def classes : Array Class := #[k0, k1, k2, k3, k4, k5, k6, k7, k8, k9, k10]
def interned : List (Array UInt16 × Addr) := []
def slotsUsed : Nat := 0
def theMethod : MethodId := ⟨1, 2⟩
def args0 : Array Value := #[.int 33554439, .int 5, .int 7, .int 9, .int 11, .int 13]
def aboutOver (below : List Frame) : State where
  vm := { classes := classes, interned := interned.toArray }
  heap := heap
  slotsUsed := slotsUsed
  threads := #[{ frames := .invoking theMethod args0 :: below }]
def below0 : List Frame := [.native { method := ⟨0, 0⟩, args := #[] }]
def about1 : State := aboutOver below0
def p0 : Program := .bare "" "" ""
def e0 : Env := launch0.env 0 0 0
theorem w_frames : about1.frames = Frame.invoking theMethod args0 :: below0 := rfl
set_option maxRecDepth 65536 in
theorem w_args : argsFit about1.vm theMethod args0 = true := by decide +kernel
set_option maxRecDepth 65536 in
theorem w_heap : heapFits about1 = true := by decide +kernel
set_option maxRecDepth 65536 in
theorem w_runnable : about1.curStatus? = some .runnable := by decide +kernel
set_option maxRecDepth 65536 in
theorem w_alone : about1.alone = true := by decide +kernel
set_option maxRecDepth 65536 in
theorem w_named : about1.methodNamed? x = some theMethod := by decide +kernel
set_option maxRecDepth 65536 in
theorem w_hears : about1.hears theMethod below0 = true := by decide +kernel
set_option maxRecDepth 65536 in
theorem w_ripe : about1.ripe theMethod args0 below0 = true := by decide +kernel
theorem w_running : about1.status = .running := rfl
set_option maxRecDepth 65536 in
theorem w_room : about1.hasRoom e0.platform room_1 = true :=
  launch0.hasRoom_least _ room_1 (by decide +kernel) (by decide +kernel) (by decide +kernel) (by decide +kernel) (by decide +kernel) (by decide +kernel)
theorem allAtoms_all (ts : List Jvm.Cond) (a : Array Jvm.Value) (st : Jvm.State) : (allAtoms ts).before a st = ts.all (fun c => c.before a st) := by
  induction ts with
  | nil => rfl
  | cons c t ih =>
    show (Jvm.Cond.and c (allAtoms t)).before a st = _
    rw [Jvm.Cond.before_and, ih, List.all_cons]
def words1 : List Jvm.Cond := Jvm.Cond.code x code maxLocals ret :: tables_1
/-- a 'code' word, met by the world's own term for the bytes: nothing is compared byte by byte -/
theorem code_word {y : MethodName} {bytes : ByteArray} {mx : Nat} {rt : Option FieldType} {a : Array Value} {s : State} {m : MethodId} {meth : Method} {c : Code} (h1 : s.methodNamed? y = some m) (h2 : s.vm.method? m = some meth) (h3 : meth.code = some c) (h4 : c.code = bytes)
    (h5 : (c.maxLocals == mx && c.exceptionTable.isEmpty && decide (c.maxStack ≤ mostOperands) && decide (meth.sig.returnType = rt) && !meth.locks && decide (parseMethodDescriptor y.desc = some meth.sig)) = true) : (Jvm.Cond.code y bytes mx rt).before a s = true := by
  simp only [Bool.and_eq_true, beq_iff_eq, Bool.not_eq_true', decide_eq_true_eq] at h5
  obtain ⟨⟨⟨⟨⟨g1, g2⟩, g3⟩, g4⟩, g5⟩, g6⟩ := h5
  simp [Cond.before, Cond.holds, Cond.value, h1, h2, h3, h4, g1, g2, g3, g4, g5, g6]
def isCode : Jvm.Cond → Bool
  | .code _ _ _ _ => true
  | _ => false
theorem all_split {L : List Jvm.Cond} {P : Jvm.Cond → Bool} (h1 : L.all (fun c => isCode c || P c) = true) (h2 : ∀ c ∈ L.filter isCode, P c = true) : L.all P = true := by
  refine List.all_eq_true.mpr fun c hc => ?_
  have h := List.all_eq_true.mp h1 c hc
  rcases Bool.eq_false_or_eq_true (isCode c) with hi | hi
  · exact h2 c (List.mem_filter.mpr ⟨hc, hi⟩)
  · simpa [hi] using h
set_option maxRecDepth 65536 in
theorem w_c0 : (Jvm.Cond.code x code maxLocals ret).before args0 about1 = true := code_word (m := ⟨1, 2⟩) (meth := k1m2) (c := k1c2) (by decide +kernel) rfl rfl rfl (by decide +kernel)
set_option maxRecDepth 65536 in
theorem w_c1 : (Jvm.Cond.code ({ cls := "com/example/frontweave/frontweave/clustering/VectorsDotPinLaw", name := "vec", desc := "(IDDD)[D" } : Jvm.MethodName) method_2_code (7 : Nat) (Option.some (Jvm.ClassFile.FieldType.array Jvm.ClassFile.FieldType.double))).before args0 about1 = true := code_word (m := ⟨1, 1⟩) (meth := k1m1) (c := k1c1) (by decide +kernel) rfl rfl rfl (by decide +kernel)
set_option maxRecDepth 65536 in
theorem w_c2 : (Jvm.Cond.code ({ cls := "com/example/frontweave/frontweave/clustering/Vectors", name := "dot", desc := "([D[D)D" } : Jvm.MethodName) prog_29_method_2_code (5 : Nat) (Option.some Jvm.ClassFile.FieldType.double)).before args0 about1 = true := code_word (m := ⟨2, 1⟩) (meth := k2m1) (c := k2c1) (by decide +kernel) rfl rfl rfl (by decide +kernel)
def codes1 : List Jvm.Cond := [Jvm.Cond.code x code maxLocals ret, Jvm.Cond.code ({ cls := "com/example/frontweave/frontweave/clustering/VectorsDotPinLaw", name := "vec", desc := "(IDDD)[D" } : Jvm.MethodName) method_2_code (7 : Nat) (Option.some (Jvm.ClassFile.FieldType.array Jvm.ClassFile.FieldType.double)), Jvm.Cond.code ({ cls := "com/example/frontweave/frontweave/clustering/Vectors", name := "dot", desc := "([D[D)D" } : Jvm.MethodName) prog_29_method_2_code (5 : Nat) (Option.some Jvm.ClassFile.FieldType.double)]
set_option maxRecDepth 65536 in
theorem codes_eq : words1.filter isCode = codes1 := rfl
theorem w_codes : ∀ c ∈ words1.filter isCode, c.before args0 about1 = true := by
  rw [codes_eq]
  intro c hc
  simp only [codes1, List.mem_cons, List.not_mem_nil, or_false] at hc
  rcases hc with rfl | rfl | rfl
  · exact w_c0
  · exact w_c1
  · exact w_c2
set_option maxRecDepth 65536 in
theorem w_t1 : words1.all (fun c => isCode c || c.before args0 about1) = true := by decide +kernel
theorem w_tables : (allAtoms (Jvm.Cond.code x code maxLocals ret :: tables_1)).before args0 about1 = true := by
  rw [allAtoms_all]
  show words1.all (fun c => c.before args0 about1) = true
  refine all_split ?_ w_codes
  rw [w_t1]
set_option maxRecDepth 65536 in
theorem w_case : (Jvm.Cond.and given_1 narrow_1).before args0 about1 = true := by decide +kernel
theorem w_applies : (headSpec (Jvm.Cond.code x code maxLocals ret :: tables_1) room_1).applies x e0.platform about1 = true :=
  (Spec.applies_iff w_frames).mpr ⟨w_running, w_runnable, w_alone, w_named, w_hears, w_ripe, w_room, w_tables⟩
theorem atStart : AtStart classFile x code maxLocals ret World_1 tables_1 room_1 Calls_1 rest_1 Pre_1 launch0 p0 e0 about1 theMethod args0 below0 :=
  ⟨lists_1, trivial, launch0.admits_env _ _ _, launch0.least_env, fairChoices_fair.cas, fairChoices_fair.clock, w_frames, w_args, w_heap, w_applies, trivial, trivial, w_case⟩
end start1
theorem witness_1 : WitnessClaimed_1 := ⟨start1.p0, start1.e0, start1.about1, start1.theMethod, start1.args0, start1.below0, start1.atStart⟩
end Jvm.Pilot.@@N@@
