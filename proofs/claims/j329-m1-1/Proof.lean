import JvmDerived
import JvmDerived.Pilot.@@N@@Statement
import JvmDerived.Pilot.@@N@@Code
set_option linter.unusedVariables false
set_option linter.unusedSimpArgs false
namespace Jvm.OwnFp
open Jvm.FP.Core Op
/-! own: exact values. `Dyf f i k d`: the datum d is finite and worth i / 2^k. -/
def Dyf (f : Fmt) (i : Int) (k : Nat) (d : Datum) : Prop := (∃ s c q, d = .fin s c q) ∧ zval f d * 2 ^ k = i * 2 ^ (-f.qmin).toNat
theorem pw_pos (n : Nat) : (0 : Int) < 2 ^ n := Int.pow_pos (by decide)
theorem pw_cast (n : Nat) : ((2 ^ n : Nat) : Int) = 2 ^ n := by simp
theorem signed_abs (i : Int) : signed (decide (i < 0)) i.natAbs = i := by
  unfold signed
  by_cases h : i < 0 <;> simp [h] <;> omega
theorem signed_mulI (s : Bool) (c k : Nat) : signed s (c * 2 ^ k) = signed s c * 2 ^ k := by
  rw [signed_mul, pw_cast]
theorem vex {f : Fmt} (hf : Good f) {i : Int} {k : Nat} (hi : i.natAbs < 2 ^ f.p) (hk : (k : Int) ≤ -f.qmin) (hq : 0 ≤ f.qmax) :
    ∃ s c q, FP.Core.fits f (.fin s c q) ∧ zval f (.fin s c q) * 2 ^ k = i * 2 ^ (-f.qmin).toNat := by
  obtain ⟨c', q', h, hu⟩ := round_exact hf (decide (i < 0)) (c := i.natAbs) (q := -(k : Int)) hi (by omega) (by omega)
  refine ⟨_, c', q', h ▸ round_fits hf _, ?_⟩
  show signed (decide (i < 0)) (inUnits c' q' f.qmin) * 2 ^ k = _
  rw [hu]
  unfold inUnits
  rw [signed_mulI, signed_abs, Int.mul_assoc, ← Int.pow_add, show (-(k : Int) - f.qmin).toNat + k = (-f.qmin).toNat by omega]
theorem dyf_of_zval {f : Fmt} (hf : Good f) {s : Bool} {A B : Nat} {e : Int} {s' : Bool} {c' : Nat} {q' : Int} (hV : FP.Core.fits f (.fin s' c' q'))
    (hz : zval f (roundRatio f s A B e) = zval f (.fin s' c' q')) : ∃ s₀ c₀ q₀, roundRatio f s A B e = .fin s₀ c₀ q₀ := by
  rcases roundRatio_cases f s A B e with ⟨c, q, h⟩ | h
  · exact ⟨s, c, q, h⟩
  · exfalso
    rw [h] at hz
    have h1 := zmag_lt_top hf hV
    have h2 := congrArg Int.natAbs hz
    unfold zval at h2
    rw [natAbs_signed, natAbs_signed] at h2
    have h3 : zmag f (.inf s) = f.tails * 2 ^ (f.exps - 2) := rfl
    have h4 : zmag f (.fin s' c' q') = inUnits c' q' f.qmin := rfl
    omega
/-- an exact result that the format holds is not rounded -/
theorem rnd {f : Fmt} (hf : Good f) (hq : 0 ≤ f.qmax) {s : Bool} {c : Nat} {q e0 : Int} (h0 : e0 ≤ f.qmin) (h0e : e0 ≤ q) {i : Int} {k : Nat} (hi : i.natAbs < 2 ^ f.p) (hk : (k : Int) ≤ -f.qmin)
    (h : signed s (inUnits c q e0) * 2 ^ k = i * 2 ^ (-f.qmin).toNat * 2 ^ (f.qmin - e0).toNat) : Dyf f i k (round f (.fin s c q)) := by
  obtain ⟨s', c', q', hV, hv⟩ := vex hf hi hk hq
  have hn : Datum.fin s' c' q' ≠ .nan := nofun
  have he : zval f (.fin s' c' q') * ((2 ^ (f.qmin - e0).toNat : Nat) : Int) = signed s (inUnits c q e0) := by
    refine Int.eq_of_mul_eq_mul_right (Int.ne_of_gt (pw_pos k)) ?_
    rw [h, ← hv, pw_cast]; ac_rfl
  have hz : zval f (round f (.fin s c q)) = zval f (.fin s' c' q') :=
    Int.le_antisymm (zval_round_le hf hV hn h0 h0e (Int.le_of_eq he.symm)) (zval_round_ge hf hV hn h0 h0e (Int.le_of_eq he))
  exact ⟨dyf_of_zval hf hV hz, by rw [hz]; exact hv⟩
theorem Dyf.fit {f : Fmt} {i : Int} {k : Nat} {d : Datum} (h : Dyf f i k d) : ∃ s c q, d = .fin s c q := h.1
theorem Dyf.up {f : Fmt} {i : Int} {k : Nat} {d : Datum} (h : Dyf f i k d) (l : Nat) : Dyf f (i * 2 ^ l) (k + l) d :=
  ⟨h.1, by rw [Int.pow_add, ← Int.mul_assoc, h.2]; ac_rfl⟩
theorem Dyf.to {f : Fmt} {i j : Int} {k l : Nat} {d : Datum} (h : Dyf f i k d) (e : i * 2 ^ l = j * 2 ^ k) : Dyf f j l d := by
  refine ⟨h.1, Int.eq_of_mul_eq_mul_right (Int.ne_of_gt (pw_pos k)) ?_⟩
  calc zval f d * 2 ^ l * 2 ^ k = (zval f d * 2 ^ k) * 2 ^ l := by ac_rfl
    _ = (i * 2 ^ l) * 2 ^ (-f.qmin).toNat := by rw [h.2]; ac_rfl
    _ = j * 2 ^ (-f.qmin).toNat * 2 ^ k := by rw [e]; ac_rfl
theorem Dyf.sum {f : Fmt} (hf : Good f) (hq : 0 ≤ f.qmax) {i j : Int} {k : Nat} {x y : Datum} (fx : FP.Core.fits f x) (fy : FP.Core.fits f y) (hx : Dyf f i k x) (hy : Dyf f j k y) (hi : (i + j).natAbs < 2 ^ f.p) (hk : (k : Int) ≤ -f.qmin) :
    Dyf f (i + j) k (round f (exactSum x y)) := by
  obtain ⟨⟨s, c, q, rfl⟩, hx⟩ := hx
  obtain ⟨⟨t, d, r, rfl⟩, hy⟩ := hy
  obtain ⟨sg, n, e, he, hle, hu⟩ := sum_units fx fy
  rw [he]
  refine rnd hf hq (Int.le_refl _) hle hi hk ?_
  rw [hu, Int.add_mul, hx, hy, Int.add_mul, Int.sub_self]
  simp
theorem Dyf.neg {f : Fmt} {i : Int} {k : Nat} {x : Datum} (hx : Dyf f i k x) : Dyf f (-i) k (negate x) := by
  obtain ⟨⟨s, c, q, rfl⟩, hx⟩ := hx
  refine ⟨⟨_, _, _, rfl⟩, ?_⟩
  rw [zval_negate, Int.neg_mul, hx, Int.neg_mul]
theorem Dyf.prod {f : Fmt} (hf : Good f) (hq : 0 ≤ f.qmax) {i j : Int} {k l : Nat} {x y : Datum} (fx : FP.Core.fits f x) (fy : FP.Core.fits f y) (hx : Dyf f i k x) (hy : Dyf f j l y) (hi : (i * j).natAbs < 2 ^ f.p) (hk : ((k + l : Nat) : Int) ≤ -f.qmin) :
    Dyf f (i * j) (k + l) (round f (exactProduct x y)) := by
  obtain ⟨⟨s, c, q, rfl⟩, hx⟩ := hx
  obtain ⟨⟨t, d, r, rfl⟩, hy⟩ := hy
  obtain ⟨he, hle, hu⟩ := product_units fx fy
  rw [he]
  have hn := qmin_neg hf
  refine rnd hf hq (e0 := 2 * f.qmin) (by omega) hle hi hk ?_
  rw [hu, signed_xor, show (f.qmin - 2 * f.qmin).toNat = (-f.qmin).toNat by omega, Int.pow_add]
  calc zval f (.fin s c q) * zval f (.fin t d r) * (2 ^ k * 2 ^ l) = (zval f (.fin s c q) * 2 ^ k) * (zval f (.fin t d r) * 2 ^ l) := by ac_rfl
    _ = _ := by rw [hx, hy]; ac_rfl
theorem natAbs_pow (n : Nat) : ((2 : Int) ^ n).natAbs = 2 ^ n := by rw [Int.natAbs_pow]; rfl
theorem natAbs_zval (f : Fmt) (d : Datum) : (zval f d).natAbs = zmag f d := natAbs_signed _ _
/-- an exact quotient that the format holds is not rounded -/
theorem Dyf.quot {f : Fmt} (hf : Good f) (hq : 0 ≤ f.qmax) {i j n : Int} {k l m : Nat} {x y : Datum} (fx : FP.Core.fits f x) (fy : FP.Core.fits f y) (hx : Dyf f i k x) (hy : Dyf f j l y) (hj : j ≠ 0) (hi : n.natAbs < 2 ^ f.p) (hm : (m : Int) ≤ -f.qmin)
    (e : i * 2 ^ l * 2 ^ m = n * j * 2 ^ k) : Dyf f n m (quotient f x y) := by
  obtain ⟨⟨s, c, q, rfl⟩, hx⟩ := hx
  obtain ⟨⟨t, d, r, rfl⟩, hy⟩ := hy
  obtain ⟨s', c', q', hV, hv⟩ := vex hf hi hm hq
  have hn : Datum.fin s' c' q' ≠ .nan := nofun
  have hqm := qmin_neg hf
  have fx1 := fx.2.1
  have fy1 := fy.2.1
  -- the signed equation
  have hz : zval f (.fin s c q) * 2 ^ (-f.qmin).toNat = zval f (.fin s' c' q') * zval f (.fin t d r) := by
    refine Int.eq_of_mul_eq_mul_right (Int.ne_of_gt (Int.mul_pos (Int.mul_pos (pw_pos k) (pw_pos l)) (pw_pos m))) ?_
    calc zval f (.fin s c q) * 2 ^ (-f.qmin).toNat * (2 ^ k * 2 ^ l * 2 ^ m) = (zval f (.fin s c q) * 2 ^ k) * (2 ^ l * 2 ^ m) * 2 ^ (-f.qmin).toNat := by ac_rfl
      _ = (i * 2 ^ l * 2 ^ m) * 2 ^ (-f.qmin).toNat * 2 ^ (-f.qmin).toNat := by rw [hx]; ac_rfl
      _ = (n * 2 ^ (-f.qmin).toNat) * (j * 2 ^ (-f.qmin).toNat) * 2 ^ k := by rw [e]; ac_rfl
      _ = (zval f (.fin s' c' q') * 2 ^ m) * (zval f (.fin t d r) * 2 ^ l) * 2 ^ k := by rw [hv, hy]
      _ = _ := by ac_rfl
  have hzb : zval f (.fin t d r) ≠ 0 := by
    intro h0
    rw [h0, Int.zero_mul] at hy
    rcases Int.mul_eq_zero.mp hy.symm with h | h
    · exact hj h
    · exact absurd h (Int.ne_of_gt (pw_pos _))
  have hd : d ≠ 0 := by
    rintro rfl
    apply hzb
    show signed t (inUnits 0 r f.qmin) = 0
    unfold inUnits; rw [Nat.zero_mul, signed_zero]
  have hmag : zmag f (.fin s c q) * 2 ^ (-f.qmin).toNat = zmag f (.fin s' c' q') * zmag f (.fin t d r) := by
    have h2 := congrArg Int.natAbs hz
    rw [Int.natAbs_mul, Int.natAbs_mul, natAbs_pow, natAbs_zval, natAbs_zval, natAbs_zval] at h2
    exact h2
  have hun : inUnits c (q - r) (2 * f.qmin - r) = zmag f (.fin s' c' q') * 2 ^ (f.qmin - (2 * f.qmin - r)).toNat * d := by
    have a1 : inUnits c (q - r) (2 * f.qmin - r) = zmag f (.fin s c q) * 2 ^ (-f.qmin).toNat := by
      show c * 2 ^ _ = c * 2 ^ _ * 2 ^ _
      rw [Nat.mul_assoc, ← Nat.pow_add, show (q - r - (2 * f.qmin - r)).toNat = (q - f.qmin).toNat + (-f.qmin).toNat by omega]
    rw [a1, hmag, show (f.qmin - (2 * f.qmin - r)).toNat = (r - f.qmin).toNat by omega]
    show _ * (d * 2 ^ _) = _
    ac_rfl
  have hqt : quotient f (.fin s c q) (.fin t d r) = roundRatio f (s != t) c d (q - r) := by
    show (if d = 0 then _ else _) = _
    rw [if_neg hd]
  have hm2 : zmag f (roundRatio f (s != t) c d (q - r)) = zmag f (.fin s' c' q') :=
    Nat.le_antisymm (zmag_roundRatio_le hf (e0 := 2 * f.qmin - r) (Nat.pos_of_ne_zero hd) hV hn (by omega) (by omega) (Nat.le_of_eq hun))
      (zmag_roundRatio_ge hf (e0 := 2 * f.qmin - r) (Nat.pos_of_ne_zero hd) hV (by omega) (by omega) (Nat.le_of_eq hun.symm))
  have hsg : signed (s != t) (zmag f (.fin s' c' q')) = zval f (.fin s' c' q') := by
    have p0 : zmag f (.fin s c q) = inUnits c q f.qmin := rfl
    have hS : zval f (.fin s c q) * 2 ^ (-f.qmin).toNat * zval f (.fin t d r) = zval f (.fin s' c' q') * (zval f (.fin t d r) * zval f (.fin t d r)) := by rw [hz]; ac_rfl
    by_cases h0 : zmag f (.fin s' c' q') = 0
    · unfold zval; rw [h0, signed_zero, signed_zero]
    · have hbb : 0 < zval f (.fin t d r) * zval f (.fin t d r) := by
        rcases Int.lt_or_gt_of_ne hzb with h | h
        · exact Int.mul_pos_of_neg_of_neg h h
        · exact Int.mul_pos h h
      have hst : zval f (.fin s c q) * zval f (.fin t d r) = signed (s != t) (zmag f (.fin s c q) * zmag f (.fin t d r)) := by
        rw [signed_xor]; rfl
      have e1 : zval f (.fin s' c' q') * (zval f (.fin t d r) * zval f (.fin t d r)) = signed (s != t) (zmag f (.fin s c q) * zmag f (.fin t d r)) * 2 ^ (-f.qmin).toNat := by
        rw [← hS, ← hst]; ac_rfl
      have e2 : signed (s != t) (zmag f (.fin s c q) * zmag f (.fin t d r)) * 2 ^ (-f.qmin).toNat = signed (s != t) (zmag f (.fin s' c' q')) * (zval f (.fin t d r) * zval f (.fin t d r)) := by
        rw [← signed_mulI, show zmag f (.fin s c q) * zmag f (.fin t d r) * 2 ^ (-f.qmin).toNat = zmag f (.fin s' c' q') * (zmag f (.fin t d r) * zmag f (.fin t d r)) by rw [Nat.mul_right_comm, hmag]; ac_rfl, signed_mul]
        congr 1
        unfold zval
        rw [Int.natCast_mul]
        cases (sgn (.fin t d r)) <;> simp [signed, Int.neg_mul_neg]
      exact Int.eq_of_mul_eq_mul_right (Int.ne_of_gt hbb) (e2.symm.trans e1.symm)
  have hzz : zval f (roundRatio f (s != t) c d (q - r)) = zval f (.fin s' c' q') := by
    rw [← hsg]
    show signed (sgn (roundRatio f (s != t) c d (q - r))) (zmag f (roundRatio f (s != t) c d (q - r))) = _
    rw [sgn_roundRatio, hm2]
  rw [hqt]
  exact ⟨dyf_of_zval hf hV hzz, by rw [hzz]; exact hv⟩
theorem Dyf.ofInt {f : Fmt} (hf : Good f) (hq : 0 ≤ f.qmax) {i : Int} (hi : i.natAbs < 2 ^ f.p) : Dyf f i 0 (round f (FP.Core.ofInt i)) := by
  have hn := qmin_neg hf
  refine rnd hf hq (Int.le_refl _) (by omega) hi (by omega) ?_
  unfold inUnits
  rw [signed_mulI, signed_abs, Int.sub_self]
  simp
theorem Dyf.order {f : Fmt} (hf : Good f) {i j : Int} {k : Nat} {x y : Datum} (fx : FP.Core.fits f x) (fy : FP.Core.fits f y) (hx : Dyf f i k x) (hy : Dyf f j k y) : order x y = some (compare i j) := by
  obtain ⟨⟨s, c, q, rfl⟩, hx⟩ := hx
  obtain ⟨⟨t, d, r, rfl⟩, hy⟩ := hy
  rw [order_zval hf fx fy nofun nofun, ← compare_mul_pos _ _ _ (pw_pos k), hx, hy, compare_mul_pos _ _ _ (pw_pos _)]
/-! doubles -/
def Dy (i : Int) (k : Nat) (a : UInt64) : Prop := Dyf b64 i k (val64 a)
theorem qm64 : (0 : Int) ≤ b64.qmax := by decide
theorem Dy.fin {i : Int} {k : Nat} {a : UInt64} (h : Dy i k a) : DFin a := h.1
theorem Dy.nn {i : Int} {k : Nat} {a : UInt64} (h : Dy i k a) : Jvm.Free.Fl.NoNaN64 a := (Jvm.Free.Fl.fin64_core.mpr h.1).noNaN
theorem Dy.to {i j : Int} {k l : Nat} {a : UInt64} (h : Dy i k a) (e : i * 2 ^ l = j * 2 ^ k) : Dy j l a := Dyf.to h e
theorem Dy.up {i : Int} {k : Nat} {a : UInt64} (h : Dy i k a) (l : Nat) : Dy (i * 2 ^ l) (k + l) a := Dyf.up h l
theorem Dy.add {i j : Int} {k : Nat} {a b : UInt64} (ha : Dy i k a) (hb : Dy j k b) (hi : (i + j).natAbs < 9007199254740992) (hk : k ≤ 1074) : Dy (i + j) k (FP.dadd a b) := by
  show Dyf b64 _ _ (val64 (dadd a b))
  rw [val64_dadd]
  exact Dyf.sum good_b64 qm64 (val64_fits a) (val64_fits b) ha hb hi (by rw [qmin_b64]; omega)
theorem Dy.sub {i j : Int} {k : Nat} {a b : UInt64} (ha : Dy i k a) (hb : Dy j k b) (hi : (i - j).natAbs < 9007199254740992) (hk : k ≤ 1074) : Dy (i - j) k (FP.dsub a b) := by
  show Dyf b64 _ _ (val64 (dsub a b))
  rw [val64_dsub]
  exact Dyf.sum good_b64 qm64 (val64_fits a) (negate_fits (val64_fits b)) ha hb.neg hi (by rw [qmin_b64]; omega)
theorem Dy.mul {i j : Int} {k l : Nat} {a b : UInt64} (ha : Dy i k a) (hb : Dy j l b) (hi : (i * j).natAbs < 9007199254740992) (hk : k + l ≤ 1074) : Dy (i * j) (k + l) (FP.dmul a b) := by
  show Dyf b64 _ _ (val64 (dmul a b))
  rw [val64_dmul]
  exact Dyf.prod good_b64 qm64 (val64_fits a) (val64_fits b) ha hb hi (by rw [qmin_b64]; omega)
theorem Dy.div {i j n : Int} {k l m : Nat} {a b : UInt64} (ha : Dy i k a) (hb : Dy j l b) (hj : j ≠ 0) (hi : n.natAbs < 9007199254740992) (hk : m ≤ 1074) (e : i * 2 ^ l * 2 ^ m = n * j * 2 ^ k) : Dy n m (FP.ddiv a b) := by
  show Dyf b64 _ _ (val64 (ddiv a b))
  rw [val64_ddiv]
  exact Dyf.quot good_b64 qm64 (val64_fits a) (val64_fits b) ha hb hj hi (by rw [qmin_b64]; omega) e
theorem Dy.neg {i : Int} {k : Nat} {a : UInt64} (ha : Dy i k a) : Dy (-i) k (FP.dneg a) := by
  show Dyf b64 _ _ (val64 (FP.dneg a))
  rw [Jvm.FP.val64_dneg]
  exact Dyf.neg ha
theorem Dy.i2d (x : Int32) : Dy x.toInt 0 (FP.i2d x) := by
  show Dyf b64 _ _ (val64 (FP.Core.i2d x))
  rw [val64_i2d]
  exact Dyf.ofInt good_b64 qm64 (by have := int32_abs x; show _ < 2 ^ 53; omega)
theorem Dy.l2d {x : Int64} (h : x.toInt.natAbs < 9007199254740992) : Dy x.toInt 0 (FP.l2d x) := by
  show Dyf b64 _ _ (val64 (FP.Core.l2d x))
  rw [val64_l2d]
  exact Dyf.ofInt good_b64 qm64 h
theorem Dy.cmp {i j : Int} {k : Nat} {a b : UInt64} (ha : Dy i k a) (hb : Dy j k b) : FP.dcmp a b = some (compare i j) :=
  Dyf.order good_b64 (val64_fits a) (val64_fits b) ha hb
theorem Dy.cmp_eq {i j : Int} {k : Nat} {a b : UInt64} (ha : Dy i k a) (hb : Dy j k b) (e : i = j) (o : ClassFile.CmpOp) : cmpValue (FP.dcmp a b) o = 0 := by
  rw [ha.cmp hb, e, compare_self_int]; rfl
theorem Dy.cmp_lt {i j : Int} {k : Nat} {a b : UInt64} (ha : Dy i k a) (hb : Dy j k b) (e : i < j) (o : ClassFile.CmpOp) : cmpValue (FP.dcmp a b) o = -1 := by
  rw [ha.cmp hb, show compare i j = .lt by rw [compare_ite, if_pos e]]; rfl
theorem Dy.cmp_gt {i j : Int} {k : Nat} {a b : UInt64} (ha : Dy i k a) (hb : Dy j k b) (e : j < i) (o : ClassFile.CmpOp) : cmpValue (FP.dcmp a b) o = 1 := by
  rw [ha.cmp hb, show compare i j = .gt by rw [compare_ite, if_neg (by omega), if_neg (by omega)]]; rfl
theorem dy_of {i : Int} {k : Nat} {a : UInt64} {s : Bool} {c : Nat} {q : Int} (h : val64 a = .fin s c q) (e : zval b64 (.fin s c q) * 2 ^ k = i * 2 ^ 1074) : Dy i k a :=
  ⟨⟨s, c, q, h⟩, by rw [h, e]; rfl⟩
theorem dy0 (k : Nat) : Dy 0 k (0 : UInt64) := dy_of (s := false) (c := 0) (q := -1074) (by decide +kernel) (by
  rw [show zval b64 (.fin false 0 (-1074)) = 0 from rfl, Int.zero_mul, Int.zero_mul])
theorem dy1 (k : Nat) : Dy (2 ^ k) k (4607182418800017408 : UInt64) := dy_of (s := false) (c := 2 ^ 52) (q := -52) (by decide +kernel) (by
  rw [show zval b64 (.fin false (2 ^ 52) (-52)) = 2 ^ 1074 by decide +kernel, Int.mul_comm])
theorem Dy.ge {i j : Int} {k : Nat} {a b : UInt64} (ha : Dy i k a) (hb : Dy j k b) (e : j ≤ i) (o : ClassFile.CmpOp) : ¬ (cmpValue (FP.dcmp a b) o < (0 : Int32)) := by
  rcases Int.lt_or_eq_of_le e with h | h
  · rw [ha.cmp_gt hb h]; decide
  · rw [ha.cmp_eq hb h.symm]; decide
theorem Dy.le {i j : Int} {k : Nat} {a b : UInt64} (ha : Dy i k a) (hb : Dy j k b) (e : i ≤ j) (o : ClassFile.CmpOp) : ¬ ((0 : Int32) < cmpValue (FP.dcmp a b) o) := by
  rcases Int.lt_or_eq_of_le e with h | h
  · rw [ha.cmp_lt hb h]; decide
  · rw [ha.cmp_eq hb h]; decide
theorem Dy.lt_inf {i : Int} {k : Nat} {a : UInt64} (ha : Dy i k a) (o : ClassFile.CmpOp) : cmpValue (FP.dcmp a (9218868437227405312 : UInt64)) o < (0 : Int32) := by
  rw [Jvm.RoadKit.dcmp_pinf (Jvm.Free.Fl.fin64_core.mpr ha.1)]; decide
theorem isfin {a : UInt64} (h : DFin a) : ¬ ((0 : Int32) < cmpValue (FP.dcmp (a &&& 0x7fffffffffffffff) (9218868437227405311 : UInt64)) .g) := by
  have hn : dIsNaN a = false := (notNaN_iff a).mpr (by obtain ⟨s, c, q, e⟩ := h; rw [e]; exact nofun)
  rcases (le_max hn).mpr h with e | e <;> rw [show FP.dcmp (a &&& 0x7fffffffffffffff) (9218868437227405311 : UInt64) = _ from e] <;> decide
theorem since0 (s : State) : s.Since s.vm 0 := ⟨State.Warmed39.refl s, fun j p h1 h2 => by
  rw [Array.getElem?_eq_none h1] at h2; cases h2⟩
theorem i2d_nz {v : Int32} (h : v ≠ 0) : ¬ DZero (FP.i2d v) := fun q => i2d_ne_zero h ((zero_bits2 _).mp q)
theorem nn_of {x : UInt64} (h : dIsNaN x = false) : Jvm.Free.Fl.NoNaN64 x := Jvm.Free.Fl.noNaN64_no.mpr h
theorem no_of {x : UInt64} (h : Jvm.Free.Fl.NoNaN64 x) : dIsNaN x = false := Jvm.Free.Fl.noNaN64_no.mp h
theorem no_fin {x : UInt64} (h : DFin x) : dIsNaN x = false := (notNaN_iff x).mpr (by obtain ⟨s, c, q, e⟩ := h; rw [e]; exact nofun)
theorem nn_div {a : UInt64} {v : Int32} (ha : dIsNaN a = false) (h : v ≠ 0) : Jvm.Free.Fl.NoNaN64 (FP.ddiv a (FP.i2d v)) := nn_of (ddiv_out ha (i2d_fin v) (i2d_nz h))
theorem fin_div (a : Int32) {v : Int32} (h : v ≠ 0) : DFin (FP.ddiv (FP.i2d a) (FP.i2d v)) := by
  have h1 := i2d_mag a
  have h2 := i2d_big (v := v) (fun q => h (Int32.toInt_inj.mp q))
  exact fin_of_lt (ddiv_mag h1 h2.1 h2.2 (by decide) (by decide)) (by decide)
end Jvm.OwnFp
namespace Jvm.OwnFp
open Jvm.FP.Core Op
/-! own: rounding to float of a dyadic number -/
def Fy (i : Int) (k : Nat) (a : UInt32) : Prop := Dyf b32 i k (val32 a)
theorem qm32 : (0 : Int) ≤ b32.qmax := by decide
theorem Fy.fin {i : Int} {k : Nat} {a : UInt32} (h : Fy i k a) : FFin a := h.1
theorem Fy.nn {i : Int} {k : Nat} {a : UInt32} (h : Fy i k a) : Jvm.Free.Fl.NoNaN32 a := (Jvm.Free.Fl.fin32_core.mpr h.1).noNaN
theorem Fy.cmp {i j : Int} {k : Nat} {a b : UInt32} (ha : Fy i k a) (hb : Fy j k b) : FP.fcmp a b = some (compare i j) :=
  Dyf.order good_b32 (val32_fits a) (val32_fits b) ha hb
theorem Fy.to {i j : Int} {k l : Nat} {a : UInt32} (h : Fy i k a) (e : i * 2 ^ l = j * 2 ^ k) : Fy j l a := Dyf.to h e
theorem Fy.cmp_eq {i j : Int} {k : Nat} {a b : UInt32} (ha : Fy i k a) (hb : Fy j k b) (e : i = j) (o : ClassFile.CmpOp) : cmpValue (FP.fcmp a b) o = 0 := by
  rw [ha.cmp hb, e, compare_self_int]; rfl
theorem Fy.cmp_lt {i j : Int} {k : Nat} {a b : UInt32} (ha : Fy i k a) (hb : Fy j k b) (e : i < j) (o : ClassFile.CmpOp) : cmpValue (FP.fcmp a b) o = -1 := by
  rw [ha.cmp hb, show compare i j = .lt by rw [compare_ite, if_pos e]]; rfl
theorem Fy.cmp_gt {i j : Int} {k : Nat} {a b : UInt32} (ha : Fy i k a) (hb : Fy j k b) (e : j < i) (o : ClassFile.CmpOp) : cmpValue (FP.fcmp a b) o = 1 := by
  rw [ha.cmp hb, show compare i j = .gt by rw [compare_ite, if_neg (by omega), if_neg (by omega)]]; rfl
/-- a magnitude of 24 + sh digits, in units of 2^t -/
theorem rr32 {s : Bool} {M sh : Nat} {t : Int} (h1 : 2 ^ (23 + sh) ≤ M) (h2 : M < 2 ^ (24 + sh)) (ht : -149 ≤ (sh : Int) + t) :
    roundRatio b32 s M 1 t = settle b32 s (nearest M (2 ^ sh)) ((sh : Int) + t) := by
  have hM : 0 < M := Nat.lt_of_lt_of_le (Nat.two_pow_pos _) h1
  have hq : quantum b32 M 1 t = (sh : Int) + t := by
    refine quantum_eq hM (by decide) ht ?_ (Or.inr ?_)
    · show M * 2 ^ (-((sh : Int) + t - t + (24 : Nat))).toNat < 1 * 2 ^ ((sh : Int) + t - t + (24 : Nat)).toNat
      rw [show (-((sh : Int) + t - t + (24 : Nat))).toNat = 0 by omega, show ((sh : Int) + t - t + (24 : Nat)).toNat = 24 + sh by omega]
      omega
    · show ¬ (M * 2 ^ (-((sh : Int) + t - t + (((24 : Nat) : Int) - 1))).toNat < 1 * 2 ^ ((sh : Int) + t - t + (((24 : Nat) : Int) - 1)).toNat)
      rw [show (-((sh : Int) + t - t + (((24 : Nat) : Int) - 1))).toNat = 0 by omega, show ((sh : Int) + t - t + (((24 : Nat) : Int) - 1)).toNat = 23 + sh by omega]
      omega
  unfold roundRatio
  rw [if_neg (by omega), hq]
  unfold roundAt unitsNum unitsDen
  rw [show (t - ((sh : Int) + t)).toNat = 0 by omega, show ((sh : Int) + t - t).toNat = sh by omega, Nat.pow_zero, Nat.mul_one, Nat.one_mul]
theorem nearest_range {M sh : Nat} (h1 : 2 ^ (23 + sh) ≤ M) (h2 : M < 2 ^ (24 + sh)) : 2 ^ 23 ≤ nearest M (2 ^ sh) ∧ nearest M (2 ^ sh) ≤ 2 ^ 24 :=
  ⟨nearest_ge (Nat.two_pow_pos _) (by rw [← Nat.pow_add]; exact h1), nearest_le (Nat.two_pow_pos _) (by rw [← Nat.pow_add]; exact Nat.le_of_lt h2)⟩
theorem settle32 {s : Bool} {c : Nat} {q : Int} (h2 : c ≤ 2 ^ 24) (hq1 : -149 ≤ q) (hq2 : q ≤ 103 ∨ (c < 2 ^ 24 ∧ q ≤ 104)) :
    ∃ c' q', settle b32 s c q = .fin s c' q' ∧ inUnits c' q' b32.qmin = c * 2 ^ (q + 149).toNat := by
  have hm : b32.qmax = 104 := by decide
  have hn : b32.qmin = -149 := by decide
  have ht : b32.tails = 2 ^ 23 := by decide
  unfold settle bound
  rw [hm]
  show ∃ c' q', (if c < 2 ^ 24 then _ else _) = _ ∧ _
  by_cases h : c < 2 ^ 24
  · rw [if_pos h, if_pos (by omega)]
    exact ⟨c, q, rfl, by unfold inUnits; rw [hn, show q - -149 = q + 149 by omega]⟩
  · rw [if_neg h, if_pos (by omega)]
    refine ⟨_, _, rfl, ?_⟩
    unfold inUnits
    rw [hn, ht, show (q + 1 - -149).toNat = (q + 149).toNat + 1 by omega, Nat.pow_succ, show c = 2 ^ 24 by omega]
    omega
theorem settle32_inf {s : Bool} {c : Nat} {q : Int} (hq : 104 < q ∨ (¬ c < 2 ^ 24 ∧ 103 < q)) : settle b32 s c q = .inf s := by
  have hm : b32.qmax = 104 := by decide
  unfold settle bound
  rw [hm]
  show (if c < 2 ^ 24 then _ else _) = _
  by_cases h : c < 2 ^ 24
  · rw [if_pos h, if_neg (by omega)]
  · rw [if_neg h, if_neg (by omega)]
/-- the parts of a double that is worth i / 2^k -/
theorem dy_parts {i : Int} {k : Nat} {a : UInt64} (h : Dy i k a) : ∃ s c q, val64 a = .fin s c q ∧ c * 1 * 2 ^ (q - (-(k : Int))).toNat = i.natAbs * 1 * 2 ^ (-(k : Int) - q).toNat ∧ (i ≠ 0 → s = decide (i < 0)) := by
  obtain ⟨⟨s, c, q, e⟩, hz⟩ := h
  refine ⟨s, c, q, e, ?_, ?_⟩
  · have hf := val64_fits a
    rw [e] at hf hz
    have hq := hf.2.1
    rw [qmin_b64] at hq
    have h2 := congrArg Int.natAbs hz
    rw [Int.natAbs_mul, Int.natAbs_mul, natAbs_pow, natAbs_pow, natAbs_zval, qmin_b64] at h2
    have h3 : zmag b64 (.fin s c q) = c * 2 ^ (q + 1074).toNat := by
      show c * 2 ^ (q - b64.qmin).toNat = _
      rw [qmin_b64, show q - -1074 = q + 1074 by omega]
    rw [h3, Nat.mul_assoc, ← Nat.pow_add] at h2
    rw [Nat.mul_one, Nat.mul_one]
    rcases Int.le_total 0 (q + k) with hp | hp
    · rw [show (-(k : Int) - q).toNat = 0 by omega, Nat.pow_zero, Nat.mul_one]
      refine Nat.eq_of_mul_eq_mul_right (Nat.two_pow_pos 1074) ?_
      rw [Nat.mul_assoc, ← Nat.pow_add, show (q - -(k : Int)).toNat + 1074 = (q + 1074).toNat + k by omega]
      exact h2
    · rw [show (q - -(k : Int)).toNat = 0 by omega, Nat.pow_zero, Nat.mul_one]
      refine Nat.eq_of_mul_eq_mul_right (Nat.two_pow_pos ((q + 1074).toNat + k)) ?_
      rw [h2, Nat.mul_assoc, ← Nat.pow_add, show (-(k : Int) - q).toNat + ((q + 1074).toNat + k) = 1074 by omega]
      rfl
  · intro hi
    rw [e] at hz
    have hs : zval b64 (.fin s c q) = signed s (inUnits c q b64.qmin) := rfl
    rw [hs] at hz
    have p1 := pw_pos k
    have p2 := pw_pos (-b64.qmin).toNat
    have hc : (0 : Int) ≤ (inUnits c q b64.qmin : Int) := Int.natCast_nonneg _
    cases s with
    | true =>
      have : signed true (inUnits c q b64.qmin) = -((inUnits c q b64.qmin : Nat) : Int) := rfl
      rw [this] at hz
      have : i * 2 ^ (-b64.qmin).toNat ≤ 0 := by rw [← hz]; exact Int.mul_nonpos_of_nonpos_of_nonneg (by omega) (Int.le_of_lt p1)
      have : ¬ 0 < i := fun hp => absurd (Int.mul_pos hp p2) (by omega)
      simp; omega
    | false =>
      have : signed false (inUnits c q b64.qmin) = ((inUnits c q b64.qmin : Nat) : Int) := rfl
      rw [this] at hz
      have : 0 ≤ i * 2 ^ (-b64.qmin).toNat := by rw [← hz]; exact Int.mul_nonneg hc (Int.le_of_lt p1)
      have : ¬ i < 0 := fun hp => absurd (Int.mul_neg_of_neg_of_pos hp p2) (by omega)
      simp; omega
theorem val32_d2f' {a : UInt64} (h : DFin a) : val32 (FP.d2f a) = round b32 (val64 a) := by
  have hn : FP.dIsNaN a = false := (notNaN_iff a).mpr (by obtain ⟨s, c, q, e⟩ := h; rw [e]; exact nofun)
  rw [FP.d2f_core hn, val32_d2f]
/-- small: no rounding -/
theorem d2f_small' {i : Int} {k : Nat} {a : UInt64} (h : Dy i k a) (hi : i.natAbs < 2 ^ 24) (hk : k ≤ 149) : Fy i k (FP.d2f a) := by
  show Dyf b32 i k (val32 (FP.d2f a))
  rw [val32_d2f' h.1]
  obtain ⟨⟨s, c, q, e⟩, hz⟩ := h
  have hf := val64_fits a
  rw [e] at hz hf ⊢
  have hq : b64.qmin ≤ q := hf.2.1
  have n1 : b32.qmin = -149 := by decide
  refine rnd good_b32 qm32 (e0 := b64.qmin) (by decide) hq hi (by rw [n1]; omega) ?_
  have : signed s (inUnits c q b64.qmin) * 2 ^ k = i * 2 ^ (-b64.qmin).toNat := hz
  rw [this, Int.mul_assoc, ← Int.pow_add]
  rfl
/-- the float of a double that is worth i / 2^k, |i| of 24 + sh digits -/
theorem d2f_round {i : Int} {k sh : Nat} {a : UInt64} (h : Dy i k a) (h1 : 2 ^ (23 + sh) ≤ i.natAbs) (h2 : i.natAbs < 2 ^ (24 + sh)) (hk : k ≤ 100) (hs : sh ≤ 100) :
    Fy (signed (decide (i < 0)) (nearest i.natAbs (2 ^ sh) * 2 ^ sh)) k (FP.d2f a) := by
  show Dyf b32 _ k (val32 (FP.d2f a))
  rw [val32_d2f' h.1]
  obtain ⟨s, c, q, e, hv, hsg⟩ := dy_parts h
  have hi : i ≠ 0 := by rintro rfl; have := Nat.two_pow_pos (23 + sh); rw [Int.natAbs_zero] at h1; omega
  have hs' := hsg hi
  subst hs'
  rw [e]
  show Dyf b32 _ k (roundRatio b32 _ c 1 q)
  rw [roundRatio_congr (by decide) (by decide) hv, rr32 h1 h2 (by omega)]
  obtain ⟨c', q', e', hu⟩ := settle32 (s := decide (i < 0)) (c := nearest i.natAbs (2 ^ sh)) (q := (sh : Int) + -(k : Int)) (nearest_range h1 h2).2 (by omega) (Or.inl (by omega))
  rw [e']
  refine ⟨⟨_, _, _, rfl⟩, ?_⟩
  show signed _ (inUnits c' q' b32.qmin) * 2 ^ k = _
  rw [hu, signed_mulI, signed_mulI, Int.mul_assoc, ← Int.pow_add, Int.mul_assoc, ← Int.pow_add, show ((sh : Int) + -(k : Int) + 149).toNat + k = sh + (-b32.qmin).toNat by rw [show b32.qmin = -149 by decide]; omega]
  rfl
end Jvm.OwnFp
namespace Jvm.OwnFp
open Jvm.FP.Core Op
/-! own: values i * 2^t, t any exponent of the format -/
def Exf (f : Fmt) (i t : Int) (d : Datum) : Prop := (∃ s c q, d = .fin s c q) ∧ zval f d = i * 2 ^ (t - f.qmin).toNat
theorem vexE {f : Fmt} (hf : Good f) {i t : Int} (hi : i.natAbs < 2 ^ f.p) (h1 : f.qmin ≤ t) (h2 : t ≤ f.qmax) :
    ∃ s c q, FP.Core.fits f (.fin s c q) ∧ zval f (.fin s c q) = i * 2 ^ (t - f.qmin).toNat := by
  obtain ⟨c', q', h, hu⟩ := round_exact hf (decide (i < 0)) (c := i.natAbs) (q := t) hi h1 h2
  refine ⟨_, c', q', h ▸ round_fits hf _, ?_⟩
  show signed (decide (i < 0)) (inUnits c' q' f.qmin) = _
  rw [hu]
  unfold inUnits
  rw [signed_mulI, signed_abs]
theorem rndE {f : Fmt} (hf : Good f) {s : Bool} {c : Nat} {q e0 : Int} (h0 : e0 ≤ f.qmin) (h0e : e0 ≤ q) {i t : Int} (hi : i.natAbs < 2 ^ f.p) (h1 : f.qmin ≤ t) (h2 : t ≤ f.qmax)
    (h : signed s (inUnits c q e0) = i * 2 ^ (t - e0).toNat) : Exf f i t (round f (.fin s c q)) := by
  obtain ⟨s', c', q', hV, hv⟩ := vexE hf hi h1 h2
  have hn : Datum.fin s' c' q' ≠ .nan := nofun
  have he : zval f (.fin s' c' q') * ((2 ^ (f.qmin - e0).toNat : Nat) : Int) = signed s (inUnits c q e0) := by
    rw [h, hv, pw_cast, Int.mul_assoc, ← Int.pow_add, show (t - f.qmin).toNat + (f.qmin - e0).toNat = (t - e0).toNat by omega]
  have hz : zval f (round f (.fin s c q)) = zval f (.fin s' c' q') :=
    Int.le_antisymm (zval_round_le hf hV hn h0 h0e (Int.le_of_eq he.symm)) (zval_round_ge hf hV hn h0 h0e (Int.le_of_eq he))
  exact ⟨dyf_of_zval hf hV hz, by rw [hz]; exact hv⟩
theorem Exf.prod {f : Fmt} (hf : Good f) {i j t u : Int} {x y : Datum} (fx : FP.Core.fits f x) (fy : FP.Core.fits f y) (hx : Exf f i t x) (hy : Exf f j u y) (ht : f.qmin ≤ t) (hu : f.qmin ≤ u) (hi : (i * j).natAbs < 2 ^ f.p) (h1 : f.qmin ≤ t + u) (h2 : t + u ≤ f.qmax) :
    Exf f (i * j) (t + u) (round f (exactProduct x y)) := by
  obtain ⟨⟨s, c, q, rfl⟩, hx⟩ := hx
  obtain ⟨⟨s', d, r, rfl⟩, hy⟩ := hy
  obtain ⟨he, hle, hun⟩ := product_units fx fy
  rw [he]
  have hn := qmin_neg hf
  refine rndE hf (e0 := 2 * f.qmin) (by omega) hle hi h1 h2 ?_
  rw [hun, signed_xor]
  have e1 : signed s (zmag f (.fin s c q)) = i * 2 ^ (t - f.qmin).toNat := hx
  have e2 : signed s' (zmag f (.fin s' d r)) = j * 2 ^ (u - f.qmin).toNat := hy
  rw [e1, e2, show (t + u - 2 * f.qmin).toNat = (t - f.qmin).toNat + (u - f.qmin).toNat by omega, Int.pow_add]
  ac_rfl
def Ex (i t : Int) (a : UInt64) : Prop := Exf b64 i t (val64 a)
def Fx (i t : Int) (a : UInt32) : Prop := Exf b32 i t (val32 a)
theorem Ex.fin {i t : Int} {a : UInt64} (h : Ex i t a) : DFin a := h.1
theorem Ex.nn {i t : Int} {a : UInt64} (h : Ex i t a) : Jvm.Free.Fl.NoNaN64 a := (Jvm.Free.Fl.fin64_core.mpr h.1).noNaN
theorem Fx.nn {i t : Int} {a : UInt32} (h : Fx i t a) : Jvm.Free.Fl.NoNaN32 a := (Jvm.Free.Fl.fin32_core.mpr h.1).noNaN
theorem Ex.mul {i j t u : Int} {a b : UInt64} (ha : Ex i t a) (hb : Ex j u b) (ht : -1074 ≤ t) (hu : -1074 ≤ u) (hi : (i * j).natAbs < 9007199254740992) (h1 : -1074 ≤ t + u) (h2 : t + u ≤ 971) : Ex (i * j) (t + u) (FP.dmul a b) := by
  show Exf b64 _ _ (val64 (dmul a b))
  rw [val64_dmul]
  exact Exf.prod good_b64 (val64_fits a) (val64_fits b) ha hb (by rw [qmin_b64]; exact ht) (by rw [qmin_b64]; exact hu) hi (by rw [qmin_b64]; exact h1) (by rw [show b64.qmax = 971 by decide]; exact h2)
theorem Dy.ex {i : Int} {a : UInt64} (h : Dy i 0 a) : Ex i 0 a := ⟨h.1, by have := h.2; rw [Int.pow_zero, Int.mul_one] at this; rw [this, show (0 - b64.qmin).toNat = (-b64.qmin).toNat by omega]⟩
theorem Ex.cmp_eq {i t : Int} {a b : UInt64} (ha : Ex i t a) (hb : Ex i t b) (o : ClassFile.CmpOp) : cmpValue (FP.dcmp a b) o = 0 := by
  have na : val64 a ≠ .nan := by obtain ⟨⟨s, c, q, e⟩, -⟩ := ha; rw [e]; exact nofun
  have nb : val64 b ≠ .nan := by obtain ⟨⟨s, c, q, e⟩, -⟩ := hb; rw [e]; exact nofun
  rw [show FP.dcmp a b = _ from dcmp_zval na nb, ha.2, hb.2, compare_self_int]; rfl
theorem ex_of {i t : Int} {a : UInt64} {s : Bool} {c : Nat} {q : Int} (h : val64 a = .fin s c q) (e : zval b64 (.fin s c q) = i * 2 ^ (t - b64.qmin).toNat) : Ex i t a :=
  ⟨⟨s, c, q, h⟩, by rw [h]; exact e⟩
/-- the parts of a double that is worth i * 2^t -/
theorem ex_parts {i t : Int} {a : UInt64} (h : Ex i t a) (ht : -1074 ≤ t) : ∃ s c q, val64 a = .fin s c q ∧ -1074 ≤ q ∧ c * 1 * 2 ^ (q - t).toNat = i.natAbs * 1 * 2 ^ (t - q).toNat ∧ (i ≠ 0 → s = decide (i < 0)) ∧ signed s (inUnits c q b64.qmin) = i * 2 ^ (t - b64.qmin).toNat := by
  obtain ⟨⟨s, c, q, e⟩, hz⟩ := h
  have hf := val64_fits a
  rw [e] at hf hz
  have hq := hf.2.1
  rw [qmin_b64] at hq
  have hz' : signed s (inUnits c q b64.qmin) = i * 2 ^ (t - b64.qmin).toNat := hz
  refine ⟨s, c, q, e, hq, ?_, ?_, hz'⟩
  · have h2 := congrArg Int.natAbs hz'
    rw [natAbs_signed, Int.natAbs_mul, natAbs_pow, qmin_b64] at h2
    have h3 : inUnits c q (-1074) = c * 2 ^ (q + 1074).toNat := by unfold inUnits; rw [show q - -1074 = q + 1074 by omega]
    rw [h3, show t - -1074 = t + 1074 by omega] at h2
    rw [Nat.mul_one, Nat.mul_one]
    rcases Int.le_total t q with hp | hp
    · rw [show (t - q).toNat = 0 by omega, Nat.pow_zero, Nat.mul_one]
      refine Nat.eq_of_mul_eq_mul_right (Nat.two_pow_pos (t + 1074).toNat) ?_
      rw [Nat.mul_assoc, ← Nat.pow_add, show (q - t).toNat + (t + 1074).toNat = (q + 1074).toNat by omega]
      exact h2
    · rw [show (q - t).toNat = 0 by omega, Nat.pow_zero, Nat.mul_one]
      refine Nat.eq_of_mul_eq_mul_right (Nat.two_pow_pos (q + 1074).toNat) ?_
      rw [h2, Nat.mul_assoc, ← Nat.pow_add, show (t - q).toNat + (q + 1074).toNat = (t + 1074).toNat by omega]
  · intro hi
    have p2 := pw_pos (t - b64.qmin).toNat
    have hc : (0 : Int) ≤ (inUnits c q b64.qmin : Int) := Int.natCast_nonneg _
    cases s with
    | true =>
      have : signed true (inUnits c q b64.qmin) = -((inUnits c q b64.qmin : Nat) : Int) := rfl
      rw [this] at hz'
      have : ¬ 0 < i := fun hp => absurd (Int.mul_pos hp p2) (by omega)
      simp; omega
    | false =>
      have : signed false (inUnits c q b64.qmin) = ((inUnits c q b64.qmin : Nat) : Int) := rfl
      rw [this] at hz'
      have : ¬ i < 0 := fun hp => absurd (Int.mul_neg_of_neg_of_pos hp p2) (by omega)
      simp; omega
theorem d2f_small_ex {i t : Int} {a : UInt64} (h : Ex i t a) (hi : i.natAbs < 2 ^ 24) (h1 : -149 ≤ t) (h2 : t ≤ 104) : Fx i t (FP.d2f a) := by
  show Exf b32 i t (val32 (FP.d2f a))
  rw [val32_d2f' h.1]
  obtain ⟨s, c, q, e, hq, -, -, hz⟩ := ex_parts h (by omega)
  rw [e]
  exact rndE good_b32 (e0 := b64.qmin) (by decide) (by rw [qmin_b64]; exact hq) hi (by rw [show b32.qmin = -149 by decide]; exact h1) (by rw [show b32.qmax = 104 by decide]; exact h2) hz
theorem d2f_settle {i t : Int} {sh : Nat} {a : UInt64} (h : Ex i t a) (h1 : 2 ^ (23 + sh) ≤ i.natAbs) (h2 : i.natAbs < 2 ^ (24 + sh)) (ht : -149 ≤ t) :
    val32 (FP.d2f a) = settle b32 (decide (i < 0)) (nearest i.natAbs (2 ^ sh)) ((sh : Int) + t) := by
  rw [val32_d2f' h.1]
  obtain ⟨s, c, q, e, hq, hv, hsg, -⟩ := ex_parts h (by omega)
  have hi : i ≠ 0 := by rintro rfl; have := Nat.two_pow_pos (23 + sh); rw [Int.natAbs_zero] at h1; omega
  have hs' := hsg hi
  subst hs'
  rw [e]
  show roundRatio b32 _ c 1 q = _
  rw [roundRatio_congr (by decide) (by decide) hv, rr32 h1 h2 (by omega)]
theorem d2f_big_ex {i t : Int} {sh : Nat} {a : UInt64} (h : Ex i t a) (h1 : 2 ^ (23 + sh) ≤ i.natAbs) (h2 : i.natAbs < 2 ^ (24 + sh)) (ht : -149 ≤ t)
    (hq : (sh : Int) + t ≤ 103 ∨ (nearest i.natAbs (2 ^ sh) < 2 ^ 24 ∧ (sh : Int) + t ≤ 104)) : Fx (signed (decide (i < 0)) (nearest i.natAbs (2 ^ sh) * 2 ^ sh)) t (FP.d2f a) := by
  show Exf b32 _ t (val32 (FP.d2f a))
  rw [d2f_settle h h1 h2 ht]
  obtain ⟨c', q', e', hu⟩ := settle32 (s := decide (i < 0)) (c := nearest i.natAbs (2 ^ sh)) (q := (sh : Int) + t) (nearest_range h1 h2).2 (by omega) hq
  rw [e']
  refine ⟨⟨_, _, _, rfl⟩, ?_⟩
  show signed _ (inUnits c' q' b32.qmin) = _
  rw [hu, signed_mulI, signed_mulI, Int.mul_assoc, ← Int.pow_add, show b32.qmin = -149 by decide, show ((sh : Int) + t + 149).toNat = sh + (t - -149).toNat by omega]
  rfl
theorem f2d_ex {i t : Int} {a : UInt32} (h : Fx i t a) (hi : i.natAbs < 9007199254740992) (ht : -149 ≤ t) (ht2 : t ≤ 971) : Ex i t (FP.f2d a) := by
  show Exf b64 i t (val64 (FP.f2d a))
  have hn : FP.fIsNaN a = false := (notNaN_iff32 a).mpr (by obtain ⟨s, c, q, e⟩ := h.1; rw [e]; exact nofun)
  rw [FP.f2d_core hn, val64_f2d]
  obtain ⟨⟨s, c, q, e⟩, hz⟩ := h
  have hf := val32_fits a
  rw [e] at hz hf ⊢
  have hq := hf.2.1
  rw [show b32.qmin = -149 by decide] at hq
  have hz' : signed s (inUnits c q (-149)) = i * 2 ^ (t + 149).toNat := by
    have : signed s (inUnits c q b32.qmin) = i * 2 ^ (t - b32.qmin).toNat := hz
    rw [show b32.qmin = -149 by decide, show t - -149 = t + 149 by omega] at this
    exact this
  refine rndE good_b64 (e0 := -1074) (by decide) (by omega) hi (by rw [qmin_b64]; omega) (by rw [show b64.qmax = 971 by decide]; exact ht2) ?_
  unfold inUnits at hz' ⊢
  rw [signed_mulI] at hz' ⊢
  rw [show (q - -1074).toNat = (q - -149).toNat + 925 by omega, Int.pow_add, ← Int.mul_assoc, hz', Int.mul_assoc, ← Int.pow_add, show (t + 149).toNat + 925 = (t - -1074).toNat by omega]
theorem d2f_inf {i t : Int} {sh : Nat} {a : UInt64} (h : Ex i t a) (h1 : 2 ^ (23 + sh) ≤ i.natAbs) (h2 : i.natAbs < 2 ^ (24 + sh)) (ht : -149 ≤ t)
    (hq : 104 < (sh : Int) + t ∨ (¬ nearest i.natAbs (2 ^ sh) < 2 ^ 24 ∧ 103 < (sh : Int) + t)) : val32 (FP.d2f a) = .inf (decide (i < 0)) := by
  rw [d2f_settle h h1 h2 ht, settle32_inf hq]
theorem inf32 {a : UInt32} {s : Bool} (h : val32 a = .inf s) : Jvm.Free.Fl.NoNaN32 a ∧ val64 (FP.f2d a) = .inf s := by
  have hn : FP.fIsNaN a = false := (notNaN_iff32 a).mpr (by rw [h]; exact nofun)
  exact ⟨Jvm.Free.Fl.noNaN32_no.mpr hn, by rw [FP.f2d_core hn, val64_f2d, h]; rfl⟩
theorem inf64_nn {a : UInt64} {s : Bool} (h : val64 a = .inf s) : Jvm.Free.Fl.NoNaN64 a := Jvm.Free.Fl.noNaN64_no.mpr ((notNaN_iff a).mpr (by rw [h]; exact nofun))
theorem inf64_eq {a b : UInt64} {s : Bool} (ha : val64 a = .inf s) (hb : val64 b = .inf s) (o : ClassFile.CmpOp) : cmpValue (FP.dcmp a b) o = 0 := by
  have : FP.dcmp a b = order (val64 a) (val64 b) := rfl
  rw [this, ha, hb]; cases s <;> rfl
end Jvm.OwnFp
namespace Jvm.OwnFp
open Jvm.FP.Core Op
/-! own: bounds of a rounded quotient of positive numbers -/
theorem sgn_pos {f : Fmt} {s : Bool} {c : Nat} {q : Int} (h : 0 < zval f (.fin s c q)) : s = false := by
  cases s with
  | false => rfl
  | true =>
    have : zval f (.fin true c q) = -((inUnits c q f.qmin : Nat) : Int) := rfl
    rw [this] at h
    have := Int.natCast_nonneg (inUnits c q f.qmin)
    omega
theorem Dyf.zpos {f : Fmt} {i : Int} {k : Nat} {d : Datum} (h : Dyf f i k d) (hi : 0 < i) : 0 < zval f d := by
  have e := h.2
  have p1 : 0 < i * 2 ^ (-f.qmin).toNat := Int.mul_pos hi (pw_pos _)
  rw [← e] at p1
  rcases Int.lt_or_le 0 (zval f d) with h | h
  · exact h
  · have := Int.mul_le_mul_of_nonneg_right h (Int.le_of_lt (pw_pos k))
    rw [Int.zero_mul] at this
    omega
theorem zval_mag {f : Fmt} {d : Datum} (h : 0 ≤ zval f d) : zval f d = (zmag f d : Int) := by
  have := natAbs_zval f d
  omega
theorem quot_sides {f : Fmt} (hf : Good f) (hq : 0 ≤ f.qmax) {i j n : Int} {k l m : Nat} {x y : Datum} (fx : FP.Core.fits f x) (fy : FP.Core.fits f y) (hx : Dyf f i k x) (hy : Dyf f j l y) (hi : 0 < i) (hj : 0 < j) (hn0 : 0 ≤ n) (hn : n.natAbs < 2 ^ f.p) (hm : (m : Int) ≤ -f.qmin) :
    (i * 2 ^ l * 2 ^ m ≤ n * j * 2 ^ k → zval f (quotient f x y) * 2 ^ m ≤ n * 2 ^ (-f.qmin).toNat) ∧ (n * j * 2 ^ k ≤ i * 2 ^ l * 2 ^ m → n * 2 ^ (-f.qmin).toNat ≤ zval f (quotient f x y) * 2 ^ m) := by
  have px := hx.zpos hi
  have py := hy.zpos hj
  obtain ⟨⟨s, c, q, rfl⟩, hx⟩ := hx
  obtain ⟨⟨t, d, r, rfl⟩, hy⟩ := hy
  obtain ⟨s', c', q', hV, hv⟩ := vex hf hn hm hq
  have hnn : Datum.fin s' c' q' ≠ .nan := nofun
  have hqm := qmin_neg hf
  have fx1 := fx.2.1
  have fy1 := fy.2.1
  have pv : 0 ≤ zval f (.fin s' c' q') := by
    have : 0 ≤ n * 2 ^ (-f.qmin).toNat := Int.mul_nonneg hn0 (Int.le_of_lt (pw_pos _))
    rw [← hv] at this
    rcases Int.lt_or_le (zval f (.fin s' c' q')) 0 with h | h
    · have := Int.mul_neg_of_neg_of_pos h (pw_pos m)
      omega
    · exact h
  have hs := sgn_pos px
  have ht := sgn_pos py
  subst hs ht
  have X := zval_mag (Int.le_of_lt px)
  have Y := zval_mag (Int.le_of_lt py)
  have W := zval_mag pv
  have hd : d ≠ 0 := by
    rintro rfl
    have : zval f (.fin false 0 r) = 0 := by show signed false (inUnits 0 r f.qmin) = 0; unfold inUnits; rw [Nat.zero_mul]; rfl
    omega
  have hqt : quotient f (.fin false c q) (.fin false d r) = roundRatio f (false != false) c d (q - r) := by
    show (if d = 0 then _ else _) = _
    rw [if_neg hd]
  have a1 : inUnits c (q - r) (2 * f.qmin - r) = zmag f (.fin false c q) * 2 ^ (-f.qmin).toNat := by
    show c * 2 ^ _ = c * 2 ^ _ * 2 ^ _
    rw [Nat.mul_assoc, ← Nat.pow_add, show (q - r - (2 * f.qmin - r)).toNat = (q - f.qmin).toNat + (-f.qmin).toNat by omega]
  have a2 : zmag f (.fin s' c' q') * 2 ^ (f.qmin - (2 * f.qmin - r)).toNat * d = zmag f (.fin s' c' q') * zmag f (.fin false d r) := by
    rw [show (f.qmin - (2 * f.qmin - r)).toNat = (r - f.qmin).toNat by omega]
    show _ = _ * (d * 2 ^ _)
    ac_rfl
  have PP : (0 : Int) < 2 ^ k * 2 ^ l * 2 ^ m := Int.mul_pos (Int.mul_pos (pw_pos k) (pw_pos l)) (pw_pos m)
  have L1 : zval f (.fin false c q) * 2 ^ (-f.qmin).toNat * (2 ^ k * 2 ^ l * 2 ^ m) = (i * 2 ^ l * 2 ^ m) * (2 ^ (-f.qmin).toNat * 2 ^ (-f.qmin).toNat) := by
    calc zval f (.fin false c q) * 2 ^ (-f.qmin).toNat * (2 ^ k * 2 ^ l * 2 ^ m) = (zval f (.fin false c q) * 2 ^ k) * (2 ^ l * 2 ^ m) * 2 ^ (-f.qmin).toNat := by ac_rfl
      _ = _ := by rw [hx]; ac_rfl
  have R1 : zval f (.fin s' c' q') * zval f (.fin false d r) * (2 ^ k * 2 ^ l * 2 ^ m) = (n * j * 2 ^ k) * (2 ^ (-f.qmin).toNat * 2 ^ (-f.qmin).toNat) := by
    calc zval f (.fin s' c' q') * zval f (.fin false d r) * (2 ^ k * 2 ^ l * 2 ^ m) = (zval f (.fin s' c' q') * 2 ^ m) * (zval f (.fin false d r) * 2 ^ l) * 2 ^ k := by ac_rfl
      _ = _ := by rw [hv, hy]; ac_rfl
  have QQ : (0 : Int) ≤ 2 ^ (-f.qmin).toNat * 2 ^ (-f.qmin).toNat := Int.le_of_lt (Int.mul_pos (pw_pos _) (pw_pos _))
  have zR : zval f (roundRatio f (false != false) c d (q - r)) = (zmag f (roundRatio f (false != false) c d (q - r)) : Int) := by
    show signed (sgn (roundRatio f (false != false) c d (q - r))) (zmag f (roundRatio f (false != false) c d (q - r))) = _
    rw [sgn_roundRatio]; rfl
  rw [hqt, zR, ← hv, W]
  constructor
  · intro e
    have h1 := Int.mul_le_mul_of_nonneg_right e QQ
    rw [← L1, ← R1] at h1
    have h2 := Int.le_of_mul_le_mul_right h1 PP
    rw [X, Y, W, ← pw_cast, ← Int.natCast_mul, ← Int.natCast_mul] at h2
    have h3 := Int.ofNat_le.mp h2
    have := zmag_roundRatio_le hf (s := false != false) (A := c) (B := d) (e := q - r) (e0 := 2 * f.qmin - r) (Nat.pos_of_ne_zero hd) hV hnn (by omega) (by omega) (by rw [a1, a2]; exact h3)
    exact Int.mul_le_mul_of_nonneg_right (Int.ofNat_le.mpr this) (Int.le_of_lt (pw_pos m))
  · intro e
    have h1 := Int.mul_le_mul_of_nonneg_right e QQ
    rw [← L1, ← R1] at h1
    have h2 := Int.le_of_mul_le_mul_right h1 PP
    rw [X, Y, W, ← pw_cast, ← Int.natCast_mul, ← Int.natCast_mul] at h2
    have h3 := Int.ofNat_le.mp h2
    have := zmag_roundRatio_ge hf (s := false != false) (A := c) (B := d) (e := q - r) (e0 := 2 * f.qmin - r) (Nat.pos_of_ne_zero hd) hV (by omega) (by omega) (by rw [a1, a2]; exact h3)
    exact Int.mul_le_mul_of_nonneg_right (Int.ofNat_le.mpr this) (Int.le_of_lt (pw_pos m))
def DLe (a : UInt64) (n : Int) (m : Nat) : Prop := DFin a ∧ zval b64 (val64 a) * 2 ^ m ≤ n * 2 ^ (-b64.qmin).toNat
def DGe (a : UInt64) (n : Int) (m : Nat) : Prop := DFin a ∧ n * 2 ^ (-b64.qmin).toNat ≤ zval b64 (val64 a) * 2 ^ m
theorem ddiv_dle {i j n : Int} {k l m : Nat} {a b : UInt64} (ha : Dy i k a) (hb : Dy j l b) (hi : 0 < i) (hj : 0 < j) (hn0 : 0 ≤ n) (hn : n.natAbs < 9007199254740992) (hm : m ≤ 1074) (hF : DFin (FP.ddiv a b)) (e : i * 2 ^ l * 2 ^ m ≤ n * j * 2 ^ k) : DLe (FP.ddiv a b) n m := by
  refine ⟨hF, ?_⟩
  rw [show val64 (FP.ddiv a b) = _ from val64_ddiv a b]
  exact (quot_sides good_b64 qm64 (val64_fits a) (val64_fits b) ha hb hi hj hn0 hn (by rw [qmin_b64]; omega)).1 e
theorem ddiv_dge {i j n : Int} {k l m : Nat} {a b : UInt64} (ha : Dy i k a) (hb : Dy j l b) (hi : 0 < i) (hj : 0 < j) (hn0 : 0 ≤ n) (hn : n.natAbs < 9007199254740992) (hm : m ≤ 1074) (hF : DFin (FP.ddiv a b)) (e : n * j * 2 ^ k ≤ i * 2 ^ l * 2 ^ m) : DGe (FP.ddiv a b) n m := by
  refine ⟨hF, ?_⟩
  rw [show val64 (FP.ddiv a b) = _ from val64_ddiv a b]
  exact (quot_sides good_b64 qm64 (val64_fits a) (val64_fits b) ha hb hi hj hn0 hn (by rw [qmin_b64]; omega)).2 e
theorem fin_nn {a : UInt64} (h : DFin a) : val64 a ≠ .nan := by obtain ⟨s, c, q, e⟩ := h; rw [e]; exact nofun
theorem DLe.cmp_lt {a b : UInt64} {n n' : Int} {m : Nat} (ha : DLe a n m) (hb : Dy n' m b) (h : n < n') (o : ClassFile.CmpOp) : cmpValue (FP.dcmp a b) o = -1 := by
  have e := hb.2
  have h1 := Int.mul_lt_mul_of_pos_right h (pw_pos (-b64.qmin).toNat)
  have h2 : zval b64 (val64 a) * 2 ^ m < zval b64 (val64 b) * 2 ^ m := by rw [e]; exact Int.lt_of_le_of_lt ha.2 h1
  have h3 := Int.lt_of_mul_lt_mul_right h2 (Int.le_of_lt (pw_pos m))
  rw [show FP.dcmp a b = _ from dcmp_zval (fin_nn ha.1) (fin_nn hb.1), show compare (zval b64 (val64 a)) (zval b64 (val64 b)) = .lt by rw [compare_ite, if_pos h3]]
  rfl
theorem DGe.cmp_gt {a b : UInt64} {n n' : Int} {m : Nat} (ha : DGe a n m) (hb : Dy n' m b) (h : n' < n) (o : ClassFile.CmpOp) : cmpValue (FP.dcmp a b) o = 1 := by
  have e := hb.2
  have h1 := Int.mul_lt_mul_of_pos_right h (pw_pos (-b64.qmin).toNat)
  have h2 : zval b64 (val64 b) * 2 ^ m < zval b64 (val64 a) * 2 ^ m := by rw [e]; exact Int.lt_of_lt_of_le h1 ha.2
  have h3 := Int.lt_of_mul_lt_mul_right h2 (Int.le_of_lt (pw_pos m))
  rw [show FP.dcmp a b = _ from dcmp_zval (fin_nn ha.1) (fin_nn hb.1), show compare (zval b64 (val64 a)) (zval b64 (val64 b)) = .gt by rw [compare_ite, if_neg (by omega), if_neg (by omega)]]
  rfl
end Jvm.OwnFp
namespace Jvm.OwnFp
open Jvm.FP.Core Op
/-! own: positive doubles by their magnitude in units of 2^-1074, and relative errors -/
def Zp (a : UInt64) (z : Nat) : Prop := ∃ c q, val64 a = .fin false c q ∧ inUnits c q b64.qmin = z
theorem Zp.fin {a : UInt64} {z : Nat} (h : Zp a z) : DFin a := by obtain ⟨c, q, e, -⟩ := h; exact ⟨false, c, q, e⟩
theorem Zp.nn {a : UInt64} {z : Nat} (h : Zp a z) : Jvm.Free.Fl.NoNaN64 a := (Jvm.Free.Fl.fin64_core.mpr h.fin).noNaN
theorem Zp.zval {a : UInt64} {z : Nat} (h : Zp a z) : zval b64 (val64 a) = (z : Int) := by obtain ⟨c, q, e, h⟩ := h; rw [e, ← h]; rfl
theorem zp_dy {i : Int} {k : Nat} {a : UInt64} (h : Dy i k a) (hi : 0 < i) : ∃ z, Zp a z ∧ z * 2 ^ k = i.toNat * 2 ^ 1074 := by
  have p := Dyf.zpos h hi
  obtain ⟨⟨s, c, q, e⟩, hz⟩ := h
  rw [e] at p hz
  have hs := sgn_pos p
  subst hs
  refine ⟨_, ⟨c, q, e, rfl⟩, ?_⟩
  have h1 : zval b64 (.fin false c q) = ((inUnits c q b64.qmin : Nat) : Int) := rfl
  rw [h1, qmin_b64] at hz
  have h2 : ((inUnits c q b64.qmin * 2 ^ k : Nat) : Int) = ((i.toNat * 2 ^ 1074 : Nat) : Int) := by
    rw [Int.natCast_mul, Int.natCast_mul, pw_cast, pw_cast, Int.toNat_of_nonneg (Int.le_of_lt hi), qmin_b64]
    exact hz
  exact Int.ofNat_inj.mp h2
theorem zp_ex {i t : Int} {a : UInt64} (h : Ex i t a) (hi : 0 < i) : Zp a (i.toNat * 2 ^ (t + 1074).toNat) := by
  obtain ⟨⟨s, c, q, e⟩, hz⟩ := h
  rw [e] at hz
  have p : 0 < zval b64 (.fin s c q) := by rw [hz]; exact Int.mul_pos hi (pw_pos _)
  have hs := sgn_pos p
  subst hs
  refine ⟨c, q, e, ?_⟩
  have h1 : zval b64 (.fin false c q) = ((inUnits c q b64.qmin : Nat) : Int) := rfl
  rw [h1] at hz
  have h2 : ((inUnits c q b64.qmin : Nat) : Int) = ((i.toNat * 2 ^ (t + 1074).toNat : Nat) : Int) := by
    rw [hz, Int.natCast_mul, pw_cast, Int.toNat_of_nonneg (Int.le_of_lt hi), qmin_b64, show t - -1074 = t + 1074 by omega]
  exact Int.ofNat_inj.mp h2
theorem Ex.shift {i t : Int} {j : Nat} {a : UInt64} (h : Ex (i * 2 ^ j) t a) (ht : -1074 ≤ t) : Ex i (t + j) a := by
  refine ⟨h.1, ?_⟩
  rw [h.2, Int.mul_assoc, ← Int.pow_add, qmin_b64, show j + (t - -1074).toNat = (t + j - -1074).toNat by omega]
/-- two quotients of one value round to one number -/
theorem ddiv_congr {a b a' b' : UInt64} {x y x' y' : Nat} (ha : Zp a x) (hb : Zp b y) (ha' : Zp a' x') (hb' : Zp b' y') (hy : 0 < y) (hy' : 0 < y') (h : x * y' = x' * y) : val64 (FP.ddiv a b) = val64 (FP.ddiv a' b') := by
  have qt : ∀ {a b : UInt64} {c d : Nat} {q r : Int}, val64 a = .fin false c q → val64 b = .fin false d r → d ≠ 0 → val64 (FP.ddiv a b) = roundRatio b64 (false != false) c d (q - r) := by
    intro a b c d q r e1 e2 hd
    rw [show val64 (FP.ddiv a b) = _ from val64_ddiv a b, e1, e2]
    show (if d = 0 then _ else _) = _
    rw [if_neg hd]
  have f1 := val64_fits a; have f2 := val64_fits b; have f3 := val64_fits a'; have f4 := val64_fits b'
  obtain ⟨c, q, e1, rfl⟩ := ha
  obtain ⟨d, r, e2, rfl⟩ := hb
  obtain ⟨c', q', e3, rfl⟩ := ha'
  obtain ⟨d', r', e4, rfl⟩ := hb'
  rw [e1] at f1; rw [e2] at f2; rw [e3] at f3; rw [e4] at f4
  have g1 := f1.2.1; have g2 := f2.2.1; have g3 := f3.2.1; have g4 := f4.2.1
  unfold inUnits at hy hy' h
  rw [qmin_b64] at *
  have hd : d ≠ 0 := by rintro rfl; rw [Nat.zero_mul] at hy; omega
  have hd' : d' ≠ 0 := by rintro rfl; rw [Nat.zero_mul] at hy'; omega
  rw [qt e1 e2 hd, qt e3 e4 hd']
  refine roundRatio_congr (Nat.pos_of_ne_zero hd) (Nat.pos_of_ne_zero hd') ?_
  have h2 : c * d' * 2 ^ ((q - -1074).toNat + (r' - -1074).toNat) = c' * d * 2 ^ ((q' - -1074).toNat + (r - -1074).toNat) := by
    rw [Nat.pow_add, Nat.pow_add]
    calc c * d' * (2 ^ (q - -1074).toNat * 2 ^ (r' - -1074).toNat) = c * 2 ^ (q - -1074).toNat * (d' * 2 ^ (r' - -1074).toNat) := by ac_rfl
      _ = c' * 2 ^ (q' - -1074).toNat * (d * 2 ^ (r - -1074).toNat) := h
      _ = _ := by ac_rfl
  rcases Int.le_total (q' - r') (q - r) with hp | hp
  · rw [show (q' - r' - (q - r)).toNat = 0 by omega, Nat.pow_zero, Nat.mul_one]
    refine Nat.eq_of_mul_eq_mul_right (Nat.two_pow_pos ((q' - -1074).toNat + (r - -1074).toNat)) ?_
    rw [← h2, Nat.mul_assoc, ← Nat.pow_add, show (q - r - (q' - r')).toNat + ((q' - -1074).toNat + (r - -1074).toNat) = (q - -1074).toNat + (r' - -1074).toNat by omega]
  · rw [show (q - r - (q' - r')).toNat = 0 by omega, Nat.pow_zero, Nat.mul_one]
    refine Nat.eq_of_mul_eq_mul_right (Nat.two_pow_pos ((q - -1074).toNat + (r' - -1074).toNat)) ?_
    rw [h2, Nat.mul_assoc (c' * d) (2 ^ (q' - r' - (q - r)).toNat), ← Nat.pow_add, show (q' - r' - (q - r)).toNat + ((q - -1074).toNat + (r' - -1074).toNat) = (q' - -1074).toNat + (r - -1074).toNat by omega]
theorem bracket {U D : Nat} (hD : 0 < D) (h : 2 ^ 52 * D ≤ U) : ∃ j c : Nat, 2 ^ 52 ≤ c ∧ c < 2 ^ 53 ∧ c * 2 ^ j * D ≤ U ∧ U ≤ (c + 1) * 2 ^ j * D := by
  have hR : 2 ^ 52 ≤ U / D := (Nat.le_div_iff_mul_le hD).mpr h
  obtain ⟨R, eR⟩ : ∃ R, R = U / D := ⟨_, rfl⟩
  rw [← eR] at hR
  have hpos : 0 < 2 ^ 52 := Nat.two_pow_pos 52
  have h52 : 52 ≤ R.log2 := (Nat.le_log2 (by omega)).mpr hR
  obtain ⟨j, hj⟩ : ∃ j, R.log2 = 52 + j := ⟨R.log2 - 52, by omega⟩
  obtain ⟨l1, l2⟩ := (Nat.log2_eq_iff (n := R) (k := 52 + j) (by omega)).mp hj
  have pj := Nat.two_pow_pos j
  have hc1 : R / 2 ^ j * 2 ^ j ≤ R := Nat.div_mul_le_self R (2 ^ j)
  have hc2 : R < (R / 2 ^ j + 1) * 2 ^ j := by
    have := Nat.lt_succ_of_le (Nat.le_refl (R / 2 ^ j))
    exact (Nat.div_lt_iff_lt_mul pj).mp this
  have hU1 : R * D ≤ U := by rw [eR]; exact Nat.div_mul_le_self U D
  have hU2 : U < (R + 1) * D := by
    rw [eR]; exact (Nat.div_lt_iff_lt_mul hD).mp (Nat.lt_succ_of_le (Nat.le_refl _))
  refine ⟨j, R / 2 ^ j, (Nat.le_div_iff_mul_le pj).mpr (by rw [← Nat.pow_add]; exact l1), (Nat.div_lt_iff_lt_mul pj).mpr (by rw [← Nat.pow_add, show 53 + j = 52 + j + 1 by omega]; exact l2), ?_, ?_⟩
  · exact Nat.le_trans (Nat.mul_le_mul_right D hc1) hU1
  · exact Nat.le_trans (Nat.le_of_lt hU2) (Nat.mul_le_mul_right D hc2)
theorem rep64 {c j : Nat} (hc : c ≤ 2 ^ 53) (hj : j ≤ 2000) : ∃ s c' q', FP.Core.fits b64 (.fin s c' q') ∧ zmag b64 (.fin s c' q') = c * 2 ^ j := by
  have fin : ∀ {i t : Nat}, i < 2 ^ 53 → t ≤ 2001 → ∃ s c' q', FP.Core.fits b64 (.fin s c' q') ∧ zmag b64 (.fin s c' q') = i * 2 ^ t := by
    intro i t hi ht
    obtain ⟨s, c', q', h1, h2⟩ := vexE good_b64 (i := (i : Int)) (t := (t : Int) - 1074) (by rw [Int.natAbs_natCast]; exact hi) (by rw [qmin_b64]; omega) (by rw [show b64.qmax = 971 by decide]; omega)
    refine ⟨s, c', q', h1, ?_⟩
    have h3 := congrArg Int.natAbs h2
    rw [natAbs_zval, Int.natAbs_mul, natAbs_pow, Int.natAbs_natCast, qmin_b64, show ((t : Int) - 1074 - -1074).toNat = t by omega] at h3
    exact h3
  by_cases q : c < 2 ^ 53
  · exact fin q (by omega)
  · have e : c = 2 ^ 52 * 2 := by omega
    obtain ⟨s, c', q', h1, h2⟩ := fin (i := 2 ^ 52) (t := j + 1) (by decide) (by omega)
    have e3 : 2 ^ 52 * 2 ^ (j + 1) = 2 ^ 52 * 2 * 2 ^ j := by
      rw [show j + 1 = 1 + j by omega, Nat.pow_add, Nat.pow_one, Nat.mul_assoc]
    exact ⟨s, c', q', h1, by rw [h2, e, e3]⟩
theorem pow_lt_inv {a b : Nat} (h : (2 : Nat) ^ a < 2 ^ b) : a < b := by
  rcases Nat.lt_or_ge a b with q | q
  · exact q
  · exact absurd (Nat.pow_le_pow_right (n := 2) (by decide) q) (by omega)
/-- a positive rounding: finite, and within 2^-52 of what was rounded -/
theorem rr_rel {A B : Nat} {e e0 : Int} {U D : Nat} (hB : 0 < B) (h0 : e0 ≤ -1074) (h0e : e0 ≤ e) (hU : inUnits A e e0 = U) (hD : B * 2 ^ (-1074 - e0).toNat = D) (lo : 2 ^ 52 * D ≤ U) (hi : U < 2 ^ 2000 * D) :
    ∃ c q, roundRatio b64 (false != false) A B e = .fin false c q ∧ inUnits c q b64.qmin * D * 2 ^ 52 ≤ U * (2 ^ 52 + 1) ∧ U * (2 ^ 52 - 1) ≤ inUnits c q b64.qmin * D * 2 ^ 52 := by
  have pD : 0 < D := by rw [← hD]; exact Nat.mul_pos hB (Nat.two_pow_pos _)
  obtain ⟨j, c, c1, c2, u1, u2⟩ := bracket pD lo
  have hj : j ≤ 2000 := by
    have h1 : 2 ^ 52 * 2 ^ j * D ≤ U := Nat.le_trans (Nat.mul_le_mul_right D (Nat.mul_le_mul_right _ c1)) u1
    have h2 := Nat.lt_of_mul_lt_mul_right (Nat.lt_of_le_of_lt h1 hi)
    rw [← Nat.pow_add] at h2
    have := pow_lt_inv h2
    omega
  have hs : ∀ V : Nat, V * 2 ^ (b64.qmin - e0).toNat * B = V * D := by
    intro V
    rw [← hD, qmin_b64]
    ac_rfl
  obtain ⟨sl, cl, ql, fl, zl⟩ := rep64 (c := c) (j := j) (by omega) hj
  obtain ⟨sh, ch, qh, fh, zh⟩ := rep64 (c := c + 1) (j := j) (by omega) hj
  have up := zmag_roundRatio_le good_b64 (s := false != false) (A := A) (B := B) (e := e) (e0 := e0) hB fh nofun (by rw [qmin_b64]; exact h0) h0e (by rw [hs, zh, hU]; exact u2)
  have dn := zmag_roundRatio_ge good_b64 (s := false != false) (A := A) (B := B) (e := e) (e0 := e0) hB fl (by rw [qmin_b64]; exact h0) h0e (by rw [hs, zl, hU]; exact u1)
  rw [zh] at up; rw [zl] at dn
  rcases roundRatio_cases b64 (false != false) A B e with ⟨c', q', h⟩ | h
  · rw [h] at up dn
    have up' : inUnits c' q' b64.qmin ≤ (c + 1) * 2 ^ j := up
    have dn' : c * 2 ^ j ≤ inUnits c' q' b64.qmin := dn
    refine ⟨c', q', h, ?_, ?_⟩
    · generalize inUnits c' q' b64.qmin = z at *
      have k1 : z * D ≤ (c + 1) * 2 ^ j * D := Nat.mul_le_mul_right D up'
      have k2 : 2 ^ 52 * (2 ^ j * D) ≤ c * (2 ^ j * D) := Nat.mul_le_mul_right _ c1
      rw [Nat.add_mul, Nat.add_mul, Nat.one_mul] at k1
      rw [Nat.mul_assoc] at u1 k1
      generalize 2 ^ j * D = W at *
      generalize c * W = cW at *
      generalize z * D = zD at *
      have e1 : U * (2 ^ 52 + 1) = U * 2 ^ 52 + U := by rw [Nat.mul_add, Nat.mul_one]
      rw [e1]
      omega
    · generalize inUnits c' q' b64.qmin = z at *
      have k1 : c * 2 ^ j * D ≤ z * D := Nat.mul_le_mul_right D dn'
      have k2 : 2 ^ 52 * (2 ^ j * D) ≤ c * (2 ^ j * D) := Nat.mul_le_mul_right _ c1
      rw [Nat.add_mul, Nat.add_mul, Nat.one_mul] at u2
      rw [Nat.mul_assoc] at u1 u2 k1
      generalize 2 ^ j * D = W at *
      generalize c * W = cW at *
      generalize z * D = zD at *
      have e1 : U * (2 ^ 52 - 1) = U * 2 ^ 52 - U := by rw [Nat.mul_sub, Nat.mul_one]
      rw [e1]
      omega
  · exfalso
    rw [h] at up
    have t := zmag_lt_top good_b64 fh
    have t2 : zmag b64 (.fin sh ch qh) = inUnits ch qh b64.qmin := rfl
    have t3 : zmag b64 (.inf (false != false)) = b64.tails * 2 ^ (b64.exps - 2) := rfl
    rw [t3] at up
    rw [← zh] at up
    have := Nat.lt_of_le_of_lt up t
    omega
theorem mul_rel {a b : UInt64} {x y : Nat} (ha : Zp a x) (hb : Zp b y) (lo : 2 ^ 52 * 2 ^ 1074 ≤ x * y) (hi : x * y < 2 ^ 2000 * 2 ^ 1074) :
    ∃ z, Zp (FP.dmul a b) z ∧ z * 2 ^ 1074 * 2 ^ 52 ≤ x * y * (2 ^ 52 + 1) ∧ x * y * (2 ^ 52 - 1) ≤ z * 2 ^ 1074 * 2 ^ 52 := by
  have f1 := val64_fits a; have f2 := val64_fits b
  obtain ⟨c, q, e1, rfl⟩ := ha
  obtain ⟨d, r, e2, rfl⟩ := hb
  rw [e1] at f1; rw [e2] at f2
  obtain ⟨h1, h2, h3⟩ := product_units f1 f2
  rw [qmin_b64] at h2
  obtain ⟨c', q', g1, g2, g3⟩ := rr_rel (A := c * d) (B := 1) (e := q + r) (e0 := 2 * b64.qmin) (D := 2 ^ 1074) (by decide) (by rw [qmin_b64]; decide) (by rw [qmin_b64]; exact h2) h3 (by rw [qmin_b64, Nat.one_mul, show ((-1074 : Int) - 2 * -1074).toNat = 1074 by decide]) lo hi
  refine ⟨_, ⟨c', q', ?_, rfl⟩, g2, g3⟩
  rw [show val64 (FP.dmul a b) = _ from val64_dmul a b, e1, e2, h1]
  exact g1
theorem div_rel {a b : UInt64} {x y : Nat} (ha : Zp a x) (hb : Zp b y) (hy : 0 < y) (lo : 2 ^ 52 * y ≤ x * 2 ^ 1074) (hi : x * 2 ^ 1074 < 2 ^ 2000 * y) :
    ∃ z, Zp (FP.ddiv a b) z ∧ z * y * 2 ^ 52 ≤ x * 2 ^ 1074 * (2 ^ 52 + 1) ∧ x * 2 ^ 1074 * (2 ^ 52 - 1) ≤ z * y * 2 ^ 52 := by
  have f1 := val64_fits a; have f2 := val64_fits b
  obtain ⟨c, q, e1, rfl⟩ := ha
  obtain ⟨d, r, e2, rfl⟩ := hb
  rw [e1] at f1; rw [e2] at f2
  have g1 := f1.2.1; have g2 := f2.2.1
  rw [qmin_b64] at g1 g2
  have hd : d ≠ 0 := by rintro rfl; unfold inUnits at hy; rw [Nat.zero_mul] at hy; omega
  have a1 : inUnits c (q - r) (2 * b64.qmin - r) = inUnits c q b64.qmin * 2 ^ 1074 := by
    rw [qmin_b64]
    show c * 2 ^ _ = c * 2 ^ _ * 2 ^ 1074
    rw [Nat.mul_assoc, ← Nat.pow_add, show (q - r - (2 * -1074 - r)).toNat = (q - -1074).toNat + 1074 by omega]
  have a2 : d * 2 ^ (-1074 - (2 * b64.qmin - r)).toNat = inUnits d r b64.qmin := by
    rw [qmin_b64]
    show d * 2 ^ _ = d * 2 ^ _
    rw [show (-1074 - (2 * -1074 - r)).toNat = (r - -1074).toNat by omega]
  obtain ⟨c', q', k1, k2, k3⟩ := rr_rel (A := c) (B := d) (e := q - r) (e0 := 2 * b64.qmin - r) (Nat.pos_of_ne_zero hd) (by rw [qmin_b64]; omega) (by rw [qmin_b64]; omega) a1 a2 lo hi
  refine ⟨_, ⟨c', q', ?_, rfl⟩, k2, k3⟩
  rw [show val64 (FP.ddiv a b) = _ from val64_ddiv a b, e1, e2]
  show (if d = 0 then _ else _) = _
  rw [if_neg hd]
  exact k1
def pp : Nat := 2 ^ 1074
def tt : Nat := 2 ^ 50
def ss : Nat := 2 ^ 52
def qq : Nat := 2 ^ 2000
theorem pp_pos : 0 < pp := Nat.two_pow_pos 1074
theorem tt_pos : 0 < tt := Nat.two_pow_pos 50
theorem ss_pos : 0 < ss := Nat.two_pow_pos 52
/-- a is N/D up to k parts of 2^50; its size lies between 2^-β and 2^α -/
def Ap (a : UInt64) (N D k α β : Nat) : Prop := ∃ z, Zp a z ∧ z * D * tt ≤ N * pp * (tt + k) ∧ N * pp * (tt - k) ≤ z * D * tt ∧ z ≤ pp * 2 ^ α ∧ pp ≤ z * 2 ^ β
theorem two_half {x z : Nat} (h : x * (ss - 1) ≤ z * ss) : x ≤ z * 2 := by
  have h : x * (2 ^ 52 - 1) ≤ z * 2 ^ 52 := h
  have e : x * (2 ^ 52 - 1) = x * 2 ^ 52 - x := by rw [Nat.mul_sub, Nat.mul_one]
  have : x ≤ x * 2 ^ 52 := Nat.le_mul_of_pos_right _ (Nat.two_pow_pos _)
  omega
theorem two_up {x z : Nat} (h : z * ss ≤ x * (ss + 1)) : z ≤ x * 2 := by
  have h : z * 2 ^ 52 ≤ x * (2 ^ 52 + 1) := h
  have e : x * (2 ^ 52 + 1) = x * 2 ^ 52 + x := by rw [Nat.mul_add, Nat.mul_one]
  omega
theorem ar_up {p N u v : Nat} (h : N ≤ u * v) : N * p ≤ p * u * v := by
  calc N * p ≤ u * v * p := Nat.mul_le_mul_right _ h
    _ = _ := by ac_rfl
theorem ar_bb {p x y u v : Nat} (x4 : p ≤ x * u) (y4 : p ≤ y * v) : p * p ≤ x * y * (u * v) := by
  calc p * p ≤ x * u * (y * v) := Nat.mul_le_mul x4 y4
    _ = _ := by ac_rfl
theorem ar_aa {p x y u v : Nat} (x3 : x ≤ p * u) (y3 : y ≤ p * v) : x * y ≤ p * (p * (u * v)) := by
  calc x * y ≤ p * u * (p * v) := Nat.mul_le_mul x3 y3
    _ = _ := by ac_rfl
theorem ar_lo {p s x y w : Nat} (hw : 0 < w) (bb : p * p ≤ x * y * w) (h : s * w ≤ p) : s * p ≤ x * y := by
  refine Nat.le_of_mul_le_mul_right (c := w) ?_ hw
  calc s * p * w = s * w * p := by ac_rfl
    _ ≤ p * p := Nat.mul_le_mul_right _ h
    _ ≤ _ := bb
theorem ar_m1 {p s t x y z D D' N N' a b c d : Nat} (hp : 0 < p) (hs : 0 < s) (ht : 0 < t) (z1 : z * p * s ≤ x * y * c) (x1 : x * D * t ≤ N * p * a) (y1 : y * D' * t ≤ N' * p * b) (n1 : a * b * c ≤ d * (s * t)) : z * (D * D') * t ≤ N * N' * p * d := by
  refine Nat.le_of_mul_le_mul_right (c := p * s * t) ?_ (Nat.mul_pos (Nat.mul_pos hp hs) ht)
  calc z * (D * D') * t * (p * s * t) = z * p * s * (D * D' * t * t) := by ac_rfl
    _ ≤ x * y * c * (D * D' * t * t) := Nat.mul_le_mul_right _ z1
    _ = x * D * t * (y * D' * t) * c := by ac_rfl
    _ ≤ N * p * a * (N' * p * b) * c := Nat.mul_le_mul_right _ (Nat.mul_le_mul x1 y1)
    _ = N * N' * p * p * (a * b * c) := by ac_rfl
    _ ≤ N * N' * p * p * (d * (s * t)) := Nat.mul_le_mul_left _ n1
    _ = _ := by ac_rfl
theorem ar_m2 {p s t x y z D D' N N' a b c d : Nat} (hp : 0 < p) (hs : 0 < s) (ht : 0 < t) (z2 : x * y * c ≤ z * p * s) (x2 : N * p * a ≤ x * D * t) (y2 : N' * p * b ≤ y * D' * t) (n2 : d * (s * t) ≤ a * b * c) : N * N' * p * d ≤ z * (D * D') * t := by
  refine Nat.le_of_mul_le_mul_right (c := p * s * t) ?_ (Nat.mul_pos (Nat.mul_pos hp hs) ht)
  calc N * N' * p * d * (p * s * t) = N * N' * p * p * (d * (s * t)) := by ac_rfl
    _ ≤ N * N' * p * p * (a * b * c) := Nat.mul_le_mul_left _ n2
    _ = N * p * a * (N' * p * b) * c := by ac_rfl
    _ ≤ x * D * t * (y * D' * t) * c := Nat.mul_le_mul_right _ (Nat.mul_le_mul x2 y2)
    _ = x * y * c * (D * D' * t * t) := by ac_rfl
    _ ≤ z * p * s * (D * D' * t * t) := Nat.mul_le_mul_right _ z2
    _ = _ := by ac_rfl
theorem ar_m3 {p x y z u v : Nat} (hp : 0 < p) (h : z * p ≤ x * y * 2) (aa : x * y ≤ p * (p * (u * v))) : z ≤ p * (u * v * 2) := by
  refine Nat.le_of_mul_le_mul_right (c := p) ?_ hp
  calc z * p ≤ x * y * 2 := h
    _ ≤ p * (p * (u * v)) * 2 := Nat.mul_le_mul_right _ aa
    _ = _ := by ac_rfl
theorem ar_m4 {p x y z u v : Nat} (hp : 0 < p) (h : x * y ≤ z * p * 2) (bb : p * p ≤ x * y * (u * v)) : p ≤ z * (u * v * 2) := by
  refine Nat.le_of_mul_le_mul_right (c := p) ?_ hp
  calc p * p ≤ x * y * (u * v) := bb
    _ ≤ z * p * 2 * (u * v) := Nat.mul_le_mul_right _ h
    _ = _ := by ac_rfl
theorem ar_d0 {p s x y u v : Nat} (hv : 0 < v) (y3 : y ≤ p * u) (x4 : p ≤ x * v) (h : s * u * v ≤ p) : s * y ≤ x * p := by
  refine Nat.le_of_mul_le_mul_right (c := v) ?_ hv
  calc s * y * v ≤ s * (p * u) * v := Nat.mul_le_mul_right _ (Nat.mul_le_mul_left _ y3)
    _ = s * u * v * p := by ac_rfl
    _ ≤ p * p := Nat.mul_le_mul_right _ h
    _ ≤ x * v * p := Nat.mul_le_mul_right _ x4
    _ = _ := by ac_rfl
theorem ar_d00 {p q x y u v : Nat} (hy : 0 < y) (x3 : x ≤ p * u) (y4 : p ≤ y * v) (h : p * u * v < q) : x * p < q * y := by
  have h1 : x * p ≤ p * u * v * y := by
    calc x * p ≤ p * u * (y * v) := Nat.mul_le_mul x3 y4
      _ = _ := by ac_rfl
  exact Nat.lt_of_le_of_lt h1 (Nat.mul_lt_mul_of_pos_right h hy)
theorem ar_d1 {p s t x y z D D' N N' a b c d : Nat} (hp : 0 < p) (hs : 0 < s) (hb : 0 < b) (z1 : z * y * s ≤ x * p * c) (x1 : x * D * t ≤ N * p * a) (y2 : N' * p * b ≤ y * D' * t) (n1 : a * c * t ≤ d * (b * s)) : z * (D * N') * t ≤ N * D' * p * d := by
  refine Nat.le_of_mul_le_mul_right (c := p * b * s) ?_ (Nat.mul_pos (Nat.mul_pos hp hb) hs)
  calc z * (D * N') * t * (p * b * s) = N' * p * b * (z * D * s * t) := by ac_rfl
    _ ≤ y * D' * t * (z * D * s * t) := Nat.mul_le_mul_right _ y2
    _ = z * y * s * (D' * t * (D * t)) := by ac_rfl
    _ ≤ x * p * c * (D' * t * (D * t)) := Nat.mul_le_mul_right _ z1
    _ = x * D * t * (p * c * (D' * t)) := by ac_rfl
    _ ≤ N * p * a * (p * c * (D' * t)) := Nat.mul_le_mul_right _ x1
    _ = N * D' * p * p * (a * c * t) := by ac_rfl
    _ ≤ N * D' * p * p * (d * (b * s)) := Nat.mul_le_mul_left _ n1
    _ = _ := by ac_rfl
theorem ar_d2 {p s t x y z D D' N N' a b c d : Nat} (hp : 0 < p) (hs : 0 < s) (hb : 0 < b) (z2 : x * p * c ≤ z * y * s) (x2 : N * p * a ≤ x * D * t) (y1 : y * D' * t ≤ N' * p * b) (n2 : d * (b * s) ≤ a * c * t) : N * D' * p * d ≤ z * (D * N') * t := by
  refine Nat.le_of_mul_le_mul_right (c := p * b * s) ?_ (Nat.mul_pos (Nat.mul_pos hp hb) hs)
  calc N * D' * p * d * (p * b * s) = N * D' * p * p * (d * (b * s)) := by ac_rfl
    _ ≤ N * D' * p * p * (a * c * t) := Nat.mul_le_mul_left _ n2
    _ = N * p * a * (p * c * (D' * t)) := by ac_rfl
    _ ≤ x * D * t * (p * c * (D' * t)) := Nat.mul_le_mul_right _ x2
    _ = x * p * c * (D' * t * (D * t)) := by ac_rfl
    _ ≤ z * y * s * (D' * t * (D * t)) := Nat.mul_le_mul_right _ z2
    _ = y * D' * t * (z * D * s * t) := by ac_rfl
    _ ≤ N' * p * b * (z * D * s * t) := Nat.mul_le_mul_right _ y1
    _ = _ := by ac_rfl
theorem ar_d3 {p x y z u v : Nat} (hp : 0 < p) (h : z * y ≤ x * p * 2) (x3 : x ≤ p * u) (y4 : p ≤ y * v) : z ≤ p * (u * v * 2) := by
  refine Nat.le_of_mul_le_mul_right (c := p) ?_ hp
  calc z * p ≤ z * (y * v) := Nat.mul_le_mul_left _ y4
    _ = z * y * v := by ac_rfl
    _ ≤ x * p * 2 * v := Nat.mul_le_mul_right _ h
    _ ≤ p * u * p * 2 * v := Nat.mul_le_mul_right _ (Nat.mul_le_mul_right _ (Nat.mul_le_mul_right _ x3))
    _ = _ := by ac_rfl
theorem ar_d4 {p x y z u v : Nat} (hp : 0 < p) (h : x * p ≤ z * y * 2) (y3 : y ≤ p * u) (x4 : p ≤ x * v) : p ≤ z * (v * u * 2) := by
  refine Nat.le_of_mul_le_mul_right (c := p) ?_ hp
  calc p * p ≤ x * v * p := Nat.mul_le_mul_right _ x4
    _ = x * p * v := by ac_rfl
    _ ≤ z * y * 2 * v := Nat.mul_le_mul_right _ h
    _ ≤ z * (p * u) * 2 * v := Nat.mul_le_mul_right _ (Nat.mul_le_mul_right _ (Nat.mul_le_mul_left _ y3))
    _ = _ := by ac_rfl
theorem ar_s1 {p t z D D' N N' a : Nat} (hD : 0 < D) (e : N * D' = N' * D) (h : z * D * t ≤ N * p * a) : z * D' * t ≤ N' * p * a := by
  refine Nat.le_of_mul_le_mul_right (c := D) ?_ hD
  calc z * D' * t * D = z * D * t * D' := by ac_rfl
    _ ≤ N * p * a * D' := Nat.mul_le_mul_right _ h
    _ = N * D' * (p * a) := by ac_rfl
    _ = _ := by rw [e]; ac_rfl
theorem ar_s2 {p t z D D' N N' a : Nat} (hD : 0 < D) (e : N * D' = N' * D) (h : N * p * a ≤ z * D * t) : N' * p * a ≤ z * D' * t := by
  refine Nat.le_of_mul_le_mul_right (c := D) ?_ hD
  calc N' * p * a * D = N' * D * (p * a) := by ac_rfl
    _ = N * p * a * D' := by rw [← e]; ac_rfl
    _ ≤ z * D * t * D' := Nat.mul_le_mul_right _ h
    _ = _ := by ac_rfl
theorem pow_s1 (α β : Nat) : 2 ^ (α + β + 1) = 2 ^ α * 2 ^ β * 2 := by rw [Nat.pow_succ, Nat.pow_add]
theorem ap_dy {i : Int} {k : Nat} {a : UInt64} (h : Dy i k a) (hi : 0 < i) {N α : Nat} (hN : i.toNat = N) (hα : N ≤ 2 ^ α * 2 ^ k) : Ap a N (2 ^ k) 0 α k := by
  obtain ⟨z, hz, e⟩ := zp_dy h hi
  rw [hN] at e
  have e : z * 2 ^ k = N * pp := e
  have n1 : 1 ≤ N := by omega
  refine ⟨z, hz, by rw [e]; exact Nat.le_refl _, by rw [e]; exact Nat.le_refl _, ?_, ?_⟩
  · refine Nat.le_of_mul_le_mul_right (c := 2 ^ k) ?_ (Nat.two_pow_pos k)
    rw [e]
    exact ar_up hα
  · rw [e]; exact Nat.le_mul_of_pos_left _ n1
theorem Ap.mul {a b : UInt64} {N D k α β N' D' k' α' β' K : Nat} (ha : Ap a N D k α β) (hb : Ap b N' D' k' α' β') (r1 : β + β' ≤ 1000) (r2 : α + α' ≤ 900)
    (n1 : (tt + k) * (tt + k') * (ss + 1) ≤ (tt + K) * (ss * tt)) (n2 : (tt - K) * (ss * tt) ≤ (tt - k) * (tt - k') * (ss - 1)) :
    Ap (FP.dmul a b) (N * N') (D * D') K (α + α' + 1) (β + β' + 1) := by
  obtain ⟨x, hx, x1, x2, x3, x4⟩ := ha
  obtain ⟨y, hy, y1, y2, y3, y4⟩ := hb
  have bb := ar_bb x4 y4
  have aa := ar_aa x3 y3
  have h52 : ss * (2 ^ β * 2 ^ β') ≤ pp := by
    unfold pp ss
    rw [← Nat.pow_add, ← Nat.pow_add]; exact Nat.pow_le_pow_right (by decide) (by omega)
  have h20 : pp * (2 ^ α * 2 ^ α') < qq := by
    unfold pp qq
    rw [← Nat.pow_add, ← Nat.pow_add]; exact Nat.pow_lt_pow_right (by decide) (by omega)
  have lo : ss * pp ≤ x * y := ar_lo (Nat.mul_pos (Nat.two_pow_pos β) (Nat.two_pow_pos β')) bb h52
  have hi : x * y < qq * pp := by
    refine Nat.lt_of_le_of_lt aa ?_
    rw [Nat.mul_comm qq]
    exact Nat.mul_lt_mul_of_pos_left h20 pp_pos
  have lo' : 2 ^ 52 * 2 ^ 1074 ≤ x * y := by unfold ss pp at lo; exact lo
  have hi' : x * y < 2 ^ 2000 * 2 ^ 1074 := by unfold qq pp at hi; exact hi
  obtain ⟨z, hz, z1, z2⟩ := mul_rel hx hy lo' hi'
  have z1 : z * pp * ss ≤ x * y * (ss + 1) := z1
  have z2 : x * y * (ss - 1) ≤ z * pp * ss := z2
  refine ⟨z, hz, ar_m1 pp_pos ss_pos tt_pos z1 x1 y1 n1, ar_m2 pp_pos ss_pos tt_pos z2 x2 y2 n2, ?_, ?_⟩
  · rw [pow_s1]; exact ar_m3 pp_pos (two_up z1) aa
  · rw [pow_s1]; exact ar_m4 pp_pos (two_half z2) bb
theorem Ap.div {a b : UInt64} {N D k α β N' D' k' α' β' K : Nat} (ha : Ap a N D k α β) (hb : Ap b N' D' k' α' β') (r1 : β + α' ≤ 1000) (r2 : α + β' ≤ 900) (hk : 0 < tt - k')
    (n1 : (tt + k) * (ss + 1) * tt ≤ (tt + K) * ((tt - k') * ss)) (n2 : (tt - K) * ((tt + k') * ss) ≤ (tt - k) * (ss - 1) * tt) :
    Ap (FP.ddiv a b) (N * D') (D * N') K (α + β' + 1) (β + α' + 1) := by
  obtain ⟨x, hx, x1, x2, x3, x4⟩ := ha
  obtain ⟨y, hy, y1, y2, y3, y4⟩ := hb
  have y0 : 0 < y := by
    rcases Nat.eq_zero_or_pos y with q | q
    · rw [q, Nat.zero_mul] at y4; exact absurd pp_pos (Nat.not_lt_of_le y4)
    · exact q
  have h52 : ss * 2 ^ α' * 2 ^ β ≤ pp := by
    unfold pp ss
    rw [← Nat.pow_add, ← Nat.pow_add]; exact Nat.pow_le_pow_right (by decide) (by omega)
  have h20 : pp * 2 ^ α * 2 ^ β' < qq := by
    unfold pp qq
    rw [← Nat.pow_add, ← Nat.pow_add]; exact Nat.pow_lt_pow_right (by decide) (by omega)
  have lo : ss * y ≤ x * pp := ar_d0 (Nat.two_pow_pos β) y3 x4 h52
  have hi : x * pp < qq * y := ar_d00 y0 x3 y4 h20
  obtain ⟨z, hz, z1, z2⟩ := div_rel hx hy y0 lo hi
  have z1 : z * y * ss ≤ x * pp * (ss + 1) := z1
  have z2 : x * pp * (ss - 1) ≤ z * y * ss := z2
  have T'' : 0 < tt + k' := Nat.add_pos_left tt_pos _
  refine ⟨z, hz, ar_d1 pp_pos ss_pos hk z1 x1 y2 n1, ar_d2 pp_pos ss_pos T'' z2 x2 y1 n2, ?_, ?_⟩
  · rw [pow_s1]; exact ar_d3 pp_pos (two_up z1) x3 y4
  · rw [pow_s1]; exact ar_d4 pp_pos (two_half z2) y3 x4
theorem Ap.same {a : UInt64} {N D N' D' k α β : Nat} (h : Ap a N D k α β) (hD : 0 < D) (e : N * D' = N' * D) : Ap a N' D' k α β := by
  obtain ⟨z, hz, h1, h2, h3, h4⟩ := h
  exact ⟨z, hz, ar_s1 hD e h1, ar_s2 hD e h2, h3, h4⟩
/-- a difference that is at most w, rounded, is at most w -/
theorem sub_le {a b w : UInt64} {x y z : Nat} (ha : Zp a x) (hb : Zp b y) (hw : Zp w z) (h : x ≤ y + z) (o : ClassFile.CmpOp) : ¬ ((0 : Int32) < cmpValue (FP.dcmp (FP.dsub a b) w) o) := by
  have f1 := val64_fits a; have f2 := val64_fits (dneg b); have f3 := val64_fits w
  have zw := hw.zval
  have nw := fin_nn hw.fin
  have nd : val64 (FP.dsub a b) ≠ .nan := (notNaN_iff _).mp (dsub_out (no_fin ha.fin) hb.fin)
  have hz : zval b64 (val64 (FP.dsub a b)) ≤ (z : Int) := by
    rw [show FP.dsub a b = dadd a (dneg b) from dsub_eq a b, val64_dadd]
    obtain ⟨c, q, e1, rfl⟩ := ha
    obtain ⟨d, r, e2, rfl⟩ := hb
    have e3 : val64 (dneg b) = .fin true d r := by rw [val64_dneg, e2]; rfl
    rw [e1] at f1 ⊢
    rw [e3] at f2 ⊢
    obtain ⟨sg, n, e, s1, s2, s3⟩ := sum_units f1 f2
    rw [s1, ← zw]
    refine zval_round_le good_b64 f3 nw (Int.le_refl _) s2 ?_
    rw [s3, zw, Int.sub_self]
    have k1 : zval b64 (.fin false c q) = ((inUnits c q b64.qmin : Nat) : Int) := rfl
    have k2 : zval b64 (.fin true d r) = -((inUnits d r b64.qmin : Nat) : Int) := rfl
    rw [k1, k2, show ((2 ^ (0 : Int).toNat : Nat) : Int) = 1 by rfl, Int.mul_one]
    omega
  rw [← zw] at hz
  rw [show FP.dcmp (FP.dsub a b) w = _ from dcmp_zval nd nw, compare_ite]
  split
  · cases o <;> decide
  · split
    · cases o <;> decide
    · omega
end Jvm.OwnFp
namespace Jvm.Pilot.@@N@@
open Jvm Jvm.ClassFile Sem Op Lib Jvm.Free Jvm.Stand Jvm.LawKit Jvm.RoadKit Bundle Jvm.Pilot.@@N@@.Jvm.D
open Jvm.OwnFp Jvm.FP.Core
theorem own_m20 : Dy 1048576 0 (4697254411347427328 : UInt64) := dy_of (s := false) (c := 2 ^ 52) (q := -32) (by decide +kernel) (by decide +kernel)
theorem own_two0 : Dy 2 0 (4611686018427387904 : UInt64) := dy_of (s := false) (c := 2 ^ 52) (q := -51) (by decide +kernel) (by decide +kernel)
theorem own_two20 : Dy 2097152 20 (4611686018427387904 : UInt64) := own_two0.to (by decide)
theorem own_one20 : Dy 1048576 20 (4607182418800017408 : UInt64) := dy1 20
theorem own_p40 : Dy 1099511627776 0 (4787326403894837248 : UInt64) := dy_of (s := false) (c := 2 ^ 52) (q := -12) (by decide +kernel) (by decide +kernel)
theorem own_mask (p m n : Int32) (M : Int) (hm : m.toInt = M) (h0 : 0 ≤ M) (hM : M < 2147483647) (h : n = ((p &&& m) + (1 : Int32))) : 1 ≤ n.toInt ∧ n.toInt ≤ M + 1 := by
  have a := c_and p m (by omega)
  have s := c_iadd (p &&& m) 1
  have r := rng32 ((p &&& m) + 1)
  rw [← h, show (1 : Int32).toInt = 1 by decide] at s
  rw [← h] at r
  omega
theorem own_m (p n : Int32) (h : n = ((p &&& (65535 : Int32)) + (1 : Int32))) : 1 ≤ n.toInt ∧ n.toInt ≤ 65536 := own_mask p _ n 65535 (by decide) (by decide) (by decide) h
theorem own_n0 (p n : Int32) (h : n = ((p &&& (2097151 : Int32)) + (1 : Int32))) : 1 ≤ n.toInt ∧ n.toInt ≤ 2097152 := own_mask p _ n 2097151 (by decide) (by decide) (by decide) h
theorem own_n2 (p n : Int32) (h : n = ((p &&& (1073741823 : Int32)) + (1 : Int32))) : 1 ≤ n.toInt ∧ n.toInt ≤ 1073741824 := own_mask p _ n 1073741823 (by decide) (by decide) (by decide) h
theorem own_shl (E : Nat) (hE : E ≤ 20) : ((1 : Int32) <<< ((Int32.ofInt (E : Int)) &&& 31)).toInt = 2 ^ E := by
  match E, hE with
  | 0, _ => exact (by decide)
  | 1, _ => exact (by decide)
  | 2, _ => exact (by decide)
  | 3, _ => exact (by decide)
  | 4, _ => exact (by decide)
  | 5, _ => exact (by decide)
  | 6, _ => exact (by decide)
  | 7, _ => exact (by decide)
  | 8, _ => exact (by decide)
  | 9, _ => exact (by decide)
  | 10, _ => exact (by decide)
  | 11, _ => exact (by decide)
  | 12, _ => exact (by decide)
  | 13, _ => exact (by decide)
  | 14, _ => exact (by decide)
  | 15, _ => exact (by decide)
  | 16, _ => exact (by decide)
  | 17, _ => exact (by decide)
  | 18, _ => exact (by decide)
  | 19, _ => exact (by decide)
  | 20, _ => exact (by decide)
  | n + 21, h => exact absurd h (by omega)
theorem own_s (p k : Int32) (h : k = (p &&& (15 : Int32))) : ∃ K : Nat, k.toInt = K ∧ ((1 : Int32) <<< (k &&& 31)).toInt = 2 ^ K ∧ K ≤ 15 := by
  have e1 := c_and p 15 (by decide)
  rw [← h, show (15 : Int32).toInt = 15 by decide] at e1
  obtain ⟨E, hE, hE2⟩ : ∃ E : Nat, k.toInt = E ∧ E ≤ 15 := ⟨k.toInt.toNat, by omega, by omega⟩
  have hee : k = Int32.ofInt (E : Int) := by rw [← hE, Int32.ofInt_toInt]
  exact ⟨E, hE, by rw [hee]; exact own_shl E (by omega), hE2⟩
theorem own_kk (p k : Int32) (h : k = (((p &&& (2147483647 : Int32)) % (20 : Int32)) + (1 : Int32))) : ∃ K : Nat, k.toInt = K ∧ ((1 : Int32) <<< (k &&& 31)).toInt = 2 ^ K ∧ 1 ≤ K ∧ K ≤ 20 ∧ (2 : Int) ≤ 2 ^ K ∧ (2 : Int) ^ K ≤ 1048576 := by
  have a := c_and p 2147483647 (by decide)
  have m := (c_irem (p &&& 2147483647) 20 20 (by decide)).1 a.1
  have s := c_iadd ((p &&& 2147483647) % 20) 1
  rw [← h, show (1 : Int32).toInt = 1 by decide] at s
  have r := rng32 k
  obtain ⟨E, hE, hE1, hE2⟩ : ∃ E : Nat, k.toInt = E ∧ 1 ≤ E ∧ E ≤ 20 := ⟨k.toInt.toNat, by omega, by omega, by omega⟩
  have hee : k = Int32.ofInt (E : Int) := by rw [← hE, Int32.ofInt_toInt]
  refine ⟨E, hE, by rw [hee]; exact own_shl E hE2, hE1, hE2, ?_, ?_⟩
  · have := Nat.pow_le_pow_right (n := 2) (by decide) hE1
    rw [← pw_cast]; omega
  · have := Nat.pow_le_pow_right (n := 2) (by decide) hE2
    rw [← pw_cast]; omega
theorem own_absmul {x y : Int} {A B : Nat} (hx : x.natAbs ≤ A) (hy : y.natAbs ≤ B) : (x * y).natAbs ≤ A * B := by
  rw [Int.natAbs_mul]; exact Nat.mul_le_mul hx hy
theorem own_nz {i : Int} {k : Nat} {a : UInt64} (h : Dy i k a) (hi : 0 < i) : ¬ DZero a := by
  intro hz
  obtain ⟨z, hz', e⟩ := zp_dy h hi
  have h1 := hz'.zval
  have : zval b64 (val64 a) = 0 := by
    obtain ⟨s, q, e⟩ := hz
    rw [e]
    show signed s (inUnits 0 q b64.qmin) = 0
    unfold inUnits
    rw [Nat.zero_mul]
    cases s <;> rfl
  have z0 : z = 0 := by omega
  rw [z0, Nat.zero_mul] at e
  have := Nat.mul_pos (show 0 < i.toNat by omega) (Nat.two_pow_pos 1074)
  omega
theorem own_ark {x x' M A P u w : Nat} (hu : 0 < u) (ex : x * u = M * P) (h1 : x' * u = M * P * w) : x * (A * (w * P)) = x' * (A * P) := by
  refine Nat.eq_of_mul_eq_mul_right hu ?_
  calc x * (A * (w * P)) * u = x * u * (A * (w * P)) := by ac_rfl
    _ = x' * u * (A * P) := by rw [ex, h1]; ac_rfl
    _ = _ := by ac_rfl
theorem own_tt : tt = 1125899906842624 := by decide
theorem own_close {x y z N D : Nat} (pD : 0 < D) (x1 : x * D * tt ≤ N * pp * (tt + 5)) (x2 : N * pp * (tt - 5) ≤ x * D * tt) (y1 : y * D * tt ≤ N * pp * (tt + 5)) (y2 : N * pp * (tt - 5) ≤ y * D * tt)
    {e1 : Nat} (he : e1 = 1) (z2 : N * e1 * pp * (tt - 6) ≤ z * (D * 1099511627776) * tt) : x ≤ y + z ∧ y ≤ x + z := by
  rw [he, Nat.mul_one] at z2
  clear he
  generalize N * pp = W at *
  rw [own_tt] at *
  rw [← Nat.mul_assoc] at z2
  have a : x * D ≤ (y + z) * D ∧ y * D ≤ (x + z) * D := by
    rw [Nat.add_mul, Nat.add_mul]
    generalize x * D = X at *
    generalize y * D = Y at *
    generalize z * D = Z at *
    omega
  exact ⟨Nat.le_of_mul_le_mul_right a.1 pD, Nat.le_of_mul_le_mul_right a.2 pD⟩
theorem own_v1 {m : Int32} {S K : Nat} {vh al : UInt64} (Bm : 1 ≤ m.toInt ∧ m.toInt ≤ 65536) (S15 : S ≤ 15) (K1 : 1 ≤ K) (K20 : K ≤ 20) (kp : (2 : Int) ≤ 2 ^ K) (kp2 : (2 : Int) ^ K ≤ 1048576) (Dh : Dy m.toInt S vh) (Da : Dy (1 + 2 ^ K) 0 al) :
    Dy (2 ^ K) 0 (FP.dsub al (4607182418800017408 : UInt64)) ∧ Dy m.toInt (S + K) (FP.ddiv vh (FP.dsub al (4607182418800017408 : UInt64))) ∧ Dy (m.toInt * m.toInt) (S + K + (S + K)) (FP.dmul (FP.ddiv vh (FP.dsub al (4607182418800017408 : UInt64))) (FP.ddiv vh (FP.dsub al (4607182418800017408 : UInt64)))) ∧ Dy (m.toInt * m.toInt * (1 + 2 ^ K)) (S + K + (S + K) + 0) (FP.dmul (FP.dmul (FP.ddiv vh (FP.dsub al (4607182418800017408 : UInt64))) (FP.ddiv vh (FP.dsub al (4607182418800017408 : UInt64)))) al) ∧ Dy (2 ^ K - 1) 0 (FP.dsub al (4611686018427387904 : UInt64)) ∧ Jvm.Free.Fl.NoNaN64 (FP.ddiv (FP.dmul (FP.dmul (FP.ddiv vh (FP.dsub al (4607182418800017408 : UInt64))) (FP.ddiv vh (FP.dsub al (4607182418800017408 : UInt64)))) al) (FP.dsub al (4611686018427387904 : UInt64))) := by
  have d24 : Dy (2 ^ K) 0 (FP.dsub al (4607182418800017408 : UInt64)) := by
    have := Dy.sub Da (dy1 0) (by show ((1 : Int) + 2 ^ K - 2 ^ 0).natAbs < _; rw [Int.pow_zero]; omega) (by decide)
    rw [Int.pow_zero, show (1 : Int) + 2 ^ K - 1 = 2 ^ K by omega] at this
    exact this
  have d25 : Dy m.toInt (S + K) (FP.ddiv vh (FP.dsub al (4607182418800017408 : UInt64))) := Dy.div Dh d24 (by omega) (by omega) (by omega) (by rw [Int.pow_zero, Int.mul_one, Int.pow_add]; ac_rfl)
  have b2 := own_absmul (x := m.toInt) (y := m.toInt) (A := 65536) (B := 65536) (by omega) (by omega)
  have d29 : Dy (m.toInt * m.toInt) (S + K + (S + K)) (FP.dmul (FP.ddiv vh (FP.dsub al (4607182418800017408 : UInt64))) (FP.ddiv vh (FP.dsub al (4607182418800017408 : UInt64)))) := Dy.mul d25 d25 (by omega) (by omega)
  have b3 := own_absmul (x := m.toInt * m.toInt) (y := 1 + 2 ^ K) (A := 4294967296) (B := 1048577) (by omega) (by omega)
  have d34 := Dy.mul d29 Da (by omega) (by omega)
  have d42 : Dy (2 ^ K - 1) 0 (FP.dsub al (4611686018427387904 : UInt64)) := by
    have := Dy.sub Da own_two0 (by omega) (by decide)
    rw [show (1 : Int) + 2 ^ K - 2 = 2 ^ K - 1 by omega] at this
    exact this
  refine ⟨d24, d25, d29, d34, d42, nn_of (ddiv_out (no_fin d34.fin) d42.fin ?_)⟩
  exact own_nz d42 (by omega)
theorem own_sq {m x : Int} (h1 : 1 ≤ m) (hx : 0 < x) : 0 < m * m * x := Int.mul_pos (Int.mul_pos (by omega) (by omega)) hx
theorem own_r1 {m : Int32} {S K : Nat} {vh al : UInt64} (Bm : 1 ≤ m.toInt ∧ m.toInt ≤ 65536) (S15 : S ≤ 15) (K1 : 1 ≤ K) (K20 : K ≤ 20) (kp : (2 : Int) ≤ 2 ^ K) (kp2 : (2 : Int) ^ K ≤ 1048576) (Dh : Dy m.toInt S vh) (Da : Dy (1 + 2 ^ K) 0 al) (d24 : Dy (2 ^ K) 0 (FP.dsub al (4607182418800017408 : UInt64))) (d42 : Dy (2 ^ K - 1) 0 (FP.dsub al (4611686018427387904 : UInt64))) :
    Dy ((1 + 2 ^ K) * m.toInt) (0 + S) (FP.dmul al vh) ∧ Dy ((1 + 2 ^ K) * m.toInt * m.toInt) (0 + S + S) (FP.dmul (FP.dmul al vh) vh) ∧ Dy (2 ^ K * 2 ^ K) (0 + 0) (FP.dmul (FP.dsub al (4607182418800017408 : UInt64)) (FP.dsub al (4607182418800017408 : UInt64))) ∧ Ex (1 * (2 ^ K - 1)) (0 + ((K + K : Nat) : Int) + 0) (FP.dmul (FP.dmul (FP.dsub al (4607182418800017408 : UInt64)) (FP.dsub al (4607182418800017408 : UInt64))) (FP.dsub al (4611686018427387904 : UInt64))) ∧ Jvm.Free.Fl.NoNaN64 (FP.ddiv (FP.dmul (FP.dmul al vh) vh) (FP.dmul (FP.dmul (FP.dsub al (4607182418800017408 : UInt64)) (FP.dsub al (4607182418800017408 : UInt64))) (FP.dsub al (4611686018427387904 : UInt64)))) ∧ cmpValue (FP.dcmp (FP.ddiv (FP.dmul (FP.dmul (FP.ddiv vh (FP.dsub al (4607182418800017408 : UInt64))) (FP.ddiv vh (FP.dsub al (4607182418800017408 : UInt64)))) al) (FP.dsub al (4611686018427387904 : UInt64))) (FP.ddiv (FP.dmul (FP.dmul al vh) vh) (FP.dmul (FP.dmul (FP.dsub al (4607182418800017408 : UInt64)) (FP.dsub al (4607182418800017408 : UInt64))) (FP.dsub al (4611686018427387904 : UInt64))))) .l = (0 : Int32) := by
  have b1 := own_absmul (x := 1 + 2 ^ K) (y := m.toInt) (A := 1048577) (B := 65536) (by omega) (by omega)
  have r1 := Dy.mul Da Dh (by omega) (by omega)
  have b2 := own_absmul (x := (1 + 2 ^ K) * m.toInt) (y := m.toInt) (A := 68719542272) (B := 65536) (by omega) (by omega)
  have r2 := Dy.mul r1 Dh (by omega) (by omega)
  have b3 := own_absmul (x := (2 : Int) ^ K) (y := 2 ^ K) (A := 1048576) (B := 1048576) (by omega) (by omega)
  have r3 := Dy.mul d24 d24 (by omega) (by omega)
  have x3 : Ex 1 (0 + ((K + K : Nat) : Int)) (FP.dmul (FP.dsub al (4607182418800017408 : UInt64)) (FP.dsub al (4607182418800017408 : UInt64))) := by
    refine Ex.shift (j := K + K) ?_ (by decide)
    rw [Int.one_mul, Int.pow_add]
    exact Dy.ex r3
  have r4 := Ex.mul x3 (Dy.ex d42) (by omega) (by decide) (by rw [Int.one_mul]; omega) (by omega) (by omega)
  obtain ⟨d24', d25, d29, d34, -, nv⟩ := own_v1 Bm S15 K1 K20 kp kp2 Dh Da
  have p1 : 0 < m.toInt * m.toInt * (1 + 2 ^ K) := own_sq Bm.1 (by omega)
  obtain ⟨x, zx, ex⟩ := zp_dy d34 p1
  obtain ⟨y, zy, ey⟩ := zp_dy d42 (by omega)
  have p2 : 0 < (1 + 2 ^ K) * m.toInt * m.toInt := by rw [show (1 + 2 ^ K) * m.toInt * m.toInt = m.toInt * m.toInt * (1 + 2 ^ K) by ac_rfl]; exact p1
  obtain ⟨x', zx', ex'⟩ := zp_dy r2 p2
  have zy' := zp_ex r4 (by omega)
  rw [show (1 + 2 ^ K) * m.toInt * m.toInt = m.toInt * m.toInt * (1 + 2 ^ K) by ac_rfl] at ex'
  have c1 : 1 ≤ ((2 : Int) ^ K - 1).toNat := by omega
  rw [Nat.pow_zero, Nat.mul_one] at ey
  have hy : 0 < y := by rw [ey]; exact Nat.mul_pos c1 (Nat.two_pow_pos _)
  have hy' : 0 < (1 * ((2 : Int) ^ K - 1)).toNat * 2 ^ (0 + ((K + K : Nat) : Int) + 0 + 1074).toNat := Nat.mul_pos (by rw [Int.one_mul]; exact c1) (Nat.two_pow_pos _)
  have key : x * ((1 * ((2 : Int) ^ K - 1)).toNat * 2 ^ (0 + ((K + K : Nat) : Int) + 0 + 1074).toNat) = x' * y := by
    rw [Int.one_mul, show (0 + ((K + K : Nat) : Int) + 0 + 1074).toNat = K + K + 1074 by omega, ey]
    have h1 : x' * 2 ^ (S + K + (S + K) + 0) = (m.toInt * m.toInt * (1 + 2 ^ K)).toNat * 2 ^ 1074 * 2 ^ (K + K) := by
      rw [← ex', Nat.mul_assoc, ← Nat.pow_add, show 0 + S + S + (K + K) = S + K + (S + K) + 0 by omega]
    rw [Nat.pow_add 2 (K + K) 1074]
    exact own_ark (Nat.two_pow_pos (S + K + (S + K) + 0)) ex h1
  have E := ddiv_congr zx zy zx' zy' hy hy' key
  have nr : Jvm.Free.Fl.NoNaN64 (FP.ddiv (FP.dmul (FP.dmul al vh) vh) (FP.dmul (FP.dmul (FP.dsub al (4607182418800017408 : UInt64)) (FP.dsub al (4607182418800017408 : UInt64))) (FP.dsub al (4611686018427387904 : UInt64)))) := nn_of ((notNaN_iff _).mpr (by rw [← E]; exact (notNaN_iff _).mp (no_of nv)))
  refine ⟨r1, r2, r3, r4, nr, ?_⟩
  have : FP.dcmp (FP.ddiv (FP.dmul (FP.dmul (FP.ddiv vh (FP.dsub al (4607182418800017408 : UInt64))) (FP.ddiv vh (FP.dsub al (4607182418800017408 : UInt64)))) al) (FP.dsub al (4611686018427387904 : UInt64))) (FP.ddiv (FP.dmul (FP.dmul al vh) vh) (FP.dmul (FP.dmul (FP.dsub al (4607182418800017408 : UInt64)) (FP.dsub al (4607182418800017408 : UInt64))) (FP.dsub al (4611686018427387904 : UInt64)))) = order (val64 (FP.ddiv (FP.dmul (FP.dmul (FP.ddiv vh (FP.dsub al (4607182418800017408 : UInt64))) (FP.ddiv vh (FP.dsub al (4607182418800017408 : UInt64)))) al) (FP.dsub al (4611686018427387904 : UInt64)))) (val64 (FP.ddiv (FP.dmul (FP.dmul al vh) vh) (FP.dmul (FP.dmul (FP.dsub al (4607182418800017408 : UInt64)) (FP.dsub al (4607182418800017408 : UInt64))) (FP.dsub al (4611686018427387904 : UInt64))))) := rfl
  rw [this, ← E, order_self ((notNaN_iff _).mp (no_of nv))]
  rfl
theorem own_v2 {m n : Int32} {S : Nat} {vh al : UInt64} (Bm : 1 ≤ m.toInt ∧ m.toInt ≤ 65536) (Bn : 1 ≤ n.toInt ∧ n.toInt ≤ 1073741824) (S15 : S ≤ 15) (Dh : Dy m.toInt S vh) (Da : Dy (2097152 + n.toInt) 20 al) :
    True ∧ True ∧ True ∧ Dy (1048576 + n.toInt) 20 (FP.dsub al (4607182418800017408 : UInt64)) ∧ Dy n.toInt 20 (FP.dsub al (4611686018427387904 : UInt64)) ∧ Jvm.Free.Fl.NoNaN64 (FP.ddiv vh (FP.dsub al (4607182418800017408 : UInt64))) ∧ Jvm.Free.Fl.NoNaN64 (FP.dmul (FP.ddiv vh (FP.dsub al (4607182418800017408 : UInt64))) (FP.ddiv vh (FP.dsub al (4607182418800017408 : UInt64)))) ∧ Jvm.Free.Fl.NoNaN64 (FP.dmul (FP.dmul (FP.ddiv vh (FP.dsub al (4607182418800017408 : UInt64))) (FP.ddiv vh (FP.dsub al (4607182418800017408 : UInt64)))) al) ∧ Jvm.Free.Fl.NoNaN64 (FP.ddiv (FP.dmul (FP.dmul (FP.ddiv vh (FP.dsub al (4607182418800017408 : UInt64))) (FP.ddiv vh (FP.dsub al (4607182418800017408 : UInt64)))) al) (FP.dsub al (4611686018427387904 : UInt64))) ∧
    Jvm.Free.Fl.NoNaN64 (FP.dmul al vh) ∧ Jvm.Free.Fl.NoNaN64 (FP.dmul (FP.dmul al vh) vh) ∧ Jvm.Free.Fl.NoNaN64 (FP.dmul (FP.dsub al (4607182418800017408 : UInt64)) (FP.dsub al (4607182418800017408 : UInt64))) ∧ Jvm.Free.Fl.NoNaN64 (FP.dmul (FP.dmul (FP.dsub al (4607182418800017408 : UInt64)) (FP.dsub al (4607182418800017408 : UInt64))) (FP.dsub al (4611686018427387904 : UInt64))) ∧ Jvm.Free.Fl.NoNaN64 (FP.ddiv (FP.dmul (FP.dmul al vh) vh) (FP.dmul (FP.dmul (FP.dsub al (4607182418800017408 : UInt64)) (FP.dsub al (4607182418800017408 : UInt64))) (FP.dsub al (4611686018427387904 : UInt64)))) ∧ Jvm.Free.Fl.NoNaN64 (FP.ddiv (FP.ddiv (FP.dmul (FP.dmul al vh) vh) (FP.dmul (FP.dmul (FP.dsub al (4607182418800017408 : UInt64)) (FP.dsub al (4607182418800017408 : UInt64))) (FP.dsub al (4611686018427387904 : UInt64)))) (4787326403894837248 : UInt64)) ∧
    (Jvm.Free.Fl.NoNaN64 (FP.dsub (FP.ddiv (FP.dmul (FP.dmul (FP.ddiv vh (FP.dsub al (4607182418800017408 : UInt64))) (FP.ddiv vh (FP.dsub al (4607182418800017408 : UInt64)))) al) (FP.dsub al (4611686018427387904 : UInt64))) (FP.ddiv (FP.dmul (FP.dmul al vh) vh) (FP.dmul (FP.dmul (FP.dsub al (4607182418800017408 : UInt64)) (FP.dsub al (4607182418800017408 : UInt64))) (FP.dsub al (4611686018427387904 : UInt64))))) ∧ ¬ ((0 : Int32) < cmpValue (FP.dcmp (FP.dsub (FP.ddiv (FP.dmul (FP.dmul (FP.ddiv vh (FP.dsub al (4607182418800017408 : UInt64))) (FP.ddiv vh (FP.dsub al (4607182418800017408 : UInt64)))) al) (FP.dsub al (4611686018427387904 : UInt64))) (FP.ddiv (FP.dmul (FP.dmul al vh) vh) (FP.dmul (FP.dmul (FP.dsub al (4607182418800017408 : UInt64)) (FP.dsub al (4607182418800017408 : UInt64))) (FP.dsub al (4611686018427387904 : UInt64))))) (FP.ddiv (FP.ddiv (FP.dmul (FP.dmul al vh) vh) (FP.dmul (FP.dmul (FP.dsub al (4607182418800017408 : UInt64)) (FP.dsub al (4607182418800017408 : UInt64))) (FP.dsub al (4611686018427387904 : UInt64)))) (4787326403894837248 : UInt64))) .g)) ∧ (Jvm.Free.Fl.NoNaN64 (FP.dsub (FP.ddiv (FP.dmul (FP.dmul al vh) vh) (FP.dmul (FP.dmul (FP.dsub al (4607182418800017408 : UInt64)) (FP.dsub al (4607182418800017408 : UInt64))) (FP.dsub al (4611686018427387904 : UInt64)))) (FP.ddiv (FP.dmul (FP.dmul (FP.ddiv vh (FP.dsub al (4607182418800017408 : UInt64))) (FP.ddiv vh (FP.dsub al (4607182418800017408 : UInt64)))) al) (FP.dsub al (4611686018427387904 : UInt64)))) ∧ ¬ ((0 : Int32) < cmpValue (FP.dcmp (FP.dsub (FP.ddiv (FP.dmul (FP.dmul al vh) vh) (FP.dmul (FP.dmul (FP.dsub al (4607182418800017408 : UInt64)) (FP.dsub al (4607182418800017408 : UInt64))) (FP.dsub al (4611686018427387904 : UInt64)))) (FP.ddiv (FP.dmul (FP.dmul (FP.ddiv vh (FP.dsub al (4607182418800017408 : UInt64))) (FP.ddiv vh (FP.dsub al (4607182418800017408 : UInt64)))) al) (FP.dsub al (4611686018427387904 : UInt64)))) (FP.ddiv (FP.ddiv (FP.dmul (FP.dmul al vh) vh) (FP.dmul (FP.dmul (FP.dsub al (4607182418800017408 : UInt64)) (FP.dsub al (4607182418800017408 : UInt64))) (FP.dsub al (4611686018427387904 : UInt64)))) (4787326403894837248 : UInt64))) .g)) := by
  have d24 : Dy (1048576 + n.toInt) 20 (FP.dsub al (4607182418800017408 : UInt64)) := by
    have := Dy.sub Da own_one20 (by omega) (by decide)
    rw [show (2097152 : Int) + n.toInt - 1048576 = 1048576 + n.toInt by omega] at this
    exact this
  have d42 : Dy n.toInt 20 (FP.dsub al (4611686018427387904 : UInt64)) := by
    have := Dy.sub Da own_two20 (by omega) (by decide)
    rw [show (2097152 : Int) + n.toInt - 2097152 = n.toInt by omega] at this
    exact this
  obtain ⟨M, hM⟩ : ∃ M : Nat, m.toInt.toNat = M := ⟨_, rfl⟩
  obtain ⟨Q, hQ⟩ : ∃ Q : Nat, n.toInt.toNat = Q := ⟨_, rfl⟩
  have pS : 1 ≤ 2 ^ S := Nat.two_pow_pos S
  have ah := ap_dy Dh (by omega) (N := M) (α := 16) hM (by rw [show (2 : Nat) ^ 16 = 65536 by decide]; omega)
  have aA := ap_dy d24 (by omega) (N := 1048576 + Q) (α := 31) (by omega) (by rw [show (2 : Nat) ^ 31 * 2 ^ 20 = 2251799813685248 by decide]; omega)
  have aB := ap_dy Da (by omega) (N := 2097152 + Q) (α := 31) (by omega) (by rw [show (2 : Nat) ^ 31 * 2 ^ 20 = 2251799813685248 by decide]; omega)
  have aN := ap_dy d42 (by omega) (N := Q) (α := 31) hQ (by rw [show (2 : Nat) ^ 31 * 2 ^ 20 = 2251799813685248 by decide]; omega)
  have a40 := ap_dy own_p40 (by decide) (N := 1099511627776) (α := 40) (by decide) (by decide)
  have v25 := Ap.div (K := 1) ah aA (by omega) (by omega) (by decide) (by decide) (by decide)
  have v29 := Ap.mul (K := 3) v25 v25 (by omega) (by omega) (by decide) (by decide)
  have v34 := Ap.mul (K := 4) v29 aB (by omega) (by omega) (by decide) (by decide)
  have v43 := Ap.div (K := 5) v34 aN (by omega) (by omega) (by decide) (by decide) (by decide)
  have r1 := Ap.mul (K := 1) aB ah (by omega) (by omega) (by decide) (by decide)
  have r2 := Ap.mul (K := 2) r1 ah (by omega) (by omega) (by decide) (by decide)
  have r3 := Ap.mul (K := 1) aA aA (by omega) (by omega) (by decide) (by decide)
  have r4 := Ap.mul (K := 2) r3 aN (by omega) (by omega) (by decide) (by decide)
  have r5 := Ap.div (K := 5) r2 r4 (by omega) (by omega) (by decide) (by decide) (by decide)
  have q1 : 1 ≤ Q := by omega
  have w43 := Ap.same (N' := (2097152 + Q) * M * M * (2 ^ 20 * 2 ^ 20 * 2 ^ 20)) (D' := 2 ^ 20 * 2 ^ S * 2 ^ S * ((1048576 + Q) * (1048576 + Q) * Q)) v43 (by
    refine Nat.mul_pos (Nat.mul_pos (Nat.mul_pos (Nat.mul_pos pS (by omega)) (Nat.mul_pos pS (by omega))) (Nat.two_pow_pos _)) q1) (by
    generalize 2097152 + Q = B
    generalize 1048576 + Q = A
    generalize 2 ^ 20 = T
    generalize 2 ^ S = s
    ac_rfl)
  have t6 := Ap.div (K := 6) r5 a40 (by omega) (by omega) (by decide) (by decide) (by decide)
  have pN : 0 < (2097152 + Q) * M * M * (2 ^ 20 * 2 ^ 20 * 2 ^ 20) := Nat.mul_pos (Nat.mul_pos (Nat.mul_pos (by omega) (by omega)) (by omega)) (by decide)
  have pD : 0 < 2 ^ 20 * 2 ^ S * 2 ^ S * ((1048576 + Q) * (1048576 + Q) * Q) := Nat.mul_pos (Nat.mul_pos (Nat.mul_pos (by decide) pS) pS) (Nat.mul_pos (Nat.mul_pos (by omega) (by omega)) q1)
  obtain ⟨x, zx, x1, x2, -, -⟩ := w43
  obtain ⟨y, zy, y1, y2, -, -⟩ := r5
  obtain ⟨z, zz, z1, z2, -, -⟩ := t6
  have cmp : x ≤ y + z ∧ y ≤ x + z := by
    exact own_close pD x1 x2 y1 y2 (e1 := 2 ^ 0) rfl z2
  have nf : ∀ {a : UInt64} {N D k α β : Nat}, Ap a N D k α β → Jvm.Free.Fl.NoNaN64 a := fun h => by obtain ⟨_, h, -⟩ := h; exact h.nn
  refine ⟨trivial, trivial, trivial, d24, d42, nf v25, nf v29, nf v34, nf v43, nf r1, nf r2, nf r3, nf r4, zy.nn, zz.nn, ⟨nn_of (dsub_out (no_fin zx.fin) zy.fin), sub_le zx zy zz cmp.1 .g⟩, ⟨nn_of (dsub_out (no_fin zy.fin) zx.fin), sub_le zy zx zz cmp.2 .g⟩⟩
theorem ef_2_R (m : MethodId) (x0 : Addr) : entryFrame m #[(.ref x0)] 1 = mkF m 0 #[.val (.ref x0)] [] := by first | (simp [entryFrame, mkF, argsToLocals, Value.category]; done) | rfl
theorem d2_0 : decode jdk_30_method_1_code 0 = .ok (.aload_n 0, 1) := by decide +kernel
theorem d2_1 : decode jdk_30_method_1_code 1 = .ok (.invokespecial 1, 3) := by decide +kernel
theorem d2_4 : decode jdk_30_method_1_code 4 = .ok (.return_, 1) := by decide +kernel
def Q_rm2 (Z : State) (a1 : Addr) (h0 : Heap) (n0 : Nat) (v : Option Value) (h : Heap) (L : List Loc) : Prop := v = none ∧ Fr n0 L ∧ h = h0
theorem pn_java_2flang_2fRecord : plainName "java/lang/Record" = true := by first | (simp [plainName, overriddenIn]; done) | decide +kernel
set_option maxRecDepth 65536 in
set_option maxHeartbeats 40000000 in
theorem rm2 (l : Launch) (Z : State) (a0 : Array Value) (hw : ∀ d ∈ tables_1, d.before a0 Z = true) (ws : List Jvm.Cond) (a1 : Addr) (h0 : Heap) (n0 : Nat) (Z0 : n0 ≤ h0.size) :
    MetFree l (⟨"java/lang/Record", "<init>", "()V"⟩ : MethodName) (head1 (Jvm.Cond.code (⟨"java/lang/Record", "<init>", "()V"⟩ : MethodName) jdk_30_method_1_code 1 none :: ws) ({ frames := 1, cells := 0, slots := 0, locals := 12 } : Room)) (fun a U => a = #[(.ref a1)] ∧ Z.Warmed39 U.vm ∧ U.heap = h0) (fun _ _ _ _ _ => True) (fun _ U o U' => ∃ v L, o = .returned v ∧ Q_rm2 Z a1 h0 n0 v U'.heap L ∧ FrameEnd U o U' L ({ frames := 1, cells := 0, slots := 0, locals := 12 } : Room).cells ({ frames := 1, cells := 0, slots := 0, locals := 12 } : Room).slots) := by
  refine MetFree.of_bodySF (plainFor_of_name pn_java_2flang_2fRecord) hisR ?_
  intro p e s m args below meth c s₁ Bd hml0 hP hK
  obtain ⟨rfl, hZ, hh⟩ := hP
  have hx := Bd.exec
  have hby := Bd.bytes
  have hml : c.maxLocals = 1 := hml0
  have hown : s.vm.findClass "java/lang/Record" = some m.cls := findClass_of_methodNamed Bd.named
  have hnm := (name_of_methodNamed Bd.named Bd.method).1
  have X0 : Stand p l e ({ frames := 1, cells := 0, slots := 0, locals := 12 } : Room) s m #[(.ref a1)] below meth c s₁ [] 0 0 := Stand.of_body Bd
  have e0 : s₁.heap = h0 := by rw [← hh, Bd.state]; rfl
  have N0 := Fr.nil n0
  have k0 : ∀ t, Steps p.tables e below (s₁.setTop (mkF m 0 #[.val (.ref a1)] [])) t → Steps p.tables e below (s₁.setTop (entryFrame m #[(.ref a1)] 1)) t := fun t k => castTop (ef_2_R m a1) k
  have k101 : ∀ t, Steps p.tables e below (s₁.setTop (mkF m 1 #[.val (.ref a1)] [(.ref a1)])) t → Steps p.tables e below (s₁.setTop (entryFrame m #[(.ref a1)] 1)) t := fun t k => k0 t (by
    show Steps p.tables e below (s₁.setTop (mkF m 0 #[.val (.ref a1)] [])) _
    refine XS.aloadN X0.here hx rfl (hb hby d2_0) rfl rfl ?_
    exact k)
  obtain ⟨T102, X102, e102, st102⟩ := initO X0 hx hZ hown (hw _ (List.mem_of_getElem? (i := 14) rfl)) (hw _ (List.mem_of_getElem? (i := 15) rfl)) (hw _ (List.mem_of_getElem? (i := 16) rfl)) e0 (g := (mkF m 1 #[.val (.ref a1)] [(.ref a1)])) rfl (by rw [hml]; rfl) rfl (hb hby d2_1) (by decide) (W := 0) (by show 2 * 0 + _ ≤ _; exact Nat.le_of_eq rfl) (by decide)
  have k103 : ∀ t, Steps p.tables e below (T102.setTop (mkF m 4 #[.val (.ref a1)] [])) t → Steps p.tables e below (s₁.setTop (entryFrame m #[(.ref a1)] 1)) t := fun t k => k101 t (st102 t k)
  obtain ⟨fs, hr, hrun, hended, hW, hsame⟩ := X102.leave (v := none) (fun _ => rfl)
  refine ⟨_, _, k103 _ (X102.returnOut hx Bd.returns (hb hby d2_4) hr), hrun, hended, _, _, rfl, ?_, ⟨_, rfl⟩, hW, hsame.mono (by decide) (by decide)⟩
  show Q_rm2 Z a1 h0 n0 _ T102.heap _
  rw [e102]
  exact ⟨rfl, N0, rfl⟩
theorem ef_4_RD (m : MethodId) (x0 : Addr) (x1 : UInt64) : entryFrame m #[(.ref x0), (.double x1)] 3 = mkF m 0 #[.val (.ref x0), .val (.double x1), .second] [] := by first | (simp [entryFrame, mkF, argsToLocals, Value.category]; done) | rfl
theorem d4_0 : decode prog_33_method_5_code 0 = .ok (.dload_n 1, 1) := by decide +kernel
theorem d4_1 : decode prog_33_method_5_code 1 = .ok (.dconst 0, 1) := by decide +kernel
theorem d4_2 : decode prog_33_method_5_code 2 = .ok (.dcmp .l, 1) := by decide +kernel
theorem d4_3 : decode prog_33_method_5_code 3 = .ok (.ifCond .le 11, 3) := by decide +kernel
theorem d4_6 : decode prog_33_method_5_code 6 = .ok (.dload_n 1, 1) := by decide +kernel
theorem d4_7 : decode prog_33_method_5_code 7 = .ok (.ldc2_w 32, 3) := by decide +kernel
theorem d4_10 : decode prog_33_method_5_code 10 = .ok (.dcmp .g, 1) := by decide +kernel
theorem d4_11 : decode prog_33_method_5_code 11 = .ok (.ifCond .lt 18, 3) := by decide +kernel
theorem d4_29 : decode prog_33_method_5_code 29 = .ok (.dload_n 1, 1) := by decide +kernel
theorem d4_30 : decode prog_33_method_5_code 30 = .ok (.dreturn, 1) := by decide +kernel
def Q_rm4 (Z : State) (a1 : Addr) (u1 : UInt64) (h0 : Heap) (n0 : Nat) (v : Option Value) (h : Heap) (L : List Loc) : Prop := v = some (.double u1) ∧ Fr n0 L ∧ h = h0
theorem pn_com_2fexample_2fsurety_2fsurety_2fcore_2fOutsideDomainException : plainName "com/example/surety/surety/core/OutsideDomainException" = true := by first | (simp [plainName, overriddenIn]; done) | decide +kernel
set_option maxRecDepth 65536 in
set_option maxHeartbeats 40000000 in
theorem rm4 (l : Launch) (Z : State) (a0 : Array Value) (hw : ∀ d ∈ tables_1, d.before a0 Z = true) (ws : List Jvm.Cond) (a1 : Addr) (u1 : UInt64) (h0 : Heap) (n0 : Nat) (Z0 : n0 ≤ h0.size) (c3 : (0 : Int32) < cmpValue (FP.dcmp u1 (0 : UInt64)) .l) (c11 : cmpValue (FP.dcmp u1 (9218868437227405312 : UInt64)) .g < (0 : Int32)) :
    MetFree l (⟨"com/example/surety/surety/core/OutsideDomainException", "requirePositive", "(Ljava/lang/String;D)D"⟩ : MethodName) (head1 (Jvm.Cond.code (⟨"com/example/surety/surety/core/OutsideDomainException", "requirePositive", "(Ljava/lang/String;D)D"⟩ : MethodName) prog_33_method_5_code 3 (some .double) :: ws) ({ frames := 0, cells := 0, slots := 0, locals := 0 } : Room)) (fun a U => a = #[(.ref a1), (.double u1)] ∧ Z.Warmed39 U.vm ∧ U.heap = h0) (fun _ _ _ _ _ => True) (fun _ U o U' => ∃ v L, o = .returned v ∧ Q_rm4 Z a1 u1 h0 n0 v U'.heap L ∧ FrameEnd U o U' L ({ frames := 0, cells := 0, slots := 0, locals := 0 } : Room).cells ({ frames := 0, cells := 0, slots := 0, locals := 0 } : Room).slots) := by
  refine MetFree.of_bodySF (plainFor_of_name pn_com_2fexample_2fsurety_2fsurety_2fcore_2fOutsideDomainException) hisR ?_
  intro p e s m args below meth c s₁ Bd hml0 hP hK
  obtain ⟨rfl, hZ, hh⟩ := hP
  have hx := Bd.exec
  have hby := Bd.bytes
  have hml : c.maxLocals = 3 := hml0
  have hown : s.vm.findClass "com/example/surety/surety/core/OutsideDomainException" = some m.cls := findClass_of_methodNamed Bd.named
  have hnm := (name_of_methodNamed Bd.named Bd.method).1
  have X0 : Stand p l e ({ frames := 0, cells := 0, slots := 0, locals := 0 } : Room) s m #[(.ref a1), (.double u1)] below meth c s₁ [] 0 0 := Stand.of_body Bd
  have e0 : s₁.heap = h0 := by rw [← hh, Bd.state]; rfl
  have N0 := Fr.nil n0
  have k0 : ∀ t, Steps p.tables e below (s₁.setTop (mkF m 0 #[.val (.ref a1), .val (.double u1), .second] [])) t → Steps p.tables e below (s₁.setTop (entryFrame m #[(.ref a1), (.double u1)] 3)) t := fun t k => castTop (ef_4_RD m a1 u1) k
  have k101 : ∀ t, Steps p.tables e below (s₁.setTop (mkF m 30 #[.val (.ref a1), .val (.double u1), .second] [(.double u1)])) t → Steps p.tables e below (s₁.setTop (entryFrame m #[(.ref a1), (.double u1)] 3)) t := fun t k => k0 t (by
    show Steps p.tables e below (s₁.setTop (mkF m 0 #[.val (.ref a1), .val (.double u1), .second] [])) _
    refine XS.dloadN X0.here hx rfl (hb hby d4_0) rfl ?_
    show Steps p.tables e below (s₁.setTop (mkF m 1 #[.val (.ref a1), .val (.double u1), .second] [(.double u1)])) _
    refine XS.dconst0 X0.here hx rfl (hb hby d4_1) (v := (0 : UInt64)) rfl ?_
    show Steps p.tables e below (s₁.setTop (mkF m 2 #[.val (.ref a1), .val (.double u1), .second] [(.double (0 : UInt64)), (.double u1)])) _
    refine XS.dcmpS X0.here hx rfl (hb hby d4_2) rfl rfl ?_
    show Steps p.tables e below (s₁.setTop (mkF m 3 #[.val (.ref a1), .val (.double u1), .second] [(.int (cmpValue (FP.dcmp u1 (0 : UInt64)) .l))])) _
    refine XS.ifNo X0.here hx rfl (hb hby d4_3) rfl ((if0 _ _).trans (tlt c3).2.2.2) ?_
    show Steps p.tables e below (s₁.setTop (mkF m 6 #[.val (.ref a1), .val (.double u1), .second] [])) _
    refine XS.dloadN X0.here hx rfl (hb hby d4_6) rfl ?_
    show Steps p.tables e below (s₁.setTop (mkF m 7 #[.val (.ref a1), .val (.double u1), .second] [(.double u1)])) _
    refine X0.ldc2DoubleC hx hown (mvT hZ (hw _ (List.mem_of_getElem? (i := 29) rfl))) (g := (mkF m 7 #[.val (.ref a1), .val (.double u1), .second] [(.double u1)])) rfl (hb hby d4_7) _ ?_
    show Steps p.tables e below (s₁.setTop (mkF m 10 #[.val (.ref a1), .val (.double u1), .second] [(.double (9218868437227405312 : UInt64)), (.double u1)])) _
    refine XS.dcmpS X0.here hx rfl (hb hby d4_10) rfl rfl ?_
    show Steps p.tables e below (s₁.setTop (mkF m 11 #[.val (.ref a1), .val (.double u1), .second] [(.int (cmpValue (FP.dcmp u1 (9218868437227405312 : UInt64)) .g))])) _
    refine XS.ifYes X0.here hx rfl (pc0 := 11) (pc' := 29) rfl (hb hby d4_11) rfl ((if0 _ _).trans (tlt c11).1) (by decide) (by decide) ?_
    show Steps p.tables e below (s₁.setTop (mkF m 29 #[.val (.ref a1), .val (.double u1), .second] [])) _
    refine XS.dloadN X0.here hx rfl (hb hby d4_29) rfl ?_
    exact k)
  obtain ⟨fs, hr, hrun, hended, hW, hsame⟩ := X0.leave (v := some (.double u1)) (fun h => by rw [Bd.returns] at h; cases h)
  refine ⟨_, _, k101 _ (retOut X0 hx (t := .double) Bd.returns rfl (Or.inr (Or.inr (Or.inl ⟨rfl, rfl, _, rfl⟩))) (hb hby d4_30) hr), hrun, hended, _, _, rfl, ?_, ⟨_, rfl⟩, hW, hsame.mono (by decide) (by decide)⟩
  show Q_rm4 Z a1 u1 h0 n0 _ s₁.heap _
  rw [e0]
  exact ⟨rfl, N0, rfl⟩
theorem ef_1_RDD (m : MethodId) (x0 : Addr) (x1 : UInt64) (x2 : UInt64) : entryFrame m #[(.ref x0), (.double x1), (.double x2)] 5 = mkF m 0 #[.val (.ref x0), .val (.double x1), .second, .val (.double x2), .second] [] := by first | (simp [entryFrame, mkF, argsToLocals, Value.category]; done) | rfl
theorem d1_0 : decode prog_34_method_1_code 0 = .ok (.aload_n 0, 1) := by decide +kernel
theorem d1_1 : decode prog_34_method_1_code 1 = .ok (.invokespecial 1, 3) := by decide +kernel
theorem pd__28_29V : parseMethodDescriptor "()V" = some ⟨[], none⟩ := by decide +kernel
theorem d1_4 : decode prog_34_method_1_code 4 = .ok (.ldc 7, 2) := by decide +kernel
theorem own_strAtoms {Z : State} {a0 : Array Value} (hw : ∀ d ∈ tables_1, d.before a0 Z = true) : ∀ a ∈ Bundle.stringAtoms, a.before a0 Z = true := by
  intro a ha
  simp only [Bundle.stringAtoms, List.mem_cons, List.not_mem_nil, or_false] at ha
  rcases ha with rfl | rfl | rfl | rfl | rfl | rfl | rfl
  · exact (hw _ (List.mem_of_getElem? (i := 18) rfl))
  · exact (hw _ (List.mem_of_getElem? (i := 19) rfl))
  · exact (hw _ (List.mem_of_getElem? (i := 20) rfl))
  · exact (hw _ (List.mem_of_getElem? (i := 21) rfl))
  · exact (hw _ (List.mem_of_getElem? (i := 22) rfl))
  · exact (hw _ (List.mem_of_getElem? (i := 23) rfl))
  · exact (hw _ (List.mem_of_getElem? (i := 24) rfl))
theorem d1_6 : decode prog_34_method_1_code 6 = .ok (.dload_n 1, 1) := by decide +kernel
theorem d1_7 : decode prog_34_method_1_code 7 = .ok (.invokestatic 9, 3) := by decide +kernel
theorem pd__28Ljava_2flang_2fString_3bD_29D : parseMethodDescriptor "(Ljava/lang/String;D)D" = some ⟨[(.object "java/lang/String"), .double], some .double⟩ := by decide +kernel
theorem d1_10 : decode prog_34_method_1_code 10 = .ok (.pop2, 1) := by decide +kernel
theorem d1_11 : decode prog_34_method_1_code 11 = .ok (.ldc 15, 2) := by decide +kernel
theorem d1_13 : decode prog_34_method_1_code 13 = .ok (.dload_n 3, 1) := by decide +kernel
theorem d1_14 : decode prog_34_method_1_code 14 = .ok (.invokestatic 9, 3) := by decide +kernel
theorem d1_17 : decode prog_34_method_1_code 17 = .ok (.pop2, 1) := by decide +kernel
theorem d1_18 : decode prog_34_method_1_code 18 = .ok (.aload_n 0, 1) := by decide +kernel
theorem d1_19 : decode prog_34_method_1_code 19 = .ok (.dload_n 1, 1) := by decide +kernel
theorem d1_20 : decode prog_34_method_1_code 20 = .ok (.putfield 17, 3) := by decide +kernel
theorem d1_23 : decode prog_34_method_1_code 23 = .ok (.aload_n 0, 1) := by decide +kernel
theorem d1_24 : decode prog_34_method_1_code 24 = .ok (.dload_n 3, 1) := by decide +kernel
theorem d1_25 : decode prog_34_method_1_code 25 = .ok (.putfield 22, 3) := by decide +kernel
theorem d1_28 : decode prog_34_method_1_code 28 = .ok (.return_, 1) := by decide +kernel
def Q_rm1 (Z : State) (a1 : Addr) (u1 : UInt64) (u2 : UInt64) (h0 : Heap) (n0 : Nat) (v : Option Value) (h : Heap) (L : List Loc) : Prop := v = none ∧ Fr n0 L ∧ Keep h0 h [a1] ∧ Exa Z h a1 "com/example/surety/surety/core/ParetoUpTimes" ∧ Fld Z h a1 "com/example/surety/surety/core/ParetoUpTimes" "h" "D" (.double u1) ∧ Fld Z h a1 "com/example/surety/surety/core/ParetoUpTimes" "alpha" "D" (.double u2)
theorem pn_com_2fexample_2fsurety_2fsurety_2fcore_2fParetoUpTimes : plainName "com/example/surety/surety/core/ParetoUpTimes" = true := by first | (simp [plainName, overriddenIn]; done) | decide +kernel
set_option maxRecDepth 65536 in
set_option maxHeartbeats 40000000 in
theorem rm1 (l : Launch) (Z : State) (a0 : Array Value) (hw : ∀ d ∈ tables_1, d.before a0 Z = true) (ws : List Jvm.Cond) (a1 : Addr) (u1 : UInt64) (u2 : UInt64) (h0 : Heap) (n0 : Nat) (Z0 : n0 ≤ h0.size) (F1 : Fld Z h0 a1 "com/example/surety/surety/core/ParetoUpTimes" "h" "D" (.double (0 : UInt64))) (F2 : Fld Z h0 a1 "com/example/surety/surety/core/ParetoUpTimes" "alpha" "D" (.double (0 : UInt64))) (E1 : Exa Z h0 a1 "com/example/surety/surety/core/ParetoUpTimes") (ga : n0 ≤ a1) (c1 : (0 : Int32) < cmpValue (FP.dcmp u1 (0 : UInt64)) .l) (c2 : cmpValue (FP.dcmp u1 (9218868437227405312 : UInt64)) .g < (0 : Int32)) (c3 : (0 : Int32) < cmpValue (FP.dcmp u2 (0 : UInt64)) .l) (c4 : cmpValue (FP.dcmp u2 (9218868437227405312 : UInt64)) .g < (0 : Int32)) :
    MetFree l (⟨"com/example/surety/surety/core/ParetoUpTimes", "<init>", "(DD)V"⟩ : MethodName) (head1 (Jvm.Cond.code (⟨"com/example/surety/surety/core/ParetoUpTimes", "<init>", "(DD)V"⟩ : MethodName) prog_34_method_1_code 5 none :: ws) ({ frames := 2, cells := 4, slots := 32, locals := 24 } : Room)) (fun a U => a = #[(.ref a1), (.double u1), (.double u2)] ∧ Z.Warmed39 U.vm ∧ U.heap = h0) (fun _ _ _ _ _ => True) (fun _ U o U' => ∃ v L, o = .returned v ∧ Q_rm1 Z a1 u1 u2 h0 n0 v U'.heap L ∧ ReturnedEndW U o U' L ({ frames := 2, cells := 4, slots := 32, locals := 24 } : Room).cells ({ frames := 2, cells := 4, slots := 32, locals := 24 } : Room).slots) := by
  refine MetFree.of_bodySF (plainFor_of_name pn_com_2fexample_2fsurety_2fsurety_2fcore_2fParetoUpTimes) hisR ?_
  intro p e s m args below meth c s₁ Bd hml0 hP hK
  obtain ⟨rfl, hZ, hh⟩ := hP
  have hx := Bd.exec
  have hby := Bd.bytes
  have hml : c.maxLocals = 5 := hml0
  have hown : s.vm.findClass "com/example/surety/surety/core/ParetoUpTimes" = some m.cls := findClass_of_methodNamed Bd.named
  have hnm := (name_of_methodNamed Bd.named Bd.method).1
  have X0 : Stand p l e ({ frames := 2, cells := 4, slots := 32, locals := 24 } : Room) s m #[(.ref a1), (.double u1), (.double u2)] below meth c s₁ [] 0 0 := Stand.of_body Bd
  have e0 : s₁.heap = h0 := by rw [← hh, Bd.state]; rfl
  have N0 := Fr.nil n0
  have hS0 : s.Since s.vm 0 := Jvm.OwnFp.since0 s
  have k0 : ∀ t, Steps p.tables e below (s₁.setTop (mkF m 0 #[.val (.ref a1), .val (.double u1), .second, .val (.double u2), .second] [])) t → Steps p.tables e below (s₁.setTop (entryFrame m #[(.ref a1), (.double u1), (.double u2)] 5)) t := fun t k => castTop (ef_1_RDD m a1 u1 u2) k
  have K0 := Keep.refl h0 [a1]
  have k101 : ∀ t, Steps p.tables e below (s₁.setTop (mkF m 1 #[.val (.ref a1), .val (.double u1), .second, .val (.double u2), .second] [(.ref a1)])) t → Steps p.tables e below (s₁.setTop (entryFrame m #[(.ref a1), (.double u1), (.double u2)] 5)) t := fun t k => k0 t (by
    show Steps p.tables e below (s₁.setTop (mkF m 0 #[.val (.ref a1), .val (.double u1), .second, .val (.double u2), .second] [])) _
    refine XS.aloadN X0.here hx rfl (hb hby d1_0) rfl rfl ?_
    exact k)
  obtain ⟨_, _, ⟨T102, L102, k102, n102⟩, -, X102, ⟨Lc102, hQ102, l102, y102, z102⟩, st102⟩ := X0.specialBack hx (y := (⟨"java/lang/Record", "<init>", "()V"⟩ : MethodName)) rfl hown (mvT hZ (hw _ (List.mem_of_getElem? (i := 9) rfl))) (mvT hZ (hw _ (List.mem_of_getElem? (i := 10) rfl))) (mvT hZ (hw _ (List.mem_of_getElem? (i := 13) rfl))) (by decide) (backOf (W := 0) (rm2 l Z a0 hw [] a1 h0 n0 Z0 ) hZ (hw _ (List.mem_of_getElem? (i := 13) rfl)) (hw _ (List.mem_of_getElem? (i := 12) rfl)) (by decide) (by decide)) (g := (mkF m 1 #[.val (.ref a1), .val (.double u1), .second, .val (.double u2), .second] [(.ref a1)])) rfl (by rw [hml]; rfl) (Steps.refl _) (a := a1) (argsL := []) (rest := []) (lenOf pd__28_29V rfl) rfl (by show 2 * 0 + _ ≤ _; exact Nat.le_of_eq rfl) (hb hby d1_1) (fun _ _ => ⟨rfl, e0, (by decide : 0 + 0 ≤ _), (by decide : 0 + 0 ≤ _)⟩)
  dsimp only [Pt.U, Pt.locs, Pt.cells, Pt.slots] at X102 l102 y102 z102 st102 hQ102
  subst l102 y102 z102
  obtain ⟨rfl, N102q, e102⟩ := hQ102
  have N103 := Fr.app N0 N102q
  have k104 : ∀ t, Steps p.tables e below (T102.setTop (mkF m 4 #[.val (.ref a1), .val (.double u1), .second, .val (.double u2), .second] [])) t → Steps p.tables e below (s₁.setTop (entryFrame m #[(.ref a1), (.double u1), (.double u2)] 5)) t := fun t k => k101 t (st102.trans k)
  obtain ⟨b105, T105, h105, kk105, X105, e105, E105, hS105, hk105, hZ105, hown105, st105⟩ := ldcS (s := s) (vm0 := s.vm) X102 hx hZ hown (hw _ (List.mem_of_getElem? (i := 17) rfl)) (own_strAtoms hw) e102 hS0 (Nat.zero_le _) (g := (mkF m 4 #[.val (.ref a1), .val (.double u1), .second, .val (.double u2), .second] [])) rfl (hb hby d1_4) (n := 4) (by decide) (by decide) (by decide) (by decide)
  have F106 := F1.ext E105
  have F107 := F2.ext E105
  have F108 := E1.ext E105
  have Z109 : n0 ≤ h105.size := Nat.le_trans Z0 E105.1
  have K110 := K0.ext E105
  have k111 : ∀ t, Steps p.tables e below (T105.setTop (mkF m 6 #[.val (.ref a1), .val (.double u1), .second, .val (.double u2), .second] [(.ref b105)])) t → Steps p.tables e below (s₁.setTop (entryFrame m #[(.ref a1), (.double u1), (.double u2)] 5)) t := fun t k => k104 t (st105 t k)
  have k112 : ∀ t, Steps p.tables e below (T105.setTop (mkF m 7 #[.val (.ref a1), .val (.double u1), .second, .val (.double u2), .second] [(.double u1), (.ref b105)])) t → Steps p.tables e below (s₁.setTop (entryFrame m #[(.ref a1), (.double u1), (.double u2)] 5)) t := fun t k => k111 t (by
    show Steps p.tables e below (T105.setTop (mkF m 6 #[.val (.ref a1), .val (.double u1), .second, .val (.double u2), .second] [(.ref b105)])) _
    refine XS.dloadN X105.here hx rfl (hb hby d1_6) rfl ?_
    exact k)
  obtain ⟨_, _, ⟨T113, L113, k113, n113⟩, -, X113, ⟨Lc113, hQ113, l113, y113, z113⟩, st113⟩ := Jvm.LawKit.callS X105 hx (y := (⟨"com/example/surety/surety/core/OutsideDomainException", "requirePositive", "(Ljava/lang/String;D)D"⟩ : MethodName)) hown105 (mvT hZ105 (hw _ (List.mem_of_getElem? (i := 25) rfl))) (mvT hZ105 (hw _ (List.mem_of_getElem? (i := 26) rfl))) (mvT hZ105 (hw _ (List.mem_of_getElem? (i := 27) rfl))) (mvT hZ105 (hw _ (List.mem_of_getElem? (i := 28) rfl))) (by decide) (backOf (W := 0) (rm4 l Z a0 hw [] b105 u1 h105 n0 Z109 c1 c2) hZ105 (hw _ (List.mem_of_getElem? (i := 28) rfl)) (hw _ (List.mem_of_getElem? (i := 27) rfl)) (by decide) (by decide)) (g := (mkF m 7 #[.val (.ref a1), .val (.double u1), .second, .val (.double u2), .second] [(.double u1), (.ref b105)])) rfl (by rw [hml]; rfl) (argsL := [(.ref b105), (.double u1)]) (rest := []) (lenOf pd__28Ljava_2flang_2fString_3bD_29D rfl) rfl (by show 2 * 0 + _ ≤ _; exact Nat.le_of_eq rfl) (hb hby d1_7) (fun _ _ => ⟨rfl, e105, (by decide : 2 + 0 ≤ _), (by decide : 8 + 0 ≤ _)⟩)
  dsimp only [Pt.U, Pt.locs, Pt.cells, Pt.slots] at X113 l113 y113 z113 st113 hQ113
  subst l113 y113 z113
  obtain ⟨rfl, N113q, e113⟩ := hQ113
  have N114 := Fr.app N103 N113q
  have k115 : ∀ t, Steps p.tables e below (T113.setTop (mkF m 10 #[.val (.ref a1), .val (.double u1), .second, .val (.double u2), .second] [(.double u1)])) t → Steps p.tables e below (s₁.setTop (entryFrame m #[(.ref a1), (.double u1), (.double u2)] 5)) t := fun t k => k112 t (st113 t k)
  have k116 : ∀ t, Steps p.tables e below (T113.setTop (mkF m 11 #[.val (.ref a1), .val (.double u1), .second, .val (.double u2), .second] [])) t → Steps p.tables e below (s₁.setTop (entryFrame m #[(.ref a1), (.double u1), (.double u2)] 5)) t := fun t k => k115 t (by
    show Steps p.tables e below (T113.setTop (mkF m 10 #[.val (.ref a1), .val (.double u1), .second, .val (.double u2), .second] [(.double u1)])) _
    jvm_step X113.here [X113.here.top, hx, (hb hby d1_10), Value.category]
    exact k)
  obtain ⟨b117, T117, h117, kk117, X117, e117, E117, hS117, hk117, hZ117, hown117, st117⟩ := ldcS (s := s) (vm0 := T105.vm) X113 hx hZ105 hown105 (hw _ (List.mem_of_getElem? (i := 30) rfl)) (own_strAtoms hw) e113 hS105 hk105 (g := (mkF m 11 #[.val (.ref a1), .val (.double u1), .second, .val (.double u2), .second] [])) rfl (hb hby d1_11) (n := 20) (by decide) (by decide) (by decide) (by decide)
  have F118 := F106.ext E117
  have F119 := F107.ext E117
  have F120 := F108.ext E117
  have Z121 : n0 ≤ h117.size := Nat.le_trans Z109 E117.1
  have K122 := K110.ext E117
  have k123 : ∀ t, Steps p.tables e below (T117.setTop (mkF m 13 #[.val (.ref a1), .val (.double u1), .second, .val (.double u2), .second] [(.ref b117)])) t → Steps p.tables e below (s₁.setTop (entryFrame m #[(.ref a1), (.double u1), (.double u2)] 5)) t := fun t k => k116 t (st117 t k)
  have k124 : ∀ t, Steps p.tables e below (T117.setTop (mkF m 14 #[.val (.ref a1), .val (.double u1), .second, .val (.double u2), .second] [(.double u2), (.ref b117)])) t → Steps p.tables e below (s₁.setTop (entryFrame m #[(.ref a1), (.double u1), (.double u2)] 5)) t := fun t k => k123 t (by
    show Steps p.tables e below (T117.setTop (mkF m 13 #[.val (.ref a1), .val (.double u1), .second, .val (.double u2), .second] [(.ref b117)])) _
    refine XS.dloadN X117.here hx rfl (hb hby d1_13) rfl ?_
    exact k)
  obtain ⟨_, _, ⟨T125, L125, k125, n125⟩, -, X125, ⟨Lc125, hQ125, l125, y125, z125⟩, st125⟩ := Jvm.LawKit.callS X117 hx (y := (⟨"com/example/surety/surety/core/OutsideDomainException", "requirePositive", "(Ljava/lang/String;D)D"⟩ : MethodName)) hown117 (mvT hZ117 (hw _ (List.mem_of_getElem? (i := 25) rfl))) (mvT hZ117 (hw _ (List.mem_of_getElem? (i := 26) rfl))) (mvT hZ117 (hw _ (List.mem_of_getElem? (i := 27) rfl))) (mvT hZ117 (hw _ (List.mem_of_getElem? (i := 28) rfl))) (by decide) (backOf (W := 0) (rm4 l Z a0 hw [] b117 u2 h117 n0 Z121 c3 c4) hZ117 (hw _ (List.mem_of_getElem? (i := 28) rfl)) (hw _ (List.mem_of_getElem? (i := 27) rfl)) (by decide) (by decide)) (g := (mkF m 14 #[.val (.ref a1), .val (.double u1), .second, .val (.double u2), .second] [(.double u2), (.ref b117)])) rfl (by rw [hml]; rfl) (argsL := [(.ref b117), (.double u2)]) (rest := []) (lenOf pd__28Ljava_2flang_2fString_3bD_29D rfl) rfl (by show 2 * 0 + _ ≤ _; exact Nat.le_of_eq rfl) (hb hby d1_14) (fun _ _ => ⟨rfl, e117, (by decide : 4 + 0 ≤ _), (by decide : 32 + 0 ≤ _)⟩)
  dsimp only [Pt.U, Pt.locs, Pt.cells, Pt.slots] at X125 l125 y125 z125 st125 hQ125
  subst l125 y125 z125
  obtain ⟨rfl, N125q, e125⟩ := hQ125
  have N126 := Fr.app N114 N125q
  have k127 : ∀ t, Steps p.tables e below (T125.setTop (mkF m 17 #[.val (.ref a1), .val (.double u1), .second, .val (.double u2), .second] [(.double u2)])) t → Steps p.tables e below (s₁.setTop (entryFrame m #[(.ref a1), (.double u1), (.double u2)] 5)) t := fun t k => k124 t (st125 t k)
  have k128 : ∀ t, Steps p.tables e below (T125.setTop (mkF m 20 #[.val (.ref a1), .val (.double u1), .second, .val (.double u2), .second] [(.double u1), (.ref a1)])) t → Steps p.tables e below (s₁.setTop (entryFrame m #[(.ref a1), (.double u1), (.double u2)] 5)) t := fun t k => k127 t (by
    show Steps p.tables e below (T125.setTop (mkF m 17 #[.val (.ref a1), .val (.double u1), .second, .val (.double u2), .second] [(.double u2)])) _
    jvm_step X125.here [X125.here.top, hx, (hb hby d1_17), Value.category]
    show Steps p.tables e below (T125.setTop (mkF m 18 #[.val (.ref a1), .val (.double u1), .second, .val (.double u2), .second] [])) _
    refine XS.aloadN X125.here hx rfl (hb hby d1_18) rfl rfl ?_
    show Steps p.tables e below (T125.setTop (mkF m 19 #[.val (.ref a1), .val (.double u1), .second, .val (.double u2), .second] [(.ref a1)])) _
    refine XS.dloadN X125.here hx rfl (hb hby d1_19) rfl ?_
    exact k)
  obtain ⟨T129, h129, X129, e129, W129, st129⟩ := putF X125 hx hZ117 hown117 (host := "") (Or.inl (hw _ (List.mem_of_getElem? (i := 31) rfl))) Via.refl e125 F118 F120 (Or.inr ⟨(hw _ (List.mem_of_getElem? (i := 32) rfl)), rfl, hnm⟩) (hw _ (List.mem_of_getElem? (i := 4) rfl)) (ty := .double) (by decide) rfl rfl (g := (mkF m 20 #[.val (.ref a1), .val (.double u1), .second, .val (.double u2), .second] [(.double u1), (.ref a1)])) rfl rfl (hb hby d1_20)
  have F130 := F118.same W129
  have F131 := F119.other W129 (Or.inr (slot_ne (Or.inr (hw _ (List.mem_of_getElem? (i := 34) rfl))) (Or.inr (hw _ (List.mem_of_getElem? (i := 32) rfl))) (by decide) (t := .double) (t' := .double) (by decide) (by decide)))
  have F132 := F120.wr W129
  have Z133 : n0 ≤ h129.size := Nat.le_trans Z121 (Nat.le_of_eq W129.size.symm)
  have N134 := Fr.snoc X129 N126 ga
  have hk135 : kk117 ≤ h129.size := Nat.le_trans hk117 (Nat.le_of_eq W129.size.symm)
  have K136 := K122.wr W129 (Or.inl (List.mem_of_getElem? (i := 0) rfl))
  have k137 : ∀ t, Steps p.tables e below (T129.setTop (mkF m 23 #[.val (.ref a1), .val (.double u1), .second, .val (.double u2), .second] [])) t → Steps p.tables e below (s₁.setTop (entryFrame m #[(.ref a1), (.double u1), (.double u2)] 5)) t := fun t k => k128 t (st129 t k)
  have k138 : ∀ t, Steps p.tables e below (T129.setTop (mkF m 25 #[.val (.ref a1), .val (.double u1), .second, .val (.double u2), .second] [(.double u2), (.ref a1)])) t → Steps p.tables e below (s₁.setTop (entryFrame m #[(.ref a1), (.double u1), (.double u2)] 5)) t := fun t k => k137 t (by
    show Steps p.tables e below (T129.setTop (mkF m 23 #[.val (.ref a1), .val (.double u1), .second, .val (.double u2), .second] [])) _
    refine XS.aloadN X129.here hx rfl (hb hby d1_23) rfl rfl ?_
    show Steps p.tables e below (T129.setTop (mkF m 24 #[.val (.ref a1), .val (.double u1), .second, .val (.double u2), .second] [(.ref a1)])) _
    refine XS.dloadN X129.here hx rfl (hb hby d1_24) rfl ?_
    exact k)
  obtain ⟨T139, h139, X139, e139, W139, st139⟩ := putF X129 hx hZ117 hown117 (host := "") (Or.inl (hw _ (List.mem_of_getElem? (i := 33) rfl))) Via.refl e129 F131 F132 (Or.inr ⟨(hw _ (List.mem_of_getElem? (i := 34) rfl)), rfl, hnm⟩) (hw _ (List.mem_of_getElem? (i := 4) rfl)) (ty := .double) (by decide) rfl rfl (g := (mkF m 25 #[.val (.ref a1), .val (.double u1), .second, .val (.double u2), .second] [(.double u2), (.ref a1)])) rfl rfl (hb hby d1_25)
  have F140 := F131.same W139
  have F141 := F132.wr W139
  have F142 := F130.other W139 (Or.inr (slot_ne (Or.inr (hw _ (List.mem_of_getElem? (i := 32) rfl))) (Or.inr (hw _ (List.mem_of_getElem? (i := 34) rfl))) (by decide) (t := .double) (t' := .double) (by decide) (by decide)))
  have Z143 : n0 ≤ h139.size := Nat.le_trans Z133 (Nat.le_of_eq W139.size.symm)
  have N144 := Fr.snoc X139 N134 ga
  have hk145 : kk117 ≤ h139.size := Nat.le_trans hk135 (Nat.le_of_eq W139.size.symm)
  have K146 := K136.wr W139 (Or.inl (List.mem_of_getElem? (i := 0) rfl))
  have k147 : ∀ t, Steps p.tables e below (T139.setTop (mkF m 28 #[.val (.ref a1), .val (.double u1), .second, .val (.double u2), .second] [])) t → Steps p.tables e below (s₁.setTop (entryFrame m #[(.ref a1), (.double u1), (.double u2)] 5)) t := fun t k => k138 t (st139 t k)
  obtain ⟨fs, hr, hrun, hended, hRE⟩ := Stand.leaveW (s := s) (vm₁ := T117.vm) X139 hS117 (by rw [e139]; exact hk145) (v := none) (fun _ => rfl)
  refine ⟨_, _, k147 _ (X139.returnOut hx Bd.returns (hb hby d1_28) hr), hrun, hended, _, _, rfl, ?_, hRE.1, hRE.2.1, hRE.2.2.1, hRE.2.2.2.mono (by decide) (by decide)⟩
  show Q_rm1 Z a1 u1 u2 h0 n0 _ T139.heap _
  rw [e139]
  exact ⟨rfl, N144, K146, F141, F142, F140⟩
theorem ef_5_R (m : MethodId) (x0 : Addr) : entryFrame m #[(.ref x0)] 3 = mkF m 0 #[.val (.ref x0), .unset, .unset] [] := by first | (simp [entryFrame, mkF, argsToLocals, Value.category]; done) | rfl
theorem d5_0 : decode prog_34_method_5_code 0 = .ok (.aload_n 0, 1) := by decide +kernel
theorem d5_1 : decode prog_34_method_5_code 1 = .ok (.getfield 22, 3) := by decide +kernel
theorem d5_4 : decode prog_34_method_5_code 4 = .ok (.ldc2_w 51, 3) := by decide +kernel
theorem d5_7 : decode prog_34_method_5_code 7 = .ok (.dcmp .g, 1) := by decide +kernel
theorem d5_8 : decode prog_34_method_5_code 8 = .ok (.ifCond .gt 7, 3) := by decide +kernel
theorem d5_15 : decode prog_34_method_5_code 15 = .ok (.aload_n 0, 1) := by decide +kernel
theorem d5_16 : decode prog_34_method_5_code 16 = .ok (.getfield 17, 3) := by decide +kernel
theorem d5_19 : decode prog_34_method_5_code 19 = .ok (.aload_n 0, 1) := by decide +kernel
theorem d5_20 : decode prog_34_method_5_code 20 = .ok (.getfield 22, 3) := by decide +kernel
theorem d5_23 : decode prog_34_method_5_code 23 = .ok (.dconst 1, 1) := by decide +kernel
theorem d5_24 : decode prog_34_method_5_code 24 = .ok (.dsub, 1) := by decide +kernel
theorem d5_25 : decode prog_34_method_5_code 25 = .ok (.ddiv, 1) := by decide +kernel
theorem d5_26 : decode prog_34_method_5_code 26 = .ok (.dstore_n 1, 1) := by decide +kernel
theorem d5_27 : decode prog_34_method_5_code 27 = .ok (.dload_n 1, 1) := by decide +kernel
theorem d5_28 : decode prog_34_method_5_code 28 = .ok (.dload_n 1, 1) := by decide +kernel
theorem d5_29 : decode prog_34_method_5_code 29 = .ok (.dmul, 1) := by decide +kernel
theorem d5_30 : decode prog_34_method_5_code 30 = .ok (.aload_n 0, 1) := by decide +kernel
theorem d5_31 : decode prog_34_method_5_code 31 = .ok (.getfield 22, 3) := by decide +kernel
theorem d5_34 : decode prog_34_method_5_code 34 = .ok (.dmul, 1) := by decide +kernel
theorem d5_35 : decode prog_34_method_5_code 35 = .ok (.aload_n 0, 1) := by decide +kernel
theorem d5_36 : decode prog_34_method_5_code 36 = .ok (.getfield 22, 3) := by decide +kernel
theorem d5_39 : decode prog_34_method_5_code 39 = .ok (.ldc2_w 51, 3) := by decide +kernel
theorem d5_42 : decode prog_34_method_5_code 42 = .ok (.dsub, 1) := by decide +kernel
theorem d5_43 : decode prog_34_method_5_code 43 = .ok (.ddiv, 1) := by decide +kernel
theorem d5_44 : decode prog_34_method_5_code 44 = .ok (.dreturn, 1) := by decide +kernel
def Q_vari1 (Z : State) (a1 : Addr) (u1 : UInt64) (u2 : UInt64) (h0 : Heap) (n0 : Nat) (v : Option Value) (h : Heap) (L : List Loc) : Prop := v = some (.double (FP.ddiv (FP.dmul (FP.dmul (FP.ddiv u1 (FP.dsub u2 (4607182418800017408 : UInt64))) (FP.ddiv u1 (FP.dsub u2 (4607182418800017408 : UInt64)))) u2) (FP.dsub u2 (4611686018427387904 : UInt64)))) ∧ Fr n0 L ∧ h = h0
set_option maxRecDepth 65536 in
set_option maxHeartbeats 40000000 in
theorem vari1 (l : Launch) (Z : State) (a0 : Array Value) (hw : ∀ d ∈ tables_1, d.before a0 Z = true) (ws : List Jvm.Cond) (a1 : Addr) (u1 : UInt64) (u2 : UInt64) (h0 : Heap) (n0 : Nat) (Z0 : n0 ≤ h0.size) (F1 : Fld Z h0 a1 "com/example/surety/surety/core/ParetoUpTimes" "h" "D" (.double u1)) (F2 : Fld Z h0 a1 "com/example/surety/surety/core/ParetoUpTimes" "alpha" "D" (.double u2)) (c8 : (0 : Int32) < cmpValue (FP.dcmp u2 (4611686018427387904 : UInt64)) .g) (nn24 : Jvm.Free.Fl.NoNaN64 (FP.dsub u2 (4607182418800017408 : UInt64))) (nn25 : Jvm.Free.Fl.NoNaN64 (FP.ddiv u1 (FP.dsub u2 (4607182418800017408 : UInt64)))) (nn29 : Jvm.Free.Fl.NoNaN64 (FP.dmul (FP.ddiv u1 (FP.dsub u2 (4607182418800017408 : UInt64))) (FP.ddiv u1 (FP.dsub u2 (4607182418800017408 : UInt64))))) (nn34 : Jvm.Free.Fl.NoNaN64 (FP.dmul (FP.dmul (FP.ddiv u1 (FP.dsub u2 (4607182418800017408 : UInt64))) (FP.ddiv u1 (FP.dsub u2 (4607182418800017408 : UInt64)))) u2)) (nn42 : Jvm.Free.Fl.NoNaN64 (FP.dsub u2 (4611686018427387904 : UInt64))) (nn43 : Jvm.Free.Fl.NoNaN64 (FP.ddiv (FP.dmul (FP.dmul (FP.ddiv u1 (FP.dsub u2 (4607182418800017408 : UInt64))) (FP.ddiv u1 (FP.dsub u2 (4607182418800017408 : UInt64)))) u2) (FP.dsub u2 (4611686018427387904 : UInt64)))) :
    MetFree l (⟨"com/example/surety/surety/core/ParetoUpTimes", "variance", "()D"⟩ : MethodName) (head1 (Jvm.Cond.code (⟨"com/example/surety/surety/core/ParetoUpTimes", "variance", "()D"⟩ : MethodName) prog_34_method_5_code 3 (some .double) :: ws) ({ frames := 0, cells := 0, slots := 0, locals := 0 } : Room)) (fun a U => a = #[(.ref a1)] ∧ Z.Warmed39 U.vm ∧ U.heap = h0) (fun _ _ _ _ _ => True) (fun _ U o U' => ∃ v L, o = .returned v ∧ Q_vari1 Z a1 u1 u2 h0 n0 v U'.heap L ∧ FrameEnd U o U' L ({ frames := 0, cells := 0, slots := 0, locals := 0 } : Room).cells ({ frames := 0, cells := 0, slots := 0, locals := 0 } : Room).slots) := by
  refine MetFree.of_bodySF (plainFor_of_name pn_com_2fexample_2fsurety_2fsurety_2fcore_2fParetoUpTimes) hisR ?_
  intro p e s m args below meth c s₁ Bd hml0 hP hK
  obtain ⟨rfl, hZ, hh⟩ := hP
  have hx := Bd.exec
  have hby := Bd.bytes
  have hml : c.maxLocals = 3 := hml0
  have hown : s.vm.findClass "com/example/surety/surety/core/ParetoUpTimes" = some m.cls := findClass_of_methodNamed Bd.named
  have hnm := (name_of_methodNamed Bd.named Bd.method).1
  have X0 : Stand p l e ({ frames := 0, cells := 0, slots := 0, locals := 0 } : Room) s m #[(.ref a1)] below meth c s₁ [] 0 0 := Stand.of_body Bd
  have e0 : s₁.heap = h0 := by rw [← hh, Bd.state]; rfl
  have N0 := Fr.nil n0
  have k0 : ∀ t, Steps p.tables e below (s₁.setTop (mkF m 0 #[.val (.ref a1), .unset, .unset] [])) t → Steps p.tables e below (s₁.setTop (entryFrame m #[(.ref a1)] 3)) t := fun t k => castTop (ef_5_R m a1) k
  have k101 : ∀ t, Steps p.tables e below (s₁.setTop (mkF m 1 #[.val (.ref a1), .unset, .unset] [(.ref a1)])) t → Steps p.tables e below (s₁.setTop (entryFrame m #[(.ref a1)] 3)) t := fun t k => k0 t (by
    show Steps p.tables e below (s₁.setTop (mkF m 0 #[.val (.ref a1), .unset, .unset] [])) _
    refine XS.aloadN X0.here hx rfl (hb hby d5_0) rfl rfl ?_
    exact k)
  obtain ⟨T102, X102, e102, st102⟩ := getF X0 hx hZ hown (host := "") (Or.inl (hw _ (List.mem_of_getElem? (i := 33) rfl))) Via.refl e0 F2 (g := (mkF m 1 #[.val (.ref a1), .unset, .unset] [(.ref a1)])) rfl rfl (hb hby d5_1)
  have k103 : ∀ t, Steps p.tables e below (T102.setTop (mkF m 4 #[.val (.ref a1), .unset, .unset] [(.double u2)])) t → Steps p.tables e below (s₁.setTop (entryFrame m #[(.ref a1)] 3)) t := fun t k => k101 t (st102 t k)
  have k104 : ∀ t, Steps p.tables e below (T102.setTop (mkF m 16 #[.val (.ref a1), .unset, .unset] [(.ref a1)])) t → Steps p.tables e below (s₁.setTop (entryFrame m #[(.ref a1)] 3)) t := fun t k => k103 t (by
    show Steps p.tables e below (T102.setTop (mkF m 4 #[.val (.ref a1), .unset, .unset] [(.double u2)])) _
    refine X102.ldc2DoubleC hx hown (mvT hZ (hw _ (List.mem_of_getElem? (i := 40) rfl))) (g := (mkF m 4 #[.val (.ref a1), .unset, .unset] [(.double u2)])) rfl (hb hby d5_4) _ ?_
    show Steps p.tables e below (T102.setTop (mkF m 7 #[.val (.ref a1), .unset, .unset] [(.double (4611686018427387904 : UInt64)), (.double u2)])) _
    refine XS.dcmpS X102.here hx rfl (hb hby d5_7) rfl rfl ?_
    show Steps p.tables e below (T102.setTop (mkF m 8 #[.val (.ref a1), .unset, .unset] [(.int (cmpValue (FP.dcmp u2 (4611686018427387904 : UInt64)) .g))])) _
    refine XS.ifYes X102.here hx rfl (pc0 := 8) (pc' := 15) rfl (hb hby d5_8) rfl ((if0 _ _).trans (tlt c8).2.2.1) (by decide) (by decide) ?_
    show Steps p.tables e below (T102.setTop (mkF m 15 #[.val (.ref a1), .unset, .unset] [])) _
    refine XS.aloadN X102.here hx rfl (hb hby d5_15) rfl rfl ?_
    exact k)
  obtain ⟨T105, X105, e105, st105⟩ := getF X102 hx hZ hown (host := "") (Or.inl (hw _ (List.mem_of_getElem? (i := 31) rfl))) Via.refl e102 F1 (g := (mkF m 16 #[.val (.ref a1), .unset, .unset] [(.ref a1)])) rfl rfl (hb hby d5_16)
  have k106 : ∀ t, Steps p.tables e below (T105.setTop (mkF m 19 #[.val (.ref a1), .unset, .unset] [(.double u1)])) t → Steps p.tables e below (s₁.setTop (entryFrame m #[(.ref a1)] 3)) t := fun t k => k104 t (st105 t k)
  have k107 : ∀ t, Steps p.tables e below (T105.setTop (mkF m 20 #[.val (.ref a1), .unset, .unset] [(.ref a1), (.double u1)])) t → Steps p.tables e below (s₁.setTop (entryFrame m #[(.ref a1)] 3)) t := fun t k => k106 t (by
    show Steps p.tables e below (T105.setTop (mkF m 19 #[.val (.ref a1), .unset, .unset] [(.double u1)])) _
    refine XS.aloadN X105.here hx rfl (hb hby d5_19) rfl rfl ?_
    exact k)
  obtain ⟨T108, X108, e108, st108⟩ := getF X105 hx hZ hown (host := "") (Or.inl (hw _ (List.mem_of_getElem? (i := 33) rfl))) Via.refl e105 F2 (g := (mkF m 20 #[.val (.ref a1), .unset, .unset] [(.ref a1), (.double u1)])) rfl rfl (hb hby d5_20)
  have k109 : ∀ t, Steps p.tables e below (T108.setTop (mkF m 23 #[.val (.ref a1), .unset, .unset] [(.double u2), (.double u1)])) t → Steps p.tables e below (s₁.setTop (entryFrame m #[(.ref a1)] 3)) t := fun t k => k107 t (st108 t k)
  have k110 : ∀ t, Steps p.tables e below (T108.setTop (mkF m 31 #[.val (.ref a1), .val (.double (FP.ddiv u1 (FP.dsub u2 (4607182418800017408 : UInt64)))), .second] [(.ref a1), (.double (FP.dmul (FP.ddiv u1 (FP.dsub u2 (4607182418800017408 : UInt64))) (FP.ddiv u1 (FP.dsub u2 (4607182418800017408 : UInt64)))))])) t → Steps p.tables e below (s₁.setTop (entryFrame m #[(.ref a1)] 3)) t := fun t k => k109 t (by
    show Steps p.tables e below (T108.setTop (mkF m 23 #[.val (.ref a1), .unset, .unset] [(.double u2), (.double u1)])) _
    refine XS.dconst1 X108.here hx rfl (hb hby d5_23) (v := (4607182418800017408 : UInt64)) rfl ?_
    show Steps p.tables e below (T108.setTop (mkF m 24 #[.val (.ref a1), .unset, .unset] [(.double (4607182418800017408 : UInt64)), (.double u2), (.double u1)])) _
    refine XS.dsubS X108.here hx rfl (hb hby d5_24) rfl (nn24) rfl ?_
    show Steps p.tables e below (T108.setTop (mkF m 25 #[.val (.ref a1), .unset, .unset] [(.double (FP.dsub u2 (4607182418800017408 : UInt64))), (.double u1)])) _
    refine XS.ddivS X108.here hx rfl (hb hby d5_25) rfl (nn25) rfl ?_
    show Steps p.tables e below (T108.setTop (mkF m 26 #[.val (.ref a1), .unset, .unset] [(.double (FP.ddiv u1 (FP.dsub u2 (4607182418800017408 : UInt64))))])) _
    refine XS.dstoreN X108.here hx rfl (hb hby d5_26) rfl (l' := #[.val (.ref a1), .val (.double (FP.ddiv u1 (FP.dsub u2 (4607182418800017408 : UInt64)))), .second]) rfl ?_
    show Steps p.tables e below (T108.setTop (mkF m 27 #[.val (.ref a1), .val (.double (FP.ddiv u1 (FP.dsub u2 (4607182418800017408 : UInt64)))), .second] [])) _
    refine XS.dloadN X108.here hx rfl (hb hby d5_27) rfl ?_
    show Steps p.tables e below (T108.setTop (mkF m 28 #[.val (.ref a1), .val (.double (FP.ddiv u1 (FP.dsub u2 (4607182418800017408 : UInt64)))), .second] [(.double (FP.ddiv u1 (FP.dsub u2 (4607182418800017408 : UInt64))))])) _
    refine XS.dloadN X108.here hx rfl (hb hby d5_28) rfl ?_
    show Steps p.tables e below (T108.setTop (mkF m 29 #[.val (.ref a1), .val (.double (FP.ddiv u1 (FP.dsub u2 (4607182418800017408 : UInt64)))), .second] [(.double (FP.ddiv u1 (FP.dsub u2 (4607182418800017408 : UInt64)))), (.double (FP.ddiv u1 (FP.dsub u2 (4607182418800017408 : UInt64))))])) _
    refine XS.dmulS X108.here hx rfl (hb hby d5_29) rfl (nn29) rfl ?_
    show Steps p.tables e below (T108.setTop (mkF m 30 #[.val (.ref a1), .val (.double (FP.ddiv u1 (FP.dsub u2 (4607182418800017408 : UInt64)))), .second] [(.double (FP.dmul (FP.ddiv u1 (FP.dsub u2 (4607182418800017408 : UInt64))) (FP.ddiv u1 (FP.dsub u2 (4607182418800017408 : UInt64)))))])) _
    refine XS.aloadN X108.here hx rfl (hb hby d5_30) rfl rfl ?_
    exact k)
  obtain ⟨T111, X111, e111, st111⟩ := getF X108 hx hZ hown (host := "") (Or.inl (hw _ (List.mem_of_getElem? (i := 33) rfl))) Via.refl e108 F2 (g := (mkF m 31 #[.val (.ref a1), .val (.double (FP.ddiv u1 (FP.dsub u2 (4607182418800017408 : UInt64)))), .second] [(.ref a1), (.double (FP.dmul (FP.ddiv u1 (FP.dsub u2 (4607182418800017408 : UInt64))) (FP.ddiv u1 (FP.dsub u2 (4607182418800017408 : UInt64)))))])) rfl rfl (hb hby d5_31)
  have k112 : ∀ t, Steps p.tables e below (T111.setTop (mkF m 34 #[.val (.ref a1), .val (.double (FP.ddiv u1 (FP.dsub u2 (4607182418800017408 : UInt64)))), .second] [(.double u2), (.double (FP.dmul (FP.ddiv u1 (FP.dsub u2 (4607182418800017408 : UInt64))) (FP.ddiv u1 (FP.dsub u2 (4607182418800017408 : UInt64)))))])) t → Steps p.tables e below (s₁.setTop (entryFrame m #[(.ref a1)] 3)) t := fun t k => k110 t (st111 t k)
  have k113 : ∀ t, Steps p.tables e below (T111.setTop (mkF m 36 #[.val (.ref a1), .val (.double (FP.ddiv u1 (FP.dsub u2 (4607182418800017408 : UInt64)))), .second] [(.ref a1), (.double (FP.dmul (FP.dmul (FP.ddiv u1 (FP.dsub u2 (4607182418800017408 : UInt64))) (FP.ddiv u1 (FP.dsub u2 (4607182418800017408 : UInt64)))) u2))])) t → Steps p.tables e below (s₁.setTop (entryFrame m #[(.ref a1)] 3)) t := fun t k => k112 t (by
    show Steps p.tables e below (T111.setTop (mkF m 34 #[.val (.ref a1), .val (.double (FP.ddiv u1 (FP.dsub u2 (4607182418800017408 : UInt64)))), .second] [(.double u2), (.double (FP.dmul (FP.ddiv u1 (FP.dsub u2 (4607182418800017408 : UInt64))) (FP.ddiv u1 (FP.dsub u2 (4607182418800017408 : UInt64)))))])) _
    refine XS.dmulS X111.here hx rfl (hb hby d5_34) rfl (nn34) rfl ?_
    show Steps p.tables e below (T111.setTop (mkF m 35 #[.val (.ref a1), .val (.double (FP.ddiv u1 (FP.dsub u2 (4607182418800017408 : UInt64)))), .second] [(.double (FP.dmul (FP.dmul (FP.ddiv u1 (FP.dsub u2 (4607182418800017408 : UInt64))) (FP.ddiv u1 (FP.dsub u2 (4607182418800017408 : UInt64)))) u2))])) _
    refine XS.aloadN X111.here hx rfl (hb hby d5_35) rfl rfl ?_
    exact k)
  obtain ⟨T114, X114, e114, st114⟩ := getF X111 hx hZ hown (host := "") (Or.inl (hw _ (List.mem_of_getElem? (i := 33) rfl))) Via.refl e111 F2 (g := (mkF m 36 #[.val (.ref a1), .val (.double (FP.ddiv u1 (FP.dsub u2 (4607182418800017408 : UInt64)))), .second] [(.ref a1), (.double (FP.dmul (FP.dmul (FP.ddiv u1 (FP.dsub u2 (4607182418800017408 : UInt64))) (FP.ddiv u1 (FP.dsub u2 (4607182418800017408 : UInt64)))) u2))])) rfl rfl (hb hby d5_36)
  have k115 : ∀ t, Steps p.tables e below (T114.setTop (mkF m 39 #[.val (.ref a1), .val (.double (FP.ddiv u1 (FP.dsub u2 (4607182418800017408 : UInt64)))), .second] [(.double u2), (.double (FP.dmul (FP.dmul (FP.ddiv u1 (FP.dsub u2 (4607182418800017408 : UInt64))) (FP.ddiv u1 (FP.dsub u2 (4607182418800017408 : UInt64)))) u2))])) t → Steps p.tables e below (s₁.setTop (entryFrame m #[(.ref a1)] 3)) t := fun t k => k113 t (st114 t k)
  have k116 : ∀ t, Steps p.tables e below (T114.setTop (mkF m 44 #[.val (.ref a1), .val (.double (FP.ddiv u1 (FP.dsub u2 (4607182418800017408 : UInt64)))), .second] [(.double (FP.ddiv (FP.dmul (FP.dmul (FP.ddiv u1 (FP.dsub u2 (4607182418800017408 : UInt64))) (FP.ddiv u1 (FP.dsub u2 (4607182418800017408 : UInt64)))) u2) (FP.dsub u2 (4611686018427387904 : UInt64))))])) t → Steps p.tables e below (s₁.setTop (entryFrame m #[(.ref a1)] 3)) t := fun t k => k115 t (by
    show Steps p.tables e below (T114.setTop (mkF m 39 #[.val (.ref a1), .val (.double (FP.ddiv u1 (FP.dsub u2 (4607182418800017408 : UInt64)))), .second] [(.double u2), (.double (FP.dmul (FP.dmul (FP.ddiv u1 (FP.dsub u2 (4607182418800017408 : UInt64))) (FP.ddiv u1 (FP.dsub u2 (4607182418800017408 : UInt64)))) u2))])) _
    refine X114.ldc2DoubleC hx hown (mvT hZ (hw _ (List.mem_of_getElem? (i := 40) rfl))) (g := (mkF m 39 #[.val (.ref a1), .val (.double (FP.ddiv u1 (FP.dsub u2 (4607182418800017408 : UInt64)))), .second] [(.double u2), (.double (FP.dmul (FP.dmul (FP.ddiv u1 (FP.dsub u2 (4607182418800017408 : UInt64))) (FP.ddiv u1 (FP.dsub u2 (4607182418800017408 : UInt64)))) u2))])) rfl (hb hby d5_39) _ ?_
    show Steps p.tables e below (T114.setTop (mkF m 42 #[.val (.ref a1), .val (.double (FP.ddiv u1 (FP.dsub u2 (4607182418800017408 : UInt64)))), .second] [(.double (4611686018427387904 : UInt64)), (.double u2), (.double (FP.dmul (FP.dmul (FP.ddiv u1 (FP.dsub u2 (4607182418800017408 : UInt64))) (FP.ddiv u1 (FP.dsub u2 (4607182418800017408 : UInt64)))) u2))])) _
    refine XS.dsubS X114.here hx rfl (hb hby d5_42) rfl (nn42) rfl ?_
    show Steps p.tables e below (T114.setTop (mkF m 43 #[.val (.ref a1), .val (.double (FP.ddiv u1 (FP.dsub u2 (4607182418800017408 : UInt64)))), .second] [(.double (FP.dsub u2 (4611686018427387904 : UInt64))), (.double (FP.dmul (FP.dmul (FP.ddiv u1 (FP.dsub u2 (4607182418800017408 : UInt64))) (FP.ddiv u1 (FP.dsub u2 (4607182418800017408 : UInt64)))) u2))])) _
    refine XS.ddivS X114.here hx rfl (hb hby d5_43) rfl (nn43) rfl ?_
    exact k)
  obtain ⟨fs, hr, hrun, hended, hW, hsame⟩ := X114.leave (v := some (.double (FP.ddiv (FP.dmul (FP.dmul (FP.ddiv u1 (FP.dsub u2 (4607182418800017408 : UInt64))) (FP.ddiv u1 (FP.dsub u2 (4607182418800017408 : UInt64)))) u2) (FP.dsub u2 (4611686018427387904 : UInt64))))) (fun h => by rw [Bd.returns] at h; cases h)
  refine ⟨_, _, k116 _ (retOut X114 hx (t := .double) Bd.returns rfl (Or.inr (Or.inr (Or.inl ⟨rfl, rfl, _, rfl⟩))) (hb hby d5_44) hr), hrun, hended, _, _, rfl, ?_, ⟨_, rfl⟩, hW, hsame.mono (by decide) (by decide)⟩
  show Q_vari1 Z a1 u1 u2 h0 n0 _ T114.heap _
  rw [e114]
  exact ⟨rfl, N0, rfl⟩
theorem d5_11 : decode prog_34_method_5_code 11 = .ok (.ldc2_w 26, 3) := by decide +kernel
theorem d5_14 : decode prog_34_method_5_code 14 = .ok (.dreturn, 1) := by decide +kernel
def Q_vari0 (Z : State) (a1 : Addr) (u1 : UInt64) (u2 : UInt64) (h0 : Heap) (n0 : Nat) (v : Option Value) (h : Heap) (L : List Loc) : Prop := v = some (.double (9218868437227405312 : UInt64)) ∧ Fr n0 L ∧ h = h0
set_option maxRecDepth 65536 in
set_option maxHeartbeats 40000000 in
theorem vari0 (l : Launch) (Z : State) (a0 : Array Value) (hw : ∀ d ∈ tables_1, d.before a0 Z = true) (ws : List Jvm.Cond) (a1 : Addr) (u1 : UInt64) (u2 : UInt64) (h0 : Heap) (n0 : Nat) (Z0 : n0 ≤ h0.size) (F1 : Fld Z h0 a1 "com/example/surety/surety/core/ParetoUpTimes" "h" "D" (.double u1)) (F2 : Fld Z h0 a1 "com/example/surety/surety/core/ParetoUpTimes" "alpha" "D" (.double u2)) (c8 : ¬ ((0 : Int32) < cmpValue (FP.dcmp u2 (4611686018427387904 : UInt64)) .g)) :
    MetFree l (⟨"com/example/surety/surety/core/ParetoUpTimes", "variance", "()D"⟩ : MethodName) (head1 (Jvm.Cond.code (⟨"com/example/surety/surety/core/ParetoUpTimes", "variance", "()D"⟩ : MethodName) prog_34_method_5_code 3 (some .double) :: ws) ({ frames := 0, cells := 0, slots := 0, locals := 0 } : Room)) (fun a U => a = #[(.ref a1)] ∧ Z.Warmed39 U.vm ∧ U.heap = h0) (fun _ _ _ _ _ => True) (fun _ U o U' => ∃ v L, o = .returned v ∧ Q_vari0 Z a1 u1 u2 h0 n0 v U'.heap L ∧ FrameEnd U o U' L ({ frames := 0, cells := 0, slots := 0, locals := 0 } : Room).cells ({ frames := 0, cells := 0, slots := 0, locals := 0 } : Room).slots) := by
  refine MetFree.of_bodySF (plainFor_of_name pn_com_2fexample_2fsurety_2fsurety_2fcore_2fParetoUpTimes) hisR ?_
  intro p e s m args below meth c s₁ Bd hml0 hP hK
  obtain ⟨rfl, hZ, hh⟩ := hP
  have hx := Bd.exec
  have hby := Bd.bytes
  have hml : c.maxLocals = 3 := hml0
  have hown : s.vm.findClass "com/example/surety/surety/core/ParetoUpTimes" = some m.cls := findClass_of_methodNamed Bd.named
  have hnm := (name_of_methodNamed Bd.named Bd.method).1
  have X0 : Stand p l e ({ frames := 0, cells := 0, slots := 0, locals := 0 } : Room) s m #[(.ref a1)] below meth c s₁ [] 0 0 := Stand.of_body Bd
  have e0 : s₁.heap = h0 := by rw [← hh, Bd.state]; rfl
  have N0 := Fr.nil n0
  have k0 : ∀ t, Steps p.tables e below (s₁.setTop (mkF m 0 #[.val (.ref a1), .unset, .unset] [])) t → Steps p.tables e below (s₁.setTop (entryFrame m #[(.ref a1)] 3)) t := fun t k => castTop (ef_5_R m a1) k
  have k101 : ∀ t, Steps p.tables e below (s₁.setTop (mkF m 1 #[.val (.ref a1), .unset, .unset] [(.ref a1)])) t → Steps p.tables e below (s₁.setTop (entryFrame m #[(.ref a1)] 3)) t := fun t k => k0 t (by
    show Steps p.tables e below (s₁.setTop (mkF m 0 #[.val (.ref a1), .unset, .unset] [])) _
    refine XS.aloadN X0.here hx rfl (hb hby d5_0) rfl rfl ?_
    exact k)
  obtain ⟨T102, X102, e102, st102⟩ := getF X0 hx hZ hown (host := "") (Or.inl (hw _ (List.mem_of_getElem? (i := 33) rfl))) Via.refl e0 F2 (g := (mkF m 1 #[.val (.ref a1), .unset, .unset] [(.ref a1)])) rfl rfl (hb hby d5_1)
  have k103 : ∀ t, Steps p.tables e below (T102.setTop (mkF m 4 #[.val (.ref a1), .unset, .unset] [(.double u2)])) t → Steps p.tables e below (s₁.setTop (entryFrame m #[(.ref a1)] 3)) t := fun t k => k101 t (st102 t k)
  have k104 : ∀ t, Steps p.tables e below (T102.setTop (mkF m 14 #[.val (.ref a1), .unset, .unset] [(.double (9218868437227405312 : UInt64))])) t → Steps p.tables e below (s₁.setTop (entryFrame m #[(.ref a1)] 3)) t := fun t k => k103 t (by
    show Steps p.tables e below (T102.setTop (mkF m 4 #[.val (.ref a1), .unset, .unset] [(.double u2)])) _
    refine X102.ldc2DoubleC hx hown (mvT hZ (hw _ (List.mem_of_getElem? (i := 40) rfl))) (g := (mkF m 4 #[.val (.ref a1), .unset, .unset] [(.double u2)])) rfl (hb hby d5_4) _ ?_
    show Steps p.tables e below (T102.setTop (mkF m 7 #[.val (.ref a1), .unset, .unset] [(.double (4611686018427387904 : UInt64)), (.double u2)])) _
    refine XS.dcmpS X102.here hx rfl (hb hby d5_7) rfl rfl ?_
    show Steps p.tables e below (T102.setTop (mkF m 8 #[.val (.ref a1), .unset, .unset] [(.int (cmpValue (FP.dcmp u2 (4611686018427387904 : UInt64)) .g))])) _
    refine XS.ifNo X102.here hx rfl (hb hby d5_8) rfl ((if0 _ _).trans (flt c8).2.2.1) ?_
    show Steps p.tables e below (T102.setTop (mkF m 11 #[.val (.ref a1), .unset, .unset] [])) _
    refine X102.ldc2DoubleC hx hown (mvT hZ (hw _ (List.mem_of_getElem? (i := 41) rfl))) (g := (mkF m 11 #[.val (.ref a1), .unset, .unset] [])) rfl (hb hby d5_11) _ ?_
    exact k)
  obtain ⟨fs, hr, hrun, hended, hW, hsame⟩ := X102.leave (v := some (.double (9218868437227405312 : UInt64))) (fun h => by rw [Bd.returns] at h; cases h)
  refine ⟨_, _, k104 _ (retOut X102 hx (t := .double) Bd.returns rfl (Or.inr (Or.inr (Or.inl ⟨rfl, rfl, _, rfl⟩))) (hb hby d5_14) hr), hrun, hended, _, _, rfl, ?_, ⟨_, rfl⟩, hW, hsame.mono (by decide) (by decide)⟩
  show Q_vari0 Z a1 u1 u2 h0 n0 _ T102.heap _
  rw [e102]
  exact ⟨rfl, N0, rfl⟩
theorem ef_0_IIII (m : MethodId) (x0 : Int32) (x1 : Int32) (x2 : Int32) (x3 : Int32) : entryFrame m #[(.int x0), (.int x1), (.int x2), (.int x3)] maxLocals = mkF m 0 #[.val (.int x0), .val (.int x1), .val (.int x2), .val (.int x3), .unset, .unset, .unset, .unset, .unset, .unset, .unset, .unset, .unset, .unset, .unset, .unset, .unset, .unset] [] := by first | (simp [entryFrame, mkF, argsToLocals, Value.category, maxLocals]; done) | rfl
theorem pd__28DD_29V : parseMethodDescriptor "(DD)V" = some ⟨[.double, .double], none⟩ := by decide +kernel
theorem pd__28_29D : parseMethodDescriptor "()D" = some ⟨[], some .double⟩ := by decide +kernel
def Q_rm0 (Z : State) (p0 : Int32) (p1 : Int32) (p2 : Int32) (p3 : Int32) (h0 : Heap) (n0 : Nat) (v : Option Value) (h : Heap) (L : List Loc) : Prop := v = some (.int 1) ∧ Fr n0 L
theorem pn_com_2fexample_2fsurety_2fsurety_2fcore_2fParetoUpTimesVariancePinLaw : plainName "com/example/surety/surety/core/ParetoUpTimesVariancePinLaw" = true := by first | (simp [plainName, overriddenIn]; done) | decide +kernel
set_option maxRecDepth 65536 in
set_option maxHeartbeats 40000000 in
theorem rm0 (l : Launch) (Z : State) (a0 : Array Value) (hw : ∀ d ∈ tables_1, d.before a0 Z = true) (ws : List Jvm.Cond) (p0 : Int32) (p1 : Int32) (p2 : Int32) (p3 : Int32) (h0 : Heap) (n0 : Nat) (Z0 : n0 ≤ h0.size) :
    MetFree l x (head1 (Jvm.Cond.code x code maxLocals ret :: ws) room_1) (fun a U => a = #[(.int p0), (.int p1), (.int p2), (.int p3)] ∧ Z.Warmed39 U.vm ∧ U.heap = h0) (fun _ _ _ _ _ => True) (fun _ U o U' => ∃ v L, o = .returned v ∧ Q_rm0 Z p0 p1 p2 p3 h0 n0 v U'.heap L ∧ ReturnedEndW U o U' L room_1.cells room_1.slots) := by
  refine MetFree.of_bodySF (plainFor_of_name pn_com_2fexample_2fsurety_2fsurety_2fcore_2fParetoUpTimesVariancePinLaw) hisR ?_
  intro p e s m args below meth c s₁ Bd hml0 hP hK
  obtain ⟨rfl, hZ, hh⟩ := hP
  have hx := Bd.exec
  have hby := Bd.bytes
  have hml : c.maxLocals = 18 := hml0
  have hown : s.vm.findClass "com/example/surety/surety/core/ParetoUpTimesVariancePinLaw" = some m.cls := findClass_of_methodNamed Bd.named
  have hnm := (name_of_methodNamed Bd.named Bd.method).1
  have X0 : Stand p l e room_1 s m #[(.int p0), (.int p1), (.int p2), (.int p3)] below meth c s₁ [] 0 0 := Stand.of_body Bd
  have e0 : s₁.heap = h0 := by rw [← hh, Bd.state]; rfl
  have N0 := Fr.nil n0
  have hS0 : s.Since s.vm 0 := Jvm.OwnFp.since0 s
  have k0 : ∀ t, Steps p.tables e below (s₁.setTop (mkF m 0 #[.val (.int p0), .val (.int p1), .val (.int p2), .val (.int p3), .unset, .unset, .unset, .unset, .unset, .unset, .unset, .unset, .unset, .unset, .unset, .unset, .unset, .unset] [])) t → Steps p.tables e below (s₁.setTop (entryFrame m #[(.int p0), (.int p1), (.int p2), (.int p3)] maxLocals)) t := fun t k => castTop (ef_0_IIII m p0 p1 p2 p3) k
  obtain ⟨mm, hmm⟩ : ∃ z : Int32, z = ((p1 &&& (65535 : Int32)) + (1 : Int32)) := ⟨_, rfl⟩
  obtain ⟨ss, hss⟩ : ∃ z : Int32, z = (p2 &&& (15 : Int32)) := ⟨_, rfl⟩
  have k101 : ∀ t, Steps p.tables e below (s₁.setTop (mkF m 14 #[.val (.int p0), .val (.int p1), .val (.int p2), .val (.int p3), .val (.int mm), .val (.int ss), .unset, .unset, .unset, .unset, .unset, .unset, .unset, .unset, .unset, .unset, .unset, .unset] [])) t → Steps p.tables e below (s₁.setTop (entryFrame m #[(.int p0), (.int p1), (.int p2), (.int p3)] maxLocals)) t := fun t k => k0 t (by
    show Steps p.tables e below (s₁.setTop (mkF m 0 #[.val (.int p0), .val (.int p1), .val (.int p2), .val (.int p3), .unset, .unset, .unset, .unset, .unset, .unset, .unset, .unset, .unset, .unset, .unset, .unset, .unset, .unset] [])) _
    refine XS.iloadN X0.here hx rfl (hb hby at_0) rfl ?_
    show Steps p.tables e below (s₁.setTop (mkF m 1 #[.val (.int p0), .val (.int p1), .val (.int p2), .val (.int p3), .unset, .unset, .unset, .unset, .unset, .unset, .unset, .unset, .unset, .unset, .unset, .unset, .unset, .unset] [(.int p1)])) _
    refine X0.ldcInt hx hown (mvT hZ (hw _ (List.mem_of_getElem? (i := 0) rfl))) (g := (mkF m 1 #[.val (.int p0), .val (.int p1), .val (.int p2), .val (.int p3), .unset, .unset, .unset, .unset, .unset, .unset, .unset, .unset, .unset, .unset, .unset, .unset, .unset, .unset] [(.int p1)])) rfl (hb hby at_1) _ ?_
    show Steps p.tables e below (s₁.setTop (mkF m 3 #[.val (.int p0), .val (.int p1), .val (.int p2), .val (.int p3), .unset, .unset, .unset, .unset, .unset, .unset, .unset, .unset, .unset, .unset, .unset, .unset, .unset, .unset] [(.int (65535 : Int32)), (.int p1)])) _
    refine XS.iand X0.here hx rfl (hb hby at_3) rfl ?_
    show Steps p.tables e below (s₁.setTop (mkF m 4 #[.val (.int p0), .val (.int p1), .val (.int p2), .val (.int p3), .unset, .unset, .unset, .unset, .unset, .unset, .unset, .unset, .unset, .unset, .unset, .unset, .unset, .unset] [(.int (p1 &&& (65535 : Int32)))])) _
    refine XS.iconst X0.here hx rfl (hb hby at_4) ?_
    show Steps p.tables e below (s₁.setTop (mkF m 5 #[.val (.int p0), .val (.int p1), .val (.int p2), .val (.int p3), .unset, .unset, .unset, .unset, .unset, .unset, .unset, .unset, .unset, .unset, .unset, .unset, .unset, .unset] [(.int (1 : Int32)), (.int (p1 &&& (65535 : Int32)))])) _
    refine XS.iadd X0.here hx rfl (hb hby at_5) rfl ?_
    show Steps p.tables e below (s₁.setTop (mkF m 6 #[.val (.int p0), .val (.int p1), .val (.int p2), .val (.int p3), .unset, .unset, .unset, .unset, .unset, .unset, .unset, .unset, .unset, .unset, .unset, .unset, .unset, .unset] [(.int ((p1 &&& (65535 : Int32)) + (1 : Int32)))])) _
    refine castTop (g' := (mkF m 6 #[.val (.int p0), .val (.int p1), .val (.int p2), .val (.int p3), .unset, .unset, .unset, .unset, .unset, .unset, .unset, .unset, .unset, .unset, .unset, .unset, .unset, .unset] [(.int mm)])) (by rw [hmm]) ?_
    show Steps p.tables e below (s₁.setTop (mkF m 6 #[.val (.int p0), .val (.int p1), .val (.int p2), .val (.int p3), .unset, .unset, .unset, .unset, .unset, .unset, .unset, .unset, .unset, .unset, .unset, .unset, .unset, .unset] [(.int mm)])) _
    refine XS.istore X0.here hx rfl (hb hby at_6) rfl (l' := #[.val (.int p0), .val (.int p1), .val (.int p2), .val (.int p3), .val (.int mm), .unset, .unset, .unset, .unset, .unset, .unset, .unset, .unset, .unset, .unset, .unset, .unset, .unset]) rfl ?_
    show Steps p.tables e below (s₁.setTop (mkF m 8 #[.val (.int p0), .val (.int p1), .val (.int p2), .val (.int p3), .val (.int mm), .unset, .unset, .unset, .unset, .unset, .unset, .unset, .unset, .unset, .unset, .unset, .unset, .unset] [])) _
    refine XS.iloadN X0.here hx rfl (hb hby at_8) rfl ?_
    show Steps p.tables e below (s₁.setTop (mkF m 9 #[.val (.int p0), .val (.int p1), .val (.int p2), .val (.int p3), .val (.int mm), .unset, .unset, .unset, .unset, .unset, .unset, .unset, .unset, .unset, .unset, .unset, .unset, .unset] [(.int p2)])) _
    refine XS.bipush X0.here hx rfl (hb hby at_9) ?_
    show Steps p.tables e below (s₁.setTop (mkF m 11 #[.val (.int p0), .val (.int p1), .val (.int p2), .val (.int p3), .val (.int mm), .unset, .unset, .unset, .unset, .unset, .unset, .unset, .unset, .unset, .unset, .unset, .unset, .unset] [(.int (15 : Int32)), (.int p2)])) _
    refine XS.iand X0.here hx rfl (hb hby at_11) rfl ?_
    show Steps p.tables e below (s₁.setTop (mkF m 12 #[.val (.int p0), .val (.int p1), .val (.int p2), .val (.int p3), .val (.int mm), .unset, .unset, .unset, .unset, .unset, .unset, .unset, .unset, .unset, .unset, .unset, .unset, .unset] [(.int (p2 &&& (15 : Int32)))])) _
    refine castTop (g' := (mkF m 12 #[.val (.int p0), .val (.int p1), .val (.int p2), .val (.int p3), .val (.int mm), .unset, .unset, .unset, .unset, .unset, .unset, .unset, .unset, .unset, .unset, .unset, .unset, .unset] [(.int ss)])) (by rw [hss]) ?_
    show Steps p.tables e below (s₁.setTop (mkF m 12 #[.val (.int p0), .val (.int p1), .val (.int p2), .val (.int p3), .val (.int mm), .unset, .unset, .unset, .unset, .unset, .unset, .unset, .unset, .unset, .unset, .unset, .unset, .unset] [(.int ss)])) _
    refine XS.istore X0.here hx rfl (hb hby at_12) rfl (l' := #[.val (.int p0), .val (.int p1), .val (.int p2), .val (.int p3), .val (.int mm), .val (.int ss), .unset, .unset, .unset, .unset, .unset, .unset, .unset, .unset, .unset, .unset, .unset, .unset]) rfl ?_
    exact k)
  have Bm := own_m p1 mm hmm
  obtain ⟨S, hS, shs, S15⟩ := own_s p2 ss hss
  obtain ⟨vm, hvm⟩ : ∃ z : UInt64, FP.i2d mm = z := ⟨_, rfl⟩
  have Dvm : Dy (mm.toInt) (0) vm := by rw [← hvm]; exact Dy.i2d _
  obtain ⟨vs, hvs⟩ : ∃ z : UInt64, FP.i2d ((1 : Int32) <<< (ss &&& 31)) = z := ⟨_, rfl⟩
  have Dvs : Dy (2 ^ S) (0) vs := by rw [← hvs]; exact shs ▸ Dy.i2d _
  obtain ⟨vh, hvh⟩ : ∃ z : UInt64, FP.ddiv vm vs = z := ⟨_, rfl⟩
  have Dvh : Dy (mm.toInt) (S) vh := by rw [← hvh]; exact Dy.div Dvm Dvs (Int.ne_of_gt (pw_pos _)) (by omega) (by omega) (by rw [Int.pow_zero, Int.mul_one, Int.mul_one])
  obtain ⟨sel, hsel⟩ : ∃ z : Int32, z = (p0 &&& (3 : Int32)) := ⟨_, rfl⟩
  have k102 : ∀ t, Steps p.tables e below (s₁.setTop (mkF m 32 #[.val (.int p0), .val (.int p1), .val (.int p2), .val (.int p3), .val (.int mm), .val (.int ss), .val (.double vh), .second, .val (.int sel), .unset, .unset, .unset, .unset, .unset, .unset, .unset, .unset, .unset] [(.int sel)])) t → Steps p.tables e below (s₁.setTop (entryFrame m #[(.int p0), (.int p1), (.int p2), (.int p3)] maxLocals)) t := fun t k => k101 t (by
    show Steps p.tables e below (s₁.setTop (mkF m 14 #[.val (.int p0), .val (.int p1), .val (.int p2), .val (.int p3), .val (.int mm), .val (.int ss), .unset, .unset, .unset, .unset, .unset, .unset, .unset, .unset, .unset, .unset, .unset, .unset] [])) _
    refine XS.iload X0.here hx rfl (hb hby at_14) rfl ?_
    show Steps p.tables e below (s₁.setTop (mkF m 16 #[.val (.int p0), .val (.int p1), .val (.int p2), .val (.int p3), .val (.int mm), .val (.int ss), .unset, .unset, .unset, .unset, .unset, .unset, .unset, .unset, .unset, .unset, .unset, .unset] [(.int mm)])) _
    refine XS.i2dS X0.here hx rfl (hb hby at_16) rfl hvm ?_
    show Steps p.tables e below (s₁.setTop (mkF m 17 #[.val (.int p0), .val (.int p1), .val (.int p2), .val (.int p3), .val (.int mm), .val (.int ss), .unset, .unset, .unset, .unset, .unset, .unset, .unset, .unset, .unset, .unset, .unset, .unset] [(.double vm)])) _
    refine XS.iconst X0.here hx rfl (hb hby at_17) ?_
    show Steps p.tables e below (s₁.setTop (mkF m 18 #[.val (.int p0), .val (.int p1), .val (.int p2), .val (.int p3), .val (.int mm), .val (.int ss), .unset, .unset, .unset, .unset, .unset, .unset, .unset, .unset, .unset, .unset, .unset, .unset] [(.int (1 : Int32)), (.double vm)])) _
    refine XS.iload X0.here hx rfl (hb hby at_18) rfl ?_
    show Steps p.tables e below (s₁.setTop (mkF m 20 #[.val (.int p0), .val (.int p1), .val (.int p2), .val (.int p3), .val (.int mm), .val (.int ss), .unset, .unset, .unset, .unset, .unset, .unset, .unset, .unset, .unset, .unset, .unset, .unset] [(.int ss), (.int (1 : Int32)), (.double vm)])) _
    refine XS.ishl X0.here hx rfl (hb hby at_20) rfl ?_
    show Steps p.tables e below (s₁.setTop (mkF m 21 #[.val (.int p0), .val (.int p1), .val (.int p2), .val (.int p3), .val (.int mm), .val (.int ss), .unset, .unset, .unset, .unset, .unset, .unset, .unset, .unset, .unset, .unset, .unset, .unset] [(.int ((1 : Int32) <<< (ss &&& 31))), (.double vm)])) _
    refine XS.i2dS X0.here hx rfl (hb hby at_21) rfl hvs ?_
    show Steps p.tables e below (s₁.setTop (mkF m 22 #[.val (.int p0), .val (.int p1), .val (.int p2), .val (.int p3), .val (.int mm), .val (.int ss), .unset, .unset, .unset, .unset, .unset, .unset, .unset, .unset, .unset, .unset, .unset, .unset] [(.double vs), (.double vm)])) _
    refine XS.ddivS X0.here hx rfl (hb hby at_22) rfl (by rw [hvh]; exact Dvh.nn) hvh ?_
    show Steps p.tables e below (s₁.setTop (mkF m 23 #[.val (.int p0), .val (.int p1), .val (.int p2), .val (.int p3), .val (.int mm), .val (.int ss), .unset, .unset, .unset, .unset, .unset, .unset, .unset, .unset, .unset, .unset, .unset, .unset] [(.double vh)])) _
    refine XS.dstore X0.here hx rfl (hb hby at_23) rfl (l' := #[.val (.int p0), .val (.int p1), .val (.int p2), .val (.int p3), .val (.int mm), .val (.int ss), .val (.double vh), .second, .unset, .unset, .unset, .unset, .unset, .unset, .unset, .unset, .unset, .unset]) rfl ?_
    show Steps p.tables e below (s₁.setTop (mkF m 25 #[.val (.int p0), .val (.int p1), .val (.int p2), .val (.int p3), .val (.int mm), .val (.int ss), .val (.double vh), .second, .unset, .unset, .unset, .unset, .unset, .unset, .unset, .unset, .unset, .unset] [])) _
    refine XS.iloadN X0.here hx rfl (hb hby at_25) rfl ?_
    show Steps p.tables e below (s₁.setTop (mkF m 26 #[.val (.int p0), .val (.int p1), .val (.int p2), .val (.int p3), .val (.int mm), .val (.int ss), .val (.double vh), .second, .unset, .unset, .unset, .unset, .unset, .unset, .unset, .unset, .unset, .unset] [(.int p0)])) _
    refine XS.iconst X0.here hx rfl (hb hby at_26) ?_
    show Steps p.tables e below (s₁.setTop (mkF m 27 #[.val (.int p0), .val (.int p1), .val (.int p2), .val (.int p3), .val (.int mm), .val (.int ss), .val (.double vh), .second, .unset, .unset, .unset, .unset, .unset, .unset, .unset, .unset, .unset, .unset] [(.int (3 : Int32)), (.int p0)])) _
    refine XS.iand X0.here hx rfl (hb hby at_27) rfl ?_
    show Steps p.tables e below (s₁.setTop (mkF m 28 #[.val (.int p0), .val (.int p1), .val (.int p2), .val (.int p3), .val (.int mm), .val (.int ss), .val (.double vh), .second, .unset, .unset, .unset, .unset, .unset, .unset, .unset, .unset, .unset, .unset] [(.int (p0 &&& (3 : Int32)))])) _
    refine castTop (g' := (mkF m 28 #[.val (.int p0), .val (.int p1), .val (.int p2), .val (.int p3), .val (.int mm), .val (.int ss), .val (.double vh), .second, .unset, .unset, .unset, .unset, .unset, .unset, .unset, .unset, .unset, .unset] [(.int sel)])) (by rw [hsel]) ?_
    show Steps p.tables e below (s₁.setTop (mkF m 28 #[.val (.int p0), .val (.int p1), .val (.int p2), .val (.int p3), .val (.int mm), .val (.int ss), .val (.double vh), .second, .unset, .unset, .unset, .unset, .unset, .unset, .unset, .unset, .unset, .unset] [(.int sel)])) _
    refine XS.istore X0.here hx rfl (hb hby at_28) rfl (l' := #[.val (.int p0), .val (.int p1), .val (.int p2), .val (.int p3), .val (.int mm), .val (.int ss), .val (.double vh), .second, .val (.int sel), .unset, .unset, .unset, .unset, .unset, .unset, .unset, .unset, .unset]) rfl ?_
    show Steps p.tables e below (s₁.setTop (mkF m 30 #[.val (.int p0), .val (.int p1), .val (.int p2), .val (.int p3), .val (.int mm), .val (.int ss), .val (.double vh), .second, .val (.int sel), .unset, .unset, .unset, .unset, .unset, .unset, .unset, .unset, .unset] [])) _
    refine XS.iload X0.here hx rfl (hb hby at_30) rfl ?_
    exact k)
  by_cases c0 : sel = (0 : Int32)
  · obtain ⟨nq, hnq⟩ : ∃ z : Int32, z = ((p3 &&& (2097151 : Int32)) + (1 : Int32)) := ⟨_, rfl⟩
    have k103 : ∀ t, Steps p.tables e below (s₁.setTop (mkF m 43 #[.val (.int p0), .val (.int p1), .val (.int p2), .val (.int p3), .val (.int mm), .val (.int ss), .val (.double vh), .second, .val (.int sel), .val (.int nq), .unset, .unset, .unset, .unset, .unset, .unset, .unset, .unset] [])) t → Steps p.tables e below (s₁.setTop (entryFrame m #[(.int p0), (.int p1), (.int p2), (.int p3)] maxLocals)) t := fun t k => k102 t (by
      show Steps p.tables e below (s₁.setTop (mkF m 32 #[.val (.int p0), .val (.int p1), .val (.int p2), .val (.int p3), .val (.int mm), .val (.int ss), .val (.double vh), .second, .val (.int sel), .unset, .unset, .unset, .unset, .unset, .unset, .unset, .unset, .unset] [(.int sel)])) _
      refine XS.ifNo X0.here hx rfl (hb hby at_32) rfl ((if0 _ _).trans (teq c0).2) ?_
      show Steps p.tables e below (s₁.setTop (mkF m 35 #[.val (.int p0), .val (.int p1), .val (.int p2), .val (.int p3), .val (.int mm), .val (.int ss), .val (.double vh), .second, .val (.int sel), .unset, .unset, .unset, .unset, .unset, .unset, .unset, .unset, .unset] [])) _
      refine XS.iloadN X0.here hx rfl (hb hby at_35) rfl ?_
      show Steps p.tables e below (s₁.setTop (mkF m 36 #[.val (.int p0), .val (.int p1), .val (.int p2), .val (.int p3), .val (.int mm), .val (.int ss), .val (.double vh), .second, .val (.int sel), .unset, .unset, .unset, .unset, .unset, .unset, .unset, .unset, .unset] [(.int p3)])) _
      refine X0.ldcInt hx hown (mvT hZ (hw _ (List.mem_of_getElem? (i := 1) rfl))) (g := (mkF m 36 #[.val (.int p0), .val (.int p1), .val (.int p2), .val (.int p3), .val (.int mm), .val (.int ss), .val (.double vh), .second, .val (.int sel), .unset, .unset, .unset, .unset, .unset, .unset, .unset, .unset, .unset] [(.int p3)])) rfl (hb hby at_36) _ ?_
      show Steps p.tables e below (s₁.setTop (mkF m 38 #[.val (.int p0), .val (.int p1), .val (.int p2), .val (.int p3), .val (.int mm), .val (.int ss), .val (.double vh), .second, .val (.int sel), .unset, .unset, .unset, .unset, .unset, .unset, .unset, .unset, .unset] [(.int (2097151 : Int32)), (.int p3)])) _
      refine XS.iand X0.here hx rfl (hb hby at_38) rfl ?_
      show Steps p.tables e below (s₁.setTop (mkF m 39 #[.val (.int p0), .val (.int p1), .val (.int p2), .val (.int p3), .val (.int mm), .val (.int ss), .val (.double vh), .second, .val (.int sel), .unset, .unset, .unset, .unset, .unset, .unset, .unset, .unset, .unset] [(.int (p3 &&& (2097151 : Int32)))])) _
      refine XS.iconst X0.here hx rfl (hb hby at_39) ?_
      show Steps p.tables e below (s₁.setTop (mkF m 40 #[.val (.int p0), .val (.int p1), .val (.int p2), .val (.int p3), .val (.int mm), .val (.int ss), .val (.double vh), .second, .val (.int sel), .unset, .unset, .unset, .unset, .unset, .unset, .unset, .unset, .unset] [(.int (1 : Int32)), (.int (p3 &&& (2097151 : Int32)))])) _
      refine XS.iadd X0.here hx rfl (hb hby at_40) rfl ?_
      show Steps p.tables e below (s₁.setTop (mkF m 41 #[.val (.int p0), .val (.int p1), .val (.int p2), .val (.int p3), .val (.int mm), .val (.int ss), .val (.double vh), .second, .val (.int sel), .unset, .unset, .unset, .unset, .unset, .unset, .unset, .unset, .unset] [(.int ((p3 &&& (2097151 : Int32)) + (1 : Int32)))])) _
      refine castTop (g' := (mkF m 41 #[.val (.int p0), .val (.int p1), .val (.int p2), .val (.int p3), .val (.int mm), .val (.int ss), .val (.double vh), .second, .val (.int sel), .unset, .unset, .unset, .unset, .unset, .unset, .unset, .unset, .unset] [(.int nq)])) (by rw [hnq]) ?_
      show Steps p.tables e below (s₁.setTop (mkF m 41 #[.val (.int p0), .val (.int p1), .val (.int p2), .val (.int p3), .val (.int mm), .val (.int ss), .val (.double vh), .second, .val (.int sel), .unset, .unset, .unset, .unset, .unset, .unset, .unset, .unset, .unset] [(.int nq)])) _
      refine XS.istore X0.here hx rfl (hb hby at_41) rfl (l' := #[.val (.int p0), .val (.int p1), .val (.int p2), .val (.int p3), .val (.int mm), .val (.int ss), .val (.double vh), .second, .val (.int sel), .val (.int nq), .unset, .unset, .unset, .unset, .unset, .unset, .unset, .unset]) rfl ?_
      exact k)
    have Bn := own_n0 p3 nq hnq
    obtain ⟨vn, hvn⟩ : ∃ z : UInt64, FP.i2d nq = z := ⟨_, rfl⟩
    have Dvn : Dy (nq.toInt) (0) vn := by rw [← hvn]; exact Dy.i2d _
    obtain ⟨al, hal⟩ : ∃ z : UInt64, FP.ddiv vn (4697254411347427328 : UInt64) = z := ⟨_, rfl⟩
    have Dal : Dy (nq.toInt) (20) al := by rw [← hal]; exact Dy.div Dvn own_m20 (by decide) (by omega) (by decide) (by omega)
    have k104 : ∀ t, Steps p.tables e below (s₁.setTop (mkF m 52 #[.val (.int p0), .val (.int p1), .val (.int p2), .val (.int p3), .val (.int mm), .val (.int ss), .val (.double vh), .second, .val (.int sel), .val (.int nq), .val (.double al), .second, .unset, .unset, .unset, .unset, .unset, .unset] [])) t → Steps p.tables e below (s₁.setTop (entryFrame m #[(.int p0), (.int p1), (.int p2), (.int p3)] maxLocals)) t := fun t k => k103 t (by
      show Steps p.tables e below (s₁.setTop (mkF m 43 #[.val (.int p0), .val (.int p1), .val (.int p2), .val (.int p3), .val (.int mm), .val (.int ss), .val (.double vh), .second, .val (.int sel), .val (.int nq), .unset, .unset, .unset, .unset, .unset, .unset, .unset, .unset] [])) _
      refine XS.iload X0.here hx rfl (hb hby at_43) rfl ?_
      show Steps p.tables e below (s₁.setTop (mkF m 45 #[.val (.int p0), .val (.int p1), .val (.int p2), .val (.int p3), .val (.int mm), .val (.int ss), .val (.double vh), .second, .val (.int sel), .val (.int nq), .unset, .unset, .unset, .unset, .unset, .unset, .unset, .unset] [(.int nq)])) _
      refine XS.i2dS X0.here hx rfl (hb hby at_45) rfl hvn ?_
      show Steps p.tables e below (s₁.setTop (mkF m 46 #[.val (.int p0), .val (.int p1), .val (.int p2), .val (.int p3), .val (.int mm), .val (.int ss), .val (.double vh), .second, .val (.int sel), .val (.int nq), .unset, .unset, .unset, .unset, .unset, .unset, .unset, .unset] [(.double vn)])) _
      refine X0.ldc2DoubleC hx hown (mvT hZ (hw _ (List.mem_of_getElem? (i := 2) rfl))) (g := (mkF m 46 #[.val (.int p0), .val (.int p1), .val (.int p2), .val (.int p3), .val (.int mm), .val (.int ss), .val (.double vh), .second, .val (.int sel), .val (.int nq), .unset, .unset, .unset, .unset, .unset, .unset, .unset, .unset] [(.double vn)])) rfl (hb hby at_46) _ ?_
      show Steps p.tables e below (s₁.setTop (mkF m 49 #[.val (.int p0), .val (.int p1), .val (.int p2), .val (.int p3), .val (.int mm), .val (.int ss), .val (.double vh), .second, .val (.int sel), .val (.int nq), .unset, .unset, .unset, .unset, .unset, .unset, .unset, .unset] [(.double (4697254411347427328 : UInt64)), (.double vn)])) _
      refine XS.ddivS X0.here hx rfl (hb hby at_49) rfl (by rw [hal]; exact Dal.nn) hal ?_
      show Steps p.tables e below (s₁.setTop (mkF m 50 #[.val (.int p0), .val (.int p1), .val (.int p2), .val (.int p3), .val (.int mm), .val (.int ss), .val (.double vh), .second, .val (.int sel), .val (.int nq), .unset, .unset, .unset, .unset, .unset, .unset, .unset, .unset] [(.double al)])) _
      refine XS.dstore X0.here hx rfl (hb hby at_50) rfl (l' := #[.val (.int p0), .val (.int p1), .val (.int p2), .val (.int p3), .val (.int mm), .val (.int ss), .val (.double vh), .second, .val (.int sel), .val (.int nq), .val (.double al), .second, .unset, .unset, .unset, .unset, .unset, .unset]) rfl ?_
      exact k)
    obtain ⟨T105, h105, X105, e105, E105, A105, D105, -, st105⟩ := newO X0 hx hZ hown (hw _ (List.mem_of_getElem? (i := 3) rfl)) (hw _ (List.mem_of_getElem? (i := 4) rfl)) (hw _ (List.mem_of_getElem? (i := 5) rfl)) e0 (g := (mkF m 52 #[.val (.int p0), .val (.int p1), .val (.int p2), .val (.int p3), .val (.int mm), .val (.int ss), .val (.double vh), .second, .val (.int sel), .val (.int nq), .val (.double al), .second, .unset, .unset, .unset, .unset, .unset, .unset] [])) rfl (hb hby at_52) (by decide) (by decide)
    obtain ⟨b105, g105⟩ : ∃ z, z = h0.size := ⟨_, rfl⟩
    rw [← g105] at A105 D105 st105
    have g106 : n0 ≤ b105 := Nat.le_trans Z0 (Nat.le_of_eq g105.symm)
    have Z107 : n0 ≤ h105.size := Nat.le_trans Z0 E105.1
    have hk108 : 0 ≤ h105.size := Nat.le_trans (Nat.zero_le _) E105.1
    have F109 : Fld Z h105 b105 "com/example/surety/surety/core/ParetoUpTimes" "h" "D" (.double (0 : UInt64)) := D105 (Or.inr (hw _ (List.mem_of_getElem? (i := 32) rfl))) (ty := .double) (by decide)
    have F110 : Fld Z h105 b105 "com/example/surety/surety/core/ParetoUpTimes" "alpha" "D" (.double (0 : UInt64)) := D105 (Or.inr (hw _ (List.mem_of_getElem? (i := 34) rfl))) (ty := .double) (by decide)
    have k111 : ∀ t, Steps p.tables e below (T105.setTop (mkF m 55 #[.val (.int p0), .val (.int p1), .val (.int p2), .val (.int p3), .val (.int mm), .val (.int ss), .val (.double vh), .second, .val (.int sel), .val (.int nq), .val (.double al), .second, .unset, .unset, .unset, .unset, .unset, .unset] [(.ref b105)])) t → Steps p.tables e below (s₁.setTop (entryFrame m #[(.int p0), (.int p1), (.int p2), (.int p3)] maxLocals)) t := fun t k => k104 t (st105 t k)
    have k112 : ∀ t, Steps p.tables e below (T105.setTop (mkF m 60 #[.val (.int p0), .val (.int p1), .val (.int p2), .val (.int p3), .val (.int mm), .val (.int ss), .val (.double vh), .second, .val (.int sel), .val (.int nq), .val (.double al), .second, .unset, .unset, .unset, .unset, .unset, .unset] [(.double al), (.double vh), (.ref b105), (.ref b105)])) t → Steps p.tables e below (s₁.setTop (entryFrame m #[(.int p0), (.int p1), (.int p2), (.int p3)] maxLocals)) t := fun t k => k111 t (by
      show Steps p.tables e below (T105.setTop (mkF m 55 #[.val (.int p0), .val (.int p1), .val (.int p2), .val (.int p3), .val (.int mm), .val (.int ss), .val (.double vh), .second, .val (.int sel), .val (.int nq), .val (.double al), .second, .unset, .unset, .unset, .unset, .unset, .unset] [(.ref b105)])) _
      refine XS.dup X105.here hx rfl (hb hby at_55) rfl rfl ?_
      show Steps p.tables e below (T105.setTop (mkF m 56 #[.val (.int p0), .val (.int p1), .val (.int p2), .val (.int p3), .val (.int mm), .val (.int ss), .val (.double vh), .second, .val (.int sel), .val (.int nq), .val (.double al), .second, .unset, .unset, .unset, .unset, .unset, .unset] [(.ref b105), (.ref b105)])) _
      refine XS.dload X105.here hx rfl (hb hby at_56) rfl ?_
      show Steps p.tables e below (T105.setTop (mkF m 58 #[.val (.int p0), .val (.int p1), .val (.int p2), .val (.int p3), .val (.int mm), .val (.int ss), .val (.double vh), .second, .val (.int sel), .val (.int nq), .val (.double al), .second, .unset, .unset, .unset, .unset, .unset, .unset] [(.double vh), (.ref b105), (.ref b105)])) _
      refine XS.dload X105.here hx rfl (hb hby at_58) rfl ?_
      exact k)
    obtain ⟨_, _, ⟨T113, L113, k113, n113⟩, -, Xa113, hSa113, hga113, ⟨Lc113, hQ113, l113, y113, z113⟩, st113⟩ := X105.specialBackS hx (y := (⟨"com/example/surety/surety/core/ParetoUpTimes", "<init>", "(DD)V"⟩ : MethodName)) rfl hown (mvT hZ (hw _ (List.mem_of_getElem? (i := 6) rfl))) (mvT hZ (hw _ (List.mem_of_getElem? (i := 7) rfl))) (mvT hZ (hw _ (List.mem_of_getElem? (i := 8) rfl))) (by decide) (backOfS (W := 1) (rm1 l Z a0 hw [] b105 vh al h105 n0 Z107 F109 F110 A105 g106 (by rw [Dvh.cmp_gt (dy0 S) (by omega)]; decide) (Dvh.lt_inf .g) (by rw [Dal.cmp_gt (dy0 _) (by omega)]; decide) (Dal.lt_inf .g)) hZ (hw _ (List.mem_of_getElem? (i := 8) rfl)) (hw _ (List.mem_of_getElem? (i := 5) rfl)) (by decide) (by decide)) (g := (mkF m 60 #[.val (.int p0), .val (.int p1), .val (.int p2), .val (.int p3), .val (.int mm), .val (.int ss), .val (.double vh), .second, .val (.int sel), .val (.int nq), .val (.double al), .second, .unset, .unset, .unset, .unset, .unset, .unset] [(.double al), (.double vh), (.ref b105), (.ref b105)])) rfl (by rw [hml]; rfl) (Steps.refl _) (a := b105) (argsL := [(.double vh), (.double al)]) (rest := [(.ref b105)]) (lenOf pd__28DD_29V rfl) rfl (by show 2 * 0 + _ ≤ _; exact Nat.le_of_eq rfl) (hb hby at_60) (fun _ _ => ⟨rfl, e105, (by decide : 1 + 4 ≤ _), (by decide : 2 + 32 ≤ _)⟩)
    dsimp only [Pt.U, Pt.locs, Pt.cells, Pt.slots] at Xa113 hSa113 hga113 l113 y113 z113 st113 hQ113
    subst l113 y113 z113
    obtain ⟨X113, hS113, hZ113, hown113⟩ := rebS (s := s) (vm0 := s.vm) hS0 (n1 := T105.heap.size) (by rw [e105]; exact hk108) Xa113 hSa113 hga113 hZ hown
    obtain ⟨h113, e113⟩ : ∃ h', T113.heap = h' := ⟨_, rfl⟩
    rw [e113] at hQ113
    obtain ⟨rfl, N113q, K113, G113a, G113b, G113c⟩ := hQ113
    have hk113 : T113.heap.size ≤ h113.size := Nat.le_of_eq (congrArg Array.size e113)
    have N114 := Fr.app N0 N113q
    have k115 : ∀ t, Steps p.tables e below (T113.setTop (mkF m 63 #[.val (.int p0), .val (.int p1), .val (.int p2), .val (.int p3), .val (.int mm), .val (.int ss), .val (.double vh), .second, .val (.int sel), .val (.int nq), .val (.double al), .second, .unset, .unset, .unset, .unset, .unset, .unset] [(.ref b105)])) t → Steps p.tables e below (s₁.setTop (entryFrame m #[(.int p0), (.int p1), (.int p2), (.int p3)] maxLocals)) t := fun t k => k112 t (st113.trans k)
    have F116 := A105.keep K113
    have Z117 : n0 ≤ h113.size := Nat.le_trans Z107 K113.1
    obtain ⟨cq118, kq118, q118a, q118b, q118c⟩ := isOf hZ113 e113 G113a
    obtain ⟨_, _, ⟨T118, L118, k118, n118⟩, -, X118, ⟨Lc118, hQ118, l118, y118, z118⟩, st118⟩ := X113.virtualBack hx (y := (⟨"com/example/surety/surety/core/ParetoUpTimes", "variance", "()D"⟩ : MethodName)) (z := (⟨"com/example/surety/surety/core/ParetoUpTimes", "variance", "()D"⟩ : MethodName)) hown113 (mvT hZ113 (hw _ (List.mem_of_getElem? (i := 35) rfl))) (mvT hZ113 (hw _ (List.mem_of_getElem? (i := 36) rfl))) (notFace_of_selects (args := #[]) (mvT hZ113 (hw _ (List.mem_of_getElem? (i := 38) rfl)))) (mvT hZ113 (hw _ (List.mem_of_getElem? (i := 38) rfl))) (mvT hZ113 (hw _ (List.mem_of_getElem? (i := 37) rfl))) (by decide) (backOf (W := 0) (vari0 l Z a0 hw [] b105 vh al h113 n0 Z117 G113b G113c (Dal.le own_two20 (by omega) .g)) hZ113 (hw _ (List.mem_of_getElem? (i := 39) rfl)) (hw _ (List.mem_of_getElem? (i := 5) rfl)) (by decide) (by decide)) q118a q118c (g := (mkF m 63 #[.val (.int p0), .val (.int p1), .val (.int p2), .val (.int p3), .val (.int mm), .val (.int ss), .val (.double vh), .second, .val (.int sel), .val (.int nq), .val (.double al), .second, .unset, .unset, .unset, .unset, .unset, .unset] [(.ref b105)])) rfl (by rw [hml]; rfl) (Steps.refl _) (argsL := []) (rest := []) (lenOf pd__28_29D rfl) rfl (by show 2 * 0 + _ ≤ _; exact Nat.le_of_eq rfl) (hb hby at_63) (fun _ _ => ⟨rfl, e113, (by decide : 5 + 0 ≤ _), (by decide : 34 + 0 ≤ _)⟩)
    dsimp only [Pt.U, Pt.locs, Pt.cells, Pt.slots] at X118 l118 y118 z118 st118 hQ118
    subst l118 y118 z118
    obtain ⟨rfl, N118q, e118⟩ := hQ118
    have N119 := Fr.app N114 N118q
    have k120 : ∀ t, Steps p.tables e below (T118.setTop (mkF m 66 #[.val (.int p0), .val (.int p1), .val (.int p2), .val (.int p3), .val (.int mm), .val (.int ss), .val (.double vh), .second, .val (.int sel), .val (.int nq), .val (.double al), .second, .unset, .unset, .unset, .unset, .unset, .unset] [(.double (9218868437227405312 : UInt64))])) t → Steps p.tables e below (s₁.setTop (entryFrame m #[(.int p0), (.int p1), (.int p2), (.int p3)] maxLocals)) t := fun t k => k115 t (st118.trans k)
    obtain ⟨vv, hvv⟩ : ∃ z : UInt64, FP.dadd (9218868437227405312 : UInt64) (9218868437227405312 : UInt64) = z := ⟨_, rfl⟩
    have evv : vv = (9218868437227405312 : UInt64) := by rw [← hvv]; decide +kernel
    have hfin : cmpValue (FP.dcmp vv (9218868437227405312 : UInt64)) .l = (0 : Int32) := by rw [evv]; decide +kernel
    have k121 : ∀ t, Steps p.tables e below (T118.setTop (mkF m 91 #[.val (.int p0), .val (.int p1), .val (.int p2), .val (.int p3), .val (.int mm), .val (.int ss), .val (.double vh), .second, .val (.int sel), .val (.int nq), .val (.double al), .second, .val (.double (9218868437227405312 : UInt64)), .second, .unset, .unset, .unset, .unset] [(.int (1 : Int32))])) t → Steps p.tables e below (s₁.setTop (entryFrame m #[(.int p0), (.int p1), (.int p2), (.int p3)] maxLocals)) t := fun t k => k120 t (by
      show Steps p.tables e below (T118.setTop (mkF m 66 #[.val (.int p0), .val (.int p1), .val (.int p2), .val (.int p3), .val (.int mm), .val (.int ss), .val (.double vh), .second, .val (.int sel), .val (.int nq), .val (.double al), .second, .unset, .unset, .unset, .unset, .unset, .unset] [(.double (9218868437227405312 : UInt64))])) _
      refine XS.dstore X118.here hx rfl (hb hby at_66) rfl (l' := #[.val (.int p0), .val (.int p1), .val (.int p2), .val (.int p3), .val (.int mm), .val (.int ss), .val (.double vh), .second, .val (.int sel), .val (.int nq), .val (.double al), .second, .val (.double (9218868437227405312 : UInt64)), .second, .unset, .unset, .unset, .unset]) rfl ?_
      show Steps p.tables e below (T118.setTop (mkF m 68 #[.val (.int p0), .val (.int p1), .val (.int p2), .val (.int p3), .val (.int mm), .val (.int ss), .val (.double vh), .second, .val (.int sel), .val (.int nq), .val (.double al), .second, .val (.double (9218868437227405312 : UInt64)), .second, .unset, .unset, .unset, .unset] [])) _
      refine XS.dload X118.here hx rfl (hb hby at_68) rfl ?_
      show Steps p.tables e below (T118.setTop (mkF m 70 #[.val (.int p0), .val (.int p1), .val (.int p2), .val (.int p3), .val (.int mm), .val (.int ss), .val (.double vh), .second, .val (.int sel), .val (.int nq), .val (.double al), .second, .val (.double (9218868437227405312 : UInt64)), .second, .unset, .unset, .unset, .unset] [(.double (9218868437227405312 : UInt64))])) _
      refine XS.dconst0 X118.here hx rfl (hb hby at_70) (v := (0 : UInt64)) rfl ?_
      show Steps p.tables e below (T118.setTop (mkF m 71 #[.val (.int p0), .val (.int p1), .val (.int p2), .val (.int p3), .val (.int mm), .val (.int ss), .val (.double vh), .second, .val (.int sel), .val (.int nq), .val (.double al), .second, .val (.double (9218868437227405312 : UInt64)), .second, .unset, .unset, .unset, .unset] [(.double (0 : UInt64)), (.double (9218868437227405312 : UInt64))])) _
      refine XS.dcmpS X118.here hx rfl (hb hby at_71) rfl rfl ?_
      show Steps p.tables e below (T118.setTop (mkF m 72 #[.val (.int p0), .val (.int p1), .val (.int p2), .val (.int p3), .val (.int mm), .val (.int ss), .val (.double vh), .second, .val (.int sel), .val (.int nq), .val (.double al), .second, .val (.double (9218868437227405312 : UInt64)), .second, .unset, .unset, .unset, .unset] [(.int (cmpValue (FP.dcmp (9218868437227405312 : UInt64) (0 : UInt64)) .l))])) _
      refine XS.ifNo X118.here hx rfl (hb hby at_72) rfl ((if0 _ _).trans (tlt (by decide +kernel)).2.2.2) ?_
      show Steps p.tables e below (T118.setTop (mkF m 75 #[.val (.int p0), .val (.int p1), .val (.int p2), .val (.int p3), .val (.int mm), .val (.int ss), .val (.double vh), .second, .val (.int sel), .val (.int nq), .val (.double al), .second, .val (.double (9218868437227405312 : UInt64)), .second, .unset, .unset, .unset, .unset] [])) _
      refine XS.dload X118.here hx rfl (hb hby at_75) rfl ?_
      show Steps p.tables e below (T118.setTop (mkF m 77 #[.val (.int p0), .val (.int p1), .val (.int p2), .val (.int p3), .val (.int mm), .val (.int ss), .val (.double vh), .second, .val (.int sel), .val (.int nq), .val (.double al), .second, .val (.double (9218868437227405312 : UInt64)), .second, .unset, .unset, .unset, .unset] [(.double (9218868437227405312 : UInt64))])) _
      refine XS.dload X118.here hx rfl (hb hby at_77) rfl ?_
      show Steps p.tables e below (T118.setTop (mkF m 79 #[.val (.int p0), .val (.int p1), .val (.int p2), .val (.int p3), .val (.int mm), .val (.int ss), .val (.double vh), .second, .val (.int sel), .val (.int nq), .val (.double al), .second, .val (.double (9218868437227405312 : UInt64)), .second, .unset, .unset, .unset, .unset] [(.double (9218868437227405312 : UInt64)), (.double (9218868437227405312 : UInt64))])) _
      refine XS.daddS X118.here hx rfl (hb hby at_79) rfl ((by decide +kernel)) hvv ?_
      show Steps p.tables e below (T118.setTop (mkF m 80 #[.val (.int p0), .val (.int p1), .val (.int p2), .val (.int p3), .val (.int mm), .val (.int ss), .val (.double vh), .second, .val (.int sel), .val (.int nq), .val (.double al), .second, .val (.double (9218868437227405312 : UInt64)), .second, .unset, .unset, .unset, .unset] [(.double vv)])) _
      refine XS.dload X118.here hx rfl (hb hby at_80) rfl ?_
      show Steps p.tables e below (T118.setTop (mkF m 82 #[.val (.int p0), .val (.int p1), .val (.int p2), .val (.int p3), .val (.int mm), .val (.int ss), .val (.double vh), .second, .val (.int sel), .val (.int nq), .val (.double al), .second, .val (.double (9218868437227405312 : UInt64)), .second, .unset, .unset, .unset, .unset] [(.double (9218868437227405312 : UInt64)), (.double vv)])) _
      refine XS.dcmpS X118.here hx rfl (hb hby at_82) rfl rfl ?_
      show Steps p.tables e below (T118.setTop (mkF m 83 #[.val (.int p0), .val (.int p1), .val (.int p2), .val (.int p3), .val (.int mm), .val (.int ss), .val (.double vh), .second, .val (.int sel), .val (.int nq), .val (.double al), .second, .val (.double (9218868437227405312 : UInt64)), .second, .unset, .unset, .unset, .unset] [(.int (cmpValue (FP.dcmp vv (9218868437227405312 : UInt64)) .l))])) _
      refine XS.ifNo X118.here hx rfl (hb hby at_83) rfl ((if0 _ _).trans (teq hfin).2) ?_
      show Steps p.tables e below (T118.setTop (mkF m 86 #[.val (.int p0), .val (.int p1), .val (.int p2), .val (.int p3), .val (.int mm), .val (.int ss), .val (.double vh), .second, .val (.int sel), .val (.int nq), .val (.double al), .second, .val (.double (9218868437227405312 : UInt64)), .second, .unset, .unset, .unset, .unset] [])) _
      refine XS.iconst X118.here hx rfl (hb hby at_86) ?_
      show Steps p.tables e below (T118.setTop (mkF m 87 #[.val (.int p0), .val (.int p1), .val (.int p2), .val (.int p3), .val (.int mm), .val (.int ss), .val (.double vh), .second, .val (.int sel), .val (.int nq), .val (.double al), .second, .val (.double (9218868437227405312 : UInt64)), .second, .unset, .unset, .unset, .unset] [(.int (1 : Int32))])) _
      refine XS.goto X118.here hx rfl (pc0 := 87) (pc' := 91) rfl (hb hby at_87) (by decide) (by decide) ?_
      exact k)
    obtain ⟨fs, hr, hrun, hended, hRE⟩ := Stand.leaveW (s := s) (vm₁ := T113.vm) X118 hS113 (by rw [e118]; exact hk113) (v := some (.int (1 : Int32))) (fun h => by rw [Bd.returns] at h; cases h)
    refine ⟨_, _, k121 _ (retOut X118 hx (t := .boolean) Bd.returns rfl (Or.inl ⟨rfl, Or.inr (Or.inl rfl), _, rfl⟩) (hb hby at_91) hr), hrun, hended, _, _, rfl, ?_, hRE.1, hRE.2.1, hRE.2.2.1, hRE.2.2.2.mono (by decide) (by decide)⟩
    show Q_rm0 Z p0 p1 p2 p3 h0 n0 _ T118.heap _
    rw [e118]
    exact ⟨rfl, N119⟩
  · have k122 : ∀ t, Steps p.tables e below (s₁.setTop (mkF m 95 #[.val (.int p0), .val (.int p1), .val (.int p2), .val (.int p3), .val (.int mm), .val (.int ss), .val (.double vh), .second, .val (.int sel), .unset, .unset, .unset, .unset, .unset, .unset, .unset, .unset, .unset] [(.int (1 : Int32)), (.int sel)])) t → Steps p.tables e below (s₁.setTop (entryFrame m #[(.int p0), (.int p1), (.int p2), (.int p3)] maxLocals)) t := fun t k => k102 t (by
      show Steps p.tables e below (s₁.setTop (mkF m 32 #[.val (.int p0), .val (.int p1), .val (.int p2), .val (.int p3), .val (.int mm), .val (.int ss), .val (.double vh), .second, .val (.int sel), .unset, .unset, .unset, .unset, .unset, .unset, .unset, .unset, .unset] [(.int sel)])) _
      refine XS.ifYes X0.here hx rfl (pc0 := 32) (pc' := 92) rfl (hb hby at_32) rfl ((if0 _ _).trans (feq c0).2) (by decide) (by decide) ?_
      show Steps p.tables e below (s₁.setTop (mkF m 92 #[.val (.int p0), .val (.int p1), .val (.int p2), .val (.int p3), .val (.int mm), .val (.int ss), .val (.double vh), .second, .val (.int sel), .unset, .unset, .unset, .unset, .unset, .unset, .unset, .unset, .unset] [])) _
      refine XS.iload X0.here hx rfl (hb hby at_92) rfl ?_
      show Steps p.tables e below (s₁.setTop (mkF m 94 #[.val (.int p0), .val (.int p1), .val (.int p2), .val (.int p3), .val (.int mm), .val (.int ss), .val (.double vh), .second, .val (.int sel), .unset, .unset, .unset, .unset, .unset, .unset, .unset, .unset, .unset] [(.int sel)])) _
      refine XS.iconst X0.here hx rfl (hb hby at_94) ?_
      exact k)
    by_cases c1 : sel = (1 : Int32)
    · obtain ⟨kq, hkq⟩ : ∃ z : Int32, z = (((p3 &&& (2147483647 : Int32)) % (20 : Int32)) + (1 : Int32)) := ⟨_, rfl⟩
      have k123 : ∀ t, Steps p.tables e below (s₁.setTop (mkF m 109 #[.val (.int p0), .val (.int p1), .val (.int p2), .val (.int p3), .val (.int mm), .val (.int ss), .val (.double vh), .second, .val (.int sel), .val (.int kq), .unset, .unset, .unset, .unset, .unset, .unset, .unset, .unset] [])) t → Steps p.tables e below (s₁.setTop (entryFrame m #[(.int p0), (.int p1), (.int p2), (.int p3)] maxLocals)) t := fun t k => k122 t (by
        show Steps p.tables e below (s₁.setTop (mkF m 95 #[.val (.int p0), .val (.int p1), .val (.int p2), .val (.int p3), .val (.int mm), .val (.int ss), .val (.double vh), .second, .val (.int sel), .unset, .unset, .unset, .unset, .unset, .unset, .unset, .unset, .unset] [(.int (1 : Int32)), (.int sel)])) _
        refine XS.icmpNo X0.here hx rfl (hb hby at_95) rfl (teq c1).2 ?_
        show Steps p.tables e below (s₁.setTop (mkF m 98 #[.val (.int p0), .val (.int p1), .val (.int p2), .val (.int p3), .val (.int mm), .val (.int ss), .val (.double vh), .second, .val (.int sel), .unset, .unset, .unset, .unset, .unset, .unset, .unset, .unset, .unset] [])) _
        refine XS.iloadN X0.here hx rfl (hb hby at_98) rfl ?_
        show Steps p.tables e below (s₁.setTop (mkF m 99 #[.val (.int p0), .val (.int p1), .val (.int p2), .val (.int p3), .val (.int mm), .val (.int ss), .val (.double vh), .second, .val (.int sel), .unset, .unset, .unset, .unset, .unset, .unset, .unset, .unset, .unset] [(.int p3)])) _
        refine X0.ldcInt hx hown (mvT hZ (hw _ (List.mem_of_getElem? (i := 45) rfl))) (g := (mkF m 99 #[.val (.int p0), .val (.int p1), .val (.int p2), .val (.int p3), .val (.int mm), .val (.int ss), .val (.double vh), .second, .val (.int sel), .unset, .unset, .unset, .unset, .unset, .unset, .unset, .unset, .unset] [(.int p3)])) rfl (hb hby at_99) _ ?_
        show Steps p.tables e below (s₁.setTop (mkF m 101 #[.val (.int p0), .val (.int p1), .val (.int p2), .val (.int p3), .val (.int mm), .val (.int ss), .val (.double vh), .second, .val (.int sel), .unset, .unset, .unset, .unset, .unset, .unset, .unset, .unset, .unset] [(.int (2147483647 : Int32)), (.int p3)])) _
        refine XS.iand X0.here hx rfl (hb hby at_101) rfl ?_
        show Steps p.tables e below (s₁.setTop (mkF m 102 #[.val (.int p0), .val (.int p1), .val (.int p2), .val (.int p3), .val (.int mm), .val (.int ss), .val (.double vh), .second, .val (.int sel), .unset, .unset, .unset, .unset, .unset, .unset, .unset, .unset, .unset] [(.int (p3 &&& (2147483647 : Int32)))])) _
        refine XS.bipush X0.here hx rfl (hb hby at_102) ?_
        show Steps p.tables e below (s₁.setTop (mkF m 104 #[.val (.int p0), .val (.int p1), .val (.int p2), .val (.int p3), .val (.int mm), .val (.int ss), .val (.double vh), .second, .val (.int sel), .unset, .unset, .unset, .unset, .unset, .unset, .unset, .unset, .unset] [(.int (20 : Int32)), (.int (p3 &&& (2147483647 : Int32)))])) _
        refine iremM X0 hx rfl (hb hby at_104) rfl (by decide) ?_
        show Steps p.tables e below (s₁.setTop (mkF m 105 #[.val (.int p0), .val (.int p1), .val (.int p2), .val (.int p3), .val (.int mm), .val (.int ss), .val (.double vh), .second, .val (.int sel), .unset, .unset, .unset, .unset, .unset, .unset, .unset, .unset, .unset] [(.int ((p3 &&& (2147483647 : Int32)) % (20 : Int32)))])) _
        refine XS.iconst X0.here hx rfl (hb hby at_105) ?_
        show Steps p.tables e below (s₁.setTop (mkF m 106 #[.val (.int p0), .val (.int p1), .val (.int p2), .val (.int p3), .val (.int mm), .val (.int ss), .val (.double vh), .second, .val (.int sel), .unset, .unset, .unset, .unset, .unset, .unset, .unset, .unset, .unset] [(.int (1 : Int32)), (.int ((p3 &&& (2147483647 : Int32)) % (20 : Int32)))])) _
        refine XS.iadd X0.here hx rfl (hb hby at_106) rfl ?_
        show Steps p.tables e below (s₁.setTop (mkF m 107 #[.val (.int p0), .val (.int p1), .val (.int p2), .val (.int p3), .val (.int mm), .val (.int ss), .val (.double vh), .second, .val (.int sel), .unset, .unset, .unset, .unset, .unset, .unset, .unset, .unset, .unset] [(.int (((p3 &&& (2147483647 : Int32)) % (20 : Int32)) + (1 : Int32)))])) _
        refine castTop (g' := (mkF m 107 #[.val (.int p0), .val (.int p1), .val (.int p2), .val (.int p3), .val (.int mm), .val (.int ss), .val (.double vh), .second, .val (.int sel), .unset, .unset, .unset, .unset, .unset, .unset, .unset, .unset, .unset] [(.int kq)])) (by rw [hkq]) ?_
        show Steps p.tables e below (s₁.setTop (mkF m 107 #[.val (.int p0), .val (.int p1), .val (.int p2), .val (.int p3), .val (.int mm), .val (.int ss), .val (.double vh), .second, .val (.int sel), .unset, .unset, .unset, .unset, .unset, .unset, .unset, .unset, .unset] [(.int kq)])) _
        refine XS.istore X0.here hx rfl (hb hby at_107) rfl (l' := #[.val (.int p0), .val (.int p1), .val (.int p2), .val (.int p3), .val (.int mm), .val (.int ss), .val (.double vh), .second, .val (.int sel), .val (.int kq), .unset, .unset, .unset, .unset, .unset, .unset, .unset, .unset]) rfl ?_
        exact k)
      obtain ⟨K, hK, shk, K1, K20, kp, kp2⟩ := own_kk p3 kq hkq
      obtain ⟨vk, hvk⟩ : ∃ z : UInt64, FP.i2d ((1 : Int32) <<< (kq &&& 31)) = z := ⟨_, rfl⟩
      have Dvk : Dy (2 ^ K) (0) vk := by rw [← hvk]; exact shk ▸ Dy.i2d _
      obtain ⟨al, hal⟩ : ∃ z : UInt64, FP.dadd (4607182418800017408 : UInt64) vk = z := ⟨_, rfl⟩
      have Dal : Dy (1 + 2 ^ K) (0) al := by rw [← hal]; exact Dy.add (dy1 0) Dvk (by show ((1 : Int) + 2 ^ K).natAbs < _; omega) (by decide)
      have k124 : ∀ t, Steps p.tables e below (s₁.setTop (mkF m 118 #[.val (.int p0), .val (.int p1), .val (.int p2), .val (.int p3), .val (.int mm), .val (.int ss), .val (.double vh), .second, .val (.int sel), .val (.int kq), .val (.double al), .second, .unset, .unset, .unset, .unset, .unset, .unset] [])) t → Steps p.tables e below (s₁.setTop (entryFrame m #[(.int p0), (.int p1), (.int p2), (.int p3)] maxLocals)) t := fun t k => k123 t (by
        show Steps p.tables e below (s₁.setTop (mkF m 109 #[.val (.int p0), .val (.int p1), .val (.int p2), .val (.int p3), .val (.int mm), .val (.int ss), .val (.double vh), .second, .val (.int sel), .val (.int kq), .unset, .unset, .unset, .unset, .unset, .unset, .unset, .unset] [])) _
        refine XS.dconst1 X0.here hx rfl (hb hby at_109) (v := (4607182418800017408 : UInt64)) rfl ?_
        show Steps p.tables e below (s₁.setTop (mkF m 110 #[.val (.int p0), .val (.int p1), .val (.int p2), .val (.int p3), .val (.int mm), .val (.int ss), .val (.double vh), .second, .val (.int sel), .val (.int kq), .unset, .unset, .unset, .unset, .unset, .unset, .unset, .unset] [(.double (4607182418800017408 : UInt64))])) _
        refine XS.iconst X0.here hx rfl (hb hby at_110) ?_
        show Steps p.tables e below (s₁.setTop (mkF m 111 #[.val (.int p0), .val (.int p1), .val (.int p2), .val (.int p3), .val (.int mm), .val (.int ss), .val (.double vh), .second, .val (.int sel), .val (.int kq), .unset, .unset, .unset, .unset, .unset, .unset, .unset, .unset] [(.int (1 : Int32)), (.double (4607182418800017408 : UInt64))])) _
        refine XS.iload X0.here hx rfl (hb hby at_111) rfl ?_
        show Steps p.tables e below (s₁.setTop (mkF m 113 #[.val (.int p0), .val (.int p1), .val (.int p2), .val (.int p3), .val (.int mm), .val (.int ss), .val (.double vh), .second, .val (.int sel), .val (.int kq), .unset, .unset, .unset, .unset, .unset, .unset, .unset, .unset] [(.int kq), (.int (1 : Int32)), (.double (4607182418800017408 : UInt64))])) _
        refine XS.ishl X0.here hx rfl (hb hby at_113) rfl ?_
        show Steps p.tables e below (s₁.setTop (mkF m 114 #[.val (.int p0), .val (.int p1), .val (.int p2), .val (.int p3), .val (.int mm), .val (.int ss), .val (.double vh), .second, .val (.int sel), .val (.int kq), .unset, .unset, .unset, .unset, .unset, .unset, .unset, .unset] [(.int ((1 : Int32) <<< (kq &&& 31))), (.double (4607182418800017408 : UInt64))])) _
        refine XS.i2dS X0.here hx rfl (hb hby at_114) rfl hvk ?_
        show Steps p.tables e below (s₁.setTop (mkF m 115 #[.val (.int p0), .val (.int p1), .val (.int p2), .val (.int p3), .val (.int mm), .val (.int ss), .val (.double vh), .second, .val (.int sel), .val (.int kq), .unset, .unset, .unset, .unset, .unset, .unset, .unset, .unset] [(.double vk), (.double (4607182418800017408 : UInt64))])) _
        refine XS.daddS X0.here hx rfl (hb hby at_115) rfl (by rw [hal]; exact Dal.nn) hal ?_
        show Steps p.tables e below (s₁.setTop (mkF m 116 #[.val (.int p0), .val (.int p1), .val (.int p2), .val (.int p3), .val (.int mm), .val (.int ss), .val (.double vh), .second, .val (.int sel), .val (.int kq), .unset, .unset, .unset, .unset, .unset, .unset, .unset, .unset] [(.double al)])) _
        refine XS.dstore X0.here hx rfl (hb hby at_116) rfl (l' := #[.val (.int p0), .val (.int p1), .val (.int p2), .val (.int p3), .val (.int mm), .val (.int ss), .val (.double vh), .second, .val (.int sel), .val (.int kq), .val (.double al), .second, .unset, .unset, .unset, .unset, .unset, .unset]) rfl ?_
        exact k)
      obtain ⟨T125, h125, X125, e125, E125, A125, D125, -, st125⟩ := newO X0 hx hZ hown (hw _ (List.mem_of_getElem? (i := 3) rfl)) (hw _ (List.mem_of_getElem? (i := 4) rfl)) (hw _ (List.mem_of_getElem? (i := 5) rfl)) e0 (g := (mkF m 118 #[.val (.int p0), .val (.int p1), .val (.int p2), .val (.int p3), .val (.int mm), .val (.int ss), .val (.double vh), .second, .val (.int sel), .val (.int kq), .val (.double al), .second, .unset, .unset, .unset, .unset, .unset, .unset] [])) rfl (hb hby at_118) (by decide) (by decide)
      obtain ⟨b125, g125⟩ : ∃ z, z = h0.size := ⟨_, rfl⟩
      rw [← g125] at A125 D125 st125
      have g126 : n0 ≤ b125 := Nat.le_trans Z0 (Nat.le_of_eq g125.symm)
      have Z127 : n0 ≤ h125.size := Nat.le_trans Z0 E125.1
      have hk128 : 0 ≤ h125.size := Nat.le_trans (Nat.zero_le _) E125.1
      have F129 : Fld Z h125 b125 "com/example/surety/surety/core/ParetoUpTimes" "h" "D" (.double (0 : UInt64)) := D125 (Or.inr (hw _ (List.mem_of_getElem? (i := 32) rfl))) (ty := .double) (by decide)
      have F130 : Fld Z h125 b125 "com/example/surety/surety/core/ParetoUpTimes" "alpha" "D" (.double (0 : UInt64)) := D125 (Or.inr (hw _ (List.mem_of_getElem? (i := 34) rfl))) (ty := .double) (by decide)
      have k131 : ∀ t, Steps p.tables e below (T125.setTop (mkF m 121 #[.val (.int p0), .val (.int p1), .val (.int p2), .val (.int p3), .val (.int mm), .val (.int ss), .val (.double vh), .second, .val (.int sel), .val (.int kq), .val (.double al), .second, .unset, .unset, .unset, .unset, .unset, .unset] [(.ref b125)])) t → Steps p.tables e below (s₁.setTop (entryFrame m #[(.int p0), (.int p1), (.int p2), (.int p3)] maxLocals)) t := fun t k => k124 t (st125 t k)
      obtain ⟨O24, O25, O29, O34, O42, nv⟩ := own_v1 Bm S15 K1 K20 kp kp2 Dvh Dal
      have k132 : ∀ t, Steps p.tables e below (T125.setTop (mkF m 126 #[.val (.int p0), .val (.int p1), .val (.int p2), .val (.int p3), .val (.int mm), .val (.int ss), .val (.double vh), .second, .val (.int sel), .val (.int kq), .val (.double al), .second, .unset, .unset, .unset, .unset, .unset, .unset] [(.double al), (.double vh), (.ref b125), (.ref b125)])) t → Steps p.tables e below (s₁.setTop (entryFrame m #[(.int p0), (.int p1), (.int p2), (.int p3)] maxLocals)) t := fun t k => k131 t (by
        show Steps p.tables e below (T125.setTop (mkF m 121 #[.val (.int p0), .val (.int p1), .val (.int p2), .val (.int p3), .val (.int mm), .val (.int ss), .val (.double vh), .second, .val (.int sel), .val (.int kq), .val (.double al), .second, .unset, .unset, .unset, .unset, .unset, .unset] [(.ref b125)])) _
        refine XS.dup X125.here hx rfl (hb hby at_121) rfl rfl ?_
        show Steps p.tables e below (T125.setTop (mkF m 122 #[.val (.int p0), .val (.int p1), .val (.int p2), .val (.int p3), .val (.int mm), .val (.int ss), .val (.double vh), .second, .val (.int sel), .val (.int kq), .val (.double al), .second, .unset, .unset, .unset, .unset, .unset, .unset] [(.ref b125), (.ref b125)])) _
        refine XS.dload X125.here hx rfl (hb hby at_122) rfl ?_
        show Steps p.tables e below (T125.setTop (mkF m 124 #[.val (.int p0), .val (.int p1), .val (.int p2), .val (.int p3), .val (.int mm), .val (.int ss), .val (.double vh), .second, .val (.int sel), .val (.int kq), .val (.double al), .second, .unset, .unset, .unset, .unset, .unset, .unset] [(.double vh), (.ref b125), (.ref b125)])) _
        refine XS.dload X125.here hx rfl (hb hby at_124) rfl ?_
        exact k)
      obtain ⟨_, _, ⟨T133, L133, k133, n133⟩, -, Xa133, hSa133, hga133, ⟨Lc133, hQ133, l133, y133, z133⟩, st133⟩ := X125.specialBackS hx (y := (⟨"com/example/surety/surety/core/ParetoUpTimes", "<init>", "(DD)V"⟩ : MethodName)) rfl hown (mvT hZ (hw _ (List.mem_of_getElem? (i := 6) rfl))) (mvT hZ (hw _ (List.mem_of_getElem? (i := 7) rfl))) (mvT hZ (hw _ (List.mem_of_getElem? (i := 8) rfl))) (by decide) (backOfS (W := 1) (rm1 l Z a0 hw [] b125 vh al h125 n0 Z127 F129 F130 A125 g126 (by rw [Dvh.cmp_gt (dy0 S) (by omega)]; decide) (Dvh.lt_inf .g) (by rw [Dal.cmp_gt (dy0 _) (by omega)]; decide) (Dal.lt_inf .g)) hZ (hw _ (List.mem_of_getElem? (i := 8) rfl)) (hw _ (List.mem_of_getElem? (i := 5) rfl)) (by decide) (by decide)) (g := (mkF m 126 #[.val (.int p0), .val (.int p1), .val (.int p2), .val (.int p3), .val (.int mm), .val (.int ss), .val (.double vh), .second, .val (.int sel), .val (.int kq), .val (.double al), .second, .unset, .unset, .unset, .unset, .unset, .unset] [(.double al), (.double vh), (.ref b125), (.ref b125)])) rfl (by rw [hml]; rfl) (Steps.refl _) (a := b125) (argsL := [(.double vh), (.double al)]) (rest := [(.ref b125)]) (lenOf pd__28DD_29V rfl) rfl (by show 2 * 0 + _ ≤ _; exact Nat.le_of_eq rfl) (hb hby at_126) (fun _ _ => ⟨rfl, e125, (by decide : 1 + 4 ≤ _), (by decide : 2 + 32 ≤ _)⟩)
      dsimp only [Pt.U, Pt.locs, Pt.cells, Pt.slots] at Xa133 hSa133 hga133 l133 y133 z133 st133 hQ133
      subst l133 y133 z133
      obtain ⟨X133, hS133, hZ133, hown133⟩ := rebS (s := s) (vm0 := s.vm) hS0 (n1 := T125.heap.size) (by rw [e125]; exact hk128) Xa133 hSa133 hga133 hZ hown
      obtain ⟨h133, e133⟩ : ∃ h', T133.heap = h' := ⟨_, rfl⟩
      rw [e133] at hQ133
      obtain ⟨rfl, N133q, K133, G133a, G133b, G133c⟩ := hQ133
      have hk133 : T133.heap.size ≤ h133.size := Nat.le_of_eq (congrArg Array.size e133)
      have N134 := Fr.app N0 N133q
      have k135 : ∀ t, Steps p.tables e below (T133.setTop (mkF m 129 #[.val (.int p0), .val (.int p1), .val (.int p2), .val (.int p3), .val (.int mm), .val (.int ss), .val (.double vh), .second, .val (.int sel), .val (.int kq), .val (.double al), .second, .unset, .unset, .unset, .unset, .unset, .unset] [(.ref b125)])) t → Steps p.tables e below (s₁.setTop (entryFrame m #[(.int p0), (.int p1), (.int p2), (.int p3)] maxLocals)) t := fun t k => k132 t (st133.trans k)
      have F136 := A125.keep K133
      have Z137 : n0 ≤ h133.size := Nat.le_trans Z127 K133.1
      obtain ⟨cq138, kq138, q138a, q138b, q138c⟩ := isOf hZ133 e133 G133a
      obtain ⟨_, _, ⟨T138, L138, k138, n138⟩, -, X138, ⟨Lc138, hQ138, l138, y138, z138⟩, st138⟩ := X133.virtualBack hx (y := (⟨"com/example/surety/surety/core/ParetoUpTimes", "variance", "()D"⟩ : MethodName)) (z := (⟨"com/example/surety/surety/core/ParetoUpTimes", "variance", "()D"⟩ : MethodName)) hown133 (mvT hZ133 (hw _ (List.mem_of_getElem? (i := 35) rfl))) (mvT hZ133 (hw _ (List.mem_of_getElem? (i := 36) rfl))) (notFace_of_selects (args := #[]) (mvT hZ133 (hw _ (List.mem_of_getElem? (i := 38) rfl)))) (mvT hZ133 (hw _ (List.mem_of_getElem? (i := 38) rfl))) (mvT hZ133 (hw _ (List.mem_of_getElem? (i := 37) rfl))) (by decide) (backOf (W := 0) (vari1 l Z a0 hw [] b125 vh al h133 n0 Z137 G133b G133c (by rw [Dal.cmp_gt own_two0 (by omega)]; decide) O24.nn O25.nn O29.nn O34.nn O42.nn nv) hZ133 (hw _ (List.mem_of_getElem? (i := 39) rfl)) (hw _ (List.mem_of_getElem? (i := 5) rfl)) (by decide) (by decide)) q138a q138c (g := (mkF m 129 #[.val (.int p0), .val (.int p1), .val (.int p2), .val (.int p3), .val (.int mm), .val (.int ss), .val (.double vh), .second, .val (.int sel), .val (.int kq), .val (.double al), .second, .unset, .unset, .unset, .unset, .unset, .unset] [(.ref b125)])) rfl (by rw [hml]; rfl) (Steps.refl _) (argsL := []) (rest := []) (lenOf pd__28_29D rfl) rfl (by show 2 * 0 + _ ≤ _; exact Nat.le_of_eq rfl) (hb hby at_129) (fun _ _ => ⟨rfl, e133, (by decide : 5 + 0 ≤ _), (by decide : 34 + 0 ≤ _)⟩)
      dsimp only [Pt.U, Pt.locs, Pt.cells, Pt.slots] at X138 l138 y138 z138 st138 hQ138
      subst l138 y138 z138
      obtain ⟨rfl, N138q, e138⟩ := hQ138
      have N139 := Fr.app N134 N138q
      have k140 : ∀ t, Steps p.tables e below (T138.setTop (mkF m 132 #[.val (.int p0), .val (.int p1), .val (.int p2), .val (.int p3), .val (.int mm), .val (.int ss), .val (.double vh), .second, .val (.int sel), .val (.int kq), .val (.double al), .second, .unset, .unset, .unset, .unset, .unset, .unset] [(.double (FP.ddiv (FP.dmul (FP.dmul (FP.ddiv vh (FP.dsub al (4607182418800017408 : UInt64))) (FP.ddiv vh (FP.dsub al (4607182418800017408 : UInt64)))) al) (FP.dsub al (4611686018427387904 : UInt64))))])) t → Steps p.tables e below (s₁.setTop (entryFrame m #[(.int p0), (.int p1), (.int p2), (.int p3)] maxLocals)) t := fun t k => k135 t (st138.trans k)
      obtain ⟨R1, R2, R3, R4, R5⟩ := own_r1 Bm S15 K1 K20 kp kp2 Dvh Dal O24 O42
      obtain ⟨got, hgot⟩ : ∃ z : UInt64, z = (FP.ddiv (FP.dmul (FP.dmul (FP.ddiv vh (FP.dsub al (4607182418800017408 : UInt64))) (FP.ddiv vh (FP.dsub al (4607182418800017408 : UInt64)))) al) (FP.dsub al (4611686018427387904 : UInt64))) := ⟨_, rfl⟩
      obtain ⟨t1, ht1⟩ : ∃ z : UInt64, FP.dmul al vh = z := ⟨_, rfl⟩
      obtain ⟨nu, hnu⟩ : ∃ z : UInt64, FP.dmul t1 vh = z := ⟨_, rfl⟩
      obtain ⟨t2, ht2⟩ : ∃ z : UInt64, FP.dsub al (4607182418800017408 : UInt64) = z := ⟨_, rfl⟩
      obtain ⟨t3, ht3⟩ : ∃ z : UInt64, FP.dsub al (4607182418800017408 : UInt64) = z := ⟨_, rfl⟩
      obtain ⟨t4, ht4⟩ : ∃ z : UInt64, FP.dmul t2 t3 = z := ⟨_, rfl⟩
      obtain ⟨t5, ht5⟩ : ∃ z : UInt64, FP.dsub al (4611686018427387904 : UInt64) = z := ⟨_, rfl⟩
      obtain ⟨de, hde⟩ : ∃ z : UInt64, FP.dmul t4 t5 = z := ⟨_, rfl⟩
      obtain ⟨want, hwant⟩ : ∃ z : UInt64, FP.ddiv nu de = z := ⟨_, rfl⟩
      have ewant : want = FP.ddiv (FP.dmul (FP.dmul al vh) vh) (FP.dmul (FP.dmul (FP.dsub al (4607182418800017408 : UInt64)) (FP.dsub al (4607182418800017408 : UInt64))) (FP.dsub al (4611686018427387904 : UInt64))) := by rw [← hwant, ← hnu, ← ht1, ← hde, ← ht4, ← ht2, ← ht3, ← ht5]
      have hfin : cmpValue (FP.dcmp got want) .l = (0 : Int32) := by rw [hgot, ewant]; exact R5.2
      have k141 : ∀ t, Steps p.tables e below (T138.setTop (mkF m 178 #[.val (.int p0), .val (.int p1), .val (.int p2), .val (.int p3), .val (.int mm), .val (.int ss), .val (.double vh), .second, .val (.int sel), .val (.int kq), .val (.double al), .second, .val (.double got), .second, .val (.double nu), .second, .val (.double de), .second] [(.int (1 : Int32))])) t → Steps p.tables e below (s₁.setTop (entryFrame m #[(.int p0), (.int p1), (.int p2), (.int p3)] maxLocals)) t := fun t k => k140 t (by
        show Steps p.tables e below (T138.setTop (mkF m 132 #[.val (.int p0), .val (.int p1), .val (.int p2), .val (.int p3), .val (.int mm), .val (.int ss), .val (.double vh), .second, .val (.int sel), .val (.int kq), .val (.double al), .second, .unset, .unset, .unset, .unset, .unset, .unset] [(.double (FP.ddiv (FP.dmul (FP.dmul (FP.ddiv vh (FP.dsub al (4607182418800017408 : UInt64))) (FP.ddiv vh (FP.dsub al (4607182418800017408 : UInt64)))) al) (FP.dsub al (4611686018427387904 : UInt64))))])) _
        refine castTop (g' := (mkF m 132 #[.val (.int p0), .val (.int p1), .val (.int p2), .val (.int p3), .val (.int mm), .val (.int ss), .val (.double vh), .second, .val (.int sel), .val (.int kq), .val (.double al), .second, .unset, .unset, .unset, .unset, .unset, .unset] [(.double got)])) (by rw [hgot]) ?_
        show Steps p.tables e below (T138.setTop (mkF m 132 #[.val (.int p0), .val (.int p1), .val (.int p2), .val (.int p3), .val (.int mm), .val (.int ss), .val (.double vh), .second, .val (.int sel), .val (.int kq), .val (.double al), .second, .unset, .unset, .unset, .unset, .unset, .unset] [(.double got)])) _
        refine XS.dstore X138.here hx rfl (hb hby at_132) rfl (l' := #[.val (.int p0), .val (.int p1), .val (.int p2), .val (.int p3), .val (.int mm), .val (.int ss), .val (.double vh), .second, .val (.int sel), .val (.int kq), .val (.double al), .second, .val (.double got), .second, .unset, .unset, .unset, .unset]) rfl ?_
        show Steps p.tables e below (T138.setTop (mkF m 134 #[.val (.int p0), .val (.int p1), .val (.int p2), .val (.int p3), .val (.int mm), .val (.int ss), .val (.double vh), .second, .val (.int sel), .val (.int kq), .val (.double al), .second, .val (.double got), .second, .unset, .unset, .unset, .unset] [])) _
        refine XS.dload X138.here hx rfl (hb hby at_134) rfl ?_
        show Steps p.tables e below (T138.setTop (mkF m 136 #[.val (.int p0), .val (.int p1), .val (.int p2), .val (.int p3), .val (.int mm), .val (.int ss), .val (.double vh), .second, .val (.int sel), .val (.int kq), .val (.double al), .second, .val (.double got), .second, .unset, .unset, .unset, .unset] [(.double al)])) _
        refine XS.dload X138.here hx rfl (hb hby at_136) rfl ?_
        show Steps p.tables e below (T138.setTop (mkF m 138 #[.val (.int p0), .val (.int p1), .val (.int p2), .val (.int p3), .val (.int mm), .val (.int ss), .val (.double vh), .second, .val (.int sel), .val (.int kq), .val (.double al), .second, .val (.double got), .second, .unset, .unset, .unset, .unset] [(.double vh), (.double al)])) _
        refine XS.dmulS X138.here hx rfl (hb hby at_138) rfl (R1.nn) ht1 ?_
        show Steps p.tables e below (T138.setTop (mkF m 139 #[.val (.int p0), .val (.int p1), .val (.int p2), .val (.int p3), .val (.int mm), .val (.int ss), .val (.double vh), .second, .val (.int sel), .val (.int kq), .val (.double al), .second, .val (.double got), .second, .unset, .unset, .unset, .unset] [(.double t1)])) _
        refine XS.dload X138.here hx rfl (hb hby at_139) rfl ?_
        show Steps p.tables e below (T138.setTop (mkF m 141 #[.val (.int p0), .val (.int p1), .val (.int p2), .val (.int p3), .val (.int mm), .val (.int ss), .val (.double vh), .second, .val (.int sel), .val (.int kq), .val (.double al), .second, .val (.double got), .second, .unset, .unset, .unset, .unset] [(.double vh), (.double t1)])) _
        refine XS.dmulS X138.here hx rfl (hb hby at_141) rfl ((by rw [← ht1]; exact R2.nn)) hnu ?_
        show Steps p.tables e below (T138.setTop (mkF m 142 #[.val (.int p0), .val (.int p1), .val (.int p2), .val (.int p3), .val (.int mm), .val (.int ss), .val (.double vh), .second, .val (.int sel), .val (.int kq), .val (.double al), .second, .val (.double got), .second, .unset, .unset, .unset, .unset] [(.double nu)])) _
        refine XS.dstore X138.here hx rfl (hb hby at_142) rfl (l' := #[.val (.int p0), .val (.int p1), .val (.int p2), .val (.int p3), .val (.int mm), .val (.int ss), .val (.double vh), .second, .val (.int sel), .val (.int kq), .val (.double al), .second, .val (.double got), .second, .val (.double nu), .second, .unset, .unset]) rfl ?_
        show Steps p.tables e below (T138.setTop (mkF m 144 #[.val (.int p0), .val (.int p1), .val (.int p2), .val (.int p3), .val (.int mm), .val (.int ss), .val (.double vh), .second, .val (.int sel), .val (.int kq), .val (.double al), .second, .val (.double got), .second, .val (.double nu), .second, .unset, .unset] [])) _
        refine XS.dload X138.here hx rfl (hb hby at_144) rfl ?_
        show Steps p.tables e below (T138.setTop (mkF m 146 #[.val (.int p0), .val (.int p1), .val (.int p2), .val (.int p3), .val (.int mm), .val (.int ss), .val (.double vh), .second, .val (.int sel), .val (.int kq), .val (.double al), .second, .val (.double got), .second, .val (.double nu), .second, .unset, .unset] [(.double al)])) _
        refine XS.dconst1 X138.here hx rfl (hb hby at_146) (v := (4607182418800017408 : UInt64)) rfl ?_
        show Steps p.tables e below (T138.setTop (mkF m 147 #[.val (.int p0), .val (.int p1), .val (.int p2), .val (.int p3), .val (.int mm), .val (.int ss), .val (.double vh), .second, .val (.int sel), .val (.int kq), .val (.double al), .second, .val (.double got), .second, .val (.double nu), .second, .unset, .unset] [(.double (4607182418800017408 : UInt64)), (.double al)])) _
        refine XS.dsubS X138.here hx rfl (hb hby at_147) rfl (O24.nn) ht2 ?_
        show Steps p.tables e below (T138.setTop (mkF m 148 #[.val (.int p0), .val (.int p1), .val (.int p2), .val (.int p3), .val (.int mm), .val (.int ss), .val (.double vh), .second, .val (.int sel), .val (.int kq), .val (.double al), .second, .val (.double got), .second, .val (.double nu), .second, .unset, .unset] [(.double t2)])) _
        refine XS.dload X138.here hx rfl (hb hby at_148) rfl ?_
        show Steps p.tables e below (T138.setTop (mkF m 150 #[.val (.int p0), .val (.int p1), .val (.int p2), .val (.int p3), .val (.int mm), .val (.int ss), .val (.double vh), .second, .val (.int sel), .val (.int kq), .val (.double al), .second, .val (.double got), .second, .val (.double nu), .second, .unset, .unset] [(.double al), (.double t2)])) _
        refine XS.dconst1 X138.here hx rfl (hb hby at_150) (v := (4607182418800017408 : UInt64)) rfl ?_
        show Steps p.tables e below (T138.setTop (mkF m 151 #[.val (.int p0), .val (.int p1), .val (.int p2), .val (.int p3), .val (.int mm), .val (.int ss), .val (.double vh), .second, .val (.int sel), .val (.int kq), .val (.double al), .second, .val (.double got), .second, .val (.double nu), .second, .unset, .unset] [(.double (4607182418800017408 : UInt64)), (.double al), (.double t2)])) _
        refine XS.dsubS X138.here hx rfl (hb hby at_151) rfl (O24.nn) ht3 ?_
        show Steps p.tables e below (T138.setTop (mkF m 152 #[.val (.int p0), .val (.int p1), .val (.int p2), .val (.int p3), .val (.int mm), .val (.int ss), .val (.double vh), .second, .val (.int sel), .val (.int kq), .val (.double al), .second, .val (.double got), .second, .val (.double nu), .second, .unset, .unset] [(.double t3), (.double t2)])) _
        refine XS.dmulS X138.here hx rfl (hb hby at_152) rfl ((by rw [← ht2, ← ht3]; exact R3.nn)) ht4 ?_
        show Steps p.tables e below (T138.setTop (mkF m 153 #[.val (.int p0), .val (.int p1), .val (.int p2), .val (.int p3), .val (.int mm), .val (.int ss), .val (.double vh), .second, .val (.int sel), .val (.int kq), .val (.double al), .second, .val (.double got), .second, .val (.double nu), .second, .unset, .unset] [(.double t4)])) _
        refine XS.dload X138.here hx rfl (hb hby at_153) rfl ?_
        show Steps p.tables e below (T138.setTop (mkF m 155 #[.val (.int p0), .val (.int p1), .val (.int p2), .val (.int p3), .val (.int mm), .val (.int ss), .val (.double vh), .second, .val (.int sel), .val (.int kq), .val (.double al), .second, .val (.double got), .second, .val (.double nu), .second, .unset, .unset] [(.double al), (.double t4)])) _
        refine X138.ldc2DoubleC hx hown133 (mvT hZ133 (hw _ (List.mem_of_getElem? (i := 43) rfl))) (g := (mkF m 155 #[.val (.int p0), .val (.int p1), .val (.int p2), .val (.int p3), .val (.int mm), .val (.int ss), .val (.double vh), .second, .val (.int sel), .val (.int kq), .val (.double al), .second, .val (.double got), .second, .val (.double nu), .second, .unset, .unset] [(.double al), (.double t4)])) rfl (hb hby at_155) _ ?_
        show Steps p.tables e below (T138.setTop (mkF m 158 #[.val (.int p0), .val (.int p1), .val (.int p2), .val (.int p3), .val (.int mm), .val (.int ss), .val (.double vh), .second, .val (.int sel), .val (.int kq), .val (.double al), .second, .val (.double got), .second, .val (.double nu), .second, .unset, .unset] [(.double (4611686018427387904 : UInt64)), (.double al), (.double t4)])) _
        refine XS.dsubS X138.here hx rfl (hb hby at_158) rfl (O42.nn) ht5 ?_
        show Steps p.tables e below (T138.setTop (mkF m 159 #[.val (.int p0), .val (.int p1), .val (.int p2), .val (.int p3), .val (.int mm), .val (.int ss), .val (.double vh), .second, .val (.int sel), .val (.int kq), .val (.double al), .second, .val (.double got), .second, .val (.double nu), .second, .unset, .unset] [(.double t5), (.double t4)])) _
        refine XS.dmulS X138.here hx rfl (hb hby at_159) rfl ((by rw [← ht4, ← ht2, ← ht3, ← ht5]; exact R4.nn)) hde ?_
        show Steps p.tables e below (T138.setTop (mkF m 160 #[.val (.int p0), .val (.int p1), .val (.int p2), .val (.int p3), .val (.int mm), .val (.int ss), .val (.double vh), .second, .val (.int sel), .val (.int kq), .val (.double al), .second, .val (.double got), .second, .val (.double nu), .second, .unset, .unset] [(.double de)])) _
        refine XS.dstore X138.here hx rfl (hb hby at_160) rfl (l' := #[.val (.int p0), .val (.int p1), .val (.int p2), .val (.int p3), .val (.int mm), .val (.int ss), .val (.double vh), .second, .val (.int sel), .val (.int kq), .val (.double al), .second, .val (.double got), .second, .val (.double nu), .second, .val (.double de), .second]) rfl ?_
        show Steps p.tables e below (T138.setTop (mkF m 162 #[.val (.int p0), .val (.int p1), .val (.int p2), .val (.int p3), .val (.int mm), .val (.int ss), .val (.double vh), .second, .val (.int sel), .val (.int kq), .val (.double al), .second, .val (.double got), .second, .val (.double nu), .second, .val (.double de), .second] [])) _
        refine XS.dload X138.here hx rfl (hb hby at_162) rfl ?_
        show Steps p.tables e below (T138.setTop (mkF m 164 #[.val (.int p0), .val (.int p1), .val (.int p2), .val (.int p3), .val (.int mm), .val (.int ss), .val (.double vh), .second, .val (.int sel), .val (.int kq), .val (.double al), .second, .val (.double got), .second, .val (.double nu), .second, .val (.double de), .second] [(.double got)])) _
        refine XS.dload X138.here hx rfl (hb hby at_164) rfl ?_
        show Steps p.tables e below (T138.setTop (mkF m 166 #[.val (.int p0), .val (.int p1), .val (.int p2), .val (.int p3), .val (.int mm), .val (.int ss), .val (.double vh), .second, .val (.int sel), .val (.int kq), .val (.double al), .second, .val (.double got), .second, .val (.double nu), .second, .val (.double de), .second] [(.double nu), (.double got)])) _
        refine XS.dload X138.here hx rfl (hb hby at_166) rfl ?_
        show Steps p.tables e below (T138.setTop (mkF m 168 #[.val (.int p0), .val (.int p1), .val (.int p2), .val (.int p3), .val (.int mm), .val (.int ss), .val (.double vh), .second, .val (.int sel), .val (.int kq), .val (.double al), .second, .val (.double got), .second, .val (.double nu), .second, .val (.double de), .second] [(.double de), (.double nu), (.double got)])) _
        refine XS.ddivS X138.here hx rfl (hb hby at_168) rfl ((by rw [← hnu, ← ht1, ← hde, ← ht4, ← ht2, ← ht3, ← ht5]; exact R5.1)) hwant ?_
        show Steps p.tables e below (T138.setTop (mkF m 169 #[.val (.int p0), .val (.int p1), .val (.int p2), .val (.int p3), .val (.int mm), .val (.int ss), .val (.double vh), .second, .val (.int sel), .val (.int kq), .val (.double al), .second, .val (.double got), .second, .val (.double nu), .second, .val (.double de), .second] [(.double want), (.double got)])) _
        refine XS.dcmpS X138.here hx rfl (hb hby at_169) rfl rfl ?_
        show Steps p.tables e below (T138.setTop (mkF m 170 #[.val (.int p0), .val (.int p1), .val (.int p2), .val (.int p3), .val (.int mm), .val (.int ss), .val (.double vh), .second, .val (.int sel), .val (.int kq), .val (.double al), .second, .val (.double got), .second, .val (.double nu), .second, .val (.double de), .second] [(.int (cmpValue (FP.dcmp got want) .l))])) _
        refine XS.ifNo X138.here hx rfl (hb hby at_170) rfl ((if0 _ _).trans (teq hfin).2) ?_
        show Steps p.tables e below (T138.setTop (mkF m 173 #[.val (.int p0), .val (.int p1), .val (.int p2), .val (.int p3), .val (.int mm), .val (.int ss), .val (.double vh), .second, .val (.int sel), .val (.int kq), .val (.double al), .second, .val (.double got), .second, .val (.double nu), .second, .val (.double de), .second] [])) _
        refine XS.iconst X138.here hx rfl (hb hby at_173) ?_
        show Steps p.tables e below (T138.setTop (mkF m 174 #[.val (.int p0), .val (.int p1), .val (.int p2), .val (.int p3), .val (.int mm), .val (.int ss), .val (.double vh), .second, .val (.int sel), .val (.int kq), .val (.double al), .second, .val (.double got), .second, .val (.double nu), .second, .val (.double de), .second] [(.int (1 : Int32))])) _
        refine XS.goto X138.here hx rfl (pc0 := 174) (pc' := 178) rfl (hb hby at_174) (by decide) (by decide) ?_
        exact k)
      obtain ⟨fs, hr, hrun, hended, hRE⟩ := Stand.leaveW (s := s) (vm₁ := T133.vm) X138 hS133 (by rw [e138]; exact hk133) (v := some (.int (1 : Int32))) (fun h => by rw [Bd.returns] at h; cases h)
      refine ⟨_, _, k141 _ (retOut X138 hx (t := .boolean) Bd.returns rfl (Or.inl ⟨rfl, Or.inr (Or.inl rfl), _, rfl⟩) (hb hby at_178) hr), hrun, hended, _, _, rfl, ?_, hRE.1, hRE.2.1, hRE.2.2.1, hRE.2.2.2.mono (by decide) (by decide)⟩
      show Q_rm0 Z p0 p1 p2 p3 h0 n0 _ T138.heap _
      rw [e138]
      exact ⟨rfl, N139⟩
    · obtain ⟨nq, hnq⟩ : ∃ z : Int32, z = ((p3 &&& (1073741823 : Int32)) + (1 : Int32)) := ⟨_, rfl⟩
      have k142 : ∀ t, Steps p.tables e below (s₁.setTop (mkF m 187 #[.val (.int p0), .val (.int p1), .val (.int p2), .val (.int p3), .val (.int mm), .val (.int ss), .val (.double vh), .second, .val (.int sel), .val (.int nq), .unset, .unset, .unset, .unset, .unset, .unset, .unset, .unset] [])) t → Steps p.tables e below (s₁.setTop (entryFrame m #[(.int p0), (.int p1), (.int p2), (.int p3)] maxLocals)) t := fun t k => k122 t (by
        show Steps p.tables e below (s₁.setTop (mkF m 95 #[.val (.int p0), .val (.int p1), .val (.int p2), .val (.int p3), .val (.int mm), .val (.int ss), .val (.double vh), .second, .val (.int sel), .unset, .unset, .unset, .unset, .unset, .unset, .unset, .unset, .unset] [(.int (1 : Int32)), (.int sel)])) _
        refine XS.icmpYes X0.here hx rfl (pc0 := 95) (pc' := 179) rfl (hb hby at_95) rfl (feq c1).2 (by decide) (by decide) ?_
        show Steps p.tables e below (s₁.setTop (mkF m 179 #[.val (.int p0), .val (.int p1), .val (.int p2), .val (.int p3), .val (.int mm), .val (.int ss), .val (.double vh), .second, .val (.int sel), .unset, .unset, .unset, .unset, .unset, .unset, .unset, .unset, .unset] [])) _
        refine XS.iloadN X0.here hx rfl (hb hby at_179) rfl ?_
        show Steps p.tables e below (s₁.setTop (mkF m 180 #[.val (.int p0), .val (.int p1), .val (.int p2), .val (.int p3), .val (.int mm), .val (.int ss), .val (.double vh), .second, .val (.int sel), .unset, .unset, .unset, .unset, .unset, .unset, .unset, .unset, .unset] [(.int p3)])) _
        refine X0.ldcInt hx hown (mvT hZ (hw _ (List.mem_of_getElem? (i := 42) rfl))) (g := (mkF m 180 #[.val (.int p0), .val (.int p1), .val (.int p2), .val (.int p3), .val (.int mm), .val (.int ss), .val (.double vh), .second, .val (.int sel), .unset, .unset, .unset, .unset, .unset, .unset, .unset, .unset, .unset] [(.int p3)])) rfl (hb hby at_180) _ ?_
        show Steps p.tables e below (s₁.setTop (mkF m 182 #[.val (.int p0), .val (.int p1), .val (.int p2), .val (.int p3), .val (.int mm), .val (.int ss), .val (.double vh), .second, .val (.int sel), .unset, .unset, .unset, .unset, .unset, .unset, .unset, .unset, .unset] [(.int (1073741823 : Int32)), (.int p3)])) _
        refine XS.iand X0.here hx rfl (hb hby at_182) rfl ?_
        show Steps p.tables e below (s₁.setTop (mkF m 183 #[.val (.int p0), .val (.int p1), .val (.int p2), .val (.int p3), .val (.int mm), .val (.int ss), .val (.double vh), .second, .val (.int sel), .unset, .unset, .unset, .unset, .unset, .unset, .unset, .unset, .unset] [(.int (p3 &&& (1073741823 : Int32)))])) _
        refine XS.iconst X0.here hx rfl (hb hby at_183) ?_
        show Steps p.tables e below (s₁.setTop (mkF m 184 #[.val (.int p0), .val (.int p1), .val (.int p2), .val (.int p3), .val (.int mm), .val (.int ss), .val (.double vh), .second, .val (.int sel), .unset, .unset, .unset, .unset, .unset, .unset, .unset, .unset, .unset] [(.int (1 : Int32)), (.int (p3 &&& (1073741823 : Int32)))])) _
        refine XS.iadd X0.here hx rfl (hb hby at_184) rfl ?_
        show Steps p.tables e below (s₁.setTop (mkF m 185 #[.val (.int p0), .val (.int p1), .val (.int p2), .val (.int p3), .val (.int mm), .val (.int ss), .val (.double vh), .second, .val (.int sel), .unset, .unset, .unset, .unset, .unset, .unset, .unset, .unset, .unset] [(.int ((p3 &&& (1073741823 : Int32)) + (1 : Int32)))])) _
        refine castTop (g' := (mkF m 185 #[.val (.int p0), .val (.int p1), .val (.int p2), .val (.int p3), .val (.int mm), .val (.int ss), .val (.double vh), .second, .val (.int sel), .unset, .unset, .unset, .unset, .unset, .unset, .unset, .unset, .unset] [(.int nq)])) (by rw [hnq]) ?_
        show Steps p.tables e below (s₁.setTop (mkF m 185 #[.val (.int p0), .val (.int p1), .val (.int p2), .val (.int p3), .val (.int mm), .val (.int ss), .val (.double vh), .second, .val (.int sel), .unset, .unset, .unset, .unset, .unset, .unset, .unset, .unset, .unset] [(.int nq)])) _
        refine XS.istore X0.here hx rfl (hb hby at_185) rfl (l' := #[.val (.int p0), .val (.int p1), .val (.int p2), .val (.int p3), .val (.int mm), .val (.int ss), .val (.double vh), .second, .val (.int sel), .val (.int nq), .unset, .unset, .unset, .unset, .unset, .unset, .unset, .unset]) rfl ?_
        exact k)
      have Bn := own_n2 p3 nq hnq
      obtain ⟨vn, hvn⟩ : ∃ z : UInt64, FP.i2d nq = z := ⟨_, rfl⟩
      have Dvn : Dy (nq.toInt) (0) vn := by rw [← hvn]; exact Dy.i2d _
      obtain ⟨vf, hvf⟩ : ∃ z : UInt64, FP.ddiv vn (4697254411347427328 : UInt64) = z := ⟨_, rfl⟩
      have Dvf : Dy (nq.toInt) (20) vf := by rw [← hvf]; exact Dy.div Dvn own_m20 (by decide) (by omega) (by decide) (by omega)
      obtain ⟨al, hal⟩ : ∃ z : UInt64, FP.dadd (4611686018427387904 : UInt64) vf = z := ⟨_, rfl⟩
      have Dal : Dy (2097152 + nq.toInt) (20) al := by rw [← hal]; exact Dy.add own_two20 Dvf (by omega) (by decide)
      have k143 : ∀ t, Steps p.tables e below (s₁.setTop (mkF m 200 #[.val (.int p0), .val (.int p1), .val (.int p2), .val (.int p3), .val (.int mm), .val (.int ss), .val (.double vh), .second, .val (.int sel), .val (.int nq), .val (.double al), .second, .unset, .unset, .unset, .unset, .unset, .unset] [])) t → Steps p.tables e below (s₁.setTop (entryFrame m #[(.int p0), (.int p1), (.int p2), (.int p3)] maxLocals)) t := fun t k => k142 t (by
        show Steps p.tables e below (s₁.setTop (mkF m 187 #[.val (.int p0), .val (.int p1), .val (.int p2), .val (.int p3), .val (.int mm), .val (.int ss), .val (.double vh), .second, .val (.int sel), .val (.int nq), .unset, .unset, .unset, .unset, .unset, .unset, .unset, .unset] [])) _
        refine X0.ldc2DoubleC hx hown (mvT hZ (hw _ (List.mem_of_getElem? (i := 43) rfl))) (g := (mkF m 187 #[.val (.int p0), .val (.int p1), .val (.int p2), .val (.int p3), .val (.int mm), .val (.int ss), .val (.double vh), .second, .val (.int sel), .val (.int nq), .unset, .unset, .unset, .unset, .unset, .unset, .unset, .unset] [])) rfl (hb hby at_187) _ ?_
        show Steps p.tables e below (s₁.setTop (mkF m 190 #[.val (.int p0), .val (.int p1), .val (.int p2), .val (.int p3), .val (.int mm), .val (.int ss), .val (.double vh), .second, .val (.int sel), .val (.int nq), .unset, .unset, .unset, .unset, .unset, .unset, .unset, .unset] [(.double (4611686018427387904 : UInt64))])) _
        refine XS.iload X0.here hx rfl (hb hby at_190) rfl ?_
        show Steps p.tables e below (s₁.setTop (mkF m 192 #[.val (.int p0), .val (.int p1), .val (.int p2), .val (.int p3), .val (.int mm), .val (.int ss), .val (.double vh), .second, .val (.int sel), .val (.int nq), .unset, .unset, .unset, .unset, .unset, .unset, .unset, .unset] [(.int nq), (.double (4611686018427387904 : UInt64))])) _
        refine XS.i2dS X0.here hx rfl (hb hby at_192) rfl hvn ?_
        show Steps p.tables e below (s₁.setTop (mkF m 193 #[.val (.int p0), .val (.int p1), .val (.int p2), .val (.int p3), .val (.int mm), .val (.int ss), .val (.double vh), .second, .val (.int sel), .val (.int nq), .unset, .unset, .unset, .unset, .unset, .unset, .unset, .unset] [(.double vn), (.double (4611686018427387904 : UInt64))])) _
        refine X0.ldc2DoubleC hx hown (mvT hZ (hw _ (List.mem_of_getElem? (i := 2) rfl))) (g := (mkF m 193 #[.val (.int p0), .val (.int p1), .val (.int p2), .val (.int p3), .val (.int mm), .val (.int ss), .val (.double vh), .second, .val (.int sel), .val (.int nq), .unset, .unset, .unset, .unset, .unset, .unset, .unset, .unset] [(.double vn), (.double (4611686018427387904 : UInt64))])) rfl (hb hby at_193) _ ?_
        show Steps p.tables e below (s₁.setTop (mkF m 196 #[.val (.int p0), .val (.int p1), .val (.int p2), .val (.int p3), .val (.int mm), .val (.int ss), .val (.double vh), .second, .val (.int sel), .val (.int nq), .unset, .unset, .unset, .unset, .unset, .unset, .unset, .unset] [(.double (4697254411347427328 : UInt64)), (.double vn), (.double (4611686018427387904 : UInt64))])) _
        refine XS.ddivS X0.here hx rfl (hb hby at_196) rfl (by rw [hvf]; exact Dvf.nn) hvf ?_
        show Steps p.tables e below (s₁.setTop (mkF m 197 #[.val (.int p0), .val (.int p1), .val (.int p2), .val (.int p3), .val (.int mm), .val (.int ss), .val (.double vh), .second, .val (.int sel), .val (.int nq), .unset, .unset, .unset, .unset, .unset, .unset, .unset, .unset] [(.double vf), (.double (4611686018427387904 : UInt64))])) _
        refine XS.daddS X0.here hx rfl (hb hby at_197) rfl (by rw [hal]; exact Dal.nn) hal ?_
        show Steps p.tables e below (s₁.setTop (mkF m 198 #[.val (.int p0), .val (.int p1), .val (.int p2), .val (.int p3), .val (.int mm), .val (.int ss), .val (.double vh), .second, .val (.int sel), .val (.int nq), .unset, .unset, .unset, .unset, .unset, .unset, .unset, .unset] [(.double al)])) _
        refine XS.dstore X0.here hx rfl (hb hby at_198) rfl (l' := #[.val (.int p0), .val (.int p1), .val (.int p2), .val (.int p3), .val (.int mm), .val (.int ss), .val (.double vh), .second, .val (.int sel), .val (.int nq), .val (.double al), .second, .unset, .unset, .unset, .unset, .unset, .unset]) rfl ?_
        exact k)
      obtain ⟨T144, h144, X144, e144, E144, A144, D144, -, st144⟩ := newO X0 hx hZ hown (hw _ (List.mem_of_getElem? (i := 3) rfl)) (hw _ (List.mem_of_getElem? (i := 4) rfl)) (hw _ (List.mem_of_getElem? (i := 5) rfl)) e0 (g := (mkF m 200 #[.val (.int p0), .val (.int p1), .val (.int p2), .val (.int p3), .val (.int mm), .val (.int ss), .val (.double vh), .second, .val (.int sel), .val (.int nq), .val (.double al), .second, .unset, .unset, .unset, .unset, .unset, .unset] [])) rfl (hb hby at_200) (by decide) (by decide)
      obtain ⟨b144, g144⟩ : ∃ z, z = h0.size := ⟨_, rfl⟩
      rw [← g144] at A144 D144 st144
      have g145 : n0 ≤ b144 := Nat.le_trans Z0 (Nat.le_of_eq g144.symm)
      have Z146 : n0 ≤ h144.size := Nat.le_trans Z0 E144.1
      have hk147 : 0 ≤ h144.size := Nat.le_trans (Nat.zero_le _) E144.1
      have F148 : Fld Z h144 b144 "com/example/surety/surety/core/ParetoUpTimes" "h" "D" (.double (0 : UInt64)) := D144 (Or.inr (hw _ (List.mem_of_getElem? (i := 32) rfl))) (ty := .double) (by decide)
      have F149 : Fld Z h144 b144 "com/example/surety/surety/core/ParetoUpTimes" "alpha" "D" (.double (0 : UInt64)) := D144 (Or.inr (hw _ (List.mem_of_getElem? (i := 34) rfl))) (ty := .double) (by decide)
      have k150 : ∀ t, Steps p.tables e below (T144.setTop (mkF m 203 #[.val (.int p0), .val (.int p1), .val (.int p2), .val (.int p3), .val (.int mm), .val (.int ss), .val (.double vh), .second, .val (.int sel), .val (.int nq), .val (.double al), .second, .unset, .unset, .unset, .unset, .unset, .unset] [(.ref b144)])) t → Steps p.tables e below (s₁.setTop (entryFrame m #[(.int p0), (.int p1), (.int p2), (.int p3)] maxLocals)) t := fun t k => k143 t (st144 t k)
      obtain ⟨A, B, C, O24, O42, V25, V29, V34, V43, U220, U223, U232, U239, U240, U248, L1, L2⟩ := own_v2 Bm Bn S15 Dvh Dal
      have k151 : ∀ t, Steps p.tables e below (T144.setTop (mkF m 208 #[.val (.int p0), .val (.int p1), .val (.int p2), .val (.int p3), .val (.int mm), .val (.int ss), .val (.double vh), .second, .val (.int sel), .val (.int nq), .val (.double al), .second, .unset, .unset, .unset, .unset, .unset, .unset] [(.double al), (.double vh), (.ref b144), (.ref b144)])) t → Steps p.tables e below (s₁.setTop (entryFrame m #[(.int p0), (.int p1), (.int p2), (.int p3)] maxLocals)) t := fun t k => k150 t (by
        show Steps p.tables e below (T144.setTop (mkF m 203 #[.val (.int p0), .val (.int p1), .val (.int p2), .val (.int p3), .val (.int mm), .val (.int ss), .val (.double vh), .second, .val (.int sel), .val (.int nq), .val (.double al), .second, .unset, .unset, .unset, .unset, .unset, .unset] [(.ref b144)])) _
        refine XS.dup X144.here hx rfl (hb hby at_203) rfl rfl ?_
        show Steps p.tables e below (T144.setTop (mkF m 204 #[.val (.int p0), .val (.int p1), .val (.int p2), .val (.int p3), .val (.int mm), .val (.int ss), .val (.double vh), .second, .val (.int sel), .val (.int nq), .val (.double al), .second, .unset, .unset, .unset, .unset, .unset, .unset] [(.ref b144), (.ref b144)])) _
        refine XS.dload X144.here hx rfl (hb hby at_204) rfl ?_
        show Steps p.tables e below (T144.setTop (mkF m 206 #[.val (.int p0), .val (.int p1), .val (.int p2), .val (.int p3), .val (.int mm), .val (.int ss), .val (.double vh), .second, .val (.int sel), .val (.int nq), .val (.double al), .second, .unset, .unset, .unset, .unset, .unset, .unset] [(.double vh), (.ref b144), (.ref b144)])) _
        refine XS.dload X144.here hx rfl (hb hby at_206) rfl ?_
        exact k)
      obtain ⟨_, _, ⟨T152, L152, k152, n152⟩, -, Xa152, hSa152, hga152, ⟨Lc152, hQ152, l152, y152, z152⟩, st152⟩ := X144.specialBackS hx (y := (⟨"com/example/surety/surety/core/ParetoUpTimes", "<init>", "(DD)V"⟩ : MethodName)) rfl hown (mvT hZ (hw _ (List.mem_of_getElem? (i := 6) rfl))) (mvT hZ (hw _ (List.mem_of_getElem? (i := 7) rfl))) (mvT hZ (hw _ (List.mem_of_getElem? (i := 8) rfl))) (by decide) (backOfS (W := 1) (rm1 l Z a0 hw [] b144 vh al h144 n0 Z146 F148 F149 A144 g145 (by rw [Dvh.cmp_gt (dy0 S) (by omega)]; decide) (Dvh.lt_inf .g) (by rw [Dal.cmp_gt (dy0 _) (by omega)]; decide) (Dal.lt_inf .g)) hZ (hw _ (List.mem_of_getElem? (i := 8) rfl)) (hw _ (List.mem_of_getElem? (i := 5) rfl)) (by decide) (by decide)) (g := (mkF m 208 #[.val (.int p0), .val (.int p1), .val (.int p2), .val (.int p3), .val (.int mm), .val (.int ss), .val (.double vh), .second, .val (.int sel), .val (.int nq), .val (.double al), .second, .unset, .unset, .unset, .unset, .unset, .unset] [(.double al), (.double vh), (.ref b144), (.ref b144)])) rfl (by rw [hml]; rfl) (Steps.refl _) (a := b144) (argsL := [(.double vh), (.double al)]) (rest := [(.ref b144)]) (lenOf pd__28DD_29V rfl) rfl (by show 2 * 0 + _ ≤ _; exact Nat.le_of_eq rfl) (hb hby at_208) (fun _ _ => ⟨rfl, e144, (by decide : 1 + 4 ≤ _), (by decide : 2 + 32 ≤ _)⟩)
      dsimp only [Pt.U, Pt.locs, Pt.cells, Pt.slots] at Xa152 hSa152 hga152 l152 y152 z152 st152 hQ152
      subst l152 y152 z152
      obtain ⟨X152, hS152, hZ152, hown152⟩ := rebS (s := s) (vm0 := s.vm) hS0 (n1 := T144.heap.size) (by rw [e144]; exact hk147) Xa152 hSa152 hga152 hZ hown
      obtain ⟨h152, e152⟩ : ∃ h', T152.heap = h' := ⟨_, rfl⟩
      rw [e152] at hQ152
      obtain ⟨rfl, N152q, K152, G152a, G152b, G152c⟩ := hQ152
      have hk152 : T152.heap.size ≤ h152.size := Nat.le_of_eq (congrArg Array.size e152)
      have N153 := Fr.app N0 N152q
      have k154 : ∀ t, Steps p.tables e below (T152.setTop (mkF m 211 #[.val (.int p0), .val (.int p1), .val (.int p2), .val (.int p3), .val (.int mm), .val (.int ss), .val (.double vh), .second, .val (.int sel), .val (.int nq), .val (.double al), .second, .unset, .unset, .unset, .unset, .unset, .unset] [(.ref b144)])) t → Steps p.tables e below (s₁.setTop (entryFrame m #[(.int p0), (.int p1), (.int p2), (.int p3)] maxLocals)) t := fun t k => k151 t (st152.trans k)
      have F155 := A144.keep K152
      have Z156 : n0 ≤ h152.size := Nat.le_trans Z146 K152.1
      obtain ⟨cq157, kq157, q157a, q157b, q157c⟩ := isOf hZ152 e152 G152a
      obtain ⟨_, _, ⟨T157, L157, k157, n157⟩, -, X157, ⟨Lc157, hQ157, l157, y157, z157⟩, st157⟩ := X152.virtualBack hx (y := (⟨"com/example/surety/surety/core/ParetoUpTimes", "variance", "()D"⟩ : MethodName)) (z := (⟨"com/example/surety/surety/core/ParetoUpTimes", "variance", "()D"⟩ : MethodName)) hown152 (mvT hZ152 (hw _ (List.mem_of_getElem? (i := 35) rfl))) (mvT hZ152 (hw _ (List.mem_of_getElem? (i := 36) rfl))) (notFace_of_selects (args := #[]) (mvT hZ152 (hw _ (List.mem_of_getElem? (i := 38) rfl)))) (mvT hZ152 (hw _ (List.mem_of_getElem? (i := 38) rfl))) (mvT hZ152 (hw _ (List.mem_of_getElem? (i := 37) rfl))) (by decide) (backOf (W := 0) (vari1 l Z a0 hw [] b144 vh al h152 n0 Z156 G152b G152c (by rw [Dal.cmp_gt own_two20 (by omega)]; decide) O24.nn V25 V29 V34 O42.nn V43) hZ152 (hw _ (List.mem_of_getElem? (i := 39) rfl)) (hw _ (List.mem_of_getElem? (i := 5) rfl)) (by decide) (by decide)) q157a q157c (g := (mkF m 211 #[.val (.int p0), .val (.int p1), .val (.int p2), .val (.int p3), .val (.int mm), .val (.int ss), .val (.double vh), .second, .val (.int sel), .val (.int nq), .val (.double al), .second, .unset, .unset, .unset, .unset, .unset, .unset] [(.ref b144)])) rfl (by rw [hml]; rfl) (Steps.refl _) (argsL := []) (rest := []) (lenOf pd__28_29D rfl) rfl (by show 2 * 0 + _ ≤ _; exact Nat.le_of_eq rfl) (hb hby at_211) (fun _ _ => ⟨rfl, e152, (by decide : 5 + 0 ≤ _), (by decide : 34 + 0 ≤ _)⟩)
      dsimp only [Pt.U, Pt.locs, Pt.cells, Pt.slots] at X157 l157 y157 z157 st157 hQ157
      subst l157 y157 z157
      obtain ⟨rfl, N157q, e157⟩ := hQ157
      have N158 := Fr.app N153 N157q
      have k159 : ∀ t, Steps p.tables e below (T157.setTop (mkF m 214 #[.val (.int p0), .val (.int p1), .val (.int p2), .val (.int p3), .val (.int mm), .val (.int ss), .val (.double vh), .second, .val (.int sel), .val (.int nq), .val (.double al), .second, .unset, .unset, .unset, .unset, .unset, .unset] [(.double (FP.ddiv (FP.dmul (FP.dmul (FP.ddiv vh (FP.dsub al (4607182418800017408 : UInt64))) (FP.ddiv vh (FP.dsub al (4607182418800017408 : UInt64)))) al) (FP.dsub al (4611686018427387904 : UInt64))))])) t → Steps p.tables e below (s₁.setTop (entryFrame m #[(.int p0), (.int p1), (.int p2), (.int p3)] maxLocals)) t := fun t k => k154 t (st157.trans k)
      obtain ⟨got, hgot⟩ : ∃ z : UInt64, z = (FP.ddiv (FP.dmul (FP.dmul (FP.ddiv vh (FP.dsub al (4607182418800017408 : UInt64))) (FP.ddiv vh (FP.dsub al (4607182418800017408 : UInt64)))) al) (FP.dsub al (4611686018427387904 : UInt64))) := ⟨_, rfl⟩
      obtain ⟨t1, ht1⟩ : ∃ z : UInt64, FP.dmul al vh = z := ⟨_, rfl⟩
      obtain ⟨t2, ht2⟩ : ∃ z : UInt64, FP.dmul t1 vh = z := ⟨_, rfl⟩
      obtain ⟨t3, ht3⟩ : ∃ z : UInt64, FP.dsub al (4607182418800017408 : UInt64) = z := ⟨_, rfl⟩
      obtain ⟨t4, ht4⟩ : ∃ z : UInt64, FP.dsub al (4607182418800017408 : UInt64) = z := ⟨_, rfl⟩
      obtain ⟨t5, ht5⟩ : ∃ z : UInt64, FP.dmul t3 t4 = z := ⟨_, rfl⟩
      obtain ⟨t6, ht6⟩ : ∃ z : UInt64, FP.dsub al (4611686018427387904 : UInt64) = z := ⟨_, rfl⟩
      obtain ⟨t7, ht7⟩ : ∃ z : UInt64, FP.dmul t5 t6 = z := ⟨_, rfl⟩
      obtain ⟨ref, href⟩ : ∃ z : UInt64, FP.ddiv t2 t7 = z := ⟨_, rfl⟩
      have eref : ref = (FP.ddiv (FP.dmul (FP.dmul al vh) vh) (FP.dmul (FP.dmul (FP.dsub al (4607182418800017408 : UInt64)) (FP.dsub al (4607182418800017408 : UInt64))) (FP.dsub al (4611686018427387904 : UInt64)))) := by rw [← href, ← ht2, ← ht1, ← ht7, ← ht5, ← ht3, ← ht4, ← ht6]
      obtain ⟨tol, htol⟩ : ∃ z : UInt64, FP.ddiv ref (4787326403894837248 : UInt64) = z := ⟨_, rfl⟩
      have etol : tol = FP.ddiv (FP.ddiv (FP.dmul (FP.dmul al vh) vh) (FP.dmul (FP.dmul (FP.dsub al (4607182418800017408 : UInt64)) (FP.dsub al (4607182418800017408 : UInt64))) (FP.dsub al (4611686018427387904 : UInt64)))) (4787326403894837248 : UInt64) := by rw [← htol, eref]
      obtain ⟨d1, hd1⟩ : ∃ z : UInt64, FP.dsub got ref = z := ⟨_, rfl⟩
      have hf1 : ¬ ((0 : Int32) < cmpValue (FP.dcmp d1 tol) .g) := by rw [← hd1, hgot, eref, etol]; exact L1.2
      obtain ⟨d2, hd2⟩ : ∃ z : UInt64, FP.dsub ref got = z := ⟨_, rfl⟩
      have hf2 : ¬ ((0 : Int32) < cmpValue (FP.dcmp d2 tol) .g) := by rw [← hd2, hgot, eref, etol]; exact L2.2
      have k160 : ∀ t, Steps p.tables e below (T157.setTop (mkF m 278 #[.val (.int p0), .val (.int p1), .val (.int p2), .val (.int p3), .val (.int mm), .val (.int ss), .val (.double vh), .second, .val (.int sel), .val (.int nq), .val (.double al), .second, .val (.double got), .second, .val (.double ref), .second, .val (.double tol), .second] [(.int (1 : Int32))])) t → Steps p.tables e below (s₁.setTop (entryFrame m #[(.int p0), (.int p1), (.int p2), (.int p3)] maxLocals)) t := fun t k => k159 t (by
        show Steps p.tables e below (T157.setTop (mkF m 214 #[.val (.int p0), .val (.int p1), .val (.int p2), .val (.int p3), .val (.int mm), .val (.int ss), .val (.double vh), .second, .val (.int sel), .val (.int nq), .val (.double al), .second, .unset, .unset, .unset, .unset, .unset, .unset] [(.double (FP.ddiv (FP.dmul (FP.dmul (FP.ddiv vh (FP.dsub al (4607182418800017408 : UInt64))) (FP.ddiv vh (FP.dsub al (4607182418800017408 : UInt64)))) al) (FP.dsub al (4611686018427387904 : UInt64))))])) _
        refine castTop (g' := (mkF m 214 #[.val (.int p0), .val (.int p1), .val (.int p2), .val (.int p3), .val (.int mm), .val (.int ss), .val (.double vh), .second, .val (.int sel), .val (.int nq), .val (.double al), .second, .unset, .unset, .unset, .unset, .unset, .unset] [(.double got)])) (by rw [hgot]) ?_
        show Steps p.tables e below (T157.setTop (mkF m 214 #[.val (.int p0), .val (.int p1), .val (.int p2), .val (.int p3), .val (.int mm), .val (.int ss), .val (.double vh), .second, .val (.int sel), .val (.int nq), .val (.double al), .second, .unset, .unset, .unset, .unset, .unset, .unset] [(.double got)])) _
        refine XS.dstore X157.here hx rfl (hb hby at_214) rfl (l' := #[.val (.int p0), .val (.int p1), .val (.int p2), .val (.int p3), .val (.int mm), .val (.int ss), .val (.double vh), .second, .val (.int sel), .val (.int nq), .val (.double al), .second, .val (.double got), .second, .unset, .unset, .unset, .unset]) rfl ?_
        show Steps p.tables e below (T157.setTop (mkF m 216 #[.val (.int p0), .val (.int p1), .val (.int p2), .val (.int p3), .val (.int mm), .val (.int ss), .val (.double vh), .second, .val (.int sel), .val (.int nq), .val (.double al), .second, .val (.double got), .second, .unset, .unset, .unset, .unset] [])) _
        refine XS.dload X157.here hx rfl (hb hby at_216) rfl ?_
        show Steps p.tables e below (T157.setTop (mkF m 218 #[.val (.int p0), .val (.int p1), .val (.int p2), .val (.int p3), .val (.int mm), .val (.int ss), .val (.double vh), .second, .val (.int sel), .val (.int nq), .val (.double al), .second, .val (.double got), .second, .unset, .unset, .unset, .unset] [(.double al)])) _
        refine XS.dload X157.here hx rfl (hb hby at_218) rfl ?_
        show Steps p.tables e below (T157.setTop (mkF m 220 #[.val (.int p0), .val (.int p1), .val (.int p2), .val (.int p3), .val (.int mm), .val (.int ss), .val (.double vh), .second, .val (.int sel), .val (.int nq), .val (.double al), .second, .val (.double got), .second, .unset, .unset, .unset, .unset] [(.double vh), (.double al)])) _
        refine XS.dmulS X157.here hx rfl (hb hby at_220) rfl (U220) ht1 ?_
        show Steps p.tables e below (T157.setTop (mkF m 221 #[.val (.int p0), .val (.int p1), .val (.int p2), .val (.int p3), .val (.int mm), .val (.int ss), .val (.double vh), .second, .val (.int sel), .val (.int nq), .val (.double al), .second, .val (.double got), .second, .unset, .unset, .unset, .unset] [(.double t1)])) _
        refine XS.dload X157.here hx rfl (hb hby at_221) rfl ?_
        show Steps p.tables e below (T157.setTop (mkF m 223 #[.val (.int p0), .val (.int p1), .val (.int p2), .val (.int p3), .val (.int mm), .val (.int ss), .val (.double vh), .second, .val (.int sel), .val (.int nq), .val (.double al), .second, .val (.double got), .second, .unset, .unset, .unset, .unset] [(.double vh), (.double t1)])) _
        refine XS.dmulS X157.here hx rfl (hb hby at_223) rfl ((by rw [← ht1]; exact U223)) ht2 ?_
        show Steps p.tables e below (T157.setTop (mkF m 224 #[.val (.int p0), .val (.int p1), .val (.int p2), .val (.int p3), .val (.int mm), .val (.int ss), .val (.double vh), .second, .val (.int sel), .val (.int nq), .val (.double al), .second, .val (.double got), .second, .unset, .unset, .unset, .unset] [(.double t2)])) _
        refine XS.dload X157.here hx rfl (hb hby at_224) rfl ?_
        show Steps p.tables e below (T157.setTop (mkF m 226 #[.val (.int p0), .val (.int p1), .val (.int p2), .val (.int p3), .val (.int mm), .val (.int ss), .val (.double vh), .second, .val (.int sel), .val (.int nq), .val (.double al), .second, .val (.double got), .second, .unset, .unset, .unset, .unset] [(.double al), (.double t2)])) _
        refine XS.dconst1 X157.here hx rfl (hb hby at_226) (v := (4607182418800017408 : UInt64)) rfl ?_
        show Steps p.tables e below (T157.setTop (mkF m 227 #[.val (.int p0), .val (.int p1), .val (.int p2), .val (.int p3), .val (.int mm), .val (.int ss), .val (.double vh), .second, .val (.int sel), .val (.int nq), .val (.double al), .second, .val (.double got), .second, .unset, .unset, .unset, .unset] [(.double (4607182418800017408 : UInt64)), (.double al), (.double t2)])) _
        refine XS.dsubS X157.here hx rfl (hb hby at_227) rfl (O24.nn) ht3 ?_
        show Steps p.tables e below (T157.setTop (mkF m 228 #[.val (.int p0), .val (.int p1), .val (.int p2), .val (.int p3), .val (.int mm), .val (.int ss), .val (.double vh), .second, .val (.int sel), .val (.int nq), .val (.double al), .second, .val (.double got), .second, .unset, .unset, .unset, .unset] [(.double t3), (.double t2)])) _
        refine XS.dload X157.here hx rfl (hb hby at_228) rfl ?_
        show Steps p.tables e below (T157.setTop (mkF m 230 #[.val (.int p0), .val (.int p1), .val (.int p2), .val (.int p3), .val (.int mm), .val (.int ss), .val (.double vh), .second, .val (.int sel), .val (.int nq), .val (.double al), .second, .val (.double got), .second, .unset, .unset, .unset, .unset] [(.double al), (.double t3), (.double t2)])) _
        refine XS.dconst1 X157.here hx rfl (hb hby at_230) (v := (4607182418800017408 : UInt64)) rfl ?_
        show Steps p.tables e below (T157.setTop (mkF m 231 #[.val (.int p0), .val (.int p1), .val (.int p2), .val (.int p3), .val (.int mm), .val (.int ss), .val (.double vh), .second, .val (.int sel), .val (.int nq), .val (.double al), .second, .val (.double got), .second, .unset, .unset, .unset, .unset] [(.double (4607182418800017408 : UInt64)), (.double al), (.double t3), (.double t2)])) _
        refine XS.dsubS X157.here hx rfl (hb hby at_231) rfl (O24.nn) ht4 ?_
        show Steps p.tables e below (T157.setTop (mkF m 232 #[.val (.int p0), .val (.int p1), .val (.int p2), .val (.int p3), .val (.int mm), .val (.int ss), .val (.double vh), .second, .val (.int sel), .val (.int nq), .val (.double al), .second, .val (.double got), .second, .unset, .unset, .unset, .unset] [(.double t4), (.double t3), (.double t2)])) _
        refine XS.dmulS X157.here hx rfl (hb hby at_232) rfl ((by rw [← ht3, ← ht4]; exact U232)) ht5 ?_
        show Steps p.tables e below (T157.setTop (mkF m 233 #[.val (.int p0), .val (.int p1), .val (.int p2), .val (.int p3), .val (.int mm), .val (.int ss), .val (.double vh), .second, .val (.int sel), .val (.int nq), .val (.double al), .second, .val (.double got), .second, .unset, .unset, .unset, .unset] [(.double t5), (.double t2)])) _
        refine XS.dload X157.here hx rfl (hb hby at_233) rfl ?_
        show Steps p.tables e below (T157.setTop (mkF m 235 #[.val (.int p0), .val (.int p1), .val (.int p2), .val (.int p3), .val (.int mm), .val (.int ss), .val (.double vh), .second, .val (.int sel), .val (.int nq), .val (.double al), .second, .val (.double got), .second, .unset, .unset, .unset, .unset] [(.double al), (.double t5), (.double t2)])) _
        refine X157.ldc2DoubleC hx hown152 (mvT hZ152 (hw _ (List.mem_of_getElem? (i := 43) rfl))) (g := (mkF m 235 #[.val (.int p0), .val (.int p1), .val (.int p2), .val (.int p3), .val (.int mm), .val (.int ss), .val (.double vh), .second, .val (.int sel), .val (.int nq), .val (.double al), .second, .val (.double got), .second, .unset, .unset, .unset, .unset] [(.double al), (.double t5), (.double t2)])) rfl (hb hby at_235) _ ?_
        show Steps p.tables e below (T157.setTop (mkF m 238 #[.val (.int p0), .val (.int p1), .val (.int p2), .val (.int p3), .val (.int mm), .val (.int ss), .val (.double vh), .second, .val (.int sel), .val (.int nq), .val (.double al), .second, .val (.double got), .second, .unset, .unset, .unset, .unset] [(.double (4611686018427387904 : UInt64)), (.double al), (.double t5), (.double t2)])) _
        refine XS.dsubS X157.here hx rfl (hb hby at_238) rfl (O42.nn) ht6 ?_
        show Steps p.tables e below (T157.setTop (mkF m 239 #[.val (.int p0), .val (.int p1), .val (.int p2), .val (.int p3), .val (.int mm), .val (.int ss), .val (.double vh), .second, .val (.int sel), .val (.int nq), .val (.double al), .second, .val (.double got), .second, .unset, .unset, .unset, .unset] [(.double t6), (.double t5), (.double t2)])) _
        refine XS.dmulS X157.here hx rfl (hb hby at_239) rfl ((by rw [← ht5, ← ht3, ← ht4, ← ht6]; exact U239)) ht7 ?_
        show Steps p.tables e below (T157.setTop (mkF m 240 #[.val (.int p0), .val (.int p1), .val (.int p2), .val (.int p3), .val (.int mm), .val (.int ss), .val (.double vh), .second, .val (.int sel), .val (.int nq), .val (.double al), .second, .val (.double got), .second, .unset, .unset, .unset, .unset] [(.double t7), (.double t2)])) _
        refine XS.ddivS X157.here hx rfl (hb hby at_240) rfl ((by rw [← ht2, ← ht1, ← ht7, ← ht5, ← ht3, ← ht4, ← ht6]; exact U240)) href ?_
        show Steps p.tables e below (T157.setTop (mkF m 241 #[.val (.int p0), .val (.int p1), .val (.int p2), .val (.int p3), .val (.int mm), .val (.int ss), .val (.double vh), .second, .val (.int sel), .val (.int nq), .val (.double al), .second, .val (.double got), .second, .unset, .unset, .unset, .unset] [(.double ref)])) _
        refine XS.dstore X157.here hx rfl (hb hby at_241) rfl (l' := #[.val (.int p0), .val (.int p1), .val (.int p2), .val (.int p3), .val (.int mm), .val (.int ss), .val (.double vh), .second, .val (.int sel), .val (.int nq), .val (.double al), .second, .val (.double got), .second, .val (.double ref), .second, .unset, .unset]) rfl ?_
        show Steps p.tables e below (T157.setTop (mkF m 243 #[.val (.int p0), .val (.int p1), .val (.int p2), .val (.int p3), .val (.int mm), .val (.int ss), .val (.double vh), .second, .val (.int sel), .val (.int nq), .val (.double al), .second, .val (.double got), .second, .val (.double ref), .second, .unset, .unset] [])) _
        refine XS.dload X157.here hx rfl (hb hby at_243) rfl ?_
        show Steps p.tables e below (T157.setTop (mkF m 245 #[.val (.int p0), .val (.int p1), .val (.int p2), .val (.int p3), .val (.int mm), .val (.int ss), .val (.double vh), .second, .val (.int sel), .val (.int nq), .val (.double al), .second, .val (.double got), .second, .val (.double ref), .second, .unset, .unset] [(.double ref)])) _
        refine X157.ldc2DoubleC hx hown152 (mvT hZ152 (hw _ (List.mem_of_getElem? (i := 44) rfl))) (g := (mkF m 245 #[.val (.int p0), .val (.int p1), .val (.int p2), .val (.int p3), .val (.int mm), .val (.int ss), .val (.double vh), .second, .val (.int sel), .val (.int nq), .val (.double al), .second, .val (.double got), .second, .val (.double ref), .second, .unset, .unset] [(.double ref)])) rfl (hb hby at_245) _ ?_
        show Steps p.tables e below (T157.setTop (mkF m 248 #[.val (.int p0), .val (.int p1), .val (.int p2), .val (.int p3), .val (.int mm), .val (.int ss), .val (.double vh), .second, .val (.int sel), .val (.int nq), .val (.double al), .second, .val (.double got), .second, .val (.double ref), .second, .unset, .unset] [(.double (4787326403894837248 : UInt64)), (.double ref)])) _
        refine XS.ddivS X157.here hx rfl (hb hby at_248) rfl ((by rw [eref]; exact U248)) htol ?_
        show Steps p.tables e below (T157.setTop (mkF m 249 #[.val (.int p0), .val (.int p1), .val (.int p2), .val (.int p3), .val (.int mm), .val (.int ss), .val (.double vh), .second, .val (.int sel), .val (.int nq), .val (.double al), .second, .val (.double got), .second, .val (.double ref), .second, .unset, .unset] [(.double tol)])) _
        refine XS.dstore X157.here hx rfl (hb hby at_249) rfl (l' := #[.val (.int p0), .val (.int p1), .val (.int p2), .val (.int p3), .val (.int mm), .val (.int ss), .val (.double vh), .second, .val (.int sel), .val (.int nq), .val (.double al), .second, .val (.double got), .second, .val (.double ref), .second, .val (.double tol), .second]) rfl ?_
        show Steps p.tables e below (T157.setTop (mkF m 251 #[.val (.int p0), .val (.int p1), .val (.int p2), .val (.int p3), .val (.int mm), .val (.int ss), .val (.double vh), .second, .val (.int sel), .val (.int nq), .val (.double al), .second, .val (.double got), .second, .val (.double ref), .second, .val (.double tol), .second] [])) _
        refine XS.dload X157.here hx rfl (hb hby at_251) rfl ?_
        show Steps p.tables e below (T157.setTop (mkF m 253 #[.val (.int p0), .val (.int p1), .val (.int p2), .val (.int p3), .val (.int mm), .val (.int ss), .val (.double vh), .second, .val (.int sel), .val (.int nq), .val (.double al), .second, .val (.double got), .second, .val (.double ref), .second, .val (.double tol), .second] [(.double got)])) _
        refine XS.dload X157.here hx rfl (hb hby at_253) rfl ?_
        show Steps p.tables e below (T157.setTop (mkF m 255 #[.val (.int p0), .val (.int p1), .val (.int p2), .val (.int p3), .val (.int mm), .val (.int ss), .val (.double vh), .second, .val (.int sel), .val (.int nq), .val (.double al), .second, .val (.double got), .second, .val (.double ref), .second, .val (.double tol), .second] [(.double ref), (.double got)])) _
        refine XS.dsubS X157.here hx rfl (hb hby at_255) rfl ((by rw [hgot, eref]; exact L1.1)) hd1 ?_
        show Steps p.tables e below (T157.setTop (mkF m 256 #[.val (.int p0), .val (.int p1), .val (.int p2), .val (.int p3), .val (.int mm), .val (.int ss), .val (.double vh), .second, .val (.int sel), .val (.int nq), .val (.double al), .second, .val (.double got), .second, .val (.double ref), .second, .val (.double tol), .second] [(.double d1)])) _
        refine XS.dload X157.here hx rfl (hb hby at_256) rfl ?_
        show Steps p.tables e below (T157.setTop (mkF m 258 #[.val (.int p0), .val (.int p1), .val (.int p2), .val (.int p3), .val (.int mm), .val (.int ss), .val (.double vh), .second, .val (.int sel), .val (.int nq), .val (.double al), .second, .val (.double got), .second, .val (.double ref), .second, .val (.double tol), .second] [(.double tol), (.double d1)])) _
        refine XS.dcmpS X157.here hx rfl (hb hby at_258) rfl rfl ?_
        show Steps p.tables e below (T157.setTop (mkF m 259 #[.val (.int p0), .val (.int p1), .val (.int p2), .val (.int p3), .val (.int mm), .val (.int ss), .val (.double vh), .second, .val (.int sel), .val (.int nq), .val (.double al), .second, .val (.double got), .second, .val (.double ref), .second, .val (.double tol), .second] [(.int (cmpValue (FP.dcmp d1 tol) .g))])) _
        refine XS.ifNo X157.here hx rfl (hb hby at_259) rfl ((if0 _ _).trans (flt hf1).2.2.1) ?_
        show Steps p.tables e below (T157.setTop (mkF m 262 #[.val (.int p0), .val (.int p1), .val (.int p2), .val (.int p3), .val (.int mm), .val (.int ss), .val (.double vh), .second, .val (.int sel), .val (.int nq), .val (.double al), .second, .val (.double got), .second, .val (.double ref), .second, .val (.double tol), .second] [])) _
        refine XS.dload X157.here hx rfl (hb hby at_262) rfl ?_
        show Steps p.tables e below (T157.setTop (mkF m 264 #[.val (.int p0), .val (.int p1), .val (.int p2), .val (.int p3), .val (.int mm), .val (.int ss), .val (.double vh), .second, .val (.int sel), .val (.int nq), .val (.double al), .second, .val (.double got), .second, .val (.double ref), .second, .val (.double tol), .second] [(.double ref)])) _
        refine XS.dload X157.here hx rfl (hb hby at_264) rfl ?_
        show Steps p.tables e below (T157.setTop (mkF m 266 #[.val (.int p0), .val (.int p1), .val (.int p2), .val (.int p3), .val (.int mm), .val (.int ss), .val (.double vh), .second, .val (.int sel), .val (.int nq), .val (.double al), .second, .val (.double got), .second, .val (.double ref), .second, .val (.double tol), .second] [(.double got), (.double ref)])) _
        refine XS.dsubS X157.here hx rfl (hb hby at_266) rfl ((by rw [hgot, eref]; exact L2.1)) hd2 ?_
        show Steps p.tables e below (T157.setTop (mkF m 267 #[.val (.int p0), .val (.int p1), .val (.int p2), .val (.int p3), .val (.int mm), .val (.int ss), .val (.double vh), .second, .val (.int sel), .val (.int nq), .val (.double al), .second, .val (.double got), .second, .val (.double ref), .second, .val (.double tol), .second] [(.double d2)])) _
        refine XS.dload X157.here hx rfl (hb hby at_267) rfl ?_
        show Steps p.tables e below (T157.setTop (mkF m 269 #[.val (.int p0), .val (.int p1), .val (.int p2), .val (.int p3), .val (.int mm), .val (.int ss), .val (.double vh), .second, .val (.int sel), .val (.int nq), .val (.double al), .second, .val (.double got), .second, .val (.double ref), .second, .val (.double tol), .second] [(.double tol), (.double d2)])) _
        refine XS.dcmpS X157.here hx rfl (hb hby at_269) rfl rfl ?_
        show Steps p.tables e below (T157.setTop (mkF m 270 #[.val (.int p0), .val (.int p1), .val (.int p2), .val (.int p3), .val (.int mm), .val (.int ss), .val (.double vh), .second, .val (.int sel), .val (.int nq), .val (.double al), .second, .val (.double got), .second, .val (.double ref), .second, .val (.double tol), .second] [(.int (cmpValue (FP.dcmp d2 tol) .g))])) _
        refine XS.ifNo X157.here hx rfl (hb hby at_270) rfl ((if0 _ _).trans (flt hf2).2.2.1) ?_
        show Steps p.tables e below (T157.setTop (mkF m 273 #[.val (.int p0), .val (.int p1), .val (.int p2), .val (.int p3), .val (.int mm), .val (.int ss), .val (.double vh), .second, .val (.int sel), .val (.int nq), .val (.double al), .second, .val (.double got), .second, .val (.double ref), .second, .val (.double tol), .second] [])) _
        refine XS.iconst X157.here hx rfl (hb hby at_273) ?_
        show Steps p.tables e below (T157.setTop (mkF m 274 #[.val (.int p0), .val (.int p1), .val (.int p2), .val (.int p3), .val (.int mm), .val (.int ss), .val (.double vh), .second, .val (.int sel), .val (.int nq), .val (.double al), .second, .val (.double got), .second, .val (.double ref), .second, .val (.double tol), .second] [(.int (1 : Int32))])) _
        refine XS.goto X157.here hx rfl (pc0 := 274) (pc' := 278) rfl (hb hby at_274) (by decide) (by decide) ?_
        exact k)
      obtain ⟨fs, hr, hrun, hended, hRE⟩ := Stand.leaveW (s := s) (vm₁ := T152.vm) X157 hS152 (by rw [e157]; exact hk152) (v := some (.int (1 : Int32))) (fun h => by rw [Bd.returns] at h; cases h)
      refine ⟨_, _, k160 _ (retOut X157 hx (t := .boolean) Bd.returns rfl (Or.inl ⟨rfl, Or.inr (Or.inl rfl), _, rfl⟩) (hb hby at_278) hr), hrun, hended, _, _, rfl, ?_, hRE.1, hRE.2.1, hRE.2.2.1, hRE.2.2.2.mono (by decide) (by decide)⟩
      show Q_rm0 Z p0 p1 p2 p3 h0 n0 _ T157.heap _
      rw [e157]
      exact ⟨rfl, N158⟩
set_option maxRecDepth 65536 in
set_option maxHeartbeats 40000000 in
theorem comes_1 {Post : Tables → Env → Array Value → State → Outcome → State → Prop} (hpost : ∀ tb e args s v u, (limb_1_1.after args s (.returned v) u = true ∧ limb_1_2.after args s (.returned v) u = true ∧ True) → ReturnedEndW s (.returned v) u (Jvm.fieldLocs frame_1_writes args s ++ Jvm.arrayLocs frame_1_arrays args s ++ Jvm.staticLocs frame_1_statics s) 16 2176 → Post tb e args s (.returned v) u) :
    ArmFor flags0 classFile x code maxLocals ret World_1 tables_1 room_1 Calls_1 rest_1 Pre_1 Post := by
  intro l hfl _ _ p e ha hc hk s m args below hf hA hF happ hP
  obtain ⟨hcalls, hrest, hpre⟩ := hP
  obtain ⟨-, -, -, hnamed, -, -, -, hat⟩ := (Spec.applies_iff hf).mp happ
  obtain ⟨hg, hn⟩ := and_e (Cond.before_iff.mp (show (Jvm.Cond.and given_1 narrow_1).before args s = true from hpre))
  obtain ⟨g1, g2⟩ := and_e hg
  obtain ⟨g3, g4⟩ := and_e g2
  obtain ⟨g5, g6⟩ := and_e g4
  obtain ⟨g7, g8⟩ := and_e g6
  obtain ⟨w0, w1, w2, w3, rfl⟩ : ∃ w0 w1 w2 w3 : Value, args = #[w0, w1, w2, w3] := by
    have hs : args.size = 4 := by simpa [Cond.value, given_1] using g1
    obtain ⟨L⟩ := args
    match L, hs with
    | [w0, w1, w2, w3], _ => exact ⟨w0, w1, w2, w3, rfl⟩
  have hw := fun d (hd : d ∈ tables_1) => atoms_spec (ws := Jvm.Cond.code x code maxLocals ret :: tables_1) hat d (List.mem_cons_of_mem _ hd)
  obtain ⟨i0, ei0⟩ := is_v g3
  obtain rfl : w0 = (.int i0) := Option.some.inj ei0
  obtain ⟨i1, ei1⟩ := is_v g5
  obtain rfl : w1 = (.int i1) := Option.some.inj ei1
  obtain ⟨i2, ei2⟩ := is_v g7
  obtain rfl : w2 = (.int i2) := Option.some.inj ei2
  obtain ⟨i3, ei3⟩ := is_v g8
  obtain rfl : w3 = (.int i3) := Option.some.inj ei3
  obtain ⟨n, o, h1, h2, h3, _, L, rfl, ⟨rfl, N⟩, hq⟩ := rm0 l s _ hw tables_1 i0 i1 i2 i3 s.heap s.heap.size (Nat.le_refl _) p e ha hc hk s m _ below hf ((Spec.applies_iff_loose hf).mp happ).1 ⟨rfl, State.Warmed39.refl s, rfl⟩ trivial
  refine ⟨n, _, h1, h2, h3, hpost _ _ _ _ _ _ ⟨Cond.after_iff.mpr rfl, Cond.after_iff.mpr (eq_i res_at (Term.int_eval (1)) rfl), trivial⟩ ⟨hq.1, hq.2.1, hq.2.2.1, (hq.2.2.2.sift fun y hy => Or.inr (N y hy)).mono (by decide) (by decide)⟩⟩
theorem main_1_1 : Claimed_1_1 := comes_1 fun _ _ _ _ _ _ h hF => ⟨h.1, hF⟩
theorem main_1_2 : Claimed_1_2 := comes_1 fun _ _ _ _ _ _ h hF => ⟨h.2.1, hF⟩
end Jvm.Pilot.@@N@@
namespace Jvm.Pilot.@@N@@
open Jvm Jvm.ClassFile Sem Op Lib Jvm.Free Jvm.Stand Jvm.Pilot.@@N@@.Jvm.D
/-! MADE BY PROGRAM (witnessworld.py) out of the Statement's table words and the real class files: 22 classes; the members and pool entries that the words name. The judged class is class 1, her method 1. -/
namespace start1
open Jvm.ClassFile
def u (s : String) : CpInfo := .utf8 (stringToUtf16 s)
/-- a pool by its gaps: so many unusable entries, then the entry; so many at the end -/
def gap : Nat → List CpInfo → List CpInfo
  | 0, r => r
  | n + 1, r => .unusable :: gap n r
def poolList (es : List (Nat × CpInfo)) (last : Nat) : List CpInfo := es.foldr (fun e r => gap e.1 (e.2 :: r)) (gap last [])
def pool (es : List (Nat × CpInfo)) (last : Nat) : Array CpInfo := ⟨poolList es last⟩
def fileOf (pool : Array CpInfo) (this : Nat) (attrs : Array Attribute := #[]) (ms : Array MethodInfo := #[]) (fl : Nat := 33) (sup : Nat := 0) (ifs : Array Nat := #[]) (fds : Array FieldInfo := #[]) : ClassFile where
  minorVersion := 0
  majorVersion := 65
  constantPool := pool
  accessFlags := fl
  thisClass := this
  superClass := sup
  interfaces := ifs
  fields := fds
  methods := ms
  attributes := attrs
def plain (name : String) (sup : Option ClassId) : Class where
  name := name
  kind := .ordinary
  loader := none
  accessFlags := 33
  super := sup
  interfaces := #[]
  cf := none
  fields := #[]
  methods := #[]
  instanceTypes := #[]
  staticTypes := #[]
  resolved := #[]
  callSites := []
  init := .initialized
  statics := none
  mirror := none

def pool0 : Array CpInfo := pool [(5, u "<init>"), (0, u "()V"), (1, .class_ 10), (1, u "java/lang/Object")] 113

def k0c0 : Code := { maxStack := 0, maxLocals := 1, code := object_method_1_code, exceptionTable := #[], attributes := #[] }
def k0m0 : Method := { name := "<init>", desc := "()V", sig := { parameters := [], returnType := none }, accessFlags := 1, code := some k0c0 }
/-- java/lang/Object -/
def k0 : Class := { plain "java/lang/Object" none with
  accessFlags := 33
  interfaces := #[]
  cf := some (fileOf pool0 8 #[] #[{ accessFlags := 1, nameIndex := 5, descriptorIndex := 6, attributes := #[] }] 33 0 #[] #[])
  fields := #[]
  methods := #[k0m0]
  instanceTypes := #[]
  staticTypes := #[]
  resolved := Array.replicate 124 none
  statics := none }

def pool1 : Array CpInfo := pool [(2, .class_ 4), (1, u "java/lang/Object"), (0, u "<init>"), (0, u "()V"), (0, .integer 65535), (0, .integer 2097151), (0, .double 4697254411347427328), (1, .class_ 12), (0, u "com/example/surety/surety/core/ParetoUpTimes"), (0, .methodref 11 14), (0, .nameAndType 5 15), (0, u "(DD)V"), (0, .methodref 11 17), (0, .nameAndType 18 19), (0, u "variance"), (0, u "()D"), (0, .integer 2147483647), (0, .double 4611686018427387904), (1, .integer 1073741823), (0, .double 4787326403894837248), (1, .class_ 27), (0, u "com/example/surety/surety/core/ParetoUpTimesVariancePinLaw"), (2, u "law"), (0, u "(IIII)Z")] 3

def k1m0 : Method := { name := "<init>", desc := "()V", sig := { parameters := [], returnType := none }, accessFlags := 2, code := none }
def k1c1 : Code := { maxStack := 8, maxLocals := 18, code := code, exceptionTable := #[], attributes := #[] }
def k1m1 : Method := { name := "law", desc := "(IIII)Z", sig := { parameters := [.int, .int, .int, .int], returnType := some .boolean }, accessFlags := 9, code := some k1c1 }
/-- com/example/surety/surety/core/ParetoUpTimesVariancePinLaw -/
def k1 : Class := { plain "com/example/surety/surety/core/ParetoUpTimesVariancePinLaw" (some 0) with
  accessFlags := 49
  interfaces := #[]
  cf := some (fileOf pool1 26 #[] #[{ accessFlags := 2, nameIndex := 5, descriptorIndex := 6, attributes := #[] }, { accessFlags := 9, nameIndex := 30, descriptorIndex := 31, attributes := #[] }] 49 2 #[] #[])
  fields := #[]
  methods := #[k1m0, k1m1]
  instanceTypes := #[]
  staticTypes := #[]
  resolved := Array.replicate 35 none
  statics := none }

def pool2 : Array CpInfo := pool [(1, .methodref 2 3), (0, .class_ 4), (0, .nameAndType 5 6), (0, u "java/lang/Object"), (0, u "<init>"), (0, u "()V"), (0, .class_ 8), (0, u "java/lang/Record")] 13

def k2c0 : Code := { maxStack := 1, maxLocals := 1, code := jdk_30_method_1_code, exceptionTable := #[], attributes := #[] }
def k2m0 : Method := { name := "<init>", desc := "()V", sig := { parameters := [], returnType := none }, accessFlags := 4, code := some k2c0 }
/-- java/lang/Record -/
def k2 : Class := { plain "java/lang/Record" (some 0) with
  accessFlags := 1057
  interfaces := #[]
  cf := some (fileOf pool2 7 #[] #[{ accessFlags := 4, nameIndex := 5, descriptorIndex := 6, attributes := #[] }] 1057 2 #[] #[])
  fields := #[]
  methods := #[k2m0]
  instanceTypes := #[]
  staticTypes := #[]
  resolved := Array.replicate 22 none
  statics := none }

def pool3 : Array CpInfo := pool [(2, .class_ 4), (1, u "com/example/surety/surety/core/DurationDistribution"), (2, .class_ 8), (0, u "java/lang/Object")] 18

/-- com/example/surety/surety/core/DurationDistribution -/
def k3 : Class := { plain "com/example/surety/surety/core/DurationDistribution" (some 0) with
  accessFlags := 1537
  interfaces := #[]
  cf := some (fileOf pool3 2 #[] #[] 1537 7 #[] #[])
  fields := #[]
  methods := #[]
  instanceTypes := #[]
  staticTypes := #[]
  resolved := Array.replicate 27 none
  statics := none }

def pool4 : Array CpInfo := pool [(1, .class_ 2), (0, u "com/example/surety/surety/core/UpTimes"), (0, .class_ 4), (0, u "java/lang/Object"), (0, .class_ 6), (0, u "com/example/surety/surety/core/DurationDistribution")] 4

/-- com/example/surety/surety/core/UpTimes -/
def k4 : Class := { plain "com/example/surety/surety/core/UpTimes" (some 0) with
  accessFlags := 1537
  interfaces := #[3]
  cf := some (fileOf pool4 1 #[] #[] 1537 3 #[5] #[])
  fields := #[]
  methods := #[]
  instanceTypes := #[]
  staticTypes := #[]
  resolved := Array.replicate 11 none
  statics := none }

def pool5 : Array CpInfo := pool [(1, .methodref 2 3), (0, .class_ 4), (0, .nameAndType 5 6), (0, u "java/lang/Record"), (0, u "<init>"), (0, u "()V"), (0, .string 8), (0, u "h"), (0, .methodref 10 11), (0, .class_ 12), (0, .nameAndType 13 14), (0, u "com/example/surety/surety/core/OutsideDomainException"), (0, u "requirePositive"), (0, u "(Ljava/lang/String;D)D"), (0, .string 16), (0, u "alpha"), (0, .fieldref 18 19), (0, .class_ 20), (0, .nameAndType 8 21), (0, u "com/example/surety/surety/core/ParetoUpTimes"), (0, u "D"), (0, .fieldref 18 23), (0, .nameAndType 16 21), (2, .double 9218868437227405312), (21, u "(DD)V"), (2, .double 4611686018427387904), (15, u "()D"), (15, u "variance"), (29, .class_ 114), (0, u "com/example/surety/surety/core/UpTimes"), (0, u "FINITE_MEAN_ABOVE"), (3, u "FINITE_VARIANCE_ABOVE"), (0, u "POINTS_PER_FALL"), (0, u "I")] 51

def k5c0 : Code := { maxStack := 3, maxLocals := 5, code := prog_34_method_1_code, exceptionTable := #[], attributes := #[] }
def k5m0 : Method := { name := "<init>", desc := "(DD)V", sig := { parameters := [.double, .double], returnType := none }, accessFlags := 1, code := some k5c0 }
def k5c1 : Code := { maxStack := 6, maxLocals := 3, code := prog_34_method_5_code, exceptionTable := #[], attributes := #[] }
def k5m1 : Method := { name := "variance", desc := "()D", sig := { parameters := [], returnType := some .double }, accessFlags := 1, code := some k5c1 }
/-- com/example/surety/surety/core/ParetoUpTimes -/
def k5 : Class := { plain "com/example/surety/surety/core/ParetoUpTimes" (some 2) with
  accessFlags := 49
  interfaces := #[4]
  cf := some (fileOf pool5 18 #[] #[{ accessFlags := 1, nameIndex := 5, descriptorIndex := 48, attributes := #[] }, { accessFlags := 1, nameIndex := 83, descriptorIndex := 67, attributes := #[] }] 49 2 #[113] #[{ accessFlags := 18, nameIndex := 8, descriptorIndex := 21, attributes := #[] }, { accessFlags := 18, nameIndex := 16, descriptorIndex := 21, attributes := #[] }, { accessFlags := 26, nameIndex := 115, descriptorIndex := 21, attributes := #[] }, { accessFlags := 26, nameIndex := 119, descriptorIndex := 21, attributes := #[] }, { accessFlags := 26, nameIndex := 120, descriptorIndex := 121, attributes := #[] }])
  fields := #[{ name := "h", type := .double, accessFlags := 18, slot := 0, constantValue := 0 }, { name := "alpha", type := .double, accessFlags := 18, slot := 1, constantValue := 0 }, { name := "FINITE_MEAN_ABOVE", type := .double, accessFlags := 26, slot := 0, constantValue := 0 }, { name := "FINITE_VARIANCE_ABOVE", type := .double, accessFlags := 26, slot := 1, constantValue := 0 }, { name := "POINTS_PER_FALL", type := .int, accessFlags := 26, slot := 2, constantValue := 0 }]
  methods := #[k5m0, k5m1]
  instanceTypes := #[.double, .double]
  staticTypes := #[.double, .double, .int]
  resolved := Array.replicate 173 none
  statics := none }

def pool6 : Array CpInfo := pool [(1, .class_ 2), (0, u "java/io/Serializable"), (0, .class_ 4), (0, u "java/lang/Object")] 2

/-- java/io/Serializable -/
def k6 : Class := { plain "java/io/Serializable" (some 0) with
  accessFlags := 1537
  interfaces := #[]
  cf := some (fileOf pool6 1 #[] #[] 1537 3 #[] #[])
  fields := #[]
  methods := #[]
  instanceTypes := #[]
  staticTypes := #[]
  resolved := Array.replicate 7 none
  statics := none }

def pool7 : Array CpInfo := pool [(1, .class_ 2), (0, u "java/lang/Comparable"), (0, .class_ 4), (0, u "java/lang/Object")] 7

/-- java/lang/Comparable -/
def k7 : Class := { plain "java/lang/Comparable" (some 0) with
  accessFlags := 1537
  interfaces := #[]
  cf := some (fileOf pool7 1 #[] #[] 1537 3 #[] #[])
  fields := #[]
  methods := #[]
  instanceTypes := #[]
  staticTypes := #[]
  resolved := Array.replicate 12 none
  statics := none }

def pool8 : Array CpInfo := pool [(2, .class_ 4), (1, u "java/lang/CharSequence"), (42, .class_ 48), (0, u "java/lang/CharSequence$1CodePointIterator"), (10, .class_ 60), (0, u "java/lang/CharSequence$1CharIterator"), (5, .class_ 67), (0, u "java/lang/Object")] 63

/-- java/lang/CharSequence -/
def k8 : Class := { plain "java/lang/CharSequence" (some 0) with
  accessFlags := 1537
  interfaces := #[]
  cf := some (fileOf pool8 2 #[.nestMembers #[47, 59]] #[] 1537 66 #[] #[])
  fields := #[]
  methods := #[]
  instanceTypes := #[]
  staticTypes := #[]
  resolved := Array.replicate 131 none
  statics := none }

def pool9 : Array CpInfo := pool [(1, .class_ 2), (0, u "java/lang/constant/Constable"), (0, .class_ 4), (0, u "java/lang/Object")] 6

/-- java/lang/constant/Constable -/
def k9 : Class := { plain "java/lang/constant/Constable" (some 0) with
  accessFlags := 1537
  interfaces := #[]
  cf := some (fileOf pool9 1 #[] #[] 1537 3 #[] #[])
  fields := #[]
  methods := #[]
  instanceTypes := #[]
  staticTypes := #[]
  resolved := Array.replicate 11 none
  statics := none }

def pool10 : Array CpInfo := pool [(1, .class_ 2), (0, u "java/lang/constant/ConstantDesc"), (0, .class_ 4), (0, u "java/lang/Object")] 32

/-- java/lang/constant/ConstantDesc -/
def k10 : Class := { plain "java/lang/constant/ConstantDesc" (some 0) with
  accessFlags := 1537
  interfaces := #[]
  cf := some (fileOf pool10 1 #[] #[] 1537 3 #[] #[])
  fields := #[]
  methods := #[]
  instanceTypes := #[]
  staticTypes := #[]
  resolved := Array.replicate 37 none
  statics := none }

def pool11 : Array CpInfo := pool [(2, .class_ 4), (1, u "java/lang/Object"), (0, u "<init>"), (0, u "()V"), (3, .class_ 12), (1, u "java/lang/String"), (0, u "value"), (0, u "[B"), (2, u "coder"), (0, u "B"), (2, u "hash"), (0, u "I"), (2, u "hashIsZero"), (0, u "Z"), (13, u "COMPACT_STRINGS"), (534, .class_ 576), (0, u "java/lang/CharSequence"), (22, u "CASE_INSENSITIVE_ORDER"), (0, u "Ljava/util/Comparator;"), (500, u "serialPersistentFields"), (0, u "[Ljava/io/ObjectStreamField;"), (0, .class_ 1104), (0, u "java/lang/String$CaseInsensitiveComparator"), (1, .class_ 1107), (0, u "java/io/Serializable"), (0, .class_ 1109), (0, u "java/lang/Comparable"), (0, .class_ 1111), (0, u "java/lang/constant/Constable"), (0, .class_ 1113), (0, u "java/lang/constant/ConstantDesc"), (2, u "serialVersionUID"), (0, u "J"), (3, u "REPL"), (0, u "C"), (2, u "LATIN1"), (1, u "UTF16")] 323

def k11m0 : Method := { name := "<init>", desc := "()V", sig := { parameters := [], returnType := none }, accessFlags := 1, code := none }
/-- java/lang/String -/
def k11 : Class := { plain "java/lang/String" (some 0) with
  accessFlags := 49
  interfaces := #[6, 7, 8, 9, 10]
  cf := some (fileOf pool11 10 #[.nestMembers #[1103]] #[{ accessFlags := 1, nameIndex := 5, descriptorIndex := 6, attributes := #[] }] 49 2 #[1106, 1108, 575, 1110, 1112] #[{ accessFlags := 18, nameIndex := 13, descriptorIndex := 14, attributes := #[] }, { accessFlags := 18, nameIndex := 17, descriptorIndex := 18, attributes := #[] }, { accessFlags := 2, nameIndex := 21, descriptorIndex := 22, attributes := #[] }, { accessFlags := 2, nameIndex := 25, descriptorIndex := 26, attributes := #[] }, { accessFlags := 26, nameIndex := 1116, descriptorIndex := 1117, attributes := #[] }, { accessFlags := 24, nameIndex := 40, descriptorIndex := 26, attributes := #[] }, { accessFlags := 26, nameIndex := 1101, descriptorIndex := 1102, attributes := #[] }, { accessFlags := 26, nameIndex := 1121, descriptorIndex := 1122, attributes := #[] }, { accessFlags := 25, nameIndex := 599, descriptorIndex := 600, attributes := #[] }, { accessFlags := 24, nameIndex := 1125, descriptorIndex := 18, attributes := #[] }, { accessFlags := 24, nameIndex := 1127, descriptorIndex := 18, attributes := #[] }])
  fields := #[{ name := "value", type := (.array .byte), accessFlags := 18, slot := 0, constantValue := 0 }, { name := "coder", type := .byte, accessFlags := 18, slot := 1, constantValue := 0 }, { name := "hash", type := .int, accessFlags := 2, slot := 2, constantValue := 0 }, { name := "hashIsZero", type := .boolean, accessFlags := 2, slot := 3, constantValue := 0 }, { name := "serialVersionUID", type := .long, accessFlags := 26, slot := 0, constantValue := 0 }, { name := "COMPACT_STRINGS", type := .boolean, accessFlags := 24, slot := 1, constantValue := 0 }, { name := "serialPersistentFields", type := (.array (.object "java/io/ObjectStreamField")), accessFlags := 26, slot := 2, constantValue := 0 }, { name := "REPL", type := .char, accessFlags := 26, slot := 3, constantValue := 0 }, { name := "CASE_INSENSITIVE_ORDER", type := (.object "java/util/Comparator"), accessFlags := 25, slot := 4, constantValue := 0 }, { name := "LATIN1", type := .byte, accessFlags := 24, slot := 5, constantValue := 0 }, { name := "UTF16", type := .byte, accessFlags := 24, slot := 6, constantValue := 0 }]
  methods := #[k11m0]
  instanceTypes := #[(.array .byte), .byte, .int, .boolean]
  staticTypes := #[.long, .boolean, (.array (.object "java/io/ObjectStreamField")), .char, (.object "java/util/Comparator"), .byte, .byte]
  resolved := Array.replicate 1451 none
  statics := none }

def pool12 : Array CpInfo := pool [(2, .class_ 4), (1, u "java/lang/Object"), (0, u "<init>"), (0, u "()V"), (1, .class_ 10), (1, u "java/lang/Throwable"), (0, u "cause"), (0, u "Ljava/lang/Throwable;"), (2, u "UNASSIGNED_STACK"), (0, u "[Ljava/lang/StackTraceElement;"), (2, u "stackTrace"), (2, u "SUPPRESSED_SENTINEL"), (0, u "Ljava/util/List;"), (2, u "suppressedExceptions"), (6, u "detailMessage"), (0, u "Ljava/lang/String;"), (58, .class_ 94), (0, u "java/lang/Throwable$WrappedPrintStream"), (6, .class_ 103), (1, u "java/lang/Throwable$PrintStreamOrWriter"), (61, u "$assertionsDisabled"), (0, u "Z"), (26, .class_ 194), (0, u "java/lang/Throwable$WrappedPrintWriter"), (5, u "backtrace"), (0, u "Ljava/lang/Object;"), (9, u "depth"), (0, u "I"), (56, .class_ 271), (1, u "java/lang/Throwable$SentinelHolder"), (32, u "EMPTY_THROWABLE_ARRAY"), (0, u "[Ljava/lang/Throwable;"), (12, .class_ 319), (0, u "java/io/Serializable"), (0, u "serialVersionUID"), (0, u "J"), (5, u "NULL_CAUSE_MESSAGE"), (0, u "SELF_SUPPRESSION_MESSAGE"), (0, u "CAUSE_CAPTION"), (0, u "SUPPRESSED_CAPTION")] 73

def k12m0 : Method := { name := "<init>", desc := "()V", sig := { parameters := [], returnType := none }, accessFlags := 1, code := none }
/-- java/lang/Throwable -/
def k12 : Class := { plain "java/lang/Throwable" (some 0) with
  accessFlags := 33
  interfaces := #[6]
  cf := some (fileOf pool12 8 #[.nestMembers #[193, 93, 101, 269]] #[{ accessFlags := 1, nameIndex := 5, descriptorIndex := 6, attributes := #[] }] 33 2 #[318] #[{ accessFlags := 26, nameIndex := 320, descriptorIndex := 321, attributes := #[] }, { accessFlags := 130, nameIndex := 200, descriptorIndex := 201, attributes := #[] }, { accessFlags := 2, nameIndex := 33, descriptorIndex := 34, attributes := #[] }, { accessFlags := 26, nameIndex := 15, descriptorIndex := 16, attributes := #[] }, { accessFlags := 2, nameIndex := 11, descriptorIndex := 12, attributes := #[] }, { accessFlags := 2, nameIndex := 19, descriptorIndex := 16, attributes := #[] }, { accessFlags := 130, nameIndex := 211, descriptorIndex := 212, attributes := #[] }, { accessFlags := 26, nameIndex := 22, descriptorIndex := 23, attributes := #[] }, { accessFlags := 2, nameIndex := 26, descriptorIndex := 23, attributes := #[] }, { accessFlags := 26, nameIndex := 327, descriptorIndex := 34, attributes := #[] }, { accessFlags := 26, nameIndex := 328, descriptorIndex := 34, attributes := #[] }, { accessFlags := 26, nameIndex := 329, descriptorIndex := 34, attributes := #[] }, { accessFlags := 26, nameIndex := 330, descriptorIndex := 34, attributes := #[] }, { accessFlags := 26, nameIndex := 304, descriptorIndex := 305, attributes := #[] }, { accessFlags := 4120, nameIndex := 165, descriptorIndex := 166, attributes := #[] }])
  fields := #[{ name := "serialVersionUID", type := .long, accessFlags := 26, slot := 0, constantValue := 0 }, { name := "backtrace", type := (.object "java/lang/Object"), accessFlags := 130, slot := 0, constantValue := 0 }, { name := "detailMessage", type := (.object "java/lang/String"), accessFlags := 2, slot := 1, constantValue := 0 }, { name := "UNASSIGNED_STACK", type := (.array (.object "java/lang/StackTraceElement")), accessFlags := 26, slot := 1, constantValue := 0 }, { name := "cause", type := (.object "java/lang/Throwable"), accessFlags := 2, slot := 2, constantValue := 0 }, { name := "stackTrace", type := (.array (.object "java/lang/StackTraceElement")), accessFlags := 2, slot := 3, constantValue := 0 }, { name := "depth", type := .int, accessFlags := 130, slot := 4, constantValue := 0 }, { name := "SUPPRESSED_SENTINEL", type := (.object "java/util/List"), accessFlags := 26, slot := 2, constantValue := 0 }, { name := "suppressedExceptions", type := (.object "java/util/List"), accessFlags := 2, slot := 5, constantValue := 0 }, { name := "NULL_CAUSE_MESSAGE", type := (.object "java/lang/String"), accessFlags := 26, slot := 3, constantValue := 0 }, { name := "SELF_SUPPRESSION_MESSAGE", type := (.object "java/lang/String"), accessFlags := 26, slot := 4, constantValue := 0 }, { name := "CAUSE_CAPTION", type := (.object "java/lang/String"), accessFlags := 26, slot := 5, constantValue := 0 }, { name := "SUPPRESSED_CAPTION", type := (.object "java/lang/String"), accessFlags := 26, slot := 6, constantValue := 0 }, { name := "EMPTY_THROWABLE_ARRAY", type := (.array (.object "java/lang/Throwable")), accessFlags := 26, slot := 7, constantValue := 0 }, { name := "$assertionsDisabled", type := .boolean, accessFlags := 4120, slot := 8, constantValue := 0 }]
  methods := #[k12m0]
  instanceTypes := #[(.object "java/lang/Object"), (.object "java/lang/String"), (.object "java/lang/Throwable"), (.array (.object "java/lang/StackTraceElement")), .int, (.object "java/util/List")]
  staticTypes := #[.long, (.array (.object "java/lang/StackTraceElement")), (.object "java/util/List"), (.object "java/lang/String"), (.object "java/lang/String"), (.object "java/lang/String"), (.object "java/lang/String"), (.array (.object "java/lang/Throwable")), .boolean]
  resolved := Array.replicate 404 none
  statics := none }

def pool13 : Array CpInfo := pool [(2, .class_ 4), (1, u "java/lang/Throwable"), (0, u "<init>"), (0, u "()V"), (12, .class_ 20), (0, u "java/lang/Exception"), (0, u "serialVersionUID"), (0, u "J")] 17

def k13m0 : Method := { name := "<init>", desc := "()V", sig := { parameters := [], returnType := none }, accessFlags := 1, code := none }
/-- java/lang/Exception -/
def k13 : Class := { plain "java/lang/Exception" (some 12) with
  accessFlags := 33
  interfaces := #[]
  cf := some (fileOf pool13 19 #[] #[{ accessFlags := 1, nameIndex := 5, descriptorIndex := 6, attributes := #[] }] 33 2 #[] #[{ accessFlags := 24, nameIndex := 21, descriptorIndex := 22, attributes := #[] }])
  fields := #[{ name := "serialVersionUID", type := .long, accessFlags := 24, slot := 0, constantValue := 0 }]
  methods := #[k13m0]
  instanceTypes := #[(.object "java/lang/Object"), (.object "java/lang/String"), (.object "java/lang/Throwable"), (.array (.object "java/lang/StackTraceElement")), .int, (.object "java/util/List")]
  staticTypes := #[.long]
  resolved := Array.replicate 40 none
  statics := none }

def pool14 : Array CpInfo := pool [(2, .class_ 4), (1, u "java/lang/Exception"), (0, u "<init>"), (0, u "()V"), (12, .class_ 20), (0, u "java/lang/RuntimeException"), (0, u "serialVersionUID"), (0, u "J")] 17

def k14m0 : Method := { name := "<init>", desc := "()V", sig := { parameters := [], returnType := none }, accessFlags := 1, code := none }
/-- java/lang/RuntimeException -/
def k14 : Class := { plain "java/lang/RuntimeException" (some 13) with
  accessFlags := 33
  interfaces := #[]
  cf := some (fileOf pool14 19 #[] #[{ accessFlags := 1, nameIndex := 5, descriptorIndex := 6, attributes := #[] }] 33 2 #[] #[{ accessFlags := 24, nameIndex := 21, descriptorIndex := 22, attributes := #[] }])
  fields := #[{ name := "serialVersionUID", type := .long, accessFlags := 24, slot := 0, constantValue := 0 }]
  methods := #[k14m0]
  instanceTypes := #[(.object "java/lang/Object"), (.object "java/lang/String"), (.object "java/lang/Throwable"), (.array (.object "java/lang/StackTraceElement")), .int, (.object "java/util/List")]
  staticTypes := #[.long]
  resolved := Array.replicate 40 none
  statics := none }

def pool15 : Array CpInfo := pool [(2, .class_ 4), (1, u "java/lang/RuntimeException"), (0, u "<init>"), (0, u "()V"), (9, .class_ 17), (0, u "java/lang/IllegalArgumentException"), (0, u "serialVersionUID"), (0, u "J")] 15

def k15m0 : Method := { name := "<init>", desc := "()V", sig := { parameters := [], returnType := none }, accessFlags := 1, code := none }
/-- java/lang/IllegalArgumentException -/
def k15 : Class := { plain "java/lang/IllegalArgumentException" (some 14) with
  accessFlags := 33
  interfaces := #[]
  cf := some (fileOf pool15 16 #[] #[{ accessFlags := 1, nameIndex := 5, descriptorIndex := 6, attributes := #[] }] 33 2 #[] #[{ accessFlags := 26, nameIndex := 18, descriptorIndex := 19, attributes := #[] }])
  fields := #[{ name := "serialVersionUID", type := .long, accessFlags := 26, slot := 0, constantValue := 0 }]
  methods := #[k15m0]
  instanceTypes := #[(.object "java/lang/Object"), (.object "java/lang/String"), (.object "java/lang/Throwable"), (.array (.object "java/lang/StackTraceElement")), .int, (.object "java/util/List")]
  staticTypes := #[.long]
  resolved := Array.replicate 35 none
  statics := none }

def pool16 : Array CpInfo := pool [(6, .class_ 8), (1, u "java/lang/IllegalArgumentException"), (3, .class_ 14), (1, u "com/example/surety/surety/core/OutsideDomainException"), (0, u "parameter"), (0, u "Ljava/lang/String;"), (15, .double 9218868437227405312), (5, u "serialVersionUID"), (0, u "J"), (7, u "(Ljava/lang/String;D)D"), (3, u "requirePositive")] 32

def k16c0 : Code := { maxStack := 5, maxLocals := 3, code := prog_33_method_5_code, exceptionTable := #[], attributes := #[] }
def k16m0 : Method := { name := "requirePositive", desc := "(Ljava/lang/String;D)D", sig := { parameters := [(.object "java/lang/String"), .double], returnType := some .double }, accessFlags := 9, code := some k16c0 }
/-- com/example/surety/surety/core/OutsideDomainException -/
def k16 : Class := { plain "com/example/surety/surety/core/OutsideDomainException" (some 15) with
  accessFlags := 33
  interfaces := #[]
  cf := some (fileOf pool16 12 #[] #[{ accessFlags := 9, nameIndex := 51, descriptorIndex := 47, attributes := #[] }] 33 6 #[] #[{ accessFlags := 26, nameIndex := 38, descriptorIndex := 39, attributes := #[] }, { accessFlags := 18, nameIndex := 15, descriptorIndex := 16, attributes := #[] }])
  fields := #[{ name := "serialVersionUID", type := .long, accessFlags := 26, slot := 0, constantValue := 0 }, { name := "parameter", type := (.object "java/lang/String"), accessFlags := 18, slot := 6, constantValue := 0 }]
  methods := #[k16m0]
  instanceTypes := #[(.object "java/lang/Object"), (.object "java/lang/String"), (.object "java/lang/Throwable"), (.array (.object "java/lang/StackTraceElement")), .int, (.object "java/util/List"), (.object "java/lang/String")]
  staticTypes := #[.long]
  resolved := Array.replicate 84 none
  statics := none }

def pool17 : Array CpInfo := pool [(1, u "java/lang/Cloneable"), (0, .class_ 1), (0, u "java/lang/Object"), (0, .class_ 3)] 3

/-- java/lang/Cloneable -/
def k17 : Class := { plain "java/lang/Cloneable" (some 0) with
  accessFlags := 1537
  interfaces := #[]
  cf := some (fileOf pool17 2 #[] #[] 1537 4 #[] #[])
  fields := #[]
  methods := #[]
  instanceTypes := #[]
  staticTypes := #[]
  resolved := Array.replicate 8 none
  statics := none }

/-- the primitive byte -/
def k18 : Class := { plain "byte" none with kind := .primitive 'B', accessFlags := 0x411 }
/-- [B -/
def k19 : Class := { plain "[B" (some 0) with kind := .array 18 .byte, interfaces := #[17, 6], accessFlags := 1041 }

/-- the primitive int -/
def k20 : Class := { plain "int" none with kind := .primitive 'I', accessFlags := 0x411 }
/-- [I -/
def k21 : Class := { plain "[I" (some 0) with kind := .array 20 .int, interfaces := #[17, 6], accessFlags := 1041 }

def heap : Heap := #[]
def classes : Array Class := #[k0, k1, k2, k3, k4, k5, k6, k7, k8, k9, k10, k11, k12, k13, k14, k15, k16, k17, k18, k19, k20, k21]
def interned : List (Array UInt16 × Addr) := []
def slotsUsed : Nat := 0
def theMethod : MethodId := ⟨1, 1⟩
def args0 : Array Value := #[.int 1, .int 3, .int 5, .int 7]
def aboutOver (below : List Frame) : State where
  vm := { classes := classes, interned := interned.toArray }
  heap := heap
  slotsUsed := slotsUsed
  threads := #[{ frames := .invoking theMethod args0 :: below }]
def below0 : List Frame := [.native { method := ⟨0, 0⟩, args := #[] }]
def about1 : State := aboutOver below0
def p0 : Program := .bare "" "" ""
def e0 : Env := launch0.env 0 0 0
theorem w_frames : about1.frames = Frame.invoking theMethod args0 :: below0 := rfl
set_option maxRecDepth 65536 in
theorem w_args : argsFit about1.vm theMethod args0 = true := by decide +kernel
set_option maxRecDepth 65536 in
theorem w_heap : heapFits about1 = true := by decide +kernel
set_option maxRecDepth 65536 in
theorem w_runnable : about1.curStatus? = some .runnable := by decide +kernel
set_option maxRecDepth 65536 in
theorem w_alone : about1.alone = true := by decide +kernel
set_option maxRecDepth 65536 in
theorem w_named : about1.methodNamed? x = some theMethod := by decide +kernel
set_option maxRecDepth 65536 in
theorem w_hears : about1.hears theMethod below0 = true := by decide +kernel
set_option maxRecDepth 65536 in
theorem w_ripe : about1.ripe theMethod args0 below0 = true := by decide +kernel
theorem w_running : about1.status = .running := rfl
set_option maxRecDepth 65536 in
theorem w_room : about1.hasRoom e0.platform room_1 = true :=
  launch0.hasRoom_least _ room_1 (by decide +kernel) (by decide +kernel) (by decide +kernel) (by decide +kernel) (by decide +kernel) (by decide +kernel)
theorem allAtoms_all (ts : List Jvm.Cond) (a : Array Jvm.Value) (st : Jvm.State) : (allAtoms ts).before a st = ts.all (fun c => c.before a st) := by
  induction ts with
  | nil => rfl
  | cons c t ih =>
    show (Jvm.Cond.and c (allAtoms t)).before a st = _
    rw [Jvm.Cond.before_and, ih, List.all_cons]
def words1 : List Jvm.Cond := Jvm.Cond.code x code maxLocals ret :: tables_1
/-- a 'code' word, met by the world's own term for the bytes: nothing is compared byte by byte -/
theorem code_word {y : MethodName} {bytes : ByteArray} {mx : Nat} {rt : Option FieldType} {a : Array Value} {s : State} {m : MethodId} {meth : Method} {c : Code} (h1 : s.methodNamed? y = some m) (h2 : s.vm.method? m = some meth) (h3 : meth.code = some c) (h4 : c.code = bytes)
    (h5 : (c.maxLocals == mx && c.exceptionTable.isEmpty && decide (c.maxStack ≤ mostOperands) && decide (meth.sig.returnType = rt) && !meth.locks && decide (parseMethodDescriptor y.desc = some meth.sig)) = true) : (Jvm.Cond.code y bytes mx rt).before a s = true := by
  simp only [Bool.and_eq_true, beq_iff_eq, Bool.not_eq_true', decide_eq_true_eq] at h5
  obtain ⟨⟨⟨⟨⟨g1, g2⟩, g3⟩, g4⟩, g5⟩, g6⟩ := h5
  simp [Cond.before, Cond.holds, Cond.value, h1, h2, h3, h4, g1, g2, g3, g4, g5, g6]
def isCode : Jvm.Cond → Bool
  | .code _ _ _ _ => true
  | _ => false
theorem all_split {L : List Jvm.Cond} {P : Jvm.Cond → Bool} (h1 : L.all (fun c => isCode c || P c) = true) (h2 : ∀ c ∈ L.filter isCode, P c = true) : L.all P = true := by
  refine List.all_eq_true.mpr fun c hc => ?_
  have h := List.all_eq_true.mp h1 c hc
  rcases Bool.eq_false_or_eq_true (isCode c) with hi | hi
  · exact h2 c (List.mem_filter.mpr ⟨hc, hi⟩)
  · simpa [hi] using h
set_option maxRecDepth 65536 in
theorem w_c0 : (Jvm.Cond.code x code maxLocals ret).before args0 about1 = true := code_word (m := ⟨1, 1⟩) (meth := k1m1) (c := k1c1) (by decide +kernel) rfl rfl rfl (by decide +kernel)
set_option maxRecDepth 65536 in
theorem w_c1 : (Jvm.Cond.code ({ cls := "com/example/surety/surety/core/ParetoUpTimes", name := "<init>", desc := "(DD)V" } : Jvm.MethodName) prog_34_method_1_code (5 : Nat) (Option.none : Option Jvm.ClassFile.FieldType)).before args0 about1 = true := code_word (m := ⟨5, 0⟩) (meth := k5m0) (c := k5c0) (by decide +kernel) rfl rfl rfl (by decide +kernel)
set_option maxRecDepth 65536 in
theorem w_c2 : (Jvm.Cond.code ({ cls := "java/lang/Record", name := "<init>", desc := "()V" } : Jvm.MethodName) jdk_30_method_1_code (1 : Nat) (Option.none : Option Jvm.ClassFile.FieldType)).before args0 about1 = true := code_word (m := ⟨2, 0⟩) (meth := k2m0) (c := k2c0) (by decide +kernel) rfl rfl rfl (by decide +kernel)
set_option maxRecDepth 65536 in
theorem w_c3 : (Jvm.Cond.code ({ cls := "java/lang/Object", name := "<init>", desc := "()V" } : Jvm.MethodName) object_method_1_code (1 : Nat) (Option.none : Option Jvm.ClassFile.FieldType)).before args0 about1 = true := code_word (m := ⟨0, 0⟩) (meth := k0m0) (c := k0c0) (by decide +kernel) rfl rfl rfl (by decide +kernel)
set_option maxRecDepth 65536 in
theorem w_c4 : (Jvm.Cond.code ({ cls := "com/example/surety/surety/core/OutsideDomainException", name := "requirePositive", desc := "(Ljava/lang/String;D)D" } : Jvm.MethodName) prog_33_method_5_code (3 : Nat) (Option.some Jvm.ClassFile.FieldType.double)).before args0 about1 = true := code_word (m := ⟨16, 0⟩) (meth := k16m0) (c := k16c0) (by decide +kernel) rfl rfl rfl (by decide +kernel)
set_option maxRecDepth 65536 in
theorem w_c5 : (Jvm.Cond.code ({ cls := "com/example/surety/surety/core/ParetoUpTimes", name := "variance", desc := "()D" } : Jvm.MethodName) prog_34_method_5_code (3 : Nat) (Option.some Jvm.ClassFile.FieldType.double)).before args0 about1 = true := code_word (m := ⟨5, 1⟩) (meth := k5m1) (c := k5c1) (by decide +kernel) rfl rfl rfl (by decide +kernel)
def codes1 : List Jvm.Cond := [Jvm.Cond.code x code maxLocals ret, Jvm.Cond.code ({ cls := "com/example/surety/surety/core/ParetoUpTimes", name := "<init>", desc := "(DD)V" } : Jvm.MethodName) prog_34_method_1_code (5 : Nat) (Option.none : Option Jvm.ClassFile.FieldType), Jvm.Cond.code ({ cls := "java/lang/Record", name := "<init>", desc := "()V" } : Jvm.MethodName) jdk_30_method_1_code (1 : Nat) (Option.none : Option Jvm.ClassFile.FieldType), Jvm.Cond.code ({ cls := "java/lang/Object", name := "<init>", desc := "()V" } : Jvm.MethodName) object_method_1_code (1 : Nat) (Option.none : Option Jvm.ClassFile.FieldType), Jvm.Cond.code ({ cls := "com/example/surety/surety/core/OutsideDomainException", name := "requirePositive", desc := "(Ljava/lang/String;D)D" } : Jvm.MethodName) prog_33_method_5_code (3 : Nat) (Option.some Jvm.ClassFile.FieldType.double), Jvm.Cond.code ({ cls := "com/example/surety/surety/core/ParetoUpTimes", name := "variance", desc := "()D" } : Jvm.MethodName) prog_34_method_5_code (3 : Nat) (Option.some Jvm.ClassFile.FieldType.double)]
set_option maxRecDepth 65536 in
theorem codes_eq : words1.filter isCode = codes1 := rfl
theorem w_codes : ∀ c ∈ words1.filter isCode, c.before args0 about1 = true := by
  rw [codes_eq]
  intro c hc
  simp only [codes1, List.mem_cons, List.not_mem_nil, or_false] at hc
  rcases hc with rfl | rfl | rfl | rfl | rfl | rfl
  · exact w_c0
  · exact w_c1
  · exact w_c2
  · exact w_c3
  · exact w_c4
  · exact w_c5
set_option maxRecDepth 65536 in
theorem w_t1 : (words1.take 24).all (fun c => isCode c || c.before args0 about1) = true := by decide +kernel
set_option maxRecDepth 65536 in
theorem w_t2 : (words1.drop 24).all (fun c => isCode c || c.before args0 about1) = true := by decide +kernel
theorem w_tables : (allAtoms (Jvm.Cond.code x code maxLocals ret :: tables_1)).before args0 about1 = true := by
  rw [allAtoms_all]
  show words1.all (fun c => c.before args0 about1) = true
  refine all_split ?_ w_codes
  rw [← List.take_append_drop 24 words1, List.all_append, w_t1, w_t2]
  rfl
set_option maxRecDepth 65536 in
theorem w_case : (Jvm.Cond.and given_1 narrow_1).before args0 about1 = true := by decide +kernel
theorem w_applies : (headSpec (Jvm.Cond.code x code maxLocals ret :: tables_1) room_1).applies x e0.platform about1 = true :=
  (Spec.applies_iff w_frames).mpr ⟨w_running, w_runnable, w_alone, w_named, w_hears, w_ripe, w_room, w_tables⟩
theorem atStart : AtStart classFile x code maxLocals ret World_1 tables_1 room_1 Calls_1 rest_1 Pre_1 launch0 p0 e0 about1 theMethod args0 below0 :=
  ⟨lists_1, trivial, launch0.admits_env _ _ _, launch0.least_env, fairChoices_fair.cas, fairChoices_fair.clock, w_frames, w_args, w_heap, w_applies, trivial, trivial, w_case⟩
end start1
theorem witness_1 : WitnessClaimed_1 := ⟨start1.p0, start1.e0, start1.about1, start1.theMethod, start1.args0, start1.below0, start1.atStart⟩
end Jvm.Pilot.@@N@@
