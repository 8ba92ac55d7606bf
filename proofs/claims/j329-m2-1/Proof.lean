import JvmDerived
import JvmDerived.Pilot.@@N@@Statement
import JvmDerived.Pilot.@@N@@Code
set_option linter.unusedVariables false
set_option linter.unusedSimpArgs false
namespace Jvm.OwnFp
open Jvm.FP.Core Op
/-! own: exact values. `Dyf f i k d`: the datum d is finite and worth i / 2^k. -/
def Dyf (f : Fmt) (i : Int) (k : Nat) (d : Datum) : Prop := (∃ s c q, d = .fin s c q) ∧ zval f d * 2 ^ k = i * 2 ^ (-f.qmin).toNat
theorem pw_pos (n : Nat) : (0 : Int) < 2 ^ n := Int.pow_pos (by decide)
theorem pw_cast (n : Nat) : ((2 ^ n : Nat) : Int) = 2 ^ n := by simp
theorem signed_abs (i : Int) : signed (decide (i < 0)) i.natAbs = i := by
  unfold signed
  by_cases h : i < 0 <;> simp [h] <;> omega
theorem signed_mulI (s : Bool) (c k : Nat) : signed s (c * 2 ^ k) = signed s c * 2 ^ k := by
  rw [signed_mul, pw_cast]
theorem vex {f : Fmt} (hf : Good f) {i : Int} {k : Nat} (hi : i.natAbs < 2 ^ f.p) (hk : (k : Int) ≤ -f.qmin) (hq : 0 ≤ f.qmax) :
    ∃ s c q, FP.Core.fits f (.fin s c q) ∧ zval f (.fin s c q) * 2 ^ k = i * 2 ^ (-f.qmin).toNat := by
  obtain ⟨c', q', h, hu⟩ := round_exact hf (decide (i < 0)) (c := i.natAbs) (q := -(k : Int)) hi (by omega) (by omega)
  refine ⟨_, c', q', h ▸ round_fits hf _, ?_⟩
  show signed (decide (i < 0)) (inUnits c' q' f.qmin) * 2 ^ k = _
  rw [hu]
  unfold inUnits
  rw [signed_mulI, signed_abs, Int.mul_assoc, ← Int.pow_add, show (-(k : Int) - f.qmin).toNat + k = (-f.qmin).toNat by omega]
theorem dyf_of_zval {f : Fmt} (hf : Good f) {s : Bool} {A B : Nat} {e : Int} {s' : Bool} {c' : Nat} {q' : Int} (hV : FP.Core.fits f (.fin s' c' q'))
    (hz : zval f (roundRatio f s A B e) = zval f (.fin s' c' q')) : ∃ s₀ c₀ q₀, roundRatio f s A B e = .fin s₀ c₀ q₀ := by
  rcases roundRatio_cases f s A B e with ⟨c, q, h⟩ | h
  · exact ⟨s, c, q, h⟩
  · exfalso
    rw [h] at hz
    have h1 := zmag_lt_top hf hV
    have h2 := congrArg Int.natAbs hz
    unfold zval at h2
    rw [natAbs_signed, natAbs_signed] at h2
    have h3 : zmag f (.inf s) = f.tails * 2 ^ (f.exps - 2) := rfl
    have h4 : zmag f (.fin s' c' q') = inUnits c' q' f.qmin := rfl
    omega
/-- an exact result that the format holds is not rounded -/
theorem rnd {f : Fmt} (hf : Good f) (hq : 0 ≤ f.qmax) {s : Bool} {c : Nat} {q e0 : Int} (h0 : e0 ≤ f.qmin) (h0e : e0 ≤ q) {i : Int} {k : Nat} (hi : i.natAbs < 2 ^ f.p) (hk : (k : Int) ≤ -f.qmin)
    (h : signed s (inUnits c q e0) * 2 ^ k = i * 2 ^ (-f.qmin).toNat * 2 ^ (f.qmin - e0).toNat) : Dyf f i k (round f (.fin s c q)) := by
  obtain ⟨s', c', q', hV, hv⟩ := vex hf hi hk hq
  have hn : Datum.fin s' c' q' ≠ .nan := nofun
  have he : zval f (.fin s' c' q') * ((2 ^ (f.qmin - e0).toNat : Nat) : Int) = signed s (inUnits c q e0) := by
    refine Int.eq_of_mul_eq_mul_right (Int.ne_of_gt (pw_pos k)) ?_
    rw [h, ← hv, pw_cast]; ac_rfl
  have hz : zval f (round f (.fin s c q)) = zval f (.fin s' c' q') :=
    Int.le_antisymm (zval_round_le hf hV hn h0 h0e (Int.le_of_eq he.symm)) (zval_round_ge hf hV hn h0 h0e (Int.le_of_eq he))
  exact ⟨dyf_of_zval hf hV hz, by rw [hz]; exact hv⟩
theorem Dyf.fit {f : Fmt} {i : Int} {k : Nat} {d : Datum} (h : Dyf f i k d) : ∃ s c q, d = .fin s c q := h.1
theorem Dyf.up {f : Fmt} {i : Int} {k : Nat} {d : Datum} (h : Dyf f i k d) (l : Nat) : Dyf f (i * 2 ^ l) (k + l) d :=
  ⟨h.1, by rw [Int.pow_add, ← Int.mul_assoc, h.2]; ac_rfl⟩
theorem Dyf.to {f : Fmt} {i j : Int} {k l : Nat} {d : Datum} (h : Dyf f i k d) (e : i * 2 ^ l = j * 2 ^ k) : Dyf f j l d := by
  refine ⟨h.1, Int.eq_of_mul_eq_mul_right (Int.ne_of_gt (pw_pos k)) ?_⟩
  calc zval f d * 2 ^ l * 2 ^ k = (zval f d * 2 ^ k) * 2 ^ l := by ac_rfl
    _ = (i * 2 ^ l) * 2 ^ (-f.qmin).toNat := by rw [h.2]; ac_rfl
    _ = j * 2 ^ (-f.qmin).toNat * 2 ^ k := by rw [e]; ac_rfl
theorem Dyf.sum {f : Fmt} (hf : Good f) (hq : 0 ≤ f.qmax) {i j : Int} {k : Nat} {x y : Datum} (fx : FP.Core.fits f x) (fy : FP.Core.fits f y) (hx : Dyf f i k x) (hy : Dyf f j k y) (hi : (i + j).natAbs < 2 ^ f.p) (hk : (k : Int) ≤ -f.qmin) :
    Dyf f (i + j) k (round f (exactSum x y)) := by
  obtain ⟨⟨s, c, q, rfl⟩, hx⟩ := hx
  obtain ⟨⟨t, d, r, rfl⟩, hy⟩ := hy
  obtain ⟨sg, n, e, he, hle, hu⟩ := sum_units fx fy
  rw [he]
  refine rnd hf hq (Int.le_refl _) hle hi hk ?_
  rw [hu, Int.add_mul, hx, hy, Int.add_mul, Int.sub_self]
  simp
theorem Dyf.neg {f : Fmt} {i : Int} {k : Nat} {x : Datum} (hx : Dyf f i k x) : Dyf f (-i) k (negate x) := by
  obtain ⟨⟨s, c, q, rfl⟩, hx⟩ := hx
  refine ⟨⟨_, _, _, rfl⟩, ?_⟩
  rw [zval_negate, Int.neg_mul, hx, Int.neg_mul]
theorem Dyf.prod {f : Fmt} (hf : Good f) (hq : 0 ≤ f.qmax) {i j : Int} {k l : Nat} {x y : Datum} (fx : FP.Core.fits f x) (fy : FP.Core.fits f y) (hx : Dyf f i k x) (hy : Dyf f j l y) (hi : (i * j).natAbs < 2 ^ f.p) (hk : ((k + l : Nat) : Int) ≤ -f.qmin) :
    Dyf f (i * j) (k + l) (round f (exactProduct x y)) := by
  obtain ⟨⟨s, c, q, rfl⟩, hx⟩ := hx
  obtain ⟨⟨t, d, r, rfl⟩, hy⟩ := hy
  obtain ⟨he, hle, hu⟩ := product_units fx fy
  rw [he]
  have hn := qmin_neg hf
  refine rnd hf hq (e0 := 2 * f.qmin) (by omega) hle hi hk ?_
  rw [hu, signed_xor, show (f.qmin - 2 * f.qmin).toNat = (-f.qmin).toNat by omega, Int.pow_add]
  calc zval f (.fin s c q) * zval f (.fin t d r) * (2 ^ k * 2 ^ l) = (zval f (.fin s c q) * 2 ^ k) * (zval f (.fin t d r) * 2 ^ l) := by ac_rfl
    _ = _ := by rw [hx, hy]; ac_rfl
theorem natAbs_pow (n : Nat) : ((2 : Int) ^ n).natAbs = 2 ^ n := by rw [Int.natAbs_pow]; rfl
theorem natAbs_zval (f : Fmt) (d : Datum) : (zval f d).natAbs = zmag f d := natAbs_signed _ _
/-- an exact quotient that the format holds is not rounded -/
theorem Dyf.quot {f : Fmt} (hf : Good f) (hq : 0 ≤ f.qmax) {i j n : Int} {k l m : Nat} {x y : Datum} (fx : FP.Core.fits f x) (fy : FP.Core.fits f y) (hx : Dyf f i k x) (hy : Dyf f j l y) (hj : j ≠ 0) (hi : n.natAbs < 2 ^ f.p) (hm : (m : Int) ≤ -f.qmin)
    (e : i * 2 ^ l * 2 ^ m = n * j * 2 ^ k) : Dyf f n m (quotient f x y) := by
  obtain ⟨⟨s, c, q, rfl⟩, hx⟩ := hx
  obtain ⟨⟨t, d, r, rfl⟩, hy⟩ := hy
  obtain ⟨s', c', q', hV, hv⟩ := vex hf hi hm hq
  have hn : Datum.fin s' c' q' ≠ .nan := nofun
  have hqm := qmin_neg hf
  have fx1 := fx.2.1
  have fy1 := fy.2.1
  -- the signed equation
  have hz : zval f (.fin s c q) * 2 ^ (-f.qmin).toNat = zval f (.fin s' c' q') * zval f (.fin t d r) := by
    refine Int.eq_of_mul_eq_mul_right (Int.ne_of_gt (Int.mul_pos (Int.mul_pos (pw_pos k) (pw_pos l)) (pw_pos m))) ?_
    calc zval f (.fin s c q) * 2 ^ (-f.qmin).toNat * (2 ^ k * 2 ^ l * 2 ^ m) = (zval f (.fin s c q) * 2 ^ k) * (2 ^ l * 2 ^ m) * 2 ^ (-f.qmin).toNat := by ac_rfl
      _ = (i * 2 ^ l * 2 ^ m) * 2 ^ (-f.qmin).toNat * 2 ^ (-f.qmin).toNat := by rw [hx]; ac_rfl
      _ = (n * 2 ^ (-f.qmin).toNat) * (j * 2 ^ (-f.qmin).toNat) * 2 ^ k := by rw [e]; ac_rfl
      _ = (zval f (.fin s' c' q') * 2 ^ m) * (zval f (.fin t d r) * 2 ^ l) * 2 ^ k := by rw [hv, hy]
      _ = _ := by ac_rfl
  have hzb : zval f (.fin t d r) ≠ 0 := by
    intro h0
    rw [h0, Int.zero_mul] at hy
    rcases Int.mul_eq_zero.mp hy.symm with h | h
    · exact hj h
    · exact absurd h (Int.ne_of_gt (pw_pos _))
  have hd : d ≠ 0 := by
    rintro rfl
    apply hzb
    show signed t (inUnits 0 r f.qmin) = 0
    unfold inUnits; rw [Nat.zero_mul, signed_zero]
  have hmag : zmag f (.fin s c q) * 2 ^ (-f.qmin).toNat = zmag f (.fin s' c' q') * zmag f (.fin t d r) := by
    have h2 := congrArg Int.natAbs hz
    rw [Int.natAbs_mul, Int.natAbs_mul, natAbs_pow, natAbs_zval, natAbs_zval, natAbs_zval] at h2
    exact h2
  have hun : inUnits c (q - r) (2 * f.qmin - r) = zmag f (.fin s' c' q') * 2 ^ (f.qmin - (2 * f.qmin - r)).toNat * d := by
    have a1 : inUnits c (q - r) (2 * f.qmin - r) = zmag f (.fin s c q) * 2 ^ (-f.qmin).toNat := by
      show c * 2 ^ _ = c * 2 ^ _ * 2 ^ _
      rw [Nat.mul_assoc, ← Nat.pow_add, show (q - r - (2 * f.qmin - r)).toNat = (q - f.qmin).toNat + (-f.qmin).toNat by omega]
    rw [a1, hmag, show (f.qmin - (2 * f.qmin - r)).toNat = (r - f.qmin).toNat by omega]
    show _ * (d * 2 ^ _) = _
    ac_rfl
  have hqt : quotient f (.fin s c q) (.fin t d r) = roundRatio f (s != t) c d (q - r) := by
    show (if d = 0 then _ else _) = _
    rw [if_neg hd]
  have hm2 : zmag f (roundRatio f (s != t) c d (q - r)) = zmag f (.fin s' c' q') :=
    Nat.le_antisymm (zmag_roundRatio_le hf (e0 := 2 * f.qmin - r) (Nat.pos_of_ne_zero hd) hV hn (by omega) (by omega) (Nat.le_of_eq hun))
      (zmag_roundRatio_ge hf (e0 := 2 * f.qmin - r) (Nat.pos_of_ne_zero hd) hV (by omega) (by omega) (Nat.le_of_eq hun.symm))
  have hsg : signed (s != t) (zmag f (.fin s' c' q')) = zval f (.fin s' c' q') := by
    have p0 : zmag f (.fin s c q) = inUnits c q f.qmin := rfl
    have hS : zval f (.fin s c q) * 2 ^ (-f.qmin).toNat * zval f (.fin t d r) = zval f (.fin s' c' q') * (zval f (.fin t d r) * zval f (.fin t d r)) := by rw [hz]; ac_rfl
    by_cases h0 : zmag f (.fin s' c' q') = 0
    · unfold zval; rw [h0, signed_zero, signed_zero]
    · have hbb : 0 < zval f (.fin t d r) * zval f (.fin t d r) := by
        rcases Int.lt_or_gt_of_ne hzb with h | h
        · exact Int.mul_pos_of_neg_of_neg h h
        · exact Int.mul_pos h h
      have hst : zval f (.fin s c q) * zval f (.fin t d r) = signed (s != t) (zmag f (.fin s c q) * zmag f (.fin t d r)) := by
        rw [signed_xor]; rfl
      have e1 : zval f (.fin s' c' q') * (zval f (.fin t d r) * zval f (.fin t d r)) = signed (s != t) (zmag f (.fin s c q) * zmag f (.fin t d r)) * 2 ^ (-f.qmin).toNat := by
        rw [← hS, ← hst]; ac_rfl
      have e2 : signed (s != t) (zmag f (.fin s c q) * zmag f (.fin t d r)) * 2 ^ (-f.qmin).toNat = signed (s != t) (zmag f (.fin s' c' q')) * (zval f (.fin t d r) * zval f (.fin t d r)) := by
        rw [← signed_mulI, show zmag f (.fin s c q) * zmag f (.fin t d r) * 2 ^ (-f.qmin).toNat = zmag f (.fin s' c' q') * (zmag f (.fin t d r) * zmag f (.fin t d r)) by rw [Nat.mul_right_comm, hmag]; ac_rfl, signed_mul]
        congr 1
        unfold zval
        rw [Int.natCast_mul]
        cases (sgn (.fin t d r)) <;> simp [signed, Int.neg_mul_neg]
      exact Int.eq_of_mul_eq_mul_right (Int.ne_of_gt hbb) (e2.symm.trans e1.symm)
  have hzz : zval f (roundRatio f (s != t) c d (q - r)) = zval f (.fin s' c' q') := by
    rw [← hsg]
    show signed (sgn (roundRatio f (s != t) c d (q - r))) (zmag f (roundRatio f (s != t) c d (q - r))) = _
    rw [sgn_roundRatio, hm2]
  rw [hqt]
  exact ⟨dyf_of_zval hf hV hzz, by rw [hzz]; exact hv⟩
theorem Dyf.ofInt {f : Fmt} (hf : Good f) (hq : 0 ≤ f.qmax) {i : Int} (hi : i.natAbs < 2 ^ f.p) : Dyf f i 0 (round f (FP.Core.ofInt i)) := by
  have hn := qmin_neg hf
  refine rnd hf hq (Int.le_refl _) (by omega) hi (by omega) ?_
  unfold inUnits
  rw [signed_mulI, signed_abs, Int.sub_self]
  simp
theorem Dyf.order {f : Fmt} (hf : Good f) {i j : Int} {k : Nat} {x y : Datum} (fx : FP.Core.fits f x) (fy : FP.Core.fits f y) (hx : Dyf f i k x) (hy : Dyf f j k y) : order x y = some (compare i j) := by
  obtain ⟨⟨s, c, q, rfl⟩, hx⟩ := hx
  obtain ⟨⟨t, d, r, rfl⟩, hy⟩ := hy
  rw [order_zval hf fx fy nofun nofun, ← compare_mul_pos _ _ _ (pw_pos k), hx, hy, compare_mul_pos _ _ _ (pw_pos _)]
/-! doubles -/
def Dy (i : Int) (k : Nat) (a : UInt64) : Prop := Dyf b64 i k (val64 a)
theorem qm64 : (0 : Int) ≤ b64.qmax := by decide
theorem Dy.fin {i : Int} {k : Nat} {a : UInt64} (h : Dy i k a) : DFin a := h.1
theorem Dy.nn {i : Int} {k : Nat} {a : UInt64} (h : Dy i k a) : Jvm.Free.Fl.NoNaN64 a := (Jvm.Free.Fl.fin64_core.mpr h.1).noNaN
theorem Dy.to {i j : Int} {k l : Nat} {a : UInt64} (h : Dy i k a) (e : i * 2 ^ l = j * 2 ^ k) : Dy j l a := Dyf.to h e
theorem Dy.up {i : Int} {k : Nat} {a : UInt64} (h : Dy i k a) (l : Nat) : Dy (i * 2 ^ l) (k + l) a := Dyf.up h l
theorem Dy.add {i j : Int} {k : Nat} {a b : UInt64} (ha : Dy i k a) (hb : Dy j k b) (hi : (i + j).natAbs < 9007199254740992) (hk : k ≤ 1074) : Dy (i + j) k (FP.dadd a b) := by
  show Dyf b64 _ _ (val64 (dadd a b))
  rw [val64_dadd]
  exact Dyf.sum good_b64 qm64 (val64_fits a) (val64_fits b) ha hb hi (by rw [qmin_b64]; omega)
theorem Dy.sub {i j : Int} {k : Nat} {a b : UInt64} (ha : Dy i k a) (hb : Dy j k b) (hi : (i - j).natAbs < 9007199254740992) (hk : k ≤ 1074) : Dy (i - j) k (FP.dsub a b) := by
  show Dyf b64 _ _ (val64 (dsub a b))
  rw [val64_dsub]
  exact Dyf.sum good_b64 qm64 (val64_fits a) (negate_fits (val64_fits b)) ha hb.neg hi (by rw [qmin_b64]; omega)
theorem Dy.mul {i j : Int} {k l : Nat} {a b : UInt64} (ha : Dy i k a) (hb : Dy j l b) (hi : (i * j).natAbs < 9007199254740992) (hk : k + l ≤ 1074) : Dy (i * j) (k + l) (FP.dmul a b) := by
  show Dyf b64 _ _ (val64 (dmul a b))
  rw [val64_dmul]
  exact Dyf.prod good_b64 qm64 (val64_fits a) (val64_fits b) ha hb hi (by rw [qmin_b64]; omega)
theorem Dy.div {i j n : Int} {k l m : Nat} {a b : UInt64} (ha : Dy i k a) (hb : Dy j l b) (hj : j ≠ 0) (hi : n.natAbs < 9007199254740992) (hk : m ≤ 1074) (e : i * 2 ^ l * 2 ^ m = n * j * 2 ^ k) : Dy n m (FP.ddiv a b) := by
  show Dyf b64 _ _ (val64 (ddiv a b))
  rw [val64_ddiv]
  exact Dyf.quot good_b64 qm64 (val64_fits a) (val64_fits b) ha hb hj hi (by rw [qmin_b64]; omega) e
theorem Dy.neg {i : Int} {k : Nat} {a : UInt64} (ha : Dy i k a) : Dy (-i) k (FP.dneg a) := by
  show Dyf b64 _ _ (val64 (FP.dneg a))
  rw [Jvm.FP.val64_dneg]
  exact Dyf.neg ha
theorem Dy.i2d (x : Int32) : Dy x.toInt 0 (FP.i2d x) := by
  show Dyf b64 _ _ (val64 (FP.Core.i2d x))
  rw [val64_i2d]
  exact Dyf.ofInt good_b64 qm64 (by have := int32_abs x; show _ < 2 ^ 53; omega)
theorem Dy.l2d {x : Int64} (h : x.toInt.natAbs < 9007199254740992) : Dy x.toInt 0 (FP.l2d x) := by
  show Dyf b64 _ _ (val64 (FP.Core.l2d x))
  rw [val64_l2d]
  exact Dyf.ofInt good_b64 qm64 h
theorem Dy.cmp {i j : Int} {k : Nat} {a b : UInt64} (ha : Dy i k a) (hb : Dy j k b) : FP.dcmp a b = some (compare i j) :=
  Dyf.order good_b64 (val64_fits a) (val64_fits b) ha hb
theorem Dy.cmp_eq {i j : Int} {k : Nat} {a b : UInt64} (ha : Dy i k a) (hb : Dy j k b) (e : i = j) (o : ClassFile.CmpOp) : cmpValue (FP.dcmp a b) o = 0 := by
  rw [ha.cmp hb, e, compare_self_int]; rfl
theorem Dy.cmp_lt {i j : Int} {k : Nat} {a b : UInt64} (ha : Dy i k a) (hb : Dy j k b) (e : i < j) (o : ClassFile.CmpOp) : cmpValue (FP.dcmp a b) o = -1 := by
  rw [ha.cmp hb, show compare i j = .lt by rw [compare_ite, if_pos e]]; rfl
theorem Dy.cmp_gt {i j : Int} {k : Nat} {a b : UInt64} (ha : Dy i k a) (hb : Dy j k b) (e : j < i) (o : ClassFile.CmpOp) : cmpValue (FP.dcmp a b) o = 1 := by
  rw [ha.cmp hb, show compare i j = .gt by rw [compare_ite, if_neg (by omega), if_neg (by omega)]]; rfl
theorem dy_of {i : Int} {k : Nat} {a : UInt64} {s : Bool} {c : Nat} {q : Int} (h : val64 a = .fin s c q) (e : zval b64 (.fin s c q) * 2 ^ k = i * 2 ^ 1074) : Dy i k a :=
  ⟨⟨s, c, q, h⟩, by rw [h, e]; rfl⟩
theorem dy0 (k : Nat) : Dy 0 k (0 : UInt64) := dy_of (s := false) (c := 0) (q := -1074) (by decide +kernel) (by
  rw [show zval b64 (.fin false 0 (-1074)) = 0 from rfl, Int.zero_mul, Int.zero_mul])
theorem dy1 (k : Nat) : Dy (2 ^ k) k (4607182418800017408 : UInt64) := dy_of (s := false) (c := 2 ^ 52) (q := -52) (by decide +kernel) (by
  rw [show zval b64 (.fin false (2 ^ 52) (-52)) = 2 ^ 1074 by decide +kernel, Int.mul_comm])
theorem Dy.ge {i j : Int} {k : Nat} {a b : UInt64} (ha : Dy i k a) (hb : Dy j k b) (e : j ≤ i) (o : ClassFile.CmpOp) : ¬ (cmpValue (FP.dcmp a b) o < (0 : Int32)) := by
  rcases Int.lt_or_eq_of_le e with h | h
  · rw [ha.cmp_gt hb h]; decide
  · rw [ha.cmp_eq hb h.symm]; decide
theorem Dy.le {i j : Int} {k : Nat} {a b : UInt64} (ha : Dy i k a) (hb : Dy j k b) (e : i ≤ j) (o : ClassFile.CmpOp) : ¬ ((0 : Int32) < cmpValue (FP.dcmp a b) o) := by
  rcases Int.lt_or_eq_of_le e with h | h
  · rw [ha.cmp_lt hb h]; decide
  · rw [ha.cmp_eq hb h]; decide
theorem Dy.lt_inf {i : Int} {k : Nat} {a : UInt64} (ha : Dy i k a) (o : ClassFile.CmpOp) : cmpValue (FP.dcmp a (9218868437227405312 : UInt64)) o < (0 : Int32) := by
  rw [Jvm.RoadKit.dcmp_pinf (Jvm.Free.Fl.fin64_core.mpr ha.1)]; decide
theorem isfin {a : UInt64} (h : DFin a) : ¬ ((0 : Int32) < cmpValue (FP.dcmp (a &&& 0x7fffffffffffffff) (9218868437227405311 : UInt64)) .g) := by
  have hn : dIsNaN a = false := (notNaN_iff a).mpr (by obtain ⟨s, c, q, e⟩ := h; rw [e]; exact nofun)
  rcases (le_max hn).mpr h with e | e <;> rw [show FP.dcmp (a &&& 0x7fffffffffffffff) (9218868437227405311 : UInt64) = _ from e] <;> decide
theorem since0 (s : State) : s.Since s.vm 0 := ⟨State.Warmed39.refl s, fun j p h1 h2 => by
  rw [Array.getElem?_eq_none h1] at h2; cases h2⟩
theorem i2d_nz {v : Int32} (h : v ≠ 0) : ¬ DZero (FP.i2d v) := fun q => i2d_ne_zero h ((zero_bits2 _).mp q)
theorem nn_of {x : UInt64} (h : dIsNaN x = false) : Jvm.Free.Fl.NoNaN64 x := Jvm.Free.Fl.noNaN64_no.mpr h
theorem no_of {x : UInt64} (h : Jvm.Free.Fl.NoNaN64 x) : dIsNaN x = false := Jvm.Free.Fl.noNaN64_no.mp h
theorem no_fin {x : UInt64} (h : DFin x) : dIsNaN x = false := (notNaN_iff x).mpr (by obtain ⟨s, c, q, e⟩ := h; rw [e]; exact nofun)
theorem nn_div {a : UInt64} {v : Int32} (ha : dIsNaN a = false) (h : v ≠ 0) : Jvm.Free.Fl.NoNaN64 (FP.ddiv a (FP.i2d v)) := nn_of (ddiv_out ha (i2d_fin v) (i2d_nz h))
theorem fin_div (a : Int32) {v : Int32} (h : v ≠ 0) : DFin (FP.ddiv (FP.i2d a) (FP.i2d v)) := by
  have h1 := i2d_mag a
  have h2 := i2d_big (v := v) (fun q => h (Int32.toInt_inj.mp q))
  exact fin_of_lt (ddiv_mag h1 h2.1 h2.2 (by decide) (by decide)) (by decide)
end Jvm.OwnFp
namespace Jvm.Pilot.@@N@@
open Jvm Jvm.ClassFile Sem Op Lib Jvm.Free Jvm.Stand Jvm.LawKit Jvm.RoadKit Bundle Jvm.Pilot.@@N@@.Jvm.D
open Jvm.OwnFp
theorem own_4 : Dy 4 0 (4616189618054758400 : UInt64) := dy_of (s := false) (c := 2 ^ 52) (q := -50) (by decide +kernel) (by decide +kernel)
theorem own_n (p0 b : Int32) : 1 ≤ (if b = (0 : Int32) then ((((p0.toUInt32 >>> ((1 : Int32) &&& 31).toUInt32).toInt32) &&& (65535 : Int32)) + (1 : Int32)) else ((((p0.toUInt32 >>> ((1 : Int32) &&& 31).toUInt32).toInt32) &&& (7 : Int32)) + (1 : Int32))).toInt ∧ (if b = (0 : Int32) then ((((p0.toUInt32 >>> ((1 : Int32) &&& 31).toUInt32).toInt32) &&& (65535 : Int32)) + (1 : Int32)) else ((((p0.toUInt32 >>> ((1 : Int32) &&& 31).toUInt32).toInt32) &&& (7 : Int32)) + (1 : Int32))).toInt ≤ 65536 := by
  generalize (p0.toUInt32 >>> ((1 : Int32) &&& 31).toUInt32).toInt32 = y
  have a1 := c_and y 7 (by decide); have a2 := c_and y 65535 (by decide)
  have s1 := c_iadd (y &&& 7) 1; have s2 := c_iadd (y &&& 65535) 1
  have r1 := rng32 ((y &&& 7) + 1); have r2 := rng32 ((y &&& 65535) + 1)
  rw [show (7 : Int32).toInt = 7 by decide] at a1; rw [show (65535 : Int32).toInt = 65535 by decide] at a2; rw [show (1 : Int32).toInt = 1 by decide] at s1 s2
  split <;> omega
theorem own_m (p1 : Int32) : 1 ≤ ((p1 &&& (65535 : Int32)).toInt64 + (1 : Int64)).toInt ∧ ((p1 &&& (65535 : Int32)).toInt64 + (1 : Int64)).toInt ≤ 65536 := by
  have a2 := c_and p1 65535 (by decide); have s := c_ladd (p1 &&& 65535).toInt64 1; have r := rng64 ((p1 &&& 65535).toInt64 + 1)
  rw [show (65535 : Int32).toInt = 65535 by decide] at a2; rw [c_i2l, show (1 : Int64).toInt = 1 by decide] at s; omega
theorem own_absmul {x y : Int} {A B : Nat} (hx : x.natAbs ≤ A) (hy : y.natAbs ≤ B) : (x * y).natAbs ≤ A * B := by
  rw [Int.natAbs_mul]; exact Nat.mul_le_mul hx hy
theorem own_prod {n : Int32} {m : Int64} (Bn : 1 ≤ n.toInt ∧ n.toInt ≤ 65536) (Bm : 1 ≤ m.toInt ∧ m.toInt ≤ 65536) (Cn : 4 < n.toInt) :
    ((n - (4 : Int32)).toInt64 * m).toInt = (n.toInt - 4) * m.toInt ∧ (n.toInt64 * m).toInt = n.toInt * m.toInt ∧ 0 < (n.toInt - 4) * m.toInt ∧ ((n.toInt - 4) * m.toInt).natAbs ≤ 4294967296 ∧ (n.toInt * m.toInt).natAbs ≤ 4294967296 := by
  have b1 := own_absmul (x := n.toInt - 4) (y := m.toInt) (A := 65536) (B := 65536) (by omega) (by omega)
  have b2 := own_absmul (x := n.toInt) (y := m.toInt) (A := 65536) (B := 65536) (by omega) (by omega)
  have s := c_isub n 4; have r := rng32 (n - 4); rw [show (4 : Int32).toInt = 4 by decide] at s
  have e : (n - (4 : Int32)).toInt = n.toInt - 4 := by omega
  have m1 := c_lmul (n - (4 : Int32)).toInt64 m; have r1 := rng64 ((n - (4 : Int32)).toInt64 * m); rw [c_i2l, e] at m1
  have m2 := c_lmul n.toInt64 m; have r2 := rng64 (n.toInt64 * m); rw [c_i2l] at m2
  have p : 0 < (n.toInt - 4) * m.toInt := Int.mul_pos (by omega) (by omega)
  exact ⟨by omega, by omega, p, by omega, by omega⟩
theorem own_mean {n m : Int} {va vh : UInt64} (Bn : 1 ≤ n ∧ n ≤ 65536) (Bm : 1 ≤ m ∧ m ≤ 65536) (Cn : 4 < n) (Da : Dy n 2 va) (Dh : Dy ((n - 4) * m) 2 vh) :
    Dy (n * ((n - 4) * m)) 4 (FP.dmul va vh) ∧ Dy (n - 4) 2 (FP.dsub va (4607182418800017408 : UInt64)) ∧ Dy (n * m) 2 (FP.ddiv (FP.dmul va vh) (FP.dsub va (4607182418800017408 : UInt64))) := by
  have b1 := own_absmul (x := n - 4) (y := m) (A := 65536) (B := 65536) (by omega) (by omega)
  have b2 := own_absmul (x := n) (y := (n - 4) * m) (A := 65536) (B := 4294967296) (by omega) (by omega)
  have b3 := own_absmul (x := n) (y := m) (A := 65536) (B := 65536) (by omega) (by omega)
  have d1 : Dy (n * ((n - 4) * m)) 4 (FP.dmul va vh) := Dy.mul Da Dh (by omega) (by decide)
  have d2 : Dy (n - 4) 2 (FP.dsub va (4607182418800017408 : UInt64)) := Dy.sub Da (dy1 2) (by show (n - 4).natAbs < _; omega) (by decide)
  refine ⟨d1, d2, Dy.div d1 d2 (by omega) (by omega) (by decide) ?_⟩
  rw [show ((2 : Int) ^ 4) = 2 ^ 2 * 2 ^ 2 by decide]; ac_rfl
theorem ef_2_R (m : MethodId) (x0 : Addr) : entryFrame m #[(.ref x0)] 1 = mkF m 0 #[.val (.ref x0)] [] := by first | (simp [entryFrame, mkF, argsToLocals, Value.category]; done) | rfl
theorem d2_0 : decode jdk_30_method_1_code 0 = .ok (.aload_n 0, 1) := by decide +kernel
theorem d2_1 : decode jdk_30_method_1_code 1 = .ok (.invokespecial 1, 3) := by decide +kernel
theorem d2_4 : decode jdk_30_method_1_code 4 = .ok (.return_, 1) := by decide +kernel
def Q_rm2 (Z : State) (a1 : Addr) (h0 : Heap) (n0 : Nat) (v : Option Value) (h : Heap) (L : List Loc) : Prop := v = none ∧ Fr n0 L ∧ h = h0
theorem pn_java_2flang_2fRecord : plainName "java/lang/Record" = true := by first | (simp [plainName, overriddenIn]; done) | decide +kernel
set_option maxRecDepth 65536 in
set_option maxHeartbeats 40000000 in
theorem rm2 (l : Launch) (Z : State) (a0 : Array Value) (hw : ∀ d ∈ tables_1, d.before a0 Z = true) (ws : List Jvm.Cond) (a1 : Addr) (h0 : Heap) (n0 : Nat) (Z0 : n0 ≤ h0.size) :
    MetFree l (⟨"java/lang/Record", "<init>", "()V"⟩ : MethodName) (head1 (Jvm.Cond.code (⟨"java/lang/Record", "<init>", "()V"⟩ : MethodName) jdk_30_method_1_code 1 none :: ws) ({ frames := 1, cells := 0, slots := 0, locals := 12 } : Room)) (fun a U => a = #[(.ref a1)] ∧ Z.Warmed39 U.vm ∧ U.heap = h0) (fun _ _ _ _ _ => True) (fun _ U o U' => ∃ v L, o = .returned v ∧ Q_rm2 Z a1 h0 n0 v U'.heap L ∧ FrameEnd U o U' L ({ frames := 1, cells := 0, slots := 0, locals := 12 } : Room).cells ({ frames := 1, cells := 0, slots := 0, locals := 12 } : Room).slots) := by
  refine MetFree.of_bodySF (plainFor_of_name pn_java_2flang_2fRecord) hisR ?_
  intro p e s m args below meth c s₁ Bd hml0 hP hK
  obtain ⟨rfl, hZ, hh⟩ := hP
  have hx := Bd.exec
  have hby := Bd.bytes
  have hml : c.maxLocals = 1 := hml0
  have hown : s.vm.findClass "java/lang/Record" = some m.cls := findClass_of_methodNamed Bd.named
  have hnm := (name_of_methodNamed Bd.named Bd.method).1
  have X0 : Stand p l e ({ frames := 1, cells := 0, slots := 0, locals := 12 } : Room) s m #[(.ref a1)] below meth c s₁ [] 0 0 := Stand.of_body Bd
  have e0 : s₁.heap = h0 := by rw [← hh, Bd.state]; rfl
  have N0 := Fr.nil n0
  have k0 : ∀ t, Steps p.tables e below (s₁.setTop (mkF m 0 #[.val (.ref a1)] [])) t → Steps p.tables e below (s₁.setTop (entryFrame m #[(.ref a1)] 1)) t := fun t k => castTop (ef_2_R m a1) k
  have k101 : ∀ t, Steps p.tables e below (s₁.setTop (mkF m 1 #[.val (.ref a1)] [(.ref a1)])) t → Steps p.tables e below (s₁.setTop (entryFrame m #[(.ref a1)] 1)) t := fun t k => k0 t (by
    show Steps p.tables e below (s₁.setTop (mkF m 0 #[.val (.ref a1)] [])) _
    refine XS.aloadN X0.here hx rfl (hb hby d2_0) rfl rfl ?_
    exact k)
  obtain ⟨T102, X102, e102, st102⟩ := initO X0 hx hZ hown (hw _ (List.mem_of_getElem? (i := 13) rfl)) (hw _ (List.mem_of_getElem? (i := 14) rfl)) (hw _ (List.mem_of_getElem? (i := 15) rfl)) e0 (g := (mkF m 1 #[.val (.ref a1)] [(.ref a1)])) rfl (by rw [hml]; rfl) rfl (hb hby d2_1) (by decide) (W := 0) (by show 2 * 0 + _ ≤ _; exact Nat.le_of_eq rfl) (by decide)
  have k103 : ∀ t, Steps p.tables e below (T102.setTop (mkF m 4 #[.val (.ref a1)] [])) t → Steps p.tables e below (s₁.setTop (entryFrame m #[(.ref a1)] 1)) t := fun t k => k101 t (st102 t k)
  obtain ⟨fs, hr, hrun, hended, hW, hsame⟩ := X102.leave (v := none) (fun _ => rfl)
  refine ⟨_, _, k103 _ (X102.returnOut hx Bd.returns (hb hby d2_4) hr), hrun, hended, _, _, rfl, ?_, ⟨_, rfl⟩, hW, hsame.mono (by decide) (by decide)⟩
  show Q_rm2 Z a1 h0 n0 _ T102.heap _
  rw [e102]
  exact ⟨rfl, N0, rfl⟩
theorem ef_4_RD (m : MethodId) (x0 : Addr) (x1 : UInt64) : entryFrame m #[(.ref x0), (.double x1)] 3 = mkF m 0 #[.val (.ref x0), .val (.double x1), .second] [] := by first | (simp [entryFrame, mkF, argsToLocals, Value.category]; done) | rfl
theorem d4_0 : decode prog_33_method_5_code 0 = .ok (.dload_n 1, 1) := by decide +kernel
theorem d4_1 : decode prog_33_method_5_code 1 = .ok (.dconst 0, 1) := by decide +kernel
theorem d4_2 : decode prog_33_method_5_code 2 = .ok (.dcmp .l, 1) := by decide +kernel
theorem d4_3 : decode prog_33_method_5_code 3 = .ok (.ifCond .le 11, 3) := by decide +kernel
theorem d4_6 : decode prog_33_method_5_code 6 = .ok (.dload_n 1, 1) := by decide +kernel
theorem d4_7 : decode prog_33_method_5_code 7 = .ok (.ldc2_w 32, 3) := by decide +kernel
theorem d4_10 : decode prog_33_method_5_code 10 = .ok (.dcmp .g, 1) := by decide +kernel
theorem d4_11 : decode prog_33_method_5_code 11 = .ok (.ifCond .lt 18, 3) := by decide +kernel
theorem d4_29 : decode prog_33_method_5_code 29 = .ok (.dload_n 1, 1) := by decide +kernel
theorem d4_30 : decode prog_33_method_5_code 30 = .ok (.dreturn, 1) := by decide +kernel
def Q_rm4 (Z : State) (a1 : Addr) (u1 : UInt64) (h0 : Heap) (n0 : Nat) (v : Option Value) (h : Heap) (L : List Loc) : Prop := v = some (.double u1) ∧ Fr n0 L ∧ h = h0
theorem pn_com_2fexample_2fsurety_2fsurety_2fcore_2fOutsideDomainException : plainName "com/example/surety/surety/core/OutsideDomainException" = true := by first | (simp [plainName, overriddenIn]; done) | decide +kernel
set_option maxRecDepth 65536 in
set_option maxHeartbeats 40000000 in
theorem rm4 (l : Launch) (Z : State) (a0 : Array Value) (hw : ∀ d ∈ tables_1, d.before a0 Z = true) (ws : List Jvm.Cond) (a1 : Addr) (u1 : UInt64) (h0 : Heap) (n0 : Nat) (Z0 : n0 ≤ h0.size) (c3 : (0 : Int32) < cmpValue (FP.dcmp u1 (0 : UInt64)) .l) (c11 : cmpValue (FP.dcmp u1 (9218868437227405312 : UInt64)) .g < (0 : Int32)) :
    MetFree l (⟨"com/example/surety/surety/core/OutsideDomainException", "requirePositive", "(Ljava/lang/String;D)D"⟩ : MethodName) (head1 (Jvm.Cond.code (⟨"com/example/surety/surety/core/OutsideDomainException", "requirePositive", "(Ljava/lang/String;D)D"⟩ : MethodName) prog_33_method_5_code 3 (some .double) :: ws) ({ frames := 0, cells := 0, slots := 0, locals := 0 } : Room)) (fun a U => a = #[(.ref a1), (.double u1)] ∧ Z.Warmed39 U.vm ∧ U.heap = h0) (fun _ _ _ _ _ => True) (fun _ U o U' => ∃ v L, o = .returned v ∧ Q_rm4 Z a1 u1 h0 n0 v U'.heap L ∧ FrameEnd U o U' L ({ frames := 0, cells := 0, slots := 0, locals := 0 } : Room).cells ({ frames := 0, cells := 0, slots := 0, locals := 0 } : Room).slots) := by
  refine MetFree.of_bodySF (plainFor_of_name pn_com_2fexample_2fsurety_2fsurety_2fcore_2fOutsideDomainException) hisR ?_
  intro p e s m args below meth c s₁ Bd hml0 hP hK
  obtain ⟨rfl, hZ, hh⟩ := hP
  have hx := Bd.exec
  have hby := Bd.bytes
  have hml : c.maxLocals = 3 := hml0
  have hown : s.vm.findClass "com/example/surety/surety/core/OutsideDomainException" = some m.cls := findClass_of_methodNamed Bd.named
  have hnm := (name_of_methodNamed Bd.named Bd.method).1
  have X0 : Stand p l e ({ frames := 0, cells := 0, slots := 0, locals := 0 } : Room) s m #[(.ref a1), (.double u1)] below meth c s₁ [] 0 0 := Stand.of_body Bd
  have e0 : s₁.heap = h0 := by rw [← hh, Bd.state]; rfl
  have N0 := Fr.nil n0
  have k0 : ∀ t, Steps p.tables e below (s₁.setTop (mkF m 0 #[.val (.ref a1), .val (.double u1), .second] [])) t → Steps p.tables e below (s₁.setTop (entryFrame m #[(.ref a1), (.double u1)] 3)) t := fun t k => castTop (ef_4_RD m a1 u1) k
  have k101 : ∀ t, Steps p.tables e below (s₁.setTop (mkF m 30 #[.val (.ref a1), .val (.double u1), .second] [(.double u1)])) t → Steps p.tables e below (s₁.setTop (entryFrame m #[(.ref a1), (.double u1)] 3)) t := fun t k => k0 t (by
    show Steps p.tables e below (s₁.setTop (mkF m 0 #[.val (.ref a1), .val (.double u1), .second] [])) _
    refine XS.dloadN X0.here hx rfl (hb hby d4_0) rfl ?_
    show Steps p.tables e below (s₁.setTop (mkF m 1 #[.val (.ref a1), .val (.double u1), .second] [(.double u1)])) _
    refine XS.dconst0 X0.here hx rfl (hb hby d4_1) (v := (0 : UInt64)) rfl ?_
    show Steps p.tables e below (s₁.setTop (mkF m 2 #[.val (.ref a1), .val (.double u1), .second] [(.double (0 : UInt64)), (.double u1)])) _
    refine XS.dcmpS X0.here hx rfl (hb hby d4_2) rfl rfl ?_
    show Steps p.tables e below (s₁.setTop (mkF m 3 #[.val (.ref a1), .val (.double u1), .second] [(.int (cmpValue (FP.dcmp u1 (0 : UInt64)) .l))])) _
    refine XS.ifNo X0.here hx rfl (hb hby d4_3) rfl ((if0 _ _).trans (tlt c3).2.2.2) ?_
    show Steps p.tables e below (s₁.setTop (mkF m 6 #[.val (.ref a1), .val (.double u1), .second] [])) _
    refine XS.dloadN X0.here hx rfl (hb hby d4_6) rfl ?_
    show Steps p.tables e below (s₁.setTop (mkF m 7 #[.val (.ref a1), .val (.double u1), .second] [(.double u1)])) _
    refine X0.ldc2DoubleC hx hown (mvT hZ (hw _ (List.mem_of_getElem? (i := 28) rfl))) (g := (mkF m 7 #[.val (.ref a1), .val (.double u1), .second] [(.double u1)])) rfl (hb hby d4_7) _ ?_
    show Steps p.tables e below (s₁.setTop (mkF m 10 #[.val (.ref a1), .val (.double u1), .second] [(.double (9218868437227405312 : UInt64)), (.double u1)])) _
    refine XS.dcmpS X0.here hx rfl (hb hby d4_10) rfl rfl ?_
    show Steps p.tables e below (s₁.setTop (mkF m 11 #[.val (.ref a1), .val (.double u1), .second] [(.int (cmpValue (FP.dcmp u1 (9218868437227405312 : UInt64)) .g))])) _
    refine XS.ifYes X0.here hx rfl (pc0 := 11) (pc' := 29) rfl (hb hby d4_11) rfl ((if0 _ _).trans (tlt c11).1) (by decide) (by decide) ?_
    show Steps p.tables e below (s₁.setTop (mkF m 29 #[.val (.ref a1), .val (.double u1), .second] [])) _
    refine XS.dloadN X0.here hx rfl (hb hby d4_29) rfl ?_
    exact k)
  obtain ⟨fs, hr, hrun, hended, hW, hsame⟩ := X0.leave (v := some (.double u1)) (fun h => by rw [Bd.returns] at h; cases h)
  refine ⟨_, _, k101 _ (retOut X0 hx (t := .double) Bd.returns rfl (Or.inr (Or.inr (Or.inl ⟨rfl, rfl, _, rfl⟩))) (hb hby d4_30) hr), hrun, hended, _, _, rfl, ?_, ⟨_, rfl⟩, hW, hsame.mono (by decide) (by decide)⟩
  show Q_rm4 Z a1 u1 h0 n0 _ s₁.heap _
  rw [e0]
  exact ⟨rfl, N0, rfl⟩
theorem ef_1_RDD (m : MethodId) (x0 : Addr) (x1 : UInt64) (x2 : UInt64) : entryFrame m #[(.ref x0), (.double x1), (.double x2)] 5 = mkF m 0 #[.val (.ref x0), .val (.double x1), .second, .val (.double x2), .second] [] := by first | (simp [entryFrame, mkF, argsToLocals, Value.category]; done) | rfl
theorem d1_0 : decode prog_34_method_1_code 0 = .ok (.aload_n 0, 1) := by decide +kernel
theorem d1_1 : decode prog_34_method_1_code 1 = .ok (.invokespecial 1, 3) := by decide +kernel
theorem pd__28_29V : parseMethodDescriptor "()V" = some ⟨[], none⟩ := by decide +kernel
theorem d1_4 : decode prog_34_method_1_code 4 = .ok (.ldc 7, 2) := by decide +kernel
theorem own_strAtoms {Z : State} {a0 : Array Value} (hw : ∀ d ∈ tables_1, d.before a0 Z = true) : ∀ a ∈ Bundle.stringAtoms, a.before a0 Z = true := by
  intro a ha
  simp only [Bundle.stringAtoms, List.mem_cons, List.not_mem_nil, or_false] at ha
  rcases ha with rfl | rfl | rfl | rfl | rfl | rfl | rfl
  · exact (hw _ (List.mem_of_getElem? (i := 17) rfl))
  · exact (hw _ (List.mem_of_getElem? (i := 18) rfl))
  · exact (hw _ (List.mem_of_getElem? (i := 19) rfl))
  · exact (hw _ (List.mem_of_getElem? (i := 20) rfl))
  · exact (hw _ (List.mem_of_getElem? (i := 21) rfl))
  · exact (hw _ (List.mem_of_getElem? (i := 22) rfl))
  · exact (hw _ (List.mem_of_getElem? (i := 23) rfl))
theorem d1_6 : decode prog_34_method_1_code 6 = .ok (.dload_n 1, 1) := by decide +kernel
theorem d1_7 : decode prog_34_method_1_code 7 = .ok (.invokestatic 9, 3) := by decide +kernel
theorem pd__28Ljava_2flang_2fString_3bD_29D : parseMethodDescriptor "(Ljava/lang/String;D)D" = some ⟨[(.object "java/lang/String"), .double], some .double⟩ := by decide +kernel
theorem d1_10 : decode prog_34_method_1_code 10 = .ok (.pop2, 1) := by decide +kernel
theorem d1_11 : decode prog_34_method_1_code 11 = .ok (.ldc 15, 2) := by decide +kernel
theorem d1_13 : decode prog_34_method_1_code 13 = .ok (.dload_n 3, 1) := by decide +kernel
theorem d1_14 : decode prog_34_method_1_code 14 = .ok (.invokestatic 9, 3) := by decide +kernel
theorem d1_17 : decode prog_34_method_1_code 17 = .ok (.pop2, 1) := by decide +kernel
theorem d1_18 : decode prog_34_method_1_code 18 = .ok (.aload_n 0, 1) := by decide +kernel
theorem d1_19 : decode prog_34_method_1_code 19 = .ok (.dload_n 1, 1) := by decide +kernel
theorem d1_20 : decode prog_34_method_1_code 20 = .ok (.putfield 17, 3) := by decide +kernel
theorem d1_23 : decode prog_34_method_1_code 23 = .ok (.aload_n 0, 1) := by decide +kernel
theorem d1_24 : decode prog_34_method_1_code 24 = .ok (.dload_n 3, 1) := by decide +kernel
theorem d1_25 : decode prog_34_method_1_code 25 = .ok (.putfield 22, 3) := by decide +kernel
theorem d1_28 : decode prog_34_method_1_code 28 = .ok (.return_, 1) := by decide +kernel
def Q_rm1 (Z : State) (a1 : Addr) (u1 : UInt64) (u2 : UInt64) (h0 : Heap) (n0 : Nat) (v : Option Value) (h : Heap) (L : List Loc) : Prop := v = none ∧ Fr n0 L ∧ Keep h0 h [a1] ∧ Exa Z h a1 "com/example/surety/surety/core/ParetoUpTimes" ∧ Fld Z h a1 "com/example/surety/surety/core/ParetoUpTimes" "h" "D" (.double u1) ∧ Fld Z h a1 "com/example/surety/surety/core/ParetoUpTimes" "alpha" "D" (.double u2)
theorem pn_com_2fexample_2fsurety_2fsurety_2fcore_2fParetoUpTimes : plainName "com/example/surety/surety/core/ParetoUpTimes" = true := by first | (simp [plainName, overriddenIn]; done) | decide +kernel
set_option maxRecDepth 65536 in
set_option maxHeartbeats 40000000 in
theorem rm1 (l : Launch) (Z : State) (a0 : Array Value) (hw : ∀ d ∈ tables_1, d.before a0 Z = true) (ws : List Jvm.Cond) (a1 : Addr) (u1 : UInt64) (u2 : UInt64) (h0 : Heap) (n0 : Nat) (Z0 : n0 ≤ h0.size) (F1 : Fld Z h0 a1 "com/example/surety/surety/core/ParetoUpTimes" "h" "D" (.double (0 : UInt64))) (F2 : Fld Z h0 a1 "com/example/surety/surety/core/ParetoUpTimes" "alpha" "D" (.double (0 : UInt64))) (E1 : Exa Z h0 a1 "com/example/surety/surety/core/ParetoUpTimes") (ga : n0 ≤ a1) (c1 : (0 : Int32) < cmpValue (FP.dcmp u1 (0 : UInt64)) .l) (c2 : cmpValue (FP.dcmp u1 (9218868437227405312 : UInt64)) .g < (0 : Int32)) (c3 : (0 : Int32) < cmpValue (FP.dcmp u2 (0 : UInt64)) .l) (c4 : cmpValue (FP.dcmp u2 (9218868437227405312 : UInt64)) .g < (0 : Int32)) :
    MetFree l (⟨"com/example/surety/surety/core/ParetoUpTimes", "<init>", "(DD)V"⟩ : MethodName) (head1 (Jvm.Cond.code (⟨"com/example/surety/surety/core/ParetoUpTimes", "<init>", "(DD)V"⟩ : MethodName) prog_34_method_1_code 5 none :: ws) ({ frames := 2, cells := 4, slots := 32, locals := 24 } : Room)) (fun a U => a = #[(.ref a1), (.double u1), (.double u2)] ∧ Z.Warmed39 U.vm ∧ U.heap = h0) (fun _ _ _ _ _ => True) (fun _ U o U' => ∃ v L, o = .returned v ∧ Q_rm1 Z a1 u1 u2 h0 n0 v U'.heap L ∧ ReturnedEndW U o U' L ({ frames := 2, cells := 4, slots := 32, locals := 24 } : Room).cells ({ frames := 2, cells := 4, slots := 32, locals := 24 } : Room).slots) := by
  refine MetFree.of_bodySF (plainFor_of_name pn_com_2fexample_2fsurety_2fsurety_2fcore_2fParetoUpTimes) hisR ?_
  intro p e s m args below meth c s₁ Bd hml0 hP hK
  obtain ⟨rfl, hZ, hh⟩ := hP
  have hx := Bd.exec
  have hby := Bd.bytes
  have hml : c.maxLocals = 5 := hml0
  have hown : s.vm.findClass "com/example/surety/surety/core/ParetoUpTimes" = some m.cls := findClass_of_methodNamed Bd.named
  have hnm := (name_of_methodNamed Bd.named Bd.method).1
  have X0 : Stand p l e ({ frames := 2, cells := 4, slots := 32, locals := 24 } : Room) s m #[(.ref a1), (.double u1), (.double u2)] below meth c s₁ [] 0 0 := Stand.of_body Bd
  have e0 : s₁.heap = h0 := by rw [← hh, Bd.state]; rfl
  have N0 := Fr.nil n0
  have hS0 : s.Since s.vm 0 := Jvm.OwnFp.since0 s
  have k0 : ∀ t, Steps p.tables e below (s₁.setTop (mkF m 0 #[.val (.ref a1), .val (.double u1), .second, .val (.double u2), .second] [])) t → Steps p.tables e below (s₁.setTop (entryFrame m #[(.ref a1), (.double u1), (.double u2)] 5)) t := fun t k => castTop (ef_1_RDD m a1 u1 u2) k
  have K0 := Keep.refl h0 [a1]
  have k101 : ∀ t, Steps p.tables e below (s₁.setTop (mkF m 1 #[.val (.ref a1), .val (.double u1), .second, .val (.double u2), .second] [(.ref a1)])) t → Steps p.tables e below (s₁.setTop (entryFrame m #[(.ref a1), (.double u1), (.double u2)] 5)) t := fun t k => k0 t (by
    show Steps p.tables e below (s₁.setTop (mkF m 0 #[.val (.ref a1), .val (.double u1), .second, .val (.double u2), .second] [])) _
    refine XS.aloadN X0.here hx rfl (hb hby d1_0) rfl rfl ?_
    exact k)
  obtain ⟨_, _, ⟨T102, L102, k102, n102⟩, -, X102, ⟨Lc102, hQ102, l102, y102, z102⟩, st102⟩ := X0.specialBack hx (y := (⟨"java/lang/Record", "<init>", "()V"⟩ : MethodName)) rfl hown (mvT hZ (hw _ (List.mem_of_getElem? (i := 8) rfl))) (mvT hZ (hw _ (List.mem_of_getElem? (i := 9) rfl))) (mvT hZ (hw _ (List.mem_of_getElem? (i := 12) rfl))) (by decide) (backOf (W := 0) (rm2 l Z a0 hw [] a1 h0 n0 Z0 ) hZ (hw _ (List.mem_of_getElem? (i := 12) rfl)) (hw _ (List.mem_of_getElem? (i := 11) rfl)) (by decide) (by decide)) (g := (mkF m 1 #[.val (.ref a1), .val (.double u1), .second, .val (.double u2), .second] [(.ref a1)])) rfl (by rw [hml]; rfl) (Steps.refl _) (a := a1) (argsL := []) (rest := []) (lenOf pd__28_29V rfl) rfl (by show 2 * 0 + _ ≤ _; exact Nat.le_of_eq rfl) (hb hby d1_1) (fun _ _ => ⟨rfl, e0, (by decide : 0 + 0 ≤ _), (by decide : 0 + 0 ≤ _)⟩)
  dsimp only [Pt.U, Pt.locs, Pt.cells, Pt.slots] at X102 l102 y102 z102 st102 hQ102
  subst l102 y102 z102
  obtain ⟨rfl, N102q, e102⟩ := hQ102
  have N103 := Fr.app N0 N102q
  have k104 : ∀ t, Steps p.tables e below (T102.setTop (mkF m 4 #[.val (.ref a1), .val (.double u1), .second, .val (.double u2), .second] [])) t → Steps p.tables e below (s₁.setTop (entryFrame m #[(.ref a1), (.double u1), (.double u2)] 5)) t := fun t k => k101 t (st102.trans k)
  obtain ⟨b105, T105, h105, kk105, X105, e105, E105, hS105, hk105, hZ105, hown105, st105⟩ := ldcS (s := s) (vm0 := s.vm) X102 hx hZ hown (hw _ (List.mem_of_getElem? (i := 16) rfl)) (own_strAtoms hw) e102 hS0 (Nat.zero_le _) (g := (mkF m 4 #[.val (.ref a1), .val (.double u1), .second, .val (.double u2), .second] [])) rfl (hb hby d1_4) (n := 4) (by decide) (by decide) (by decide) (by decide)
  have F106 := F1.ext E105
  have F107 := F2.ext E105
  have F108 := E1.ext E105
  have Z109 : n0 ≤ h105.size := Nat.le_trans Z0 E105.1
  have K110 := K0.ext E105
  have k111 : ∀ t, Steps p.tables e below (T105.setTop (mkF m 6 #[.val (.ref a1), .val (.double u1), .second, .val (.double u2), .second] [(.ref b105)])) t → Steps p.tables e below (s₁.setTop (entryFrame m #[(.ref a1), (.double u1), (.double u2)] 5)) t := fun t k => k104 t (st105 t k)
  have k112 : ∀ t, Steps p.tables e below (T105.setTop (mkF m 7 #[.val (.ref a1), .val (.double u1), .second, .val (.double u2), .second] [(.double u1), (.ref b105)])) t → Steps p.tables e below (s₁.setTop (entryFrame m #[(.ref a1), (.double u1), (.double u2)] 5)) t := fun t k => k111 t (by
    show Steps p.tables e below (T105.setTop (mkF m 6 #[.val (.ref a1), .val (.double u1), .second, .val (.double u2), .second] [(.ref b105)])) _
    refine XS.dloadN X105.here hx rfl (hb hby d1_6) rfl ?_
    exact k)
  obtain ⟨_, _, ⟨T113, L113, k113, n113⟩, -, X113, ⟨Lc113, hQ113, l113, y113, z113⟩, st113⟩ := Jvm.LawKit.callS X105 hx (y := (⟨"com/example/surety/surety/core/OutsideDomainException", "requirePositive", "(Ljava/lang/String;D)D"⟩ : MethodName)) hown105 (mvT hZ105 (hw _ (List.mem_of_getElem? (i := 24) rfl))) (mvT hZ105 (hw _ (List.mem_of_getElem? (i := 25) rfl))) (mvT hZ105 (hw _ (List.mem_of_getElem? (i := 26) rfl))) (mvT hZ105 (hw _ (List.mem_of_getElem? (i := 27) rfl))) (by decide) (backOf (W := 0) (rm4 l Z a0 hw [] b105 u1 h105 n0 Z109 c1 c2) hZ105 (hw _ (List.mem_of_getElem? (i := 27) rfl)) (hw _ (List.mem_of_getElem? (i := 26) rfl)) (by decide) (by decide)) (g := (mkF m 7 #[.val (.ref a1), .val (.double u1), .second, .val (.double u2), .second] [(.double u1), (.ref b105)])) rfl (by rw [hml]; rfl) (argsL := [(.ref b105), (.double u1)]) (rest := []) (lenOf pd__28Ljava_2flang_2fString_3bD_29D rfl) rfl (by show 2 * 0 + _ ≤ _; exact Nat.le_of_eq rfl) (hb hby d1_7) (fun _ _ => ⟨rfl, e105, (by decide : 2 + 0 ≤ _), (by decide : 8 + 0 ≤ _)⟩)
  dsimp only [Pt.U, Pt.locs, Pt.cells, Pt.slots] at X113 l113 y113 z113 st113 hQ113
  subst l113 y113 z113
  obtain ⟨rfl, N113q, e113⟩ := hQ113
  have N114 := Fr.app N103 N113q
  have k115 : ∀ t, Steps p.tables e below (T113.setTop (mkF m 10 #[.val (.ref a1), .val (.double u1), .second, .val (.double u2), .second] [(.double u1)])) t → Steps p.tables e below (s₁.setTop (entryFrame m #[(.ref a1), (.double u1), (.double u2)] 5)) t := fun t k => k112 t (st113 t k)
  have k116 : ∀ t, Steps p.tables e below (T113.setTop (mkF m 11 #[.val (.ref a1), .val (.double u1), .second, .val (.double u2), .second] [])) t → Steps p.tables e below (s₁.setTop (entryFrame m #[(.ref a1), (.double u1), (.double u2)] 5)) t := fun t k => k115 t (by
    show Steps p.tables e below (T113.setTop (mkF m 10 #[.val (.ref a1), .val (.double u1), .second, .val (.double u2), .second] [(.double u1)])) _
    jvm_step X113.here [X113.here.top, hx, (hb hby d1_10), Value.category]
    exact k)
  obtain ⟨b117, T117, h117, kk117, X117, e117, E117, hS117, hk117, hZ117, hown117, st117⟩ := ldcS (s := s) (vm0 := T105.vm) X113 hx hZ105 hown105 (hw _ (List.mem_of_getElem? (i := 29) rfl)) (own_strAtoms hw) e113 hS105 hk105 (g := (mkF m 11 #[.val (.ref a1), .val (.double u1), .second, .val (.double u2), .second] [])) rfl (hb hby d1_11) (n := 20) (by decide) (by decide) (by decide) (by decide)
  have F118 := F106.ext E117
  have F119 := F107.ext E117
  have F120 := F108.ext E117
  have Z121 : n0 ≤ h117.size := Nat.le_trans Z109 E117.1
  have K122 := K110.ext E117
  have k123 : ∀ t, Steps p.tables e below (T117.setTop (mkF m 13 #[.val (.ref a1), .val (.double u1), .second, .val (.double u2), .second] [(.ref b117)])) t → Steps p.tables e below (s₁.setTop (entryFrame m #[(.ref a1), (.double u1), (.double u2)] 5)) t := fun t k => k116 t (st117 t k)
  have k124 : ∀ t, Steps p.tables e below (T117.setTop (mkF m 14 #[.val (.ref a1), .val (.double u1), .second, .val (.double u2), .second] [(.double u2), (.ref b117)])) t → Steps p.tables e below (s₁.setTop (entryFrame m #[(.ref a1), (.double u1), (.double u2)] 5)) t := fun t k => k123 t (by
    show Steps p.tables e below (T117.setTop (mkF m 13 #[.val (.ref a1), .val (.double u1), .second, .val (.double u2), .second] [(.ref b117)])) _
    refine XS.dloadN X117.here hx rfl (hb hby d1_13) rfl ?_
    exact k)
  obtain ⟨_, _, ⟨T125, L125, k125, n125⟩, -, X125, ⟨Lc125, hQ125, l125, y125, z125⟩, st125⟩ := Jvm.LawKit.callS X117 hx (y := (⟨"com/example/surety/surety/core/OutsideDomainException", "requirePositive", "(Ljava/lang/String;D)D"⟩ : MethodName)) hown117 (mvT hZ117 (hw _ (List.mem_of_getElem? (i := 24) rfl))) (mvT hZ117 (hw _ (List.mem_of_getElem? (i := 25) rfl))) (mvT hZ117 (hw _ (List.mem_of_getElem? (i := 26) rfl))) (mvT hZ117 (hw _ (List.mem_of_getElem? (i := 27) rfl))) (by decide) (backOf (W := 0) (rm4 l Z a0 hw [] b117 u2 h117 n0 Z121 c3 c4) hZ117 (hw _ (List.mem_of_getElem? (i := 27) rfl)) (hw _ (List.mem_of_getElem? (i := 26) rfl)) (by decide) (by decide)) (g := (mkF m 14 #[.val (.ref a1), .val (.double u1), .second, .val (.double u2), .second] [(.double u2), (.ref b117)])) rfl (by rw [hml]; rfl) (argsL := [(.ref b117), (.double u2)]) (rest := []) (lenOf pd__28Ljava_2flang_2fString_3bD_29D rfl) rfl (by show 2 * 0 + _ ≤ _; exact Nat.le_of_eq rfl) (hb hby d1_14) (fun _ _ => ⟨rfl, e117, (by decide : 4 + 0 ≤ _), (by decide : 32 + 0 ≤ _)⟩)
  dsimp only [Pt.U, Pt.locs, Pt.cells, Pt.slots] at X125 l125 y125 z125 st125 hQ125
  subst l125 y125 z125
  obtain ⟨rfl, N125q, e125⟩ := hQ125
  have N126 := Fr.app N114 N125q
  have k127 : ∀ t, Steps p.tables e below (T125.setTop (mkF m 17 #[.val (.ref a1), .val (.double u1), .second, .val (.double u2), .second] [(.double u2)])) t → Steps p.tables e below (s₁.setTop (entryFrame m #[(.ref a1), (.double u1), (.double u2)] 5)) t := fun t k => k124 t (st125 t k)
  have k128 : ∀ t, Steps p.tables e below (T125.setTop (mkF m 20 #[.val (.ref a1), .val (.double u1), .second, .val (.double u2), .second] [(.double u1), (.ref a1)])) t → Steps p.tables e below (s₁.setTop (entryFrame m #[(.ref a1), (.double u1), (.double u2)] 5)) t := fun t k => k127 t (by
    show Steps p.tables e below (T125.setTop (mkF m 17 #[.val (.ref a1), .val (.double u1), .second, .val (.double u2), .second] [(.double u2)])) _
    jvm_step X125.here [X125.here.top, hx, (hb hby d1_17), Value.category]
    show Steps p.tables e below (T125.setTop (mkF m 18 #[.val (.ref a1), .val (.double u1), .second, .val (.double u2), .second] [])) _
    refine XS.aloadN X125.here hx rfl (hb hby d1_18) rfl rfl ?_
    show Steps p.tables e below (T125.setTop (mkF m 19 #[.val (.ref a1), .val (.double u1), .second, .val (.double u2), .second] [(.ref a1)])) _
    refine XS.dloadN X125.here hx rfl (hb hby d1_19) rfl ?_
    exact k)
  obtain ⟨T129, h129, X129, e129, W129, st129⟩ := putF X125 hx hZ117 hown117 (host := "") (Or.inl (hw _ (List.mem_of_getElem? (i := 30) rfl))) Via.refl e125 F118 F120 (Or.inr ⟨(hw _ (List.mem_of_getElem? (i := 31) rfl)), rfl, hnm⟩) (hw _ (List.mem_of_getElem? (i := 3) rfl)) (ty := .double) (by decide) rfl rfl (g := (mkF m 20 #[.val (.ref a1), .val (.double u1), .second, .val (.double u2), .second] [(.double u1), (.ref a1)])) rfl rfl (hb hby d1_20)
  have F130 := F118.same W129
  have F131 := F119.other W129 (Or.inr (slot_ne (Or.inr (hw _ (List.mem_of_getElem? (i := 33) rfl))) (Or.inr (hw _ (List.mem_of_getElem? (i := 31) rfl))) (by decide) (t := .double) (t' := .double) (by decide) (by decide)))
  have F132 := F120.wr W129
  have Z133 : n0 ≤ h129.size := Nat.le_trans Z121 (Nat.le_of_eq W129.size.symm)
  have N134 := Fr.snoc X129 N126 ga
  have hk135 : kk117 ≤ h129.size := Nat.le_trans hk117 (Nat.le_of_eq W129.size.symm)
  have K136 := K122.wr W129 (Or.inl (List.mem_of_getElem? (i := 0) rfl))
  have k137 : ∀ t, Steps p.tables e below (T129.setTop (mkF m 23 #[.val (.ref a1), .val (.double u1), .second, .val (.double u2), .second] [])) t → Steps p.tables e below (s₁.setTop (entryFrame m #[(.ref a1), (.double u1), (.double u2)] 5)) t := fun t k => k128 t (st129 t k)
  have k138 : ∀ t, Steps p.tables e below (T129.setTop (mkF m 25 #[.val (.ref a1), .val (.double u1), .second, .val (.double u2), .second] [(.double u2), (.ref a1)])) t → Steps p.tables e below (s₁.setTop (entryFrame m #[(.ref a1), (.double u1), (.double u2)] 5)) t := fun t k => k137 t (by
    show Steps p.tables e below (T129.setTop (mkF m 23 #[.val (.ref a1), .val (.double u1), .second, .val (.double u2), .second] [])) _
    refine XS.aloadN X129.here hx rfl (hb hby d1_23) rfl rfl ?_
    show Steps p.tables e below (T129.setTop (mkF m 24 #[.val (.ref a1), .val (.double u1), .second, .val (.double u2), .second] [(.ref a1)])) _
    refine XS.dloadN X129.here hx rfl (hb hby d1_24) rfl ?_
    exact k)
  obtain ⟨T139, h139, X139, e139, W139, st139⟩ := putF X129 hx hZ117 hown117 (host := "") (Or.inl (hw _ (List.mem_of_getElem? (i := 32) rfl))) Via.refl e129 F131 F132 (Or.inr ⟨(hw _ (List.mem_of_getElem? (i := 33) rfl)), rfl, hnm⟩) (hw _ (List.mem_of_getElem? (i := 3) rfl)) (ty := .double) (by decide) rfl rfl (g := (mkF m 25 #[.val (.ref a1), .val (.double u1), .second, .val (.double u2), .second] [(.double u2), (.ref a1)])) rfl rfl (hb hby d1_25)
  have F140 := F131.same W139
  have F141 := F132.wr W139
  have F142 := F130.other W139 (Or.inr (slot_ne (Or.inr (hw _ (List.mem_of_getElem? (i := 31) rfl))) (Or.inr (hw _ (List.mem_of_getElem? (i := 33) rfl))) (by decide) (t := .double) (t' := .double) (by decide) (by decide)))
  have Z143 : n0 ≤ h139.size := Nat.le_trans Z133 (Nat.le_of_eq W139.size.symm)
  have N144 := Fr.snoc X139 N134 ga
  have hk145 : kk117 ≤ h139.size := Nat.le_trans hk135 (Nat.le_of_eq W139.size.symm)
  have K146 := K136.wr W139 (Or.inl (List.mem_of_getElem? (i := 0) rfl))
  have k147 : ∀ t, Steps p.tables e below (T139.setTop (mkF m 28 #[.val (.ref a1), .val (.double u1), .second, .val (.double u2), .second] [])) t → Steps p.tables e below (s₁.setTop (entryFrame m #[(.ref a1), (.double u1), (.double u2)] 5)) t := fun t k => k138 t (st139 t k)
  obtain ⟨fs, hr, hrun, hended, hRE⟩ := Stand.leaveW (s := s) (vm₁ := T117.vm) X139 hS117 (by rw [e139]; exact hk145) (v := none) (fun _ => rfl)
  refine ⟨_, _, k147 _ (X139.returnOut hx Bd.returns (hb hby d1_28) hr), hrun, hended, _, _, rfl, ?_, hRE.1, hRE.2.1, hRE.2.2.1, hRE.2.2.2.mono (by decide) (by decide)⟩
  show Q_rm1 Z a1 u1 u2 h0 n0 _ T139.heap _
  rw [e139]
  exact ⟨rfl, N144, K146, F141, F142, F140⟩
theorem ef_5_R (m : MethodId) (x0 : Addr) : entryFrame m #[(.ref x0)] 1 = mkF m 0 #[.val (.ref x0)] [] := by first | (simp [entryFrame, mkF, argsToLocals, Value.category]; done) | rfl
theorem d5_0 : decode prog_34_method_4_code 0 = .ok (.aload_n 0, 1) := by decide +kernel
theorem d5_1 : decode prog_34_method_4_code 1 = .ok (.getfield 22, 3) := by decide +kernel
theorem d5_4 : decode prog_34_method_4_code 4 = .ok (.dconst 1, 1) := by decide +kernel
theorem d5_5 : decode prog_34_method_4_code 5 = .ok (.dcmp .g, 1) := by decide +kernel
theorem d5_6 : decode prog_34_method_4_code 6 = .ok (.ifCond .gt 9, 3) := by decide +kernel
theorem d5_15 : decode prog_34_method_4_code 15 = .ok (.aload_n 0, 1) := by decide +kernel
theorem d5_16 : decode prog_34_method_4_code 16 = .ok (.getfield 22, 3) := by decide +kernel
theorem d5_19 : decode prog_34_method_4_code 19 = .ok (.aload_n 0, 1) := by decide +kernel
theorem d5_20 : decode prog_34_method_4_code 20 = .ok (.getfield 17, 3) := by decide +kernel
theorem d5_23 : decode prog_34_method_4_code 23 = .ok (.dmul, 1) := by decide +kernel
theorem d5_24 : decode prog_34_method_4_code 24 = .ok (.aload_n 0, 1) := by decide +kernel
theorem d5_25 : decode prog_34_method_4_code 25 = .ok (.getfield 22, 3) := by decide +kernel
theorem d5_28 : decode prog_34_method_4_code 28 = .ok (.dconst 1, 1) := by decide +kernel
theorem d5_29 : decode prog_34_method_4_code 29 = .ok (.dsub, 1) := by decide +kernel
theorem d5_30 : decode prog_34_method_4_code 30 = .ok (.ddiv, 1) := by decide +kernel
theorem d5_31 : decode prog_34_method_4_code 31 = .ok (.dreturn, 1) := by decide +kernel
def Q_mean1 (Z : State) (a1 : Addr) (u1 : UInt64) (u2 : UInt64) (h0 : Heap) (n0 : Nat) (v : Option Value) (h : Heap) (L : List Loc) : Prop := v = some (.double (FP.ddiv (FP.dmul u2 u1) (FP.dsub u2 (4607182418800017408 : UInt64)))) ∧ Fr n0 L ∧ h = h0
set_option maxRecDepth 65536 in
set_option maxHeartbeats 40000000 in
theorem mean1 (l : Launch) (Z : State) (a0 : Array Value) (hw : ∀ d ∈ tables_1, d.before a0 Z = true) (ws : List Jvm.Cond) (a1 : Addr) (u1 : UInt64) (u2 : UInt64) (h0 : Heap) (n0 : Nat) (Z0 : n0 ≤ h0.size) (F1 : Fld Z h0 a1 "com/example/surety/surety/core/ParetoUpTimes" "h" "D" (.double u1)) (F2 : Fld Z h0 a1 "com/example/surety/surety/core/ParetoUpTimes" "alpha" "D" (.double u2)) (c6 : (0 : Int32) < cmpValue (FP.dcmp u2 (4607182418800017408 : UInt64)) .g) (nn23 : Jvm.Free.Fl.NoNaN64 (FP.dmul u2 u1)) (nn29 : Jvm.Free.Fl.NoNaN64 (FP.dsub u2 (4607182418800017408 : UInt64))) (nn30 : Jvm.Free.Fl.NoNaN64 (FP.ddiv (FP.dmul u2 u1) (FP.dsub u2 (4607182418800017408 : UInt64)))) :
    MetFree l (⟨"com/example/surety/surety/core/ParetoUpTimes", "mean", "()D"⟩ : MethodName) (head1 (Jvm.Cond.code (⟨"com/example/surety/surety/core/ParetoUpTimes", "mean", "()D"⟩ : MethodName) prog_34_method_4_code 1 (some .double) :: ws) ({ frames := 0, cells := 0, slots := 0, locals := 0 } : Room)) (fun a U => a = #[(.ref a1)] ∧ Z.Warmed39 U.vm ∧ U.heap = h0) (fun _ _ _ _ _ => True) (fun _ U o U' => ∃ v L, o = .returned v ∧ Q_mean1 Z a1 u1 u2 h0 n0 v U'.heap L ∧ FrameEnd U o U' L ({ frames := 0, cells := 0, slots := 0, locals := 0 } : Room).cells ({ frames := 0, cells := 0, slots := 0, locals := 0 } : Room).slots) := by
  refine MetFree.of_bodySF (plainFor_of_name pn_com_2fexample_2fsurety_2fsurety_2fcore_2fParetoUpTimes) hisR ?_
  intro p e s m args below meth c s₁ Bd hml0 hP hK
  obtain ⟨rfl, hZ, hh⟩ := hP
  have hx := Bd.exec
  have hby := Bd.bytes
  have hml : c.maxLocals = 1 := hml0
  have hown : s.vm.findClass "com/example/surety/surety/core/ParetoUpTimes" = some m.cls := findClass_of_methodNamed Bd.named
  have hnm := (name_of_methodNamed Bd.named Bd.method).1
  have X0 : Stand p l e ({ frames := 0, cells := 0, slots := 0, locals := 0 } : Room) s m #[(.ref a1)] below meth c s₁ [] 0 0 := Stand.of_body Bd
  have e0 : s₁.heap = h0 := by rw [← hh, Bd.state]; rfl
  have N0 := Fr.nil n0
  have k0 : ∀ t, Steps p.tables e below (s₁.setTop (mkF m 0 #[.val (.ref a1)] [])) t → Steps p.tables e below (s₁.setTop (entryFrame m #[(.ref a1)] 1)) t := fun t k => castTop (ef_5_R m a1) k
  have k101 : ∀ t, Steps p.tables e below (s₁.setTop (mkF m 1 #[.val (.ref a1)] [(.ref a1)])) t → Steps p.tables e below (s₁.setTop (entryFrame m #[(.ref a1)] 1)) t := fun t k => k0 t (by
    show Steps p.tables e below (s₁.setTop (mkF m 0 #[.val (.ref a1)] [])) _
    refine XS.aloadN X0.here hx rfl (hb hby d5_0) rfl rfl ?_
    exact k)
  obtain ⟨T102, X102, e102, st102⟩ := getF X0 hx hZ hown (host := "") (Or.inl (hw _ (List.mem_of_getElem? (i := 32) rfl))) Via.refl e0 F2 (g := (mkF m 1 #[.val (.ref a1)] [(.ref a1)])) rfl rfl (hb hby d5_1)
  have k103 : ∀ t, Steps p.tables e below (T102.setTop (mkF m 4 #[.val (.ref a1)] [(.double u2)])) t → Steps p.tables e below (s₁.setTop (entryFrame m #[(.ref a1)] 1)) t := fun t k => k101 t (st102 t k)
  have k104 : ∀ t, Steps p.tables e below (T102.setTop (mkF m 16 #[.val (.ref a1)] [(.ref a1)])) t → Steps p.tables e below (s₁.setTop (entryFrame m #[(.ref a1)] 1)) t := fun t k => k103 t (by
    show Steps p.tables e below (T102.setTop (mkF m 4 #[.val (.ref a1)] [(.double u2)])) _
    refine XS.dconst1 X102.here hx rfl (hb hby d5_4) (v := (4607182418800017408 : UInt64)) rfl ?_
    show Steps p.tables e below (T102.setTop (mkF m 5 #[.val (.ref a1)] [(.double (4607182418800017408 : UInt64)), (.double u2)])) _
    refine XS.dcmpS X102.here hx rfl (hb hby d5_5) rfl rfl ?_
    show Steps p.tables e below (T102.setTop (mkF m 6 #[.val (.ref a1)] [(.int (cmpValue (FP.dcmp u2 (4607182418800017408 : UInt64)) .g))])) _
    refine XS.ifYes X102.here hx rfl (pc0 := 6) (pc' := 15) rfl (hb hby d5_6) rfl ((if0 _ _).trans (tlt c6).2.2.1) (by decide) (by decide) ?_
    show Steps p.tables e below (T102.setTop (mkF m 15 #[.val (.ref a1)] [])) _
    refine XS.aloadN X102.here hx rfl (hb hby d5_15) rfl rfl ?_
    exact k)
  obtain ⟨T105, X105, e105, st105⟩ := getF X102 hx hZ hown (host := "") (Or.inl (hw _ (List.mem_of_getElem? (i := 32) rfl))) Via.refl e102 F2 (g := (mkF m 16 #[.val (.ref a1)] [(.ref a1)])) rfl rfl (hb hby d5_16)
  have k106 : ∀ t, Steps p.tables e below (T105.setTop (mkF m 19 #[.val (.ref a1)] [(.double u2)])) t → Steps p.tables e below (s₁.setTop (entryFrame m #[(.ref a1)] 1)) t := fun t k => k104 t (st105 t k)
  have k107 : ∀ t, Steps p.tables e below (T105.setTop (mkF m 20 #[.val (.ref a1)] [(.ref a1), (.double u2)])) t → Steps p.tables e below (s₁.setTop (entryFrame m #[(.ref a1)] 1)) t := fun t k => k106 t (by
    show Steps p.tables e below (T105.setTop (mkF m 19 #[.val (.ref a1)] [(.double u2)])) _
    refine XS.aloadN X105.here hx rfl (hb hby d5_19) rfl rfl ?_
    exact k)
  obtain ⟨T108, X108, e108, st108⟩ := getF X105 hx hZ hown (host := "") (Or.inl (hw _ (List.mem_of_getElem? (i := 30) rfl))) Via.refl e105 F1 (g := (mkF m 20 #[.val (.ref a1)] [(.ref a1), (.double u2)])) rfl rfl (hb hby d5_20)
  have k109 : ∀ t, Steps p.tables e below (T108.setTop (mkF m 23 #[.val (.ref a1)] [(.double u1), (.double u2)])) t → Steps p.tables e below (s₁.setTop (entryFrame m #[(.ref a1)] 1)) t := fun t k => k107 t (st108 t k)
  have k110 : ∀ t, Steps p.tables e below (T108.setTop (mkF m 25 #[.val (.ref a1)] [(.ref a1), (.double (FP.dmul u2 u1))])) t → Steps p.tables e below (s₁.setTop (entryFrame m #[(.ref a1)] 1)) t := fun t k => k109 t (by
    show Steps p.tables e below (T108.setTop (mkF m 23 #[.val (.ref a1)] [(.double u1), (.double u2)])) _
    refine XS.dmulS X108.here hx rfl (hb hby d5_23) rfl (nn23) rfl ?_
    show Steps p.tables e below (T108.setTop (mkF m 24 #[.val (.ref a1)] [(.double (FP.dmul u2 u1))])) _
    refine XS.aloadN X108.here hx rfl (hb hby d5_24) rfl rfl ?_
    exact k)
  obtain ⟨T111, X111, e111, st111⟩ := getF X108 hx hZ hown (host := "") (Or.inl (hw _ (List.mem_of_getElem? (i := 32) rfl))) Via.refl e108 F2 (g := (mkF m 25 #[.val (.ref a1)] [(.ref a1), (.double (FP.dmul u2 u1))])) rfl rfl (hb hby d5_25)
  have k112 : ∀ t, Steps p.tables e below (T111.setTop (mkF m 28 #[.val (.ref a1)] [(.double u2), (.double (FP.dmul u2 u1))])) t → Steps p.tables e below (s₁.setTop (entryFrame m #[(.ref a1)] 1)) t := fun t k => k110 t (st111 t k)
  have k113 : ∀ t, Steps p.tables e below (T111.setTop (mkF m 31 #[.val (.ref a1)] [(.double (FP.ddiv (FP.dmul u2 u1) (FP.dsub u2 (4607182418800017408 : UInt64))))])) t → Steps p.tables e below (s₁.setTop (entryFrame m #[(.ref a1)] 1)) t := fun t k => k112 t (by
    show Steps p.tables e below (T111.setTop (mkF m 28 #[.val (.ref a1)] [(.double u2), (.double (FP.dmul u2 u1))])) _
    refine XS.dconst1 X111.here hx rfl (hb hby d5_28) (v := (4607182418800017408 : UInt64)) rfl ?_
    show Steps p.tables e below (T111.setTop (mkF m 29 #[.val (.ref a1)] [(.double (4607182418800017408 : UInt64)), (.double u2), (.double (FP.dmul u2 u1))])) _
    refine XS.dsubS X111.here hx rfl (hb hby d5_29) rfl (nn29) rfl ?_
    show Steps p.tables e below (T111.setTop (mkF m 30 #[.val (.ref a1)] [(.double (FP.dsub u2 (4607182418800017408 : UInt64))), (.double (FP.dmul u2 u1))])) _
    refine XS.ddivS X111.here hx rfl (hb hby d5_30) rfl (nn30) rfl ?_
    exact k)
  obtain ⟨fs, hr, hrun, hended, hW, hsame⟩ := X111.leave (v := some (.double (FP.ddiv (FP.dmul u2 u1) (FP.dsub u2 (4607182418800017408 : UInt64))))) (fun h => by rw [Bd.returns] at h; cases h)
  refine ⟨_, _, k113 _ (retOut X111 hx (t := .double) Bd.returns rfl (Or.inr (Or.inr (Or.inl ⟨rfl, rfl, _, rfl⟩))) (hb hby d5_31) hr), hrun, hended, _, _, rfl, ?_, ⟨_, rfl⟩, hW, hsame.mono (by decide) (by decide)⟩
  show Q_mean1 Z a1 u1 u2 h0 n0 _ T111.heap _
  rw [e111]
  exact ⟨rfl, N0, rfl⟩
theorem d5_9 : decode prog_34_method_4_code 9 = .ok (.ldc2_w 26, 3) := by decide +kernel
theorem d5_12 : decode prog_34_method_4_code 12 = .ok (.goto 19, 3) := by decide +kernel
def Q_mean0 (Z : State) (a1 : Addr) (u1 : UInt64) (u2 : UInt64) (h0 : Heap) (n0 : Nat) (v : Option Value) (h : Heap) (L : List Loc) : Prop := v = some (.double (9218868437227405312 : UInt64)) ∧ Fr n0 L ∧ h = h0
set_option maxRecDepth 65536 in
set_option maxHeartbeats 40000000 in
theorem mean0 (l : Launch) (Z : State) (a0 : Array Value) (hw : ∀ d ∈ tables_1, d.before a0 Z = true) (ws : List Jvm.Cond) (a1 : Addr) (u1 : UInt64) (u2 : UInt64) (h0 : Heap) (n0 : Nat) (Z0 : n0 ≤ h0.size) (F1 : Fld Z h0 a1 "com/example/surety/surety/core/ParetoUpTimes" "h" "D" (.double u1)) (F2 : Fld Z h0 a1 "com/example/surety/surety/core/ParetoUpTimes" "alpha" "D" (.double u2)) (c6 : ¬ ((0 : Int32) < cmpValue (FP.dcmp u2 (4607182418800017408 : UInt64)) .g)) :
    MetFree l (⟨"com/example/surety/surety/core/ParetoUpTimes", "mean", "()D"⟩ : MethodName) (head1 (Jvm.Cond.code (⟨"com/example/surety/surety/core/ParetoUpTimes", "mean", "()D"⟩ : MethodName) prog_34_method_4_code 1 (some .double) :: ws) ({ frames := 0, cells := 0, slots := 0, locals := 0 } : Room)) (fun a U => a = #[(.ref a1)] ∧ Z.Warmed39 U.vm ∧ U.heap = h0) (fun _ _ _ _ _ => True) (fun _ U o U' => ∃ v L, o = .returned v ∧ Q_mean0 Z a1 u1 u2 h0 n0 v U'.heap L ∧ FrameEnd U o U' L ({ frames := 0, cells := 0, slots := 0, locals := 0 } : Room).cells ({ frames := 0, cells := 0, slots := 0, locals := 0 } : Room).slots) := by
  refine MetFree.of_bodySF (plainFor_of_name pn_com_2fexample_2fsurety_2fsurety_2fcore_2fParetoUpTimes) hisR ?_
  intro p e s m args below meth c s₁ Bd hml0 hP hK
  obtain ⟨rfl, hZ, hh⟩ := hP
  have hx := Bd.exec
  have hby := Bd.bytes
  have hml : c.maxLocals = 1 := hml0
  have hown : s.vm.findClass "com/example/surety/surety/core/ParetoUpTimes" = some m.cls := findClass_of_methodNamed Bd.named
  have hnm := (name_of_methodNamed Bd.named Bd.method).1
  have X0 : Stand p l e ({ frames := 0, cells := 0, slots := 0, locals := 0 } : Room) s m #[(.ref a1)] below meth c s₁ [] 0 0 := Stand.of_body Bd
  have e0 : s₁.heap = h0 := by rw [← hh, Bd.state]; rfl
  have N0 := Fr.nil n0
  have k0 : ∀ t, Steps p.tables e below (s₁.setTop (mkF m 0 #[.val (.ref a1)] [])) t → Steps p.tables e below (s₁.setTop (entryFrame m #[(.ref a1)] 1)) t := fun t k => castTop (ef_5_R m a1) k
  have k101 : ∀ t, Steps p.tables e below (s₁.setTop (mkF m 1 #[.val (.ref a1)] [(.ref a1)])) t → Steps p.tables e below (s₁.setTop (entryFrame m #[(.ref a1)] 1)) t := fun t k => k0 t (by
    show Steps p.tables e below (s₁.setTop (mkF m 0 #[.val (.ref a1)] [])) _
    refine XS.aloadN X0.here hx rfl (hb hby d5_0) rfl rfl ?_
    exact k)
  obtain ⟨T102, X102, e102, st102⟩ := getF X0 hx hZ hown (host := "") (Or.inl (hw _ (List.mem_of_getElem? (i := 32) rfl))) Via.refl e0 F2 (g := (mkF m 1 #[.val (.ref a1)] [(.ref a1)])) rfl rfl (hb hby d5_1)
  have k103 : ∀ t, Steps p.tables e below (T102.setTop (mkF m 4 #[.val (.ref a1)] [(.double u2)])) t → Steps p.tables e below (s₁.setTop (entryFrame m #[(.ref a1)] 1)) t := fun t k => k101 t (st102 t k)
  have k104 : ∀ t, Steps p.tables e below (T102.setTop (mkF m 31 #[.val (.ref a1)] [(.double (9218868437227405312 : UInt64))])) t → Steps p.tables e below (s₁.setTop (entryFrame m #[(.ref a1)] 1)) t := fun t k => k103 t (by
    show Steps p.tables e below (T102.setTop (mkF m 4 #[.val (.ref a1)] [(.double u2)])) _
    refine XS.dconst1 X102.here hx rfl (hb hby d5_4) (v := (4607182418800017408 : UInt64)) rfl ?_
    show Steps p.tables e below (T102.setTop (mkF m 5 #[.val (.ref a1)] [(.double (4607182418800017408 : UInt64)), (.double u2)])) _
    refine XS.dcmpS X102.here hx rfl (hb hby d5_5) rfl rfl ?_
    show Steps p.tables e below (T102.setTop (mkF m 6 #[.val (.ref a1)] [(.int (cmpValue (FP.dcmp u2 (4607182418800017408 : UInt64)) .g))])) _
    refine XS.ifNo X102.here hx rfl (hb hby d5_6) rfl ((if0 _ _).trans (flt c6).2.2.1) ?_
    show Steps p.tables e below (T102.setTop (mkF m 9 #[.val (.ref a1)] [])) _
    refine X102.ldc2DoubleC hx hown (mvT hZ (hw _ (List.mem_of_getElem? (i := 39) rfl))) (g := (mkF m 9 #[.val (.ref a1)] [])) rfl (hb hby d5_9) _ ?_
    show Steps p.tables e below (T102.setTop (mkF m 12 #[.val (.ref a1)] [(.double (9218868437227405312 : UInt64))])) _
    refine XS.goto X102.here hx rfl (pc0 := 12) (pc' := 31) rfl (hb hby d5_12) (by decide) (by decide) ?_
    exact k)
  obtain ⟨fs, hr, hrun, hended, hW, hsame⟩ := X102.leave (v := some (.double (9218868437227405312 : UInt64))) (fun h => by rw [Bd.returns] at h; cases h)
  refine ⟨_, _, k104 _ (retOut X102 hx (t := .double) Bd.returns rfl (Or.inr (Or.inr (Or.inl ⟨rfl, rfl, _, rfl⟩))) (hb hby d5_31) hr), hrun, hended, _, _, rfl, ?_, ⟨_, rfl⟩, hW, hsame.mono (by decide) (by decide)⟩
  show Q_mean0 Z a1 u1 u2 h0 n0 _ T102.heap _
  rw [e102]
  exact ⟨rfl, N0, rfl⟩
theorem ef_0_II (m : MethodId) (x0 : Int32) (x1 : Int32) : entryFrame m #[(.int x0), (.int x1)] maxLocals = mkF m 0 #[.val (.int x0), .val (.int x1), .unset, .unset, .unset, .unset, .unset, .unset, .unset, .unset, .unset, .unset] [] := by first | (simp [entryFrame, mkF, argsToLocals, Value.category, maxLocals]; done) | rfl
theorem pd__28DD_29V : parseMethodDescriptor "(DD)V" = some ⟨[.double, .double], none⟩ := by decide +kernel
theorem pd__28_29D : parseMethodDescriptor "()D" = some ⟨[], some .double⟩ := by decide +kernel
def Q_rm0 (Z : State) (p0 : Int32) (p1 : Int32) (h0 : Heap) (n0 : Nat) (v : Option Value) (h : Heap) (L : List Loc) : Prop := v = some (.int 1) ∧ Fr n0 L
theorem pn_com_2fexample_2fsurety_2fsurety_2fcore_2fParetoUpTimesMeanPinLaw : plainName "com/example/surety/surety/core/ParetoUpTimesMeanPinLaw" = true := by first | (simp [plainName, overriddenIn]; done) | decide +kernel
set_option maxRecDepth 65536 in
set_option maxHeartbeats 40000000 in
theorem rm0 (l : Launch) (Z : State) (a0 : Array Value) (hw : ∀ d ∈ tables_1, d.before a0 Z = true) (ws : List Jvm.Cond) (p0 : Int32) (p1 : Int32) (h0 : Heap) (n0 : Nat) (Z0 : n0 ≤ h0.size) :
    MetFree l x (head1 (Jvm.Cond.code x code maxLocals ret :: ws) room_1) (fun a U => a = #[(.int p0), (.int p1)] ∧ Z.Warmed39 U.vm ∧ U.heap = h0) (fun _ _ _ _ _ => True) (fun _ U o U' => ∃ v L, o = .returned v ∧ Q_rm0 Z p0 p1 h0 n0 v U'.heap L ∧ ReturnedEndW U o U' L room_1.cells room_1.slots) := by
  refine MetFree.of_bodySF (plainFor_of_name pn_com_2fexample_2fsurety_2fsurety_2fcore_2fParetoUpTimesMeanPinLaw) hisR ?_
  intro p e s m args below meth c s₁ Bd hml0 hP hK
  obtain ⟨rfl, hZ, hh⟩ := hP
  have hx := Bd.exec
  have hby := Bd.bytes
  have hml : c.maxLocals = 12 := hml0
  have hown : s.vm.findClass "com/example/surety/surety/core/ParetoUpTimesMeanPinLaw" = some m.cls := findClass_of_methodNamed Bd.named
  have hnm := (name_of_methodNamed Bd.named Bd.method).1
  have X0 : Stand p l e room_1 s m #[(.int p0), (.int p1)] below meth c s₁ [] 0 0 := Stand.of_body Bd
  have e0 : s₁.heap = h0 := by rw [← hh, Bd.state]; rfl
  have N0 := Fr.nil n0
  have hS0 : s.Since s.vm 0 := Jvm.OwnFp.since0 s
  have k0 : ∀ t, Steps p.tables e below (s₁.setTop (mkF m 0 #[.val (.int p0), .val (.int p1), .unset, .unset, .unset, .unset, .unset, .unset, .unset, .unset, .unset, .unset] [])) t → Steps p.tables e below (s₁.setTop (entryFrame m #[(.int p0), (.int p1)] maxLocals)) t := fun t k => castTop (ef_0_II m p0 p1) k
  have k101 : ∀ t, Steps p.tables e below (s₁.setTop (mkF m 3 #[.val (.int p0), .val (.int p1), .unset, .unset, .unset, .unset, .unset, .unset, .unset, .unset, .unset, .unset] [(.int (p0 &&& (1 : Int32)))])) t → Steps p.tables e below (s₁.setTop (entryFrame m #[(.int p0), (.int p1)] maxLocals)) t := fun t k => k0 t (by
    show Steps p.tables e below (s₁.setTop (mkF m 0 #[.val (.int p0), .val (.int p1), .unset, .unset, .unset, .unset, .unset, .unset, .unset, .unset, .unset, .unset] [])) _
    refine XS.iloadN X0.here hx rfl (hb hby at_0) rfl ?_
    show Steps p.tables e below (s₁.setTop (mkF m 1 #[.val (.int p0), .val (.int p1), .unset, .unset, .unset, .unset, .unset, .unset, .unset, .unset, .unset, .unset] [(.int p0)])) _
    refine XS.iconst X0.here hx rfl (hb hby at_1) ?_
    show Steps p.tables e below (s₁.setTop (mkF m 2 #[.val (.int p0), .val (.int p1), .unset, .unset, .unset, .unset, .unset, .unset, .unset, .unset, .unset, .unset] [(.int (1 : Int32)), (.int p0)])) _
    refine XS.iand X0.here hx rfl (hb hby at_2) rfl ?_
    exact k)
  obtain ⟨i103, hi103⟩ : ∃ z : Int32, z = (if (p0 &&& (1 : Int32)) = (0 : Int32) then (0 : Int32) else (1 : Int32)) := ⟨_, rfl⟩
  have k104 : ∀ t, Steps p.tables e below (s₁.setTop (mkF m 11 #[.val (.int p0), .val (.int p1), .unset, .unset, .unset, .unset, .unset, .unset, .unset, .unset, .unset, .unset] [(.int i103)])) t → Steps p.tables e below (s₁.setTop (entryFrame m #[(.int p0), (.int p1)] maxLocals)) t := fun t k => k101 t (by
    by_cases c102 : (p0 &&& (1 : Int32)) = (0 : Int32)
    · rw [if_pos c102] at hi103
      show Steps p.tables e below (s₁.setTop (mkF m 3 #[.val (.int p0), .val (.int p1), .unset, .unset, .unset, .unset, .unset, .unset, .unset, .unset, .unset, .unset] [(.int (p0 &&& (1 : Int32)))])) _
      refine XS.ifYes X0.here hx rfl (pc0 := 3) (pc' := 10) rfl (hb hby at_3) rfl ((if0 _ _).trans (teq c102).1) (by decide) (by decide) ?_
      show Steps p.tables e below (s₁.setTop (mkF m 10 #[.val (.int p0), .val (.int p1), .unset, .unset, .unset, .unset, .unset, .unset, .unset, .unset, .unset, .unset] [])) _
      refine XS.iconst X0.here hx rfl (hb hby at_10) ?_
      show Steps p.tables e below (s₁.setTop (mkF m 11 #[.val (.int p0), .val (.int p1), .unset, .unset, .unset, .unset, .unset, .unset, .unset, .unset, .unset, .unset] [(.int (0 : Int32))])) _
      exact castTop (by rw [hi103]) k
    · rw [if_neg c102] at hi103
      show Steps p.tables e below (s₁.setTop (mkF m 3 #[.val (.int p0), .val (.int p1), .unset, .unset, .unset, .unset, .unset, .unset, .unset, .unset, .unset, .unset] [(.int (p0 &&& (1 : Int32)))])) _
      refine XS.ifNo X0.here hx rfl (hb hby at_3) rfl ((if0 _ _).trans (feq c102).1) ?_
      show Steps p.tables e below (s₁.setTop (mkF m 6 #[.val (.int p0), .val (.int p1), .unset, .unset, .unset, .unset, .unset, .unset, .unset, .unset, .unset, .unset] [])) _
      refine XS.iconst X0.here hx rfl (hb hby at_6) ?_
      show Steps p.tables e below (s₁.setTop (mkF m 7 #[.val (.int p0), .val (.int p1), .unset, .unset, .unset, .unset, .unset, .unset, .unset, .unset, .unset, .unset] [(.int (1 : Int32))])) _
      refine XS.goto X0.here hx rfl (pc0 := 7) (pc' := 11) rfl (hb hby at_7) (by decide) (by decide) ?_
      show Steps p.tables e below (s₁.setTop (mkF m 11 #[.val (.int p0), .val (.int p1), .unset, .unset, .unset, .unset, .unset, .unset, .unset, .unset, .unset, .unset] [(.int (1 : Int32))])) _
      exact castTop (by rw [hi103]) k)
  have k105 : ∀ t, Steps p.tables e below (s₁.setTop (mkF m 13 #[.val (.int p0), .val (.int p1), .val (.int i103), .unset, .unset, .unset, .unset, .unset, .unset, .unset, .unset, .unset] [(.int i103)])) t → Steps p.tables e below (s₁.setTop (entryFrame m #[(.int p0), (.int p1)] maxLocals)) t := fun t k => k104 t (by
    show Steps p.tables e below (s₁.setTop (mkF m 11 #[.val (.int p0), .val (.int p1), .unset, .unset, .unset, .unset, .unset, .unset, .unset, .unset, .unset, .unset] [(.int i103)])) _
    refine XS.istoreN X0.here hx rfl (hb hby at_11) rfl (l' := #[.val (.int p0), .val (.int p1), .val (.int i103), .unset, .unset, .unset, .unset, .unset, .unset, .unset, .unset, .unset]) rfl ?_
    show Steps p.tables e below (s₁.setTop (mkF m 12 #[.val (.int p0), .val (.int p1), .val (.int i103), .unset, .unset, .unset, .unset, .unset, .unset, .unset, .unset, .unset] [])) _
    refine XS.iloadN X0.here hx rfl (hb hby at_12) rfl ?_
    exact k)
  obtain ⟨i107, hi107⟩ : ∃ z : Int32, z = (if i103 = (0 : Int32) then ((((p0.toUInt32 >>> ((1 : Int32) &&& 31).toUInt32).toInt32) &&& (65535 : Int32)) + (1 : Int32)) else ((((p0.toUInt32 >>> ((1 : Int32) &&& 31).toUInt32).toInt32) &&& (7 : Int32)) + (1 : Int32))) := ⟨_, rfl⟩
  have k108 : ∀ t, Steps p.tables e below (s₁.setTop (mkF m 35 #[.val (.int p0), .val (.int p1), .val (.int i103), .unset, .unset, .unset, .unset, .unset, .unset, .unset, .unset, .unset] [(.int i107)])) t → Steps p.tables e below (s₁.setTop (entryFrame m #[(.int p0), (.int p1)] maxLocals)) t := fun t k => k105 t (by
    by_cases c106 : i103 = (0 : Int32)
    · rw [if_pos c106] at hi107
      show Steps p.tables e below (s₁.setTop (mkF m 13 #[.val (.int p0), .val (.int p1), .val (.int i103), .unset, .unset, .unset, .unset, .unset, .unset, .unset, .unset, .unset] [(.int i103)])) _
      refine XS.ifYes X0.here hx rfl (pc0 := 13) (pc' := 27) rfl (hb hby at_13) rfl ((if0 _ _).trans (teq c106).1) (by decide) (by decide) ?_
      show Steps p.tables e below (s₁.setTop (mkF m 27 #[.val (.int p0), .val (.int p1), .val (.int i103), .unset, .unset, .unset, .unset, .unset, .unset, .unset, .unset, .unset] [])) _
      refine XS.iloadN X0.here hx rfl (hb hby at_27) rfl ?_
      show Steps p.tables e below (s₁.setTop (mkF m 28 #[.val (.int p0), .val (.int p1), .val (.int i103), .unset, .unset, .unset, .unset, .unset, .unset, .unset, .unset, .unset] [(.int p0)])) _
      refine XS.iconst X0.here hx rfl (hb hby at_28) ?_
      show Steps p.tables e below (s₁.setTop (mkF m 29 #[.val (.int p0), .val (.int p1), .val (.int i103), .unset, .unset, .unset, .unset, .unset, .unset, .unset, .unset, .unset] [(.int (1 : Int32)), (.int p0)])) _
      refine XS.iushr X0.here hx rfl (hb hby at_29) rfl ?_
      show Steps p.tables e below (s₁.setTop (mkF m 30 #[.val (.int p0), .val (.int p1), .val (.int i103), .unset, .unset, .unset, .unset, .unset, .unset, .unset, .unset, .unset] [(.int ((p0.toUInt32 >>> ((1 : Int32) &&& 31).toUInt32).toInt32))])) _
      refine X0.ldcInt hx hown (mvT hZ (hw _ (List.mem_of_getElem? (i := 0) rfl))) (g := (mkF m 30 #[.val (.int p0), .val (.int p1), .val (.int i103), .unset, .unset, .unset, .unset, .unset, .unset, .unset, .unset, .unset] [(.int ((p0.toUInt32 >>> ((1 : Int32) &&& 31).toUInt32).toInt32))])) rfl (hb hby at_30) _ ?_
      show Steps p.tables e below (s₁.setTop (mkF m 32 #[.val (.int p0), .val (.int p1), .val (.int i103), .unset, .unset, .unset, .unset, .unset, .unset, .unset, .unset, .unset] [(.int (65535 : Int32)), (.int ((p0.toUInt32 >>> ((1 : Int32) &&& 31).toUInt32).toInt32))])) _
      refine XS.iand X0.here hx rfl (hb hby at_32) rfl ?_
      show Steps p.tables e below (s₁.setTop (mkF m 33 #[.val (.int p0), .val (.int p1), .val (.int i103), .unset, .unset, .unset, .unset, .unset, .unset, .unset, .unset, .unset] [(.int (((p0.toUInt32 >>> ((1 : Int32) &&& 31).toUInt32).toInt32) &&& (65535 : Int32)))])) _
      refine XS.iconst X0.here hx rfl (hb hby at_33) ?_
      show Steps p.tables e below (s₁.setTop (mkF m 34 #[.val (.int p0), .val (.int p1), .val (.int i103), .unset, .unset, .unset, .unset, .unset, .unset, .unset, .unset, .unset] [(.int (1 : Int32)), (.int (((p0.toUInt32 >>> ((1 : Int32) &&& 31).toUInt32).toInt32) &&& (65535 : Int32)))])) _
      refine XS.iadd X0.here hx rfl (hb hby at_34) rfl ?_
      show Steps p.tables e below (s₁.setTop (mkF m 35 #[.val (.int p0), .val (.int p1), .val (.int i103), .unset, .unset, .unset, .unset, .unset, .unset, .unset, .unset, .unset] [(.int ((((p0.toUInt32 >>> ((1 : Int32) &&& 31).toUInt32).toInt32) &&& (65535 : Int32)) + (1 : Int32)))])) _
      exact castTop (by rw [hi107]) k
    · rw [if_neg c106] at hi107
      show Steps p.tables e below (s₁.setTop (mkF m 13 #[.val (.int p0), .val (.int p1), .val (.int i103), .unset, .unset, .unset, .unset, .unset, .unset, .unset, .unset, .unset] [(.int i103)])) _
      refine XS.ifNo X0.here hx rfl (hb hby at_13) rfl ((if0 _ _).trans (feq c106).1) ?_
      show Steps p.tables e below (s₁.setTop (mkF m 16 #[.val (.int p0), .val (.int p1), .val (.int i103), .unset, .unset, .unset, .unset, .unset, .unset, .unset, .unset, .unset] [])) _
      refine XS.iloadN X0.here hx rfl (hb hby at_16) rfl ?_
      show Steps p.tables e below (s₁.setTop (mkF m 17 #[.val (.int p0), .val (.int p1), .val (.int i103), .unset, .unset, .unset, .unset, .unset, .unset, .unset, .unset, .unset] [(.int p0)])) _
      refine XS.iconst X0.here hx rfl (hb hby at_17) ?_
      show Steps p.tables e below (s₁.setTop (mkF m 18 #[.val (.int p0), .val (.int p1), .val (.int i103), .unset, .unset, .unset, .unset, .unset, .unset, .unset, .unset, .unset] [(.int (1 : Int32)), (.int p0)])) _
      refine XS.iushr X0.here hx rfl (hb hby at_18) rfl ?_
      show Steps p.tables e below (s₁.setTop (mkF m 19 #[.val (.int p0), .val (.int p1), .val (.int i103), .unset, .unset, .unset, .unset, .unset, .unset, .unset, .unset, .unset] [(.int ((p0.toUInt32 >>> ((1 : Int32) &&& 31).toUInt32).toInt32))])) _
      refine XS.bipush X0.here hx rfl (hb hby at_19) ?_
      show Steps p.tables e below (s₁.setTop (mkF m 21 #[.val (.int p0), .val (.int p1), .val (.int i103), .unset, .unset, .unset, .unset, .unset, .unset, .unset, .unset, .unset] [(.int (7 : Int32)), (.int ((p0.toUInt32 >>> ((1 : Int32) &&& 31).toUInt32).toInt32))])) _
      refine XS.iand X0.here hx rfl (hb hby at_21) rfl ?_
      show Steps p.tables e below (s₁.setTop (mkF m 22 #[.val (.int p0), .val (.int p1), .val (.int i103), .unset, .unset, .unset, .unset, .unset, .unset, .unset, .unset, .unset] [(.int (((p0.toUInt32 >>> ((1 : Int32) &&& 31).toUInt32).toInt32) &&& (7 : Int32)))])) _
      refine XS.iconst X0.here hx rfl (hb hby at_22) ?_
      show Steps p.tables e below (s₁.setTop (mkF m 23 #[.val (.int p0), .val (.int p1), .val (.int i103), .unset, .unset, .unset, .unset, .unset, .unset, .unset, .unset, .unset] [(.int (1 : Int32)), (.int (((p0.toUInt32 >>> ((1 : Int32) &&& 31).toUInt32).toInt32) &&& (7 : Int32)))])) _
      refine XS.iadd X0.here hx rfl (hb hby at_23) rfl ?_
      show Steps p.tables e below (s₁.setTop (mkF m 24 #[.val (.int p0), .val (.int p1), .val (.int i103), .unset, .unset, .unset, .unset, .unset, .unset, .unset, .unset, .unset] [(.int ((((p0.toUInt32 >>> ((1 : Int32) &&& 31).toUInt32).toInt32) &&& (7 : Int32)) + (1 : Int32)))])) _
      refine XS.goto X0.here hx rfl (pc0 := 24) (pc' := 35) rfl (hb hby at_24) (by decide) (by decide) ?_
      show Steps p.tables e below (s₁.setTop (mkF m 35 #[.val (.int p0), .val (.int p1), .val (.int i103), .unset, .unset, .unset, .unset, .unset, .unset, .unset, .unset, .unset] [(.int ((((p0.toUInt32 >>> ((1 : Int32) &&& 31).toUInt32).toInt32) &&& (7 : Int32)) + (1 : Int32)))])) _
      exact castTop (by rw [hi107]) k)
  obtain ⟨mm, hmm⟩ : ∃ z : Int64, z = (((p1 &&& (65535 : Int32)).toInt64) + (1 : Int64)) := ⟨_, rfl⟩
  have k109 : ∀ t, Steps p.tables e below (s₁.setTop (mkF m 45 #[.val (.int p0), .val (.int p1), .val (.int i103), .val (.int i107), .val (.long mm), .second, .unset, .unset, .unset, .unset, .unset, .unset] [])) t → Steps p.tables e below (s₁.setTop (entryFrame m #[(.int p0), (.int p1)] maxLocals)) t := fun t k => k108 t (by
    show Steps p.tables e below (s₁.setTop (mkF m 35 #[.val (.int p0), .val (.int p1), .val (.int i103), .unset, .unset, .unset, .unset, .unset, .unset, .unset, .unset, .unset] [(.int i107)])) _
    refine XS.istoreN X0.here hx rfl (hb hby at_35) rfl (l' := #[.val (.int p0), .val (.int p1), .val (.int i103), .val (.int i107), .unset, .unset, .unset, .unset, .unset, .unset, .unset, .unset]) rfl ?_
    show Steps p.tables e below (s₁.setTop (mkF m 36 #[.val (.int p0), .val (.int p1), .val (.int i103), .val (.int i107), .unset, .unset, .unset, .unset, .unset, .unset, .unset, .unset] [])) _
    refine XS.iloadN X0.here hx rfl (hb hby at_36) rfl ?_
    show Steps p.tables e below (s₁.setTop (mkF m 37 #[.val (.int p0), .val (.int p1), .val (.int i103), .val (.int i107), .unset, .unset, .unset, .unset, .unset, .unset, .unset, .unset] [(.int p1)])) _
    refine X0.ldcInt hx hown (mvT hZ (hw _ (List.mem_of_getElem? (i := 0) rfl))) (g := (mkF m 37 #[.val (.int p0), .val (.int p1), .val (.int i103), .val (.int i107), .unset, .unset, .unset, .unset, .unset, .unset, .unset, .unset] [(.int p1)])) rfl (hb hby at_37) _ ?_
    show Steps p.tables e below (s₁.setTop (mkF m 39 #[.val (.int p0), .val (.int p1), .val (.int i103), .val (.int i107), .unset, .unset, .unset, .unset, .unset, .unset, .unset, .unset] [(.int (65535 : Int32)), (.int p1)])) _
    refine XS.iand X0.here hx rfl (hb hby at_39) rfl ?_
    show Steps p.tables e below (s₁.setTop (mkF m 40 #[.val (.int p0), .val (.int p1), .val (.int i103), .val (.int i107), .unset, .unset, .unset, .unset, .unset, .unset, .unset, .unset] [(.int (p1 &&& (65535 : Int32)))])) _
    refine XS.i2l X0.here hx rfl (hb hby at_40) rfl ?_
    show Steps p.tables e below (s₁.setTop (mkF m 41 #[.val (.int p0), .val (.int p1), .val (.int i103), .val (.int i107), .unset, .unset, .unset, .unset, .unset, .unset, .unset, .unset] [(.long ((p1 &&& (65535 : Int32)).toInt64))])) _
    refine XS.lconst X0.here hx rfl (hb hby at_41) ?_
    show Steps p.tables e below (s₁.setTop (mkF m 42 #[.val (.int p0), .val (.int p1), .val (.int i103), .val (.int i107), .unset, .unset, .unset, .unset, .unset, .unset, .unset, .unset] [(.long (1 : Int64)), (.long ((p1 &&& (65535 : Int32)).toInt64))])) _
    refine XS.ladd X0.here hx rfl (hb hby at_42) rfl ?_
    show Steps p.tables e below (s₁.setTop (mkF m 43 #[.val (.int p0), .val (.int p1), .val (.int i103), .val (.int i107), .unset, .unset, .unset, .unset, .unset, .unset, .unset, .unset] [(.long (((p1 &&& (65535 : Int32)).toInt64) + (1 : Int64)))])) _
    refine castTop (g' := (mkF m 43 #[.val (.int p0), .val (.int p1), .val (.int i103), .val (.int i107), .unset, .unset, .unset, .unset, .unset, .unset, .unset, .unset] [(.long mm)])) (by rw [hmm]) ?_
    show Steps p.tables e below (s₁.setTop (mkF m 43 #[.val (.int p0), .val (.int p1), .val (.int i103), .val (.int i107), .unset, .unset, .unset, .unset, .unset, .unset, .unset, .unset] [(.long mm)])) _
    refine XS.lstore X0.here hx rfl (hb hby at_43) rfl (l' := #[.val (.int p0), .val (.int p1), .val (.int i103), .val (.int i107), .val (.long mm), .second, .unset, .unset, .unset, .unset, .unset, .unset]) rfl ?_
    exact k)
  have Bn : 1 ≤ i107.toInt ∧ i107.toInt ≤ 65536 := by rw [hi107]; exact own_n p0 i103
  have Bm : 1 ≤ mm.toInt ∧ mm.toInt ≤ 65536 := by rw [hmm]; exact own_m p1
  obtain ⟨vn, hvn⟩ : ∃ z : UInt64, FP.i2d i107 = z := ⟨_, rfl⟩
  have Dvn : Dy (i107.toInt) (0) vn := by rw [← hvn]; exact Dy.i2d _
  obtain ⟨va, hva⟩ : ∃ z : UInt64, FP.ddiv vn (4616189618054758400 : UInt64) = z := ⟨_, rfl⟩
  have Dva : Dy (i107.toInt) (2) va := by rw [← hva]; exact Dy.div Dvn own_4 (by decide) (by omega) (by decide) (by omega)
  have k110 : ∀ t, Steps p.tables e below (s₁.setTop (mkF m 55 #[.val (.int p0), .val (.int p1), .val (.int i103), .val (.int i107), .val (.long mm), .second, .val (.double va), .second, .unset, .unset, .unset, .unset] [(.int (4 : Int32)), (.int i107)])) t → Steps p.tables e below (s₁.setTop (entryFrame m #[(.int p0), (.int p1)] maxLocals)) t := fun t k => k109 t (by
    show Steps p.tables e below (s₁.setTop (mkF m 45 #[.val (.int p0), .val (.int p1), .val (.int i103), .val (.int i107), .val (.long mm), .second, .unset, .unset, .unset, .unset, .unset, .unset] [])) _
    refine XS.iloadN X0.here hx rfl (hb hby at_45) rfl ?_
    show Steps p.tables e below (s₁.setTop (mkF m 46 #[.val (.int p0), .val (.int p1), .val (.int i103), .val (.int i107), .val (.long mm), .second, .unset, .unset, .unset, .unset, .unset, .unset] [(.int i107)])) _
    refine XS.i2dS X0.here hx rfl (hb hby at_46) rfl hvn ?_
    show Steps p.tables e below (s₁.setTop (mkF m 47 #[.val (.int p0), .val (.int p1), .val (.int i103), .val (.int i107), .val (.long mm), .second, .unset, .unset, .unset, .unset, .unset, .unset] [(.double vn)])) _
    refine X0.ldc2DoubleC hx hown (mvT hZ (hw _ (List.mem_of_getElem? (i := 1) rfl))) (g := (mkF m 47 #[.val (.int p0), .val (.int p1), .val (.int i103), .val (.int i107), .val (.long mm), .second, .unset, .unset, .unset, .unset, .unset, .unset] [(.double vn)])) rfl (hb hby at_47) _ ?_
    show Steps p.tables e below (s₁.setTop (mkF m 50 #[.val (.int p0), .val (.int p1), .val (.int i103), .val (.int i107), .val (.long mm), .second, .unset, .unset, .unset, .unset, .unset, .unset] [(.double (4616189618054758400 : UInt64)), (.double vn)])) _
    refine XS.ddivS X0.here hx rfl (hb hby at_50) rfl (by rw [hva]; exact Dva.nn) hva ?_
    show Steps p.tables e below (s₁.setTop (mkF m 51 #[.val (.int p0), .val (.int p1), .val (.int i103), .val (.int i107), .val (.long mm), .second, .unset, .unset, .unset, .unset, .unset, .unset] [(.double va)])) _
    refine XS.dstore X0.here hx rfl (hb hby at_51) rfl (l' := #[.val (.int p0), .val (.int p1), .val (.int i103), .val (.int i107), .val (.long mm), .second, .val (.double va), .second, .unset, .unset, .unset, .unset]) rfl ?_
    show Steps p.tables e below (s₁.setTop (mkF m 53 #[.val (.int p0), .val (.int p1), .val (.int i103), .val (.int i107), .val (.long mm), .second, .val (.double va), .second, .unset, .unset, .unset, .unset] [])) _
    refine XS.iloadN X0.here hx rfl (hb hby at_53) rfl ?_
    show Steps p.tables e below (s₁.setTop (mkF m 54 #[.val (.int p0), .val (.int p1), .val (.int i103), .val (.int i107), .val (.long mm), .second, .val (.double va), .second, .unset, .unset, .unset, .unset] [(.int i107)])) _
    refine XS.iconst X0.here hx rfl (hb hby at_54) ?_
    exact k)
  by_cases c4 : (4 : Int32) < i107
  · have k111 : ∀ t, Steps p.tables e below (s₁.setTop (mkF m 58 #[.val (.int p0), .val (.int p1), .val (.int i103), .val (.int i107), .val (.long mm), .second, .val (.double va), .second, .unset, .unset, .unset, .unset] [])) t → Steps p.tables e below (s₁.setTop (entryFrame m #[(.int p0), (.int p1)] maxLocals)) t := fun t k => k110 t (by
      show Steps p.tables e below (s₁.setTop (mkF m 55 #[.val (.int p0), .val (.int p1), .val (.int i103), .val (.int i107), .val (.long mm), .second, .val (.double va), .second, .unset, .unset, .unset, .unset] [(.int (4 : Int32)), (.int i107)])) _
      refine XS.icmpNo X0.here hx rfl (hb hby at_55) rfl (tlt c4).2.2.2 ?_
      exact k)
    have Cn : 4 < i107.toInt := by have q := Int32.lt_iff_toInt_lt.mp c4; rw [show (4 : Int32).toInt = 4 by decide] at q; exact q
    obtain ⟨P1, P2, P3, P4⟩ := own_prod Bn Bm Cn
    obtain ⟨vq, hvq⟩ : ∃ z : UInt64, FP.l2d (((i107 - (4 : Int32)).toInt64) * mm) = z := ⟨_, rfl⟩
    have Dvq : Dy ((i107.toInt - 4) * mm.toInt) (0) vq := by rw [← hvq]; exact P1 ▸ Dy.l2d (by rw [P1]; omega)
    obtain ⟨vh, hvh⟩ : ∃ z : UInt64, FP.ddiv vq (4616189618054758400 : UInt64) = z := ⟨_, rfl⟩
    have Dvh : Dy ((i107.toInt - 4) * mm.toInt) (2) vh := by rw [← hvh]; exact Dy.div Dvq own_4 (by decide) (by omega) (by decide) (by omega)
    have k112 : ∀ t, Steps p.tables e below (s₁.setTop (mkF m 82 #[.val (.int p0), .val (.int p1), .val (.int i103), .val (.int i107), .val (.long mm), .second, .val (.double va), .second, .val (.double vh), .second, .unset, .unset] [])) t → Steps p.tables e below (s₁.setTop (entryFrame m #[(.int p0), (.int p1)] maxLocals)) t := fun t k => k111 t (by
      show Steps p.tables e below (s₁.setTop (mkF m 58 #[.val (.int p0), .val (.int p1), .val (.int i103), .val (.int i107), .val (.long mm), .second, .val (.double va), .second, .unset, .unset, .unset, .unset] [])) _
      refine XS.iloadN X0.here hx rfl (hb hby at_58) rfl ?_
      show Steps p.tables e below (s₁.setTop (mkF m 59 #[.val (.int p0), .val (.int p1), .val (.int i103), .val (.int i107), .val (.long mm), .second, .val (.double va), .second, .unset, .unset, .unset, .unset] [(.int i107)])) _
      refine XS.iconst X0.here hx rfl (hb hby at_59) ?_
      show Steps p.tables e below (s₁.setTop (mkF m 60 #[.val (.int p0), .val (.int p1), .val (.int i103), .val (.int i107), .val (.long mm), .second, .val (.double va), .second, .unset, .unset, .unset, .unset] [(.int (4 : Int32)), (.int i107)])) _
      refine XS.isub X0.here hx rfl (hb hby at_60) rfl ?_
      show Steps p.tables e below (s₁.setTop (mkF m 61 #[.val (.int p0), .val (.int p1), .val (.int i103), .val (.int i107), .val (.long mm), .second, .val (.double va), .second, .unset, .unset, .unset, .unset] [(.int (i107 - (4 : Int32)))])) _
      refine XS.i2l X0.here hx rfl (hb hby at_61) rfl ?_
      show Steps p.tables e below (s₁.setTop (mkF m 62 #[.val (.int p0), .val (.int p1), .val (.int i103), .val (.int i107), .val (.long mm), .second, .val (.double va), .second, .unset, .unset, .unset, .unset] [(.long ((i107 - (4 : Int32)).toInt64))])) _
      refine XS.lload X0.here hx rfl (hb hby at_62) rfl ?_
      show Steps p.tables e below (s₁.setTop (mkF m 64 #[.val (.int p0), .val (.int p1), .val (.int i103), .val (.int i107), .val (.long mm), .second, .val (.double va), .second, .unset, .unset, .unset, .unset] [(.long mm), (.long ((i107 - (4 : Int32)).toInt64))])) _
      refine XS.lmul X0.here hx rfl (hb hby at_64) rfl ?_
      show Steps p.tables e below (s₁.setTop (mkF m 65 #[.val (.int p0), .val (.int p1), .val (.int i103), .val (.int i107), .val (.long mm), .second, .val (.double va), .second, .unset, .unset, .unset, .unset] [(.long (((i107 - (4 : Int32)).toInt64) * mm))])) _
      refine XS.l2dS X0.here hx rfl (hb hby at_65) rfl hvq ?_
      show Steps p.tables e below (s₁.setTop (mkF m 66 #[.val (.int p0), .val (.int p1), .val (.int i103), .val (.int i107), .val (.long mm), .second, .val (.double va), .second, .unset, .unset, .unset, .unset] [(.double vq)])) _
      refine X0.ldc2DoubleC hx hown (mvT hZ (hw _ (List.mem_of_getElem? (i := 1) rfl))) (g := (mkF m 66 #[.val (.int p0), .val (.int p1), .val (.int i103), .val (.int i107), .val (.long mm), .second, .val (.double va), .second, .unset, .unset, .unset, .unset] [(.double vq)])) rfl (hb hby at_66) _ ?_
      show Steps p.tables e below (s₁.setTop (mkF m 69 #[.val (.int p0), .val (.int p1), .val (.int i103), .val (.int i107), .val (.long mm), .second, .val (.double va), .second, .unset, .unset, .unset, .unset] [(.double (4616189618054758400 : UInt64)), (.double vq)])) _
      refine XS.ddivS X0.here hx rfl (hb hby at_69) rfl (by rw [hvh]; exact Dvh.nn) hvh ?_
      show Steps p.tables e below (s₁.setTop (mkF m 70 #[.val (.int p0), .val (.int p1), .val (.int i103), .val (.int i107), .val (.long mm), .second, .val (.double va), .second, .unset, .unset, .unset, .unset] [(.double vh)])) _
      refine XS.goto X0.here hx rfl (pc0 := 70) (pc' := 80) rfl (hb hby at_70) (by decide) (by decide) ?_
      show Steps p.tables e below (s₁.setTop (mkF m 80 #[.val (.int p0), .val (.int p1), .val (.int i103), .val (.int i107), .val (.long mm), .second, .val (.double va), .second, .unset, .unset, .unset, .unset] [(.double vh)])) _
      refine XS.dstore X0.here hx rfl (hb hby at_80) rfl (l' := #[.val (.int p0), .val (.int p1), .val (.int i103), .val (.int i107), .val (.long mm), .second, .val (.double va), .second, .val (.double vh), .second, .unset, .unset]) rfl ?_
      exact k)
    obtain ⟨T113, h113, X113, e113, E113, A113, D113, -, st113⟩ := newO X0 hx hZ hown (hw _ (List.mem_of_getElem? (i := 2) rfl)) (hw _ (List.mem_of_getElem? (i := 3) rfl)) (hw _ (List.mem_of_getElem? (i := 4) rfl)) e0 (g := (mkF m 82 #[.val (.int p0), .val (.int p1), .val (.int i103), .val (.int i107), .val (.long mm), .second, .val (.double va), .second, .val (.double vh), .second, .unset, .unset] [])) rfl (hb hby at_82) (by decide) (by decide)
    obtain ⟨b113, g113⟩ : ∃ z, z = h0.size := ⟨_, rfl⟩
    rw [← g113] at A113 D113 st113
    have g114 : n0 ≤ b113 := Nat.le_trans Z0 (Nat.le_of_eq g113.symm)
    have Z115 : n0 ≤ h113.size := Nat.le_trans Z0 E113.1
    have hk116 : 0 ≤ h113.size := Nat.le_trans (Nat.zero_le _) E113.1
    have F117 : Fld Z h113 b113 "com/example/surety/surety/core/ParetoUpTimes" "h" "D" (.double (0 : UInt64)) := D113 (Or.inr (hw _ (List.mem_of_getElem? (i := 31) rfl))) (ty := .double) (by decide)
    have F118 : Fld Z h113 b113 "com/example/surety/surety/core/ParetoUpTimes" "alpha" "D" (.double (0 : UInt64)) := D113 (Or.inr (hw _ (List.mem_of_getElem? (i := 33) rfl))) (ty := .double) (by decide)
    have k119 : ∀ t, Steps p.tables e below (T113.setTop (mkF m 85 #[.val (.int p0), .val (.int p1), .val (.int i103), .val (.int i107), .val (.long mm), .second, .val (.double va), .second, .val (.double vh), .second, .unset, .unset] [(.ref b113)])) t → Steps p.tables e below (s₁.setTop (entryFrame m #[(.int p0), (.int p1)] maxLocals)) t := fun t k => k112 t (st113 t k)
    have k120 : ∀ t, Steps p.tables e below (T113.setTop (mkF m 90 #[.val (.int p0), .val (.int p1), .val (.int i103), .val (.int i107), .val (.long mm), .second, .val (.double va), .second, .val (.double vh), .second, .unset, .unset] [(.double va), (.double vh), (.ref b113), (.ref b113)])) t → Steps p.tables e below (s₁.setTop (entryFrame m #[(.int p0), (.int p1)] maxLocals)) t := fun t k => k119 t (by
      show Steps p.tables e below (T113.setTop (mkF m 85 #[.val (.int p0), .val (.int p1), .val (.int i103), .val (.int i107), .val (.long mm), .second, .val (.double va), .second, .val (.double vh), .second, .unset, .unset] [(.ref b113)])) _
      refine XS.dup X113.here hx rfl (hb hby at_85) rfl rfl ?_
      show Steps p.tables e below (T113.setTop (mkF m 86 #[.val (.int p0), .val (.int p1), .val (.int i103), .val (.int i107), .val (.long mm), .second, .val (.double va), .second, .val (.double vh), .second, .unset, .unset] [(.ref b113), (.ref b113)])) _
      refine XS.dload X113.here hx rfl (hb hby at_86) rfl ?_
      show Steps p.tables e below (T113.setTop (mkF m 88 #[.val (.int p0), .val (.int p1), .val (.int i103), .val (.int i107), .val (.long mm), .second, .val (.double va), .second, .val (.double vh), .second, .unset, .unset] [(.double vh), (.ref b113), (.ref b113)])) _
      refine XS.dload X113.here hx rfl (hb hby at_88) rfl ?_
      exact k)
    obtain ⟨_, _, ⟨T121, L121, k121, n121⟩, -, Xa121, hSa121, hga121, ⟨Lc121, hQ121, l121, y121, z121⟩, st121⟩ := X113.specialBackS hx (y := (⟨"com/example/surety/surety/core/ParetoUpTimes", "<init>", "(DD)V"⟩ : MethodName)) rfl hown (mvT hZ (hw _ (List.mem_of_getElem? (i := 5) rfl))) (mvT hZ (hw _ (List.mem_of_getElem? (i := 6) rfl))) (mvT hZ (hw _ (List.mem_of_getElem? (i := 7) rfl))) (by decide) (backOfS (W := 1) (rm1 l Z a0 hw [] b113 vh va h113 n0 Z115 F117 F118 A113 g114 (by rw [Dvh.cmp_gt (dy0 2) P3]; decide) (Dvh.lt_inf .g) (by rw [Dva.cmp_gt (dy0 2) (by omega)]; decide) (Dva.lt_inf .g)) hZ (hw _ (List.mem_of_getElem? (i := 7) rfl)) (hw _ (List.mem_of_getElem? (i := 4) rfl)) (by decide) (by decide)) (g := (mkF m 90 #[.val (.int p0), .val (.int p1), .val (.int i103), .val (.int i107), .val (.long mm), .second, .val (.double va), .second, .val (.double vh), .second, .unset, .unset] [(.double va), (.double vh), (.ref b113), (.ref b113)])) rfl (by rw [hml]; rfl) (Steps.refl _) (a := b113) (argsL := [(.double vh), (.double va)]) (rest := [(.ref b113)]) (lenOf pd__28DD_29V rfl) rfl (by show 2 * 0 + _ ≤ _; exact Nat.le_of_eq rfl) (hb hby at_90) (fun _ _ => ⟨rfl, e113, (by decide : 1 + 4 ≤ _), (by decide : 2 + 32 ≤ _)⟩)
    dsimp only [Pt.U, Pt.locs, Pt.cells, Pt.slots] at Xa121 hSa121 hga121 l121 y121 z121 st121 hQ121
    subst l121 y121 z121
    obtain ⟨X121, hS121, hZ121, hown121⟩ := rebS (s := s) (vm0 := s.vm) hS0 (n1 := T113.heap.size) (by rw [e113]; exact hk116) Xa121 hSa121 hga121 hZ hown
    obtain ⟨h121, e121⟩ : ∃ h', T121.heap = h' := ⟨_, rfl⟩
    rw [e121] at hQ121
    obtain ⟨rfl, N121q, K121, G121a, G121b, G121c⟩ := hQ121
    have hk121 : T121.heap.size ≤ h121.size := Nat.le_of_eq (congrArg Array.size e121)
    have N122 := Fr.app N0 N121q
    have k123 : ∀ t, Steps p.tables e below (T121.setTop (mkF m 93 #[.val (.int p0), .val (.int p1), .val (.int i103), .val (.int i107), .val (.long mm), .second, .val (.double va), .second, .val (.double vh), .second, .unset, .unset] [(.ref b113)])) t → Steps p.tables e below (s₁.setTop (entryFrame m #[(.int p0), (.int p1)] maxLocals)) t := fun t k => k120 t (st121.trans k)
    have F124 := A113.keep K121
    have Z125 : n0 ≤ h121.size := Nat.le_trans Z115 K121.1
    obtain ⟨O1, O2, O3⟩ := own_mean Bn Bm Cn Dva Dvh
    obtain ⟨cq126, kq126, q126a, q126b, q126c⟩ := isOf hZ121 e121 G121a
    obtain ⟨_, _, ⟨T126, L126, k126, n126⟩, -, X126, ⟨Lc126, hQ126, l126, y126, z126⟩, st126⟩ := X121.virtualBack hx (y := (⟨"com/example/surety/surety/core/ParetoUpTimes", "mean", "()D"⟩ : MethodName)) (z := (⟨"com/example/surety/surety/core/ParetoUpTimes", "mean", "()D"⟩ : MethodName)) hown121 (mvT hZ121 (hw _ (List.mem_of_getElem? (i := 34) rfl))) (mvT hZ121 (hw _ (List.mem_of_getElem? (i := 35) rfl))) (notFace_of_selects (args := #[]) (mvT hZ121 (hw _ (List.mem_of_getElem? (i := 37) rfl)))) (mvT hZ121 (hw _ (List.mem_of_getElem? (i := 37) rfl))) (mvT hZ121 (hw _ (List.mem_of_getElem? (i := 36) rfl))) (by decide) (backOf (W := 0) (mean1 l Z a0 hw [] b113 vh va h121 n0 Z125 G121b G121c (by rw [Dva.cmp_gt (dy1 2) (by omega)]; decide) O1.nn O2.nn O3.nn) hZ121 (hw _ (List.mem_of_getElem? (i := 38) rfl)) (hw _ (List.mem_of_getElem? (i := 4) rfl)) (by decide) (by decide)) q126a q126c (g := (mkF m 93 #[.val (.int p0), .val (.int p1), .val (.int i103), .val (.int i107), .val (.long mm), .second, .val (.double va), .second, .val (.double vh), .second, .unset, .unset] [(.ref b113)])) rfl (by rw [hml]; rfl) (Steps.refl _) (argsL := []) (rest := []) (lenOf pd__28_29D rfl) rfl (by show 2 * 0 + _ ≤ _; exact Nat.le_of_eq rfl) (hb hby at_93) (fun _ _ => ⟨rfl, e121, (by decide : 5 + 0 ≤ _), (by decide : 34 + 0 ≤ _)⟩)
    dsimp only [Pt.U, Pt.locs, Pt.cells, Pt.slots] at X126 l126 y126 z126 st126 hQ126
    subst l126 y126 z126
    obtain ⟨rfl, N126q, e126⟩ := hQ126
    have N127 := Fr.app N122 N126q
    have k128 : ∀ t, Steps p.tables e below (T126.setTop (mkF m 96 #[.val (.int p0), .val (.int p1), .val (.int i103), .val (.int i107), .val (.long mm), .second, .val (.double va), .second, .val (.double vh), .second, .unset, .unset] [(.double (FP.ddiv (FP.dmul va vh) (FP.dsub va (4607182418800017408 : UInt64))))])) t → Steps p.tables e below (s₁.setTop (entryFrame m #[(.int p0), (.int p1)] maxLocals)) t := fun t k => k123 t (st126.trans k)
    obtain ⟨got, hgot⟩ : ∃ z : UInt64, z = (FP.ddiv (FP.dmul va vh) (FP.dsub va (4607182418800017408 : UInt64))) := ⟨_, rfl⟩
    obtain ⟨vw, hvw⟩ : ∃ z : UInt64, FP.l2d ((i107.toInt64) * mm) = z := ⟨_, rfl⟩
    have Dvw : Dy (i107.toInt * mm.toInt) (0) vw := by rw [← hvw]; exact P2 ▸ Dy.l2d (by rw [P2]; omega)
    obtain ⟨want, hwant⟩ : ∃ z : UInt64, FP.ddiv vw (4616189618054758400 : UInt64) = z := ⟨_, rfl⟩
    have Dwant : Dy (i107.toInt * mm.toInt) (2) want := by rw [← hwant]; exact Dy.div Dvw own_4 (by decide) (by omega) (by decide) (by omega)
    have hfin : cmpValue (FP.dcmp got want) .l = (0 : Int32) := by rw [hgot]; exact Dy.cmp_eq O3 Dwant rfl .l
    have k129 : ∀ t, Steps p.tables e below (T126.setTop (mkF m 139 #[.val (.int p0), .val (.int p1), .val (.int i103), .val (.int i107), .val (.long mm), .second, .val (.double va), .second, .val (.double vh), .second, .val (.double got), .second] [(.int (1 : Int32))])) t → Steps p.tables e below (s₁.setTop (entryFrame m #[(.int p0), (.int p1)] maxLocals)) t := fun t k => k128 t (by
      show Steps p.tables e below (T126.setTop (mkF m 96 #[.val (.int p0), .val (.int p1), .val (.int i103), .val (.int i107), .val (.long mm), .second, .val (.double va), .second, .val (.double vh), .second, .unset, .unset] [(.double (FP.ddiv (FP.dmul va vh) (FP.dsub va (4607182418800017408 : UInt64))))])) _
      refine castTop (g' := (mkF m 96 #[.val (.int p0), .val (.int p1), .val (.int i103), .val (.int i107), .val (.long mm), .second, .val (.double va), .second, .val (.double vh), .second, .unset, .unset] [(.double got)])) (by rw [hgot]) ?_
      show Steps p.tables e below (T126.setTop (mkF m 96 #[.val (.int p0), .val (.int p1), .val (.int i103), .val (.int i107), .val (.long mm), .second, .val (.double va), .second, .val (.double vh), .second, .unset, .unset] [(.double got)])) _
      refine XS.dstore X126.here hx rfl (hb hby at_96) rfl (l' := #[.val (.int p0), .val (.int p1), .val (.int i103), .val (.int i107), .val (.long mm), .second, .val (.double va), .second, .val (.double vh), .second, .val (.double got), .second]) rfl ?_
      show Steps p.tables e below (T126.setTop (mkF m 98 #[.val (.int p0), .val (.int p1), .val (.int i103), .val (.int i107), .val (.long mm), .second, .val (.double va), .second, .val (.double vh), .second, .val (.double got), .second] [])) _
      refine XS.iloadN X126.here hx rfl (hb hby at_98) rfl ?_
      show Steps p.tables e below (T126.setTop (mkF m 99 #[.val (.int p0), .val (.int p1), .val (.int i103), .val (.int i107), .val (.long mm), .second, .val (.double va), .second, .val (.double vh), .second, .val (.double got), .second] [(.int i107)])) _
      refine XS.iconst X126.here hx rfl (hb hby at_99) ?_
      show Steps p.tables e below (T126.setTop (mkF m 100 #[.val (.int p0), .val (.int p1), .val (.int i103), .val (.int i107), .val (.long mm), .second, .val (.double va), .second, .val (.double vh), .second, .val (.double got), .second] [(.int (4 : Int32)), (.int i107)])) _
      refine XS.icmpYes X126.here hx rfl (pc0 := 100) (pc' := 118) rfl (hb hby at_100) rfl (tlt c4).2.2.1 (by decide) (by decide) ?_
      show Steps p.tables e below (T126.setTop (mkF m 118 #[.val (.int p0), .val (.int p1), .val (.int i103), .val (.int i107), .val (.long mm), .second, .val (.double va), .second, .val (.double vh), .second, .val (.double got), .second] [])) _
      refine XS.dload X126.here hx rfl (hb hby at_118) rfl ?_
      show Steps p.tables e below (T126.setTop (mkF m 120 #[.val (.int p0), .val (.int p1), .val (.int i103), .val (.int i107), .val (.long mm), .second, .val (.double va), .second, .val (.double vh), .second, .val (.double got), .second] [(.double got)])) _
      refine XS.iloadN X126.here hx rfl (hb hby at_120) rfl ?_
      show Steps p.tables e below (T126.setTop (mkF m 121 #[.val (.int p0), .val (.int p1), .val (.int i103), .val (.int i107), .val (.long mm), .second, .val (.double va), .second, .val (.double vh), .second, .val (.double got), .second] [(.int i107), (.double got)])) _
      refine XS.i2l X126.here hx rfl (hb hby at_121) rfl ?_
      show Steps p.tables e below (T126.setTop (mkF m 122 #[.val (.int p0), .val (.int p1), .val (.int i103), .val (.int i107), .val (.long mm), .second, .val (.double va), .second, .val (.double vh), .second, .val (.double got), .second] [(.long (i107.toInt64)), (.double got)])) _
      refine XS.lload X126.here hx rfl (hb hby at_122) rfl ?_
      show Steps p.tables e below (T126.setTop (mkF m 124 #[.val (.int p0), .val (.int p1), .val (.int i103), .val (.int i107), .val (.long mm), .second, .val (.double va), .second, .val (.double vh), .second, .val (.double got), .second] [(.long mm), (.long (i107.toInt64)), (.double got)])) _
      refine XS.lmul X126.here hx rfl (hb hby at_124) rfl ?_
      show Steps p.tables e below (T126.setTop (mkF m 125 #[.val (.int p0), .val (.int p1), .val (.int i103), .val (.int i107), .val (.long mm), .second, .val (.double va), .second, .val (.double vh), .second, .val (.double got), .second] [(.long ((i107.toInt64) * mm)), (.double got)])) _
      refine XS.l2dS X126.here hx rfl (hb hby at_125) rfl hvw ?_
      show Steps p.tables e below (T126.setTop (mkF m 126 #[.val (.int p0), .val (.int p1), .val (.int i103), .val (.int i107), .val (.long mm), .second, .val (.double va), .second, .val (.double vh), .second, .val (.double got), .second] [(.double vw), (.double got)])) _
      refine X126.ldc2DoubleC hx hown121 (mvT hZ121 (hw _ (List.mem_of_getElem? (i := 1) rfl))) (g := (mkF m 126 #[.val (.int p0), .val (.int p1), .val (.int i103), .val (.int i107), .val (.long mm), .second, .val (.double va), .second, .val (.double vh), .second, .val (.double got), .second] [(.double vw), (.double got)])) rfl (hb hby at_126) _ ?_
      show Steps p.tables e below (T126.setTop (mkF m 129 #[.val (.int p0), .val (.int p1), .val (.int i103), .val (.int i107), .val (.long mm), .second, .val (.double va), .second, .val (.double vh), .second, .val (.double got), .second] [(.double (4616189618054758400 : UInt64)), (.double vw), (.double got)])) _
      refine XS.ddivS X126.here hx rfl (hb hby at_129) rfl (by rw [hwant]; exact Dwant.nn) hwant ?_
      show Steps p.tables e below (T126.setTop (mkF m 130 #[.val (.int p0), .val (.int p1), .val (.int i103), .val (.int i107), .val (.long mm), .second, .val (.double va), .second, .val (.double vh), .second, .val (.double got), .second] [(.double want), (.double got)])) _
      refine XS.dcmpS X126.here hx rfl (hb hby at_130) rfl rfl ?_
      show Steps p.tables e below (T126.setTop (mkF m 131 #[.val (.int p0), .val (.int p1), .val (.int i103), .val (.int i107), .val (.long mm), .second, .val (.double va), .second, .val (.double vh), .second, .val (.double got), .second] [(.int (cmpValue (FP.dcmp got want) .l))])) _
      refine XS.ifNo X126.here hx rfl (hb hby at_131) rfl ((if0 _ _).trans (teq hfin).2) ?_
      show Steps p.tables e below (T126.setTop (mkF m 134 #[.val (.int p0), .val (.int p1), .val (.int i103), .val (.int i107), .val (.long mm), .second, .val (.double va), .second, .val (.double vh), .second, .val (.double got), .second] [])) _
      refine XS.iconst X126.here hx rfl (hb hby at_134) ?_
      show Steps p.tables e below (T126.setTop (mkF m 135 #[.val (.int p0), .val (.int p1), .val (.int i103), .val (.int i107), .val (.long mm), .second, .val (.double va), .second, .val (.double vh), .second, .val (.double got), .second] [(.int (1 : Int32))])) _
      refine XS.goto X126.here hx rfl (pc0 := 135) (pc' := 139) rfl (hb hby at_135) (by decide) (by decide) ?_
      exact k)
    obtain ⟨fs, hr, hrun, hended, hRE⟩ := Stand.leaveW (s := s) (vm₁ := T121.vm) X126 hS121 (by rw [e126]; exact hk121) (v := some (.int (1 : Int32))) (fun h => by rw [Bd.returns] at h; cases h)
    refine ⟨_, _, k129 _ (retOut X126 hx (t := .boolean) Bd.returns rfl (Or.inl ⟨rfl, Or.inr (Or.inl rfl), _, rfl⟩) (hb hby at_139) hr), hrun, hended, _, _, rfl, ?_, hRE.1, hRE.2.1, hRE.2.2.1, hRE.2.2.2.mono (by decide) (by decide)⟩
    show Q_rm0 Z p0 p1 h0 n0 _ T126.heap _
    rw [e126]
    exact ⟨rfl, N127⟩
  · have k130 : ∀ t, Steps p.tables e below (s₁.setTop (mkF m 73 #[.val (.int p0), .val (.int p1), .val (.int i103), .val (.int i107), .val (.long mm), .second, .val (.double va), .second, .unset, .unset, .unset, .unset] [])) t → Steps p.tables e below (s₁.setTop (entryFrame m #[(.int p0), (.int p1)] maxLocals)) t := fun t k => k110 t (by
      show Steps p.tables e below (s₁.setTop (mkF m 55 #[.val (.int p0), .val (.int p1), .val (.int i103), .val (.int i107), .val (.long mm), .second, .val (.double va), .second, .unset, .unset, .unset, .unset] [(.int (4 : Int32)), (.int i107)])) _
      refine XS.icmpYes X0.here hx rfl (pc0 := 55) (pc' := 73) rfl (hb hby at_55) rfl (flt c4).2.2.2 (by decide) (by decide) ?_
      exact k)
    have Cn : ¬ 4 < i107.toInt := fun q => c4 (Int32.lt_iff_toInt_lt.mpr (by rw [show (4 : Int32).toInt = 4 by decide]; exact q))
    obtain ⟨vq, hvq⟩ : ∃ z : UInt64, FP.l2d mm = z := ⟨_, rfl⟩
    have Dvq : Dy (mm.toInt) (0) vq := by rw [← hvq]; exact Dy.l2d (by omega)
    obtain ⟨vh, hvh⟩ : ∃ z : UInt64, FP.ddiv vq (4616189618054758400 : UInt64) = z := ⟨_, rfl⟩
    have Dvh : Dy (mm.toInt) (2) vh := by rw [← hvh]; exact Dy.div Dvq own_4 (by decide) (by omega) (by decide) (by omega)
    have k131 : ∀ t, Steps p.tables e below (s₁.setTop (mkF m 82 #[.val (.int p0), .val (.int p1), .val (.int i103), .val (.int i107), .val (.long mm), .second, .val (.double va), .second, .val (.double vh), .second, .unset, .unset] [])) t → Steps p.tables e below (s₁.setTop (entryFrame m #[(.int p0), (.int p1)] maxLocals)) t := fun t k => k130 t (by
      show Steps p.tables e below (s₁.setTop (mkF m 73 #[.val (.int p0), .val (.int p1), .val (.int i103), .val (.int i107), .val (.long mm), .second, .val (.double va), .second, .unset, .unset, .unset, .unset] [])) _
      refine XS.lload X0.here hx rfl (hb hby at_73) rfl ?_
      show Steps p.tables e below (s₁.setTop (mkF m 75 #[.val (.int p0), .val (.int p1), .val (.int i103), .val (.int i107), .val (.long mm), .second, .val (.double va), .second, .unset, .unset, .unset, .unset] [(.long mm)])) _
      refine XS.l2dS X0.here hx rfl (hb hby at_75) rfl hvq ?_
      show Steps p.tables e below (s₁.setTop (mkF m 76 #[.val (.int p0), .val (.int p1), .val (.int i103), .val (.int i107), .val (.long mm), .second, .val (.double va), .second, .unset, .unset, .unset, .unset] [(.double vq)])) _
      refine X0.ldc2DoubleC hx hown (mvT hZ (hw _ (List.mem_of_getElem? (i := 1) rfl))) (g := (mkF m 76 #[.val (.int p0), .val (.int p1), .val (.int i103), .val (.int i107), .val (.long mm), .second, .val (.double va), .second, .unset, .unset, .unset, .unset] [(.double vq)])) rfl (hb hby at_76) _ ?_
      show Steps p.tables e below (s₁.setTop (mkF m 79 #[.val (.int p0), .val (.int p1), .val (.int i103), .val (.int i107), .val (.long mm), .second, .val (.double va), .second, .unset, .unset, .unset, .unset] [(.double (4616189618054758400 : UInt64)), (.double vq)])) _
      refine XS.ddivS X0.here hx rfl (hb hby at_79) rfl (by rw [hvh]; exact Dvh.nn) hvh ?_
      show Steps p.tables e below (s₁.setTop (mkF m 80 #[.val (.int p0), .val (.int p1), .val (.int i103), .val (.int i107), .val (.long mm), .second, .val (.double va), .second, .unset, .unset, .unset, .unset] [(.double vh)])) _
      refine XS.dstore X0.here hx rfl (hb hby at_80) rfl (l' := #[.val (.int p0), .val (.int p1), .val (.int i103), .val (.int i107), .val (.long mm), .second, .val (.double va), .second, .val (.double vh), .second, .unset, .unset]) rfl ?_
      exact k)
    obtain ⟨T132, h132, X132, e132, E132, A132, D132, -, st132⟩ := newO X0 hx hZ hown (hw _ (List.mem_of_getElem? (i := 2) rfl)) (hw _ (List.mem_of_getElem? (i := 3) rfl)) (hw _ (List.mem_of_getElem? (i := 4) rfl)) e0 (g := (mkF m 82 #[.val (.int p0), .val (.int p1), .val (.int i103), .val (.int i107), .val (.long mm), .second, .val (.double va), .second, .val (.double vh), .second, .unset, .unset] [])) rfl (hb hby at_82) (by decide) (by decide)
    obtain ⟨b132, g132⟩ : ∃ z, z = h0.size := ⟨_, rfl⟩
    rw [← g132] at A132 D132 st132
    have g133 : n0 ≤ b132 := Nat.le_trans Z0 (Nat.le_of_eq g132.symm)
    have Z134 : n0 ≤ h132.size := Nat.le_trans Z0 E132.1
    have hk135 : 0 ≤ h132.size := Nat.le_trans (Nat.zero_le _) E132.1
    have F136 : Fld Z h132 b132 "com/example/surety/surety/core/ParetoUpTimes" "h" "D" (.double (0 : UInt64)) := D132 (Or.inr (hw _ (List.mem_of_getElem? (i := 31) rfl))) (ty := .double) (by decide)
    have F137 : Fld Z h132 b132 "com/example/surety/surety/core/ParetoUpTimes" "alpha" "D" (.double (0 : UInt64)) := D132 (Or.inr (hw _ (List.mem_of_getElem? (i := 33) rfl))) (ty := .double) (by decide)
    have k138 : ∀ t, Steps p.tables e below (T132.setTop (mkF m 85 #[.val (.int p0), .val (.int p1), .val (.int i103), .val (.int i107), .val (.long mm), .second, .val (.double va), .second, .val (.double vh), .second, .unset, .unset] [(.ref b132)])) t → Steps p.tables e below (s₁.setTop (entryFrame m #[(.int p0), (.int p1)] maxLocals)) t := fun t k => k131 t (st132 t k)
    have k139 : ∀ t, Steps p.tables e below (T132.setTop (mkF m 90 #[.val (.int p0), .val (.int p1), .val (.int i103), .val (.int i107), .val (.long mm), .second, .val (.double va), .second, .val (.double vh), .second, .unset, .unset] [(.double va), (.double vh), (.ref b132), (.ref b132)])) t → Steps p.tables e below (s₁.setTop (entryFrame m #[(.int p0), (.int p1)] maxLocals)) t := fun t k => k138 t (by
      show Steps p.tables e below (T132.setTop (mkF m 85 #[.val (.int p0), .val (.int p1), .val (.int i103), .val (.int i107), .val (.long mm), .second, .val (.double va), .second, .val (.double vh), .second, .unset, .unset] [(.ref b132)])) _
      refine XS.dup X132.here hx rfl (hb hby at_85) rfl rfl ?_
      show Steps p.tables e below (T132.setTop (mkF m 86 #[.val (.int p0), .val (.int p1), .val (.int i103), .val (.int i107), .val (.long mm), .second, .val (.double va), .second, .val (.double vh), .second, .unset, .unset] [(.ref b132), (.ref b132)])) _
      refine XS.dload X132.here hx rfl (hb hby at_86) rfl ?_
      show Steps p.tables e below (T132.setTop (mkF m 88 #[.val (.int p0), .val (.int p1), .val (.int i103), .val (.int i107), .val (.long mm), .second, .val (.double va), .second, .val (.double vh), .second, .unset, .unset] [(.double vh), (.ref b132), (.ref b132)])) _
      refine XS.dload X132.here hx rfl (hb hby at_88) rfl ?_
      exact k)
    obtain ⟨_, _, ⟨T140, L140, k140, n140⟩, -, Xa140, hSa140, hga140, ⟨Lc140, hQ140, l140, y140, z140⟩, st140⟩ := X132.specialBackS hx (y := (⟨"com/example/surety/surety/core/ParetoUpTimes", "<init>", "(DD)V"⟩ : MethodName)) rfl hown (mvT hZ (hw _ (List.mem_of_getElem? (i := 5) rfl))) (mvT hZ (hw _ (List.mem_of_getElem? (i := 6) rfl))) (mvT hZ (hw _ (List.mem_of_getElem? (i := 7) rfl))) (by decide) (backOfS (W := 1) (rm1 l Z a0 hw [] b132 vh va h132 n0 Z134 F136 F137 A132 g133 (by rw [Dvh.cmp_gt (dy0 2) (by omega)]; decide) (Dvh.lt_inf .g) (by rw [Dva.cmp_gt (dy0 2) (by omega)]; decide) (Dva.lt_inf .g)) hZ (hw _ (List.mem_of_getElem? (i := 7) rfl)) (hw _ (List.mem_of_getElem? (i := 4) rfl)) (by decide) (by decide)) (g := (mkF m 90 #[.val (.int p0), .val (.int p1), .val (.int i103), .val (.int i107), .val (.long mm), .second, .val (.double va), .second, .val (.double vh), .second, .unset, .unset] [(.double va), (.double vh), (.ref b132), (.ref b132)])) rfl (by rw [hml]; rfl) (Steps.refl _) (a := b132) (argsL := [(.double vh), (.double va)]) (rest := [(.ref b132)]) (lenOf pd__28DD_29V rfl) rfl (by show 2 * 0 + _ ≤ _; exact Nat.le_of_eq rfl) (hb hby at_90) (fun _ _ => ⟨rfl, e132, (by decide : 1 + 4 ≤ _), (by decide : 2 + 32 ≤ _)⟩)
    dsimp only [Pt.U, Pt.locs, Pt.cells, Pt.slots] at Xa140 hSa140 hga140 l140 y140 z140 st140 hQ140
    subst l140 y140 z140
    obtain ⟨X140, hS140, hZ140, hown140⟩ := rebS (s := s) (vm0 := s.vm) hS0 (n1 := T132.heap.size) (by rw [e132]; exact hk135) Xa140 hSa140 hga140 hZ hown
    obtain ⟨h140, e140⟩ : ∃ h', T140.heap = h' := ⟨_, rfl⟩
    rw [e140] at hQ140
    obtain ⟨rfl, N140q, K140, G140a, G140b, G140c⟩ := hQ140
    have hk140 : T140.heap.size ≤ h140.size := Nat.le_of_eq (congrArg Array.size e140)
    have N141 := Fr.app N0 N140q
    have k142 : ∀ t, Steps p.tables e below (T140.setTop (mkF m 93 #[.val (.int p0), .val (.int p1), .val (.int i103), .val (.int i107), .val (.long mm), .second, .val (.double va), .second, .val (.double vh), .second, .unset, .unset] [(.ref b132)])) t → Steps p.tables e below (s₁.setTop (entryFrame m #[(.int p0), (.int p1)] maxLocals)) t := fun t k => k139 t (st140.trans k)
    have F143 := A132.keep K140
    have Z144 : n0 ≤ h140.size := Nat.le_trans Z134 K140.1
    obtain ⟨cq145, kq145, q145a, q145b, q145c⟩ := isOf hZ140 e140 G140a
    obtain ⟨_, _, ⟨T145, L145, k145, n145⟩, -, X145, ⟨Lc145, hQ145, l145, y145, z145⟩, st145⟩ := X140.virtualBack hx (y := (⟨"com/example/surety/surety/core/ParetoUpTimes", "mean", "()D"⟩ : MethodName)) (z := (⟨"com/example/surety/surety/core/ParetoUpTimes", "mean", "()D"⟩ : MethodName)) hown140 (mvT hZ140 (hw _ (List.mem_of_getElem? (i := 34) rfl))) (mvT hZ140 (hw _ (List.mem_of_getElem? (i := 35) rfl))) (notFace_of_selects (args := #[]) (mvT hZ140 (hw _ (List.mem_of_getElem? (i := 37) rfl)))) (mvT hZ140 (hw _ (List.mem_of_getElem? (i := 37) rfl))) (mvT hZ140 (hw _ (List.mem_of_getElem? (i := 36) rfl))) (by decide) (backOf (W := 0) (mean0 l Z a0 hw [] b132 vh va h140 n0 Z144 G140b G140c (Dva.le (dy1 2) (by show _ ≤ (4 : Int); omega) .g)) hZ140 (hw _ (List.mem_of_getElem? (i := 38) rfl)) (hw _ (List.mem_of_getElem? (i := 4) rfl)) (by decide) (by decide)) q145a q145c (g := (mkF m 93 #[.val (.int p0), .val (.int p1), .val (.int i103), .val (.int i107), .val (.long mm), .second, .val (.double va), .second, .val (.double vh), .second, .unset, .unset] [(.ref b132)])) rfl (by rw [hml]; rfl) (Steps.refl _) (argsL := []) (rest := []) (lenOf pd__28_29D rfl) rfl (by show 2 * 0 + _ ≤ _; exact Nat.le_of_eq rfl) (hb hby at_93) (fun _ _ => ⟨rfl, e140, (by decide : 5 + 0 ≤ _), (by decide : 34 + 0 ≤ _)⟩)
    dsimp only [Pt.U, Pt.locs, Pt.cells, Pt.slots] at X145 l145 y145 z145 st145 hQ145
    subst l145 y145 z145
    obtain ⟨rfl, N145q, e145⟩ := hQ145
    have N146 := Fr.app N141 N145q
    have k147 : ∀ t, Steps p.tables e below (T145.setTop (mkF m 96 #[.val (.int p0), .val (.int p1), .val (.int i103), .val (.int i107), .val (.long mm), .second, .val (.double va), .second, .val (.double vh), .second, .unset, .unset] [(.double (9218868437227405312 : UInt64))])) t → Steps p.tables e below (s₁.setTop (entryFrame m #[(.int p0), (.int p1)] maxLocals)) t := fun t k => k142 t (st145.trans k)
    have k148 : ∀ t, Steps p.tables e below (T145.setTop (mkF m 117 #[.val (.int p0), .val (.int p1), .val (.int i103), .val (.int i107), .val (.long mm), .second, .val (.double va), .second, .val (.double vh), .second, .val (.double (9218868437227405312 : UInt64)), .second] [(.int (1 : Int32))])) t → Steps p.tables e below (s₁.setTop (entryFrame m #[(.int p0), (.int p1)] maxLocals)) t := fun t k => k147 t (by
      show Steps p.tables e below (T145.setTop (mkF m 96 #[.val (.int p0), .val (.int p1), .val (.int i103), .val (.int i107), .val (.long mm), .second, .val (.double va), .second, .val (.double vh), .second, .unset, .unset] [(.double (9218868437227405312 : UInt64))])) _
      refine XS.dstore X145.here hx rfl (hb hby at_96) rfl (l' := #[.val (.int p0), .val (.int p1), .val (.int i103), .val (.int i107), .val (.long mm), .second, .val (.double va), .second, .val (.double vh), .second, .val (.double (9218868437227405312 : UInt64)), .second]) rfl ?_
      show Steps p.tables e below (T145.setTop (mkF m 98 #[.val (.int p0), .val (.int p1), .val (.int i103), .val (.int i107), .val (.long mm), .second, .val (.double va), .second, .val (.double vh), .second, .val (.double (9218868437227405312 : UInt64)), .second] [])) _
      refine XS.iloadN X145.here hx rfl (hb hby at_98) rfl ?_
      show Steps p.tables e below (T145.setTop (mkF m 99 #[.val (.int p0), .val (.int p1), .val (.int i103), .val (.int i107), .val (.long mm), .second, .val (.double va), .second, .val (.double vh), .second, .val (.double (9218868437227405312 : UInt64)), .second] [(.int i107)])) _
      refine XS.iconst X145.here hx rfl (hb hby at_99) ?_
      show Steps p.tables e below (T145.setTop (mkF m 100 #[.val (.int p0), .val (.int p1), .val (.int i103), .val (.int i107), .val (.long mm), .second, .val (.double va), .second, .val (.double vh), .second, .val (.double (9218868437227405312 : UInt64)), .second] [(.int (4 : Int32)), (.int i107)])) _
      refine XS.icmpNo X145.here hx rfl (hb hby at_100) rfl (flt c4).2.2.1 ?_
      show Steps p.tables e below (T145.setTop (mkF m 103 #[.val (.int p0), .val (.int p1), .val (.int i103), .val (.int i107), .val (.long mm), .second, .val (.double va), .second, .val (.double vh), .second, .val (.double (9218868437227405312 : UInt64)), .second] [])) _
      refine XS.dload X145.here hx rfl (hb hby at_103) rfl ?_
      show Steps p.tables e below (T145.setTop (mkF m 105 #[.val (.int p0), .val (.int p1), .val (.int i103), .val (.int i107), .val (.long mm), .second, .val (.double va), .second, .val (.double vh), .second, .val (.double (9218868437227405312 : UInt64)), .second] [(.double (9218868437227405312 : UInt64))])) _
      refine X145.ldc2DoubleC hx hown140 (mvT hZ140 (hw _ (List.mem_of_getElem? (i := 40) rfl))) (g := (mkF m 105 #[.val (.int p0), .val (.int p1), .val (.int i103), .val (.int i107), .val (.long mm), .second, .val (.double va), .second, .val (.double vh), .second, .val (.double (9218868437227405312 : UInt64)), .second] [(.double (9218868437227405312 : UInt64))])) rfl (hb hby at_105) _ ?_
      show Steps p.tables e below (T145.setTop (mkF m 108 #[.val (.int p0), .val (.int p1), .val (.int i103), .val (.int i107), .val (.long mm), .second, .val (.double va), .second, .val (.double vh), .second, .val (.double (9218868437227405312 : UInt64)), .second] [(.double (9218868437227405312 : UInt64)), (.double (9218868437227405312 : UInt64))])) _
      refine XS.dcmpS X145.here hx rfl (hb hby at_108) rfl rfl ?_
      show Steps p.tables e below (T145.setTop (mkF m 109 #[.val (.int p0), .val (.int p1), .val (.int i103), .val (.int i107), .val (.long mm), .second, .val (.double va), .second, .val (.double vh), .second, .val (.double (9218868437227405312 : UInt64)), .second] [(.int (cmpValue (FP.dcmp (9218868437227405312 : UInt64) (9218868437227405312 : UInt64)) .l))])) _
      refine XS.ifNo X145.here hx rfl (hb hby at_109) rfl ((if0 _ _).trans (teq (show cmpValue (FP.dcmp (9218868437227405312 : UInt64) (9218868437227405312 : UInt64)) .l = (0 : Int32) by decide +kernel)).2) ?_
      show Steps p.tables e below (T145.setTop (mkF m 112 #[.val (.int p0), .val (.int p1), .val (.int i103), .val (.int i107), .val (.long mm), .second, .val (.double va), .second, .val (.double vh), .second, .val (.double (9218868437227405312 : UInt64)), .second] [])) _
      refine XS.iconst X145.here hx rfl (hb hby at_112) ?_
      show Steps p.tables e below (T145.setTop (mkF m 113 #[.val (.int p0), .val (.int p1), .val (.int i103), .val (.int i107), .val (.long mm), .second, .val (.double va), .second, .val (.double vh), .second, .val (.double (9218868437227405312 : UInt64)), .second] [(.int (1 : Int32))])) _
      refine XS.goto X145.here hx rfl (pc0 := 113) (pc' := 117) rfl (hb hby at_113) (by decide) (by decide) ?_
      exact k)
    obtain ⟨fs, hr, hrun, hended, hRE⟩ := Stand.leaveW (s := s) (vm₁ := T140.vm) X145 hS140 (by rw [e145]; exact hk140) (v := some (.int (1 : Int32))) (fun h => by rw [Bd.returns] at h; cases h)
    refine ⟨_, _, k148 _ (retOut X145 hx (t := .boolean) Bd.returns rfl (Or.inl ⟨rfl, Or.inr (Or.inl rfl), _, rfl⟩) (hb hby at_117) hr), hrun, hended, _, _, rfl, ?_, hRE.1, hRE.2.1, hRE.2.2.1, hRE.2.2.2.mono (by decide) (by decide)⟩
    show Q_rm0 Z p0 p1 h0 n0 _ T145.heap _
    rw [e145]
    exact ⟨rfl, N146⟩
set_option maxRecDepth 65536 in
set_option maxHeartbeats 40000000 in
theorem comes_1 {Post : Tables → Env → Array Value → State → Outcome → State → Prop} (hpost : ∀ tb e args s v u, (limb_1_1.after args s (.returned v) u = true ∧ limb_1_2.after args s (.returned v) u = true ∧ True) → ReturnedEndW s (.returned v) u (Jvm.fieldLocs frame_1_writes args s ++ Jvm.arrayLocs frame_1_arrays args s ++ Jvm.staticLocs frame_1_statics s) 16 2176 → Post tb e args s (.returned v) u) :
    ArmFor flags0 classFile x code maxLocals ret World_1 tables_1 room_1 Calls_1 rest_1 Pre_1 Post := by
  intro l hfl _ _ p e ha hc hk s m args below hf hA hF happ hP
  obtain ⟨hcalls, hrest, hpre⟩ := hP
  obtain ⟨-, -, -, hnamed, -, -, -, hat⟩ := (Spec.applies_iff hf).mp happ
  obtain ⟨hg, hn⟩ := and_e (Cond.before_iff.mp (show (Jvm.Cond.and given_1 narrow_1).before args s = true from hpre))
  obtain ⟨g1, g2⟩ := and_e hg
  obtain ⟨g3, g4⟩ := and_e g2
  obtain ⟨w0, w1, rfl⟩ : ∃ w0 w1 : Value, args = #[w0, w1] := by
    have hs : args.size = 2 := by simpa [Cond.value, given_1] using g1
    obtain ⟨L⟩ := args
    match L, hs with
    | [w0, w1], _ => exact ⟨w0, w1, rfl⟩
  have hw := fun d (hd : d ∈ tables_1) => atoms_spec (ws := Jvm.Cond.code x code maxLocals ret :: tables_1) hat d (List.mem_cons_of_mem _ hd)
  obtain ⟨i0, ei0⟩ := is_v g3
  obtain rfl : w0 = (.int i0) := Option.some.inj ei0
  obtain ⟨i1, ei1⟩ := is_v g4
  obtain rfl : w1 = (.int i1) := Option.some.inj ei1
  obtain ⟨n, o, h1, h2, h3, _, L, rfl, ⟨rfl, N⟩, hq⟩ := rm0 l s _ hw tables_1 i0 i1 s.heap s.heap.size (Nat.le_refl _) p e ha hc hk s m _ below hf ((Spec.applies_iff_loose hf).mp happ).1 ⟨rfl, State.Warmed39.refl s, rfl⟩ trivial
  refine ⟨n, _, h1, h2, h3, hpost _ _ _ _ _ _ ⟨Cond.after_iff.mpr rfl, Cond.after_iff.mpr (eq_i res_at (Term.int_eval (1)) rfl), trivial⟩ ⟨hq.1, hq.2.1, hq.2.2.1, (hq.2.2.2.sift fun y hy => Or.inr (N y hy)).mono (by decide) (by decide)⟩⟩
theorem main_1_1 : Claimed_1_1 := comes_1 fun _ _ _ _ _ _ h hF => ⟨h.1, hF⟩
theorem main_1_2 : Claimed_1_2 := comes_1 fun _ _ _ _ _ _ h hF => ⟨h.2.1, hF⟩
end Jvm.Pilot.@@N@@
namespace Jvm.Pilot.@@N@@
open Jvm Jvm.ClassFile Sem Op Lib Jvm.Free Jvm.Stand Jvm.Pilot.@@N@@.Jvm.D
/-! MADE BY PROGRAM (witnessworld.py) out of the Statement's table words and the real class files: 22 classes; the members and pool entries that the words name. The judged class is class 1, her method 1. -/
namespace start1
open Jvm.ClassFile
def u (s : String) : CpInfo := .utf8 (stringToUtf16 s)
/-- a pool by its gaps: so many unusable entries, then the entry; so many at the end -/
def gap : Nat → List CpInfo → List CpInfo
  | 0, r => r
  | n + 1, r => .unusable :: gap n r
def poolList (es : List (Nat × CpInfo)) (last : Nat) : List CpInfo := es.foldr (fun e r => gap e.1 (e.2 :: r)) (gap last [])
def pool (es : List (Nat × CpInfo)) (last : Nat) : Array CpInfo := ⟨poolList es last⟩
def fileOf (pool : Array CpInfo) (this : Nat) (attrs : Array Attribute := #[]) (ms : Array MethodInfo := #[]) (fl : Nat := 33) (sup : Nat := 0) (ifs : Array Nat := #[]) (fds : Array FieldInfo := #[]) : ClassFile where
  minorVersion := 0
  majorVersion := 65
  constantPool := pool
  accessFlags := fl
  thisClass := this
  superClass := sup
  interfaces := ifs
  fields := fds
  methods := ms
  attributes := attrs
def plain (name : String) (sup : Option ClassId) : Class where
  name := name
  kind := .ordinary
  loader := none
  accessFlags := 33
  super := sup
  interfaces := #[]
  cf := none
  fields := #[]
  methods := #[]
  instanceTypes := #[]
  staticTypes := #[]
  resolved := #[]
  callSites := []
  init := .initialized
  statics := none
  mirror := none

def pool0 : Array CpInfo := pool [(5, u "<init>"), (0, u "()V"), (1, .class_ 10), (1, u "java/lang/Object")] 113

def k0c0 : Code := { maxStack := 0, maxLocals := 1, code := object_method_1_code, exceptionTable := #[], attributes := #[] }
def k0m0 : Method := { name := "<init>", desc := "()V", sig := { parameters := [], returnType := none }, accessFlags := 1, code := some k0c0 }
/-- java/lang/Object -/
def k0 : Class := { plain "java/lang/Object" none with
  accessFlags := 33
  interfaces := #[]
  cf := some (fileOf pool0 8 #[] #[{ accessFlags := 1, nameIndex := 5, descriptorIndex := 6, attributes := #[] }] 33 0 #[] #[])
  fields := #[]
  methods := #[k0m0]
  instanceTypes := #[]
  staticTypes := #[]
  resolved := Array.replicate 124 none
  statics := none }

def pool1 : Array CpInfo := pool [(2, .class_ 4), (1, u "java/lang/Object"), (0, u "<init>"), (0, u "()V"), (0, .integer 65535), (0, .double 4616189618054758400), (1, .class_ 11), (0, u "com/example/surety/surety/core/ParetoUpTimes"), (0, .methodref 10 13), (0, .nameAndType 5 14), (0, u "(DD)V"), (0, .methodref 10 16), (0, .nameAndType 17 18), (0, u "mean"), (0, u "()D"), (0, .double 9218868437227405312), (1, .class_ 22), (0, u "com/example/surety/surety/core/ParetoUpTimesMeanPinLaw"), (2, u "law"), (0, u "(II)Z")] 3

def k1m0 : Method := { name := "<init>", desc := "()V", sig := { parameters := [], returnType := none }, accessFlags := 1, code := none }
def k1c1 : Code := { maxStack := 6, maxLocals := 12, code := code, exceptionTable := #[], attributes := #[] }
def k1m1 : Method := { name := "law", desc := "(II)Z", sig := { parameters := [.int, .int], returnType := some .boolean }, accessFlags := 9, code := some k1c1 }
/-- com/example/surety/surety/core/ParetoUpTimesMeanPinLaw -/
def k1 : Class := { plain "com/example/surety/surety/core/ParetoUpTimesMeanPinLaw" (some 0) with
  accessFlags := 49
  interfaces := #[]
  cf := some (fileOf pool1 21 #[] #[{ accessFlags := 1, nameIndex := 5, descriptorIndex := 6, attributes := #[] }, { accessFlags := 9, nameIndex := 25, descriptorIndex := 26, attributes := #[] }] 49 2 #[] #[])
  fields := #[]
  methods := #[k1m0, k1m1]
  instanceTypes := #[]
  staticTypes := #[]
  resolved := Array.replicate 30 none
  statics := none }

def pool2 : Array CpInfo := pool [(1, .methodref 2 3), (0, .class_ 4), (0, .nameAndType 5 6), (0, u "java/lang/Object"), (0, u "<init>"), (0, u "()V"), (0, .class_ 8), (0, u "java/lang/Record")] 13

def k2c0 : Code := { maxStack := 1, maxLocals := 1, code := jdk_30_method_1_code, exceptionTable := #[], attributes := #[] }
def k2m0 : Method := { name := "<init>", desc := "()V", sig := { parameters := [], returnType := none }, accessFlags := 4, code := some k2c0 }
/-- java/lang/Record -/
def k2 : Class := { plain "java/lang/Record" (some 0) with
  accessFlags := 1057
  interfaces := #[]
  cf := some (fileOf pool2 7 #[] #[{ accessFlags := 4, nameIndex := 5, descriptorIndex := 6, attributes := #[] }] 1057 2 #[] #[])
  fields := #[]
  methods := #[k2m0]
  instanceTypes := #[]
  staticTypes := #[]
  resolved := Array.replicate 22 none
  statics := none }

def pool3 : Array CpInfo := pool [(2, .class_ 4), (1, u "com/example/surety/surety/core/DurationDistribution"), (2, .class_ 8), (0, u "java/lang/Object")] 18

/-- com/example/surety/surety/core/DurationDistribution -/
def k3 : Class := { plain "com/example/surety/surety/core/DurationDistribution" (some 0) with
  accessFlags := 1537
  interfaces := #[]
  cf := some (fileOf pool3 2 #[] #[] 1537 7 #[] #[])
  fields := #[]
  methods := #[]
  instanceTypes := #[]
  staticTypes := #[]
  resolved := Array.replicate 27 none
  statics := none }

def pool4 : Array CpInfo := pool [(1, .class_ 2), (0, u "com/example/surety/surety/core/UpTimes"), (0, .class_ 4), (0, u "java/lang/Object"), (0, .class_ 6), (0, u "com/example/surety/surety/core/DurationDistribution")] 4

/-- com/example/surety/surety/core/UpTimes -/
def k4 : Class := { plain "com/example/surety/surety/core/UpTimes" (some 0) with
  accessFlags := 1537
  interfaces := #[3]
  cf := some (fileOf pool4 1 #[] #[] 1537 3 #[5] #[])
  fields := #[]
  methods := #[]
  instanceTypes := #[]
  staticTypes := #[]
  resolved := Array.replicate 11 none
  statics := none }

def pool5 : Array CpInfo := pool [(1, .methodref 2 3), (0, .class_ 4), (0, .nameAndType 5 6), (0, u "java/lang/Record"), (0, u "<init>"), (0, u "()V"), (0, .string 8), (0, u "h"), (0, .methodref 10 11), (0, .class_ 12), (0, .nameAndType 13 14), (0, u "com/example/surety/surety/core/OutsideDomainException"), (0, u "requirePositive"), (0, u "(Ljava/lang/String;D)D"), (0, .string 16), (0, u "alpha"), (0, .fieldref 18 19), (0, .class_ 20), (0, .nameAndType 8 21), (0, u "com/example/surety/surety/core/ParetoUpTimes"), (0, u "D"), (0, .fieldref 18 23), (0, .nameAndType 16 21), (2, .double 9218868437227405312), (21, u "(DD)V"), (18, u "()D"), (45, .class_ 114), (0, u "com/example/surety/surety/core/UpTimes"), (0, u "FINITE_MEAN_ABOVE"), (3, u "FINITE_VARIANCE_ABOVE"), (0, u "POINTS_PER_FALL"), (0, u "I"), (10, u "mean")] 40

def k5c0 : Code := { maxStack := 3, maxLocals := 5, code := prog_34_method_1_code, exceptionTable := #[], attributes := #[] }
def k5m0 : Method := { name := "<init>", desc := "(DD)V", sig := { parameters := [.double, .double], returnType := none }, accessFlags := 1, code := some k5c0 }
def k5c1 : Code := { maxStack := 6, maxLocals := 1, code := prog_34_method_4_code, exceptionTable := #[], attributes := #[] }
def k5m1 : Method := { name := "mean", desc := "()D", sig := { parameters := [], returnType := some .double }, accessFlags := 1, code := some k5c1 }
/-- com/example/surety/surety/core/ParetoUpTimes -/
def k5 : Class := { plain "com/example/surety/surety/core/ParetoUpTimes" (some 2) with
  accessFlags := 49
  interfaces := #[4]
  cf := some (fileOf pool5 18 #[] #[{ accessFlags := 1, nameIndex := 5, descriptorIndex := 48, attributes := #[] }, { accessFlags := 1, nameIndex := 132, descriptorIndex := 67, attributes := #[] }] 49 2 #[113] #[{ accessFlags := 18, nameIndex := 8, descriptorIndex := 21, attributes := #[] }, { accessFlags := 18, nameIndex := 16, descriptorIndex := 21, attributes := #[] }, { accessFlags := 26, nameIndex := 115, descriptorIndex := 21, attributes := #[] }, { accessFlags := 26, nameIndex := 119, descriptorIndex := 21, attributes := #[] }, { accessFlags := 26, nameIndex := 120, descriptorIndex := 121, attributes := #[] }])
  fields := #[{ name := "h", type := .double, accessFlags := 18, slot := 0, constantValue := 0 }, { name := "alpha", type := .double, accessFlags := 18, slot := 1, constantValue := 0 }, { name := "FINITE_MEAN_ABOVE", type := .double, accessFlags := 26, slot := 0, constantValue := 0 }, { name := "FINITE_VARIANCE_ABOVE", type := .double, accessFlags := 26, slot := 1, constantValue := 0 }, { name := "POINTS_PER_FALL", type := .int, accessFlags := 26, slot := 2, constantValue := 0 }]
  methods := #[k5m0, k5m1]
  instanceTypes := #[.double, .double]
  staticTypes := #[.double, .double, .int]
  resolved := Array.replicate 173 none
  statics := none }

def pool6 : Array CpInfo := pool [(1, .class_ 2), (0, u "java/io/Serializable"), (0, .class_ 4), (0, u "java/lang/Object")] 2

/-- java/io/Serializable -/
def k6 : Class := { plain "java/io/Serializable" (some 0) with
  accessFlags := 1537
  interfaces := #[]
  cf := some (fileOf pool6 1 #[] #[] 1537 3 #[] #[])
  fields := #[]
  methods := #[]
  instanceTypes := #[]
  staticTypes := #[]
  resolved := Array.replicate 7 none
  statics := none }

def pool7 : Array CpInfo := pool [(1, .class_ 2), (0, u "java/lang/Comparable"), (0, .class_ 4), (0, u "java/lang/Object")] 7

/-- java/lang/Comparable -/
def k7 : Class := { plain "java/lang/Comparable" (some 0) with
  accessFlags := 1537
  interfaces := #[]
  cf := some (fileOf pool7 1 #[] #[] 1537 3 #[] #[])
  fields := #[]
  methods := #[]
  instanceTypes := #[]
  staticTypes := #[]
  resolved := Array.replicate 12 none
  statics := none }

def pool8 : Array CpInfo := pool [(2, .class_ 4), (1, u "java/lang/CharSequence"), (42, .class_ 48), (0, u "java/lang/CharSequence$1CodePointIterator"), (10, .class_ 60), (0, u "java/lang/CharSequence$1CharIterator"), (5, .class_ 67), (0, u "java/lang/Object")] 63

/-- java/lang/CharSequence -/
def k8 : Class := { plain "java/lang/CharSequence" (some 0) with
  accessFlags := 1537
  interfaces := #[]
  cf := some (fileOf pool8 2 #[.nestMembers #[47, 59]] #[] 1537 66 #[] #[])
  fields := #[]
  methods := #[]
  instanceTypes := #[]
  staticTypes := #[]
  resolved := Array.replicate 131 none
  statics := none }

def pool9 : Array CpInfo := pool [(1, .class_ 2), (0, u "java/lang/constant/Constable"), (0, .class_ 4), (0, u "java/lang/Object")] 6

/-- java/lang/constant/Constable -/
def k9 : Class := { plain "java/lang/constant/Constable" (some 0) with
  accessFlags := 1537
  interfaces := #[]
  cf := some (fileOf pool9 1 #[] #[] 1537 3 #[] #[])
  fields := #[]
  methods := #[]
  instanceTypes := #[]
  staticTypes := #[]
  resolved := Array.replicate 11 none
  statics := none }

def pool10 : Array CpInfo := pool [(1, .class_ 2), (0, u "java/lang/constant/ConstantDesc"), (0, .class_ 4), (0, u "java/lang/Object")] 32

/-- java/lang/constant/ConstantDesc -/
def k10 : Class := { plain "java/lang/constant/ConstantDesc" (some 0) with
  accessFlags := 1537
  interfaces := #[]
  cf := some (fileOf pool10 1 #[] #[] 1537 3 #[] #[])
  fields := #[]
  methods := #[]
  instanceTypes := #[]
  staticTypes := #[]
  resolved := Array.replicate 37 none
  statics := none }

def pool11 : Array CpInfo := pool [(2, .class_ 4), (1, u "java/lang/Object"), (0, u "<init>"), (0, u "()V"), (3, .class_ 12), (1, u "java/lang/String"), (0, u "value"), (0, u "[B"), (2, u "coder"), (0, u "B"), (2, u "hash"), (0, u "I"), (2, u "hashIsZero"), (0, u "Z"), (13, u "COMPACT_STRINGS"), (534, .class_ 576), (0, u "java/lang/CharSequence"), (22, u "CASE_INSENSITIVE_ORDER"), (0, u "Ljava/util/Comparator;"), (500, u "serialPersistentFields"), (0, u "[Ljava/io/ObjectStreamField;"), (0, .class_ 1104), (0, u "java/lang/String$CaseInsensitiveComparator"), (1, .class_ 1107), (0, u "java/io/Serializable"), (0, .class_ 1109), (0, u "java/lang/Comparable"), (0, .class_ 1111), (0, u "java/lang/constant/Constable"), (0, .class_ 1113), (0, u "java/lang/constant/ConstantDesc"), (2, u "serialVersionUID"), (0, u "J"), (3, u "REPL"), (0, u "C"), (2, u "LATIN1"), (1, u "UTF16")] 323

def k11m0 : Method := { name := "<init>", desc := "()V", sig := { parameters := [], returnType := none }, accessFlags := 1, code := none }
/-- java/lang/String -/
def k11 : Class := { plain "java/lang/String" (some 0) with
  accessFlags := 49
  interfaces := #[6, 7, 8, 9, 10]
  cf := some (fileOf pool11 10 #[.nestMembers #[1103]] #[{ accessFlags := 1, nameIndex := 5, descriptorIndex := 6, attributes := #[] }] 49 2 #[1106, 1108, 575, 1110, 1112] #[{ accessFlags := 18, nameIndex := 13, descriptorIndex := 14, attributes := #[] }, { accessFlags := 18, nameIndex := 17, descriptorIndex := 18, attributes := #[] }, { accessFlags := 2, nameIndex := 21, descriptorIndex := 22, attributes := #[] }, { accessFlags := 2, nameIndex := 25, descriptorIndex := 26, attributes := #[] }, { accessFlags := 26, nameIndex := 1116, descriptorIndex := 1117, attributes := #[] }, { accessFlags := 24, nameIndex := 40, descriptorIndex := 26, attributes := #[] }, { accessFlags := 26, nameIndex := 1101, descriptorIndex := 1102, attributes := #[] }, { accessFlags := 26, nameIndex := 1121, descriptorIndex := 1122, attributes := #[] }, { accessFlags := 25, nameIndex := 599, descriptorIndex := 600, attributes := #[] }, { accessFlags := 24, nameIndex := 1125, descriptorIndex := 18, attributes := #[] }, { accessFlags := 24, nameIndex := 1127, descriptorIndex := 18, attributes := #[] }])
  fields := #[{ name := "value", type := (.array .byte), accessFlags := 18, slot := 0, constantValue := 0 }, { name := "coder", type := .byte, accessFlags := 18, slot := 1, constantValue := 0 }, { name := "hash", type := .int, accessFlags := 2, slot := 2, constantValue := 0 }, { name := "hashIsZero", type := .boolean, accessFlags := 2, slot := 3, constantValue := 0 }, { name := "serialVersionUID", type := .long, accessFlags := 26, slot := 0, constantValue := 0 }, { name := "COMPACT_STRINGS", type := .boolean, accessFlags := 24, slot := 1, constantValue := 0 }, { name := "serialPersistentFields", type := (.array (.object "java/io/ObjectStreamField")), accessFlags := 26, slot := 2, constantValue := 0 }, { name := "REPL", type := .char, accessFlags := 26, slot := 3, constantValue := 0 }, { name := "CASE_INSENSITIVE_ORDER", type := (.object "java/util/Comparator"), accessFlags := 25, slot := 4, constantValue := 0 }, { name := "LATIN1", type := .byte, accessFlags := 24, slot := 5, constantValue := 0 }, { name := "UTF16", type := .byte, accessFlags := 24, slot := 6, constantValue := 0 }]
  methods := #[k11m0]
  instanceTypes := #[(.array .byte), .byte, .int, .boolean]
  staticTypes := #[.long, .boolean, (.array (.object "java/io/ObjectStreamField")), .char, (.object "java/util/Comparator"), .byte, .byte]
  resolved := Array.replicate 1451 none
  statics := none }

def pool12 : Array CpInfo := pool [(2, .class_ 4), (1, u "java/lang/Object"), (0, u "<init>"), (0, u "()V"), (1, .class_ 10), (1, u "java/lang/Throwable"), (0, u "cause"), (0, u "Ljava/lang/Throwable;"), (2, u "UNASSIGNED_STACK"), (0, u "[Ljava/lang/StackTraceElement;"), (2, u "stackTrace"), (2, u "SUPPRESSED_SENTINEL"), (0, u "Ljava/util/List;"), (2, u "suppressedExceptions"), (6, u "detailMessage"), (0, u "Ljava/lang/String;"), (58, .class_ 94), (0, u "java/lang/Throwable$WrappedPrintStream"), (6, .class_ 103), (1, u "java/lang/Throwable$PrintStreamOrWriter"), (61, u "$assertionsDisabled"), (0, u "Z"), (26, .class_ 194), (0, u "java/lang/Throwable$WrappedPrintWriter"), (5, u "backtrace"), (0, u "Ljava/lang/Object;"), (9, u "depth"), (0, u "I"), (56, .class_ 271), (1, u "java/lang/Throwable$SentinelHolder"), (32, u "EMPTY_THROWABLE_ARRAY"), (0, u "[Ljava/lang/Throwable;"), (12, .class_ 319), (0, u "java/io/Serializable"), (0, u "serialVersionUID"), (0, u "J"), (5, u "NULL_CAUSE_MESSAGE"), (0, u "SELF_SUPPRESSION_MESSAGE"), (0, u "CAUSE_CAPTION"), (0, u "SUPPRESSED_CAPTION")] 73

def k12m0 : Method := { name := "<init>", desc := "()V", sig := { parameters := [], returnType := none }, accessFlags := 1, code := none }
/-- java/lang/Throwable -/
def k12 : Class := { plain "java/lang/Throwable" (some 0) with
  accessFlags := 33
  interfaces := #[6]
  cf := some (fileOf pool12 8 #[.nestMembers #[193, 93, 101, 269]] #[{ accessFlags := 1, nameIndex := 5, descriptorIndex := 6, attributes := #[] }] 33 2 #[318] #[{ accessFlags := 26, nameIndex := 320, descriptorIndex := 321, attributes := #[] }, { accessFlags := 130, nameIndex := 200, descriptorIndex := 201, attributes := #[] }, { accessFlags := 2, nameIndex := 33, descriptorIndex := 34, attributes := #[] }, { accessFlags := 26, nameIndex := 15, descriptorIndex := 16, attributes := #[] }, { accessFlags := 2, nameIndex := 11, descriptorIndex := 12, attributes := #[] }, { accessFlags := 2, nameIndex := 19, descriptorIndex := 16, attributes := #[] }, { accessFlags := 130, nameIndex := 211, descriptorIndex := 212, attributes := #[] }, { accessFlags := 26, nameIndex := 22, descriptorIndex := 23, attributes := #[] }, { accessFlags := 2, nameIndex := 26, descriptorIndex := 23, attributes := #[] }, { accessFlags := 26, nameIndex := 327, descriptorIndex := 34, attributes := #[] }, { accessFlags := 26, nameIndex := 328, descriptorIndex := 34, attributes := #[] }, { accessFlags := 26, nameIndex := 329, descriptorIndex := 34, attributes := #[] }, { accessFlags := 26, nameIndex := 330, descriptorIndex := 34, attributes := #[] }, { accessFlags := 26, nameIndex := 304, descriptorIndex := 305, attributes := #[] }, { accessFlags := 4120, nameIndex := 165, descriptorIndex := 166, attributes := #[] }])
  fields := #[{ name := "serialVersionUID", type := .long, accessFlags := 26, slot := 0, constantValue := 0 }, { name := "backtrace", type := (.object "java/lang/Object"), accessFlags := 130, slot := 0, constantValue := 0 }, { name := "detailMessage", type := (.object "java/lang/String"), accessFlags := 2, slot := 1, constantValue := 0 }, { name := "UNASSIGNED_STACK", type := (.array (.object "java/lang/StackTraceElement")), accessFlags := 26, slot := 1, constantValue := 0 }, { name := "cause", type := (.object "java/lang/Throwable"), accessFlags := 2, slot := 2, constantValue := 0 }, { name := "stackTrace", type := (.array (.object "java/lang/StackTraceElement")), accessFlags := 2, slot := 3, constantValue := 0 }, { name := "depth", type := .int, accessFlags := 130, slot := 4, constantValue := 0 }, { name := "SUPPRESSED_SENTINEL", type := (.object "java/util/List"), accessFlags := 26, slot := 2, constantValue := 0 }, { name := "suppressedExceptions", type := (.object "java/util/List"), accessFlags := 2, slot := 5, constantValue := 0 }, { name := "NULL_CAUSE_MESSAGE", type := (.object "java/lang/String"), accessFlags := 26, slot := 3, constantValue := 0 }, { name := "SELF_SUPPRESSION_MESSAGE", type := (.object "java/lang/String"), accessFlags := 26, slot := 4, constantValue := 0 }, { name := "CAUSE_CAPTION", type := (.object "java/lang/String"), accessFlags := 26, slot := 5, constantValue := 0 }, { name := "SUPPRESSED_CAPTION", type := (.object "java/lang/String"), accessFlags := 26, slot := 6, constantValue := 0 }, { name := "EMPTY_THROWABLE_ARRAY", type := (.array (.object "java/lang/Throwable")), accessFlags := 26, slot := 7, constantValue := 0 }, { name := "$assertionsDisabled", type := .boolean, accessFlags := 4120, slot := 8, constantValue := 0 }]
  methods := #[k12m0]
  instanceTypes := #[(.object "java/lang/Object"), (.object "java/lang/String"), (.object "java/lang/Throwable"), (.array (.object "java/lang/StackTraceElement")), .int, (.object "java/util/List")]
  staticTypes := #[.long, (.array (.object "java/lang/StackTraceElement")), (.object "java/util/List"), (.object "java/lang/String"), (.object "java/lang/String"), (.object "java/lang/String"), (.object "java/lang/String"), (.array (.object "java/lang/Throwable")), .boolean]
  resolved := Array.replicate 404 none
  statics := none }

def pool13 : Array CpInfo := pool [(2, .class_ 4), (1, u "java/lang/Throwable"), (0, u "<init>"), (0, u "()V"), (12, .class_ 20), (0, u "java/lang/Exception"), (0, u "serialVersionUID"), (0, u "J")] 17

def k13m0 : Method := { name := "<init>", desc := "()V", sig := { parameters := [], returnType := none }, accessFlags := 1, code := none }
/-- java/lang/Exception -/
def k13 : Class := { plain "java/lang/Exception" (some 12) with
  accessFlags := 33
  interfaces := #[]
  cf := some (fileOf pool13 19 #[] #[{ accessFlags := 1, nameIndex := 5, descriptorIndex := 6, attributes := #[] }] 33 2 #[] #[{ accessFlags := 24, nameIndex := 21, descriptorIndex := 22, attributes := #[] }])
  fields := #[{ name := "serialVersionUID", type := .long, accessFlags := 24, slot := 0, constantValue := 0 }]
  methods := #[k13m0]
  instanceTypes := #[(.object "java/lang/Object"), (.object "java/lang/String"), (.object "java/lang/Throwable"), (.array (.object "java/lang/StackTraceElement")), .int, (.object "java/util/List")]
  staticTypes := #[.long]
  resolved := Array.replicate 40 none
  statics := none }

def pool14 : Array CpInfo := pool [(2, .class_ 4), (1, u "java/lang/Exception"), (0, u "<init>"), (0, u "()V"), (12, .class_ 20), (0, u "java/lang/RuntimeException"), (0, u "serialVersionUID"), (0, u "J")] 17

def k14m0 : Method := { name := "<init>", desc := "()V", sig := { parameters := [], returnType := none }, accessFlags := 1, code := none }
/-- java/lang/RuntimeException -/
def k14 : Class := { plain "java/lang/RuntimeException" (some 13) with
  accessFlags := 33
  interfaces := #[]
  cf := some (fileOf pool14 19 #[] #[{ accessFlags := 1, nameIndex := 5, descriptorIndex := 6, attributes := #[] }] 33 2 #[] #[{ accessFlags := 24, nameIndex := 21, descriptorIndex := 22, attributes := #[] }])
  fields := #[{ name := "serialVersionUID", type := .long, accessFlags := 24, slot := 0, constantValue := 0 }]
  methods := #[k14m0]
  instanceTypes := #[(.object "java/lang/Object"), (.object "java/lang/String"), (.object "java/lang/Throwable"), (.array (.object "java/lang/StackTraceElement")), .int, (.object "java/util/List")]
  staticTypes := #[.long]
  resolved := Array.replicate 40 none
  statics := none }

def pool15 : Array CpInfo := pool [(2, .class_ 4), (1, u "java/lang/RuntimeException"), (0, u "<init>"), (0, u "()V"), (9, .class_ 17), (0, u "java/lang/IllegalArgumentException"), (0, u "serialVersionUID"), (0, u "J")] 15

def k15m0 : Method := { name := "<init>", desc := "()V", sig := { parameters := [], returnType := none }, accessFlags := 1, code := none }
/-- java/lang/IllegalArgumentException -/
def k15 : Class := { plain "java/lang/IllegalArgumentException" (some 14) with
  accessFlags := 33
  interfaces := #[]
  cf := some (fileOf pool15 16 #[] #[{ accessFlags := 1, nameIndex := 5, descriptorIndex := 6, attributes := #[] }] 33 2 #[] #[{ accessFlags := 26, nameIndex := 18, descriptorIndex := 19, attributes := #[] }])
  fields := #[{ name := "serialVersionUID", type := .long, accessFlags := 26, slot := 0, constantValue := 0 }]
  methods := #[k15m0]
  instanceTypes := #[(.object "java/lang/Object"), (.object "java/lang/String"), (.object "java/lang/Throwable"), (.array (.object "java/lang/StackTraceElement")), .int, (.object "java/util/List")]
  staticTypes := #[.long]
  resolved := Array.replicate 35 none
  statics := none }

def pool16 : Array CpInfo := pool [(6, .class_ 8), (1, u "java/lang/IllegalArgumentException"), (3, .class_ 14), (1, u "com/example/surety/surety/core/OutsideDomainException"), (0, u "parameter"), (0, u "Ljava/lang/String;"), (15, .double 9218868437227405312), (5, u "serialVersionUID"), (0, u "J"), (7, u "(Ljava/lang/String;D)D"), (3, u "requirePositive")] 32

def k16c0 : Code := { maxStack := 5, maxLocals := 3, code := prog_33_method_5_code, exceptionTable := #[], attributes := #[] }
def k16m0 : Method := { name := "requirePositive", desc := "(Ljava/lang/String;D)D", sig := { parameters := [(.object "java/lang/String"), .double], returnType := some .double }, accessFlags := 9, code := some k16c0 }
/-- com/example/surety/surety/core/OutsideDomainException -/
def k16 : Class := { plain "com/example/surety/surety/core/OutsideDomainException" (some 15) with
  accessFlags := 33
  interfaces := #[]
  cf := some (fileOf pool16 12 #[] #[{ accessFlags := 9, nameIndex := 51, descriptorIndex := 47, attributes := #[] }] 33 6 #[] #[{ accessFlags := 26, nameIndex := 38, descriptorIndex := 39, attributes := #[] }, { accessFlags := 18, nameIndex := 15, descriptorIndex := 16, attributes := #[] }])
  fields := #[{ name := "serialVersionUID", type := .long, accessFlags := 26, slot := 0, constantValue := 0 }, { name := "parameter", type := (.object "java/lang/String"), accessFlags := 18, slot := 6, constantValue := 0 }]
  methods := #[k16m0]
  instanceTypes := #[(.object "java/lang/Object"), (.object "java/lang/String"), (.object "java/lang/Throwable"), (.array (.object "java/lang/StackTraceElement")), .int, (.object "java/util/List"), (.object "java/lang/String")]
  staticTypes := #[.long]
  resolved := Array.replicate 84 none
  statics := none }

def pool17 : Array CpInfo := pool [(1, u "java/lang/Cloneable"), (0, .class_ 1), (0, u "java/lang/Object"), (0, .class_ 3)] 3

/-- java/lang/Cloneable -/
def k17 : Class := { plain "java/lang/Cloneable" (some 0) with
  accessFlags := 1537
  interfaces := #[]
  cf := some (fileOf pool17 2 #[] #[] 1537 4 #[] #[])
  fields := #[]
  methods := #[]
  instanceTypes := #[]
  staticTypes := #[]
  resolved := Array.replicate 8 none
  statics := none }

/-- the primitive byte -/
def k18 : Class := { plain "byte" none with kind := .primitive 'B', accessFlags := 0x411 }
/-- [B -/
def k19 : Class := { plain "[B" (some 0) with kind := .array 18 .byte, interfaces := #[17, 6], accessFlags := 1041 }

/-- the primitive int -/
def k20 : Class := { plain "int" none with kind := .primitive 'I', accessFlags := 0x411 }
/-- [I -/
def k21 : Class := { plain "[I" (some 0) with kind := .array 20 .int, interfaces := #[17, 6], accessFlags := 1041 }

def heap : Heap := #[]
def classes : Array Class := #[k0, k1, k2, k3, k4, k5, k6, k7, k8, k9, k10, k11, k12, k13, k14, k15, k16, k17, k18, k19, k20, k21]
def interned : List (Array UInt16 × Addr) := []
def slotsUsed : Nat := 0
def theMethod : MethodId := ⟨1, 1⟩
def args0 : Array Value := #[.int 100, .int 500]
def aboutOver (below : List Frame) : State where
  vm := { classes := classes, interned := interned.toArray }
  heap := heap
  slotsUsed := slotsUsed
  threads := #[{ frames := .invoking theMethod args0 :: below }]
def below0 : List Frame := [.native { method := ⟨0, 0⟩, args := #[] }]
def about1 : State := aboutOver below0
def p0 : Program := .bare "" "" ""
def e0 : Env := launch0.env 0 0 0
theorem w_frames : about1.frames = Frame.invoking theMethod args0 :: below0 := rfl
set_option maxRecDepth 65536 in
theorem w_args : argsFit about1.vm theMethod args0 = true := by decide +kernel
set_option maxRecDepth 65536 in
theorem w_heap : heapFits about1 = true := by decide +kernel
set_option maxRecDepth 65536 in
theorem w_runnable : about1.curStatus? = some .runnable := by decide +kernel
set_option maxRecDepth 65536 in
theorem w_alone : about1.alone = true := by decide +kernel
set_option maxRecDepth 65536 in
theorem w_named : about1.methodNamed? x = some theMethod := by decide +kernel
set_option maxRecDepth 65536 in
theorem w_hears : about1.hears theMethod below0 = true := by decide +kernel
set_option maxRecDepth 65536 in
theorem w_ripe : about1.ripe theMethod args0 below0 = true := by decide +kernel
theorem w_running : about1.status = .running := rfl
set_option maxRecDepth 65536 in
theorem w_room : about1.hasRoom e0.platform room_1 = true :=
  launch0.hasRoom_least _ room_1 (by decide +kernel) (by decide +kernel) (by decide +kernel) (by decide +kernel) (by decide +kernel) (by decide +kernel)
theorem allAtoms_all (ts : List Jvm.Cond) (a : Array Jvm.Value) (st : Jvm.State) : (allAtoms ts).before a st = ts.all (fun c => c.before a st) := by
  induction ts with
  | nil => rfl
  | cons c t ih =>
    show (Jvm.Cond.and c (allAtoms t)).before a st = _
    rw [Jvm.Cond.before_and, ih, List.all_cons]
def words1 : List Jvm.Cond := Jvm.Cond.code x code maxLocals ret :: tables_1
/-- a 'code' word, met by the world's own term for the bytes: nothing is compared byte by byte -/
theorem code_word {y : MethodName} {bytes : ByteArray} {mx : Nat} {rt : Option FieldType} {a : Array Value} {s : State} {m : MethodId} {meth : Method} {c : Code} (h1 : s.methodNamed? y = some m) (h2 : s.vm.method? m = some meth) (h3 : meth.code = some c) (h4 : c.code = bytes)
    (h5 : (c.maxLocals == mx && c.exceptionTable.isEmpty && decide (c.maxStack ≤ mostOperands) && decide (meth.sig.returnType = rt) && !meth.locks && decide (parseMethodDescriptor y.desc = some meth.sig)) = true) : (Jvm.Cond.code y bytes mx rt).before a s = true := by
  simp only [Bool.and_eq_true, beq_iff_eq, Bool.not_eq_true', decide_eq_true_eq] at h5
  obtain ⟨⟨⟨⟨⟨g1, g2⟩, g3⟩, g4⟩, g5⟩, g6⟩ := h5
  simp [Cond.before, Cond.holds, Cond.value, h1, h2, h3, h4, g1, g2, g3, g4, g5, g6]
def isCode : Jvm.Cond → Bool
  | .code _ _ _ _ => true
  | _ => false
theorem all_split {L : List Jvm.Cond} {P : Jvm.Cond → Bool} (h1 : L.all (fun c => isCode c || P c) = true) (h2 : ∀ c ∈ L.filter isCode, P c = true) : L.all P = true := by
  refine List.all_eq_true.mpr fun c hc => ?_
  have h := List.all_eq_true.mp h1 c hc
  rcases Bool.eq_false_or_eq_true (isCode c) with hi | hi
  · exact h2 c (List.mem_filter.mpr ⟨hc, hi⟩)
  · simpa [hi] using h
set_option maxRecDepth 65536 in
theorem w_c0 : (Jvm.Cond.code x code maxLocals ret).before args0 about1 = true := code_word (m := ⟨1, 1⟩) (meth := k1m1) (c := k1c1) (by decide +kernel) rfl rfl rfl (by decide +kernel)
set_option maxRecDepth 65536 in
theorem w_c1 : (Jvm.Cond.code ({ cls := "com/example/surety/surety/core/ParetoUpTimes", name := "<init>", desc := "(DD)V" } : Jvm.MethodName) prog_34_method_1_code (5 : Nat) (Option.none : Option Jvm.ClassFile.FieldType)).before args0 about1 = true := code_word (m := ⟨5, 0⟩) (meth := k5m0) (c := k5c0) (by decide +kernel) rfl rfl rfl (by decide +kernel)
set_option maxRecDepth 65536 in
theorem w_c2 : (Jvm.Cond.code ({ cls := "java/lang/Record", name := "<init>", desc := "()V" } : Jvm.MethodName) jdk_30_method_1_code (1 : Nat) (Option.none : Option Jvm.ClassFile.FieldType)).before args0 about1 = true := code_word (m := ⟨2, 0⟩) (meth := k2m0) (c := k2c0) (by decide +kernel) rfl rfl rfl (by decide +kernel)
set_option maxRecDepth 65536 in
theorem w_c3 : (Jvm.Cond.code ({ cls := "java/lang/Object", name := "<init>", desc := "()V" } : Jvm.MethodName) object_method_1_code (1 : Nat) (Option.none : Option Jvm.ClassFile.FieldType)).before args0 about1 = true := code_word (m := ⟨0, 0⟩) (meth := k0m0) (c := k0c0) (by decide +kernel) rfl rfl rfl (by decide +kernel)
set_option maxRecDepth 65536 in
theorem w_c4 : (Jvm.Cond.code ({ cls := "com/example/surety/surety/core/OutsideDomainException", name := "requirePositive", desc := "(Ljava/lang/String;D)D" } : Jvm.MethodName) prog_33_method_5_code (3 : Nat) (Option.some Jvm.ClassFile.FieldType.double)).before args0 about1 = true := code_word (m := ⟨16, 0⟩) (meth := k16m0) (c := k16c0) (by decide +kernel) rfl rfl rfl (by decide +kernel)
set_option maxRecDepth 65536 in
theorem w_c5 : (Jvm.Cond.code ({ cls := "com/example/surety/surety/core/ParetoUpTimes", name := "mean", desc := "()D" } : Jvm.MethodName) prog_34_method_4_code (1 : Nat) (Option.some Jvm.ClassFile.FieldType.double)).before args0 about1 = true := code_word (m := ⟨5, 1⟩) (meth := k5m1) (c := k5c1) (by decide +kernel) rfl rfl rfl (by decide +kernel)
def codes1 : List Jvm.Cond := [Jvm.Cond.code x code maxLocals ret, Jvm.Cond.code ({ cls := "com/example/surety/surety/core/ParetoUpTimes", name := "<init>", desc := "(DD)V" } : Jvm.MethodName) prog_34_method_1_code (5 : Nat) (Option.none : Option Jvm.ClassFile.FieldType), Jvm.Cond.code ({ cls := "java/lang/Record", name := "<init>", desc := "()V" } : Jvm.MethodName) jdk_30_method_1_code (1 : Nat) (Option.none : Option Jvm.ClassFile.FieldType), Jvm.Cond.code ({ cls := "java/lang/Object", name := "<init>", desc := "()V" } : Jvm.MethodName) object_method_1_code (1 : Nat) (Option.none : Option Jvm.ClassFile.FieldType), Jvm.Cond.code ({ cls := "com/example/surety/surety/core/OutsideDomainException", name := "requirePositive", desc := "(Ljava/lang/String;D)D" } : Jvm.MethodName) prog_33_method_5_code (3 : Nat) (Option.some Jvm.ClassFile.FieldType.double), Jvm.Cond.code ({ cls := "com/example/surety/surety/core/ParetoUpTimes", name := "mean", desc := "()D" } : Jvm.MethodName) prog_34_method_4_code (1 : Nat) (Option.some Jvm.ClassFile.FieldType.double)]
set_option maxRecDepth 65536 in
theorem codes_eq : words1.filter isCode = codes1 := rfl
theorem w_codes : ∀ c ∈ words1.filter isCode, c.before args0 about1 = true := by
  rw [codes_eq]
  intro c hc
  simp only [codes1, List.mem_cons, List.not_mem_nil, or_false] at hc
  rcases hc with rfl | rfl | rfl | rfl | rfl | rfl
  · exact w_c0
  · exact w_c1
  · exact w_c2
  · exact w_c3
  · exact w_c4
  · exact w_c5
set_option maxRecDepth 65536 in
theorem w_t1 : (words1.take 24).all (fun c => isCode c || c.before args0 about1) = true := by decide +kernel
set_option maxRecDepth 65536 in
theorem w_t2 : (words1.drop 24).all (fun c => isCode c || c.before args0 about1) = true := by decide +kernel
theorem w_tables : (allAtoms (Jvm.Cond.code x code maxLocals ret :: tables_1)).before args0 about1 = true := by
  rw [allAtoms_all]
  show words1.all (fun c => c.before args0 about1) = true
  refine all_split ?_ w_codes
  rw [← List.take_append_drop 24 words1, List.all_append, w_t1, w_t2]
  rfl
set_option maxRecDepth 65536 in
theorem w_case : (Jvm.Cond.and given_1 narrow_1).before args0 about1 = true := by decide +kernel
theorem w_applies : (headSpec (Jvm.Cond.code x code maxLocals ret :: tables_1) room_1).applies x e0.platform about1 = true :=
  (Spec.applies_iff w_frames).mpr ⟨w_running, w_runnable, w_alone, w_named, w_hears, w_ripe, w_room, w_tables⟩
theorem atStart : AtStart classFile x code maxLocals ret World_1 tables_1 room_1 Calls_1 rest_1 Pre_1 launch0 p0 e0 about1 theMethod args0 below0 :=
  ⟨lists_1, trivial, launch0.admits_env _ _ _, launch0.least_env, fairChoices_fair.cas, fairChoices_fair.clock, w_frames, w_args, w_heap, w_applies, trivial, trivial, w_case⟩
end start1
theorem witness_1 : WitnessClaimed_1 := ⟨start1.p0, start1.e0, start1.about1, start1.theMethod, start1.args0, start1.below0, start1.atStart⟩
end Jvm.Pilot.@@N@@
