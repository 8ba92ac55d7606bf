import JvmDerived
import JvmDerived.Pilot.@@N@@Statement
import JvmDerived.Pilot.@@N@@Code
set_option linter.unusedVariables false
set_option linter.unusedSimpArgs false
namespace Jvm.OwnFp
open Jvm.FP.Core Op
/-! own: exact values. `Dyf f i k d`: the datum d is finite and worth i / 2^k. -/
def Dyf (f : Fmt) (i : Int) (k : Nat) (d : Datum) : Prop := (∃ s c q, d = .fin s c q) ∧ zval f d * 2 ^ k = i * 2 ^ (-f.qmin).toNat
theorem pw_pos (n : Nat) : (0 : Int) < 2 ^ n := Int.pow_pos (by decide)
theorem pw_cast (n : Nat) : ((2 ^ n : Nat) : Int) = 2 ^ n := by simp
theorem signed_abs (i : Int) : signed (decide (i < 0)) i.natAbs = i := by
  unfold signed
  by_cases h : i < 0 <;> simp [h] <;> omega
theorem signed_mulI (s : Bool) (c k : Nat) : signed s (c * 2 ^ k) = signed s c * 2 ^ k := by
  rw [signed_mul, pw_cast]
theorem vex {f : Fmt} (hf : Good f) {i : Int} {k : Nat} (hi : i.natAbs < 2 ^ f.p) (hk : (k : Int) ≤ -f.qmin) (hq : 0 ≤ f.qmax) :
    ∃ s c q, FP.Core.fits f (.fin s c q) ∧ zval f (.fin s c q) * 2 ^ k = i * 2 ^ (-f.qmin).toNat := by
  obtain ⟨c', q', h, hu⟩ := round_exact hf (decide (i < 0)) (c := i.natAbs) (q := -(k : Int)) hi (by omega) (by omega)
  refine ⟨_, c', q', h ▸ round_fits hf _, ?_⟩
  show signed (decide (i < 0)) (inUnits c' q' f.qmin) * 2 ^ k = _
  rw [hu]
  unfold inUnits
  rw [signed_mulI, signed_abs, Int.mul_assoc, ← Int.pow_add, show (-(k : Int) - f.qmin).toNat + k = (-f.qmin).toNat by omega]
theorem dyf_of_zval {f : Fmt} (hf : Good f) {s : Bool} {A B : Nat} {e : Int} {s' : Bool} {c' : Nat} {q' : Int} (hV : FP.Core.fits f (.fin s' c' q'))
    (hz : zval f (roundRatio f s A B e) = zval f (.fin s' c' q')) : ∃ s₀ c₀ q₀, roundRatio f s A B e = .fin s₀ c₀ q₀ := by
  rcases roundRatio_cases f s A B e with ⟨c, q, h⟩ | h
  · exact ⟨s, c, q, h⟩
  · exfalso
    rw [h] at hz
    have h1 := zmag_lt_top hf hV
    have h2 := congrArg Int.natAbs hz
    unfold zval at h2
    rw [natAbs_signed, natAbs_signed] at h2
    have h3 : zmag f (.inf s) = f.tails * 2 ^ (f.exps - 2) := rfl
    have h4 : zmag f (.fin s' c' q') = inUnits c' q' f.qmin := rfl
    omega
/-- an exact result that the format holds is not rounded -/
theorem rnd {f : Fmt} (hf : Good f) (hq : 0 ≤ f.qmax) {s : Bool} {c : Nat} {q e0 : Int} (h0 : e0 ≤ f.qmin) (h0e : e0 ≤ q) {i : Int} {k : Nat} (hi : i.natAbs < 2 ^ f.p) (hk : (k : Int) ≤ -f.qmin)
    (h : signed s (inUnits c q e0) * 2 ^ k = i * 2 ^ (-f.qmin).toNat * 2 ^ (f.qmin - e0).toNat) : Dyf f i k (round f (.fin s c q)) := by
  obtain ⟨s', c', q', hV, hv⟩ := vex hf hi hk hq
  have hn : Datum.fin s' c' q' ≠ .nan := nofun
  have he : zval f (.fin s' c' q') * ((2 ^ (f.qmin - e0).toNat : Nat) : Int) = signed s (inUnits c q e0) := by
    refine Int.eq_of_mul_eq_mul_right (Int.ne_of_gt (pw_pos k)) ?_
    rw [h, ← hv, pw_cast]; ac_rfl
  have hz : zval f (round f (.fin s c q)) = zval f (.fin s' c' q') :=
    Int.le_antisymm (zval_round_le hf hV hn h0 h0e (Int.le_of_eq he.symm)) (zval_round_ge hf hV hn h0 h0e (Int.le_of_eq he))
  exact ⟨dyf_of_zval hf hV hz, by rw [hz]; exact hv⟩
theorem Dyf.fit {f : Fmt} {i : Int} {k : Nat} {d : Datum} (h : Dyf f i k d) : ∃ s c q, d = .fin s c q := h.1
theorem Dyf.up {f : Fmt} {i : Int} {k : Nat} {d : Datum} (h : Dyf f i k d) (l : Nat) : Dyf f (i * 2 ^ l) (k + l) d :=
  ⟨h.1, by rw [Int.pow_add, ← Int.mul_assoc, h.2]; ac_rfl⟩
theorem Dyf.to {f : Fmt} {i j : Int} {k l : Nat} {d : Datum} (h : Dyf f i k d) (e : i * 2 ^ l = j * 2 ^ k) : Dyf f j l d := by
  refine ⟨h.1, Int.eq_of_mul_eq_mul_right (Int.ne_of_gt (pw_pos k)) ?_⟩
  calc zval f d * 2 ^ l * 2 ^ k = (zval f d * 2 ^ k) * 2 ^ l := by ac_rfl
    _ = (i * 2 ^ l) * 2 ^ (-f.qmin).toNat := by rw [h.2]; ac_rfl
    _ = j * 2 ^ (-f.qmin).toNat * 2 ^ k := by rw [e]; ac_rfl
theorem Dyf.sum {f : Fmt} (hf : Good f) (hq : 0 ≤ f.qmax) {i j : Int} {k : Nat} {x y : Datum} (fx : FP.Core.fits f x) (fy : FP.Core.fits f y) (hx : Dyf f i k x) (hy : Dyf f j k y) (hi : (i + j).natAbs < 2 ^ f.p) (hk : (k : Int) ≤ -f.qmin) :
    Dyf f (i + j) k (round f (exactSum x y)) := by
  obtain ⟨⟨s, c, q, rfl⟩, hx⟩ := hx
  obtain ⟨⟨t, d, r, rfl⟩, hy⟩ := hy
  obtain ⟨sg, n, e, he, hle, hu⟩ := sum_units fx fy
  rw [he]
  refine rnd hf hq (Int.le_refl _) hle hi hk ?_
  rw [hu, Int.add_mul, hx, hy, Int.add_mul, Int.sub_self]
  simp
theorem Dyf.neg {f : Fmt} {i : Int} {k : Nat} {x : Datum} (hx : Dyf f i k x) : Dyf f (-i) k (negate x) := by
  obtain ⟨⟨s, c, q, rfl⟩, hx⟩ := hx
  refine ⟨⟨_, _, _, rfl⟩, ?_⟩
  rw [zval_negate, Int.neg_mul, hx, Int.neg_mul]
theorem Dyf.prod {f : Fmt} (hf : Good f) (hq : 0 ≤ f.qmax) {i j : Int} {k l : Nat} {x y : Datum} (fx : FP.Core.fits f x) (fy : FP.Core.fits f y) (hx : Dyf f i k x) (hy : Dyf f j l y) (hi : (i * j).natAbs < 2 ^ f.p) (hk : ((k + l : Nat) : Int) ≤ -f.qmin) :
    Dyf f (i * j) (k + l) (round f (exactProduct x y)) := by
  obtain ⟨⟨s, c, q, rfl⟩, hx⟩ := hx
  obtain ⟨⟨t, d, r, rfl⟩, hy⟩ := hy
  obtain ⟨he, hle, hu⟩ := product_units fx fy
  rw [he]
  have hn := qmin_neg hf
  refine rnd hf hq (e0 := 2 * f.qmin) (by omega) hle hi hk ?_
  rw [hu, signed_xor, show (f.qmin - 2 * f.qmin).toNat = (-f.qmin).toNat by omega, Int.pow_add]
  calc zval f (.fin s c q) * zval f (.fin t d r) * (2 ^ k * 2 ^ l) = (zval f (.fin s c q) * 2 ^ k) * (zval f (.fin t d r) * 2 ^ l) := by ac_rfl
    _ = _ := by rw [hx, hy]; ac_rfl
theorem natAbs_pow (n : Nat) : ((2 : Int) ^ n).natAbs = 2 ^ n := by rw [Int.natAbs_pow]; rfl
theorem natAbs_zval (f : Fmt) (d : Datum) : (zval f d).natAbs = zmag f d := natAbs_signed _ _
/-- an exact quotient that the format holds is not rounded -/
theorem Dyf.quot {f : Fmt} (hf : Good f) (hq : 0 ≤ f.qmax) {i j n : Int} {k l m : Nat} {x y : Datum} (fx : FP.Core.fits f x) (fy : FP.Core.fits f y) (hx : Dyf f i k x) (hy : Dyf f j l y) (hj : j ≠ 0) (hi : n.natAbs < 2 ^ f.p) (hm : (m : Int) ≤ -f.qmin)
    (e : i * 2 ^ l * 2 ^ m = n * j * 2 ^ k) : Dyf f n m (quotient f x y) := by
  obtain ⟨⟨s, c, q, rfl⟩, hx⟩ := hx
  obtain ⟨⟨t, d, r, rfl⟩, hy⟩ := hy
  obtain ⟨s', c', q', hV, hv⟩ := vex hf hi hm hq
  have hn : Datum.fin s' c' q' ≠ .nan := nofun
  have hqm := qmin_neg hf
  have fx1 := fx.2.1
  have fy1 := fy.2.1
  -- the signed equation
  have hz : zval f (.fin s c q) * 2 ^ (-f.qmin).toNat = zval f (.fin s' c' q') * zval f (.fin t d r) := by
    refine Int.eq_of_mul_eq_mul_right (Int.ne_of_gt (Int.mul_pos (Int.mul_pos (pw_pos k) (pw_pos l)) (pw_pos m))) ?_
    calc zval f (.fin s c q) * 2 ^ (-f.qmin).toNat * (2 ^ k * 2 ^ l * 2 ^ m) = (zval f (.fin s c q) * 2 ^ k) * (2 ^ l * 2 ^ m) * 2 ^ (-f.qmin).toNat := by ac_rfl
      _ = (i * 2 ^ l * 2 ^ m) * 2 ^ (-f.qmin).toNat * 2 ^ (-f.qmin).toNat := by rw [hx]; ac_rfl
      _ = (n * 2 ^ (-f.qmin).toNat) * (j * 2 ^ (-f.qmin).toNat) * 2 ^ k := by rw [e]; ac_rfl
      _ = (zval f (.fin s' c' q') * 2 ^ m) * (zval f (.fin t d r) * 2 ^ l) * 2 ^ k := by rw [hv, hy]
      _ = _ := by ac_rfl
  have hzb : zval f (.fin t d r) ≠ 0 := by
    intro h0
    rw [h0, Int.zero_mul] at hy
    rcases Int.mul_eq_zero.mp hy.symm with h | h
    · exact hj h
    · exact absurd h (Int.ne_of_gt (pw_pos _))
  have hd : d ≠ 0 := by
    rintro rfl
    apply hzb
    show signed t (inUnits 0 r f.qmin) = 0
    unfold inUnits; rw [Nat.zero_mul, signed_zero]
  have hmag : zmag f (.fin s c q) * 2 ^ (-f.qmin).toNat = zmag f (.fin s' c' q') * zmag f (.fin t d r) := by
    have h2 := congrArg Int.natAbs hz
    rw [Int.natAbs_mul, Int.natAbs_mul, natAbs_pow, natAbs_zval, natAbs_zval, natAbs_zval] at h2
    exact h2
  have hun : inUnits c (q - r) (2 * f.qmin - r) = zmag f (.fin s' c' q') * 2 ^ (f.qmin - (2 * f.qmin - r)).toNat * d := by
    have a1 : inUnits c (q - r) (2 * f.qmin - r) = zmag f (.fin s c q) * 2 ^ (-f.qmin).toNat := by
      show c * 2 ^ _ = c * 2 ^ _ * 2 ^ _
      rw [Nat.mul_assoc, ← Nat.pow_add, show (q - r - (2 * f.qmin - r)).toNat = (q - f.qmin).toNat + (-f.qmin).toNat by omega]
    rw [a1, hmag, show (f.qmin - (2 * f.qmin - r)).toNat = (r - f.qmin).toNat by omega]
    show _ * (d * 2 ^ _) = _
    ac_rfl
  have hqt : quotient f (.fin s c q) (.fin t d r) = roundRatio f (s != t) c d (q - r) := by
    show (if d = 0 then _ else _) = _
    rw [if_neg hd]
  have hm2 : zmag f (roundRatio f (s != t) c d (q - r)) = zmag f (.fin s' c' q') :=
    Nat.le_antisymm (zmag_roundRatio_le hf (e0 := 2 * f.qmin - r) (Nat.pos_of_ne_zero hd) hV hn (by omega) (by omega) (Nat.le_of_eq hun))
      (zmag_roundRatio_ge hf (e0 := 2 * f.qmin - r) (Nat.pos_of_ne_zero hd) hV (by omega) (by omega) (Nat.le_of_eq hun.symm))
  have hsg : signed (s != t) (zmag f (.fin s' c' q')) = zval f (.fin s' c' q') := by
    have p0 : zmag f (.fin s c q) = inUnits c q f.qmin := rfl
    have hS : zval f (.fin s c q) * 2 ^ (-f.qmin).toNat * zval f (.fin t d r) = zval f (.fin s' c' q') * (zval f (.fin t d r) * zval f (.fin t d r)) := by rw [hz]; ac_rfl
    by_cases h0 : zmag f (.fin s' c' q') = 0
    · unfold zval; rw [h0, signed_zero, signed_zero]
    · have hbb : 0 < zval f (.fin t d r) * zval f (.fin t d r) := by
        rcases Int.lt_or_gt_of_ne hzb with h | h
        · exact Int.mul_pos_of_neg_of_neg h h
        · exact Int.mul_pos h h
      have hst : zval f (.fin s c q) * zval f (.fin t d r) = signed (s != t) (zmag f (.fin s c q) * zmag f (.fin t d r)) := by
        rw [signed_xor]; rfl
      have e1 : zval f (.fin s' c' q') * (zval f (.fin t d r) * zval f (.fin t d r)) = signed (s != t) (zmag f (.fin s c q) * zmag f (.fin t d r)) * 2 ^ (-f.qmin).toNat := by
        rw [← hS, ← hst]; ac_rfl
      have e2 : signed (s != t) (zmag f (.fin s c q) * zmag f (.fin t d r)) * 2 ^ (-f.qmin).toNat = signed (s != t) (zmag f (.fin s' c' q')) * (zval f (.fin t d r) * zval f (.fin t d r)) := by
        rw [← signed_mulI, show zmag f (.fin s c q) * zmag f (.fin t d r) * 2 ^ (-f.qmin).toNat = zmag f (.fin s' c' q') * (zmag f (.fin t d r) * zmag f (.fin t d r)) by rw [Nat.mul_right_comm, hmag]; ac_rfl, signed_mul]
        congr 1
        unfold zval
        rw [Int.natCast_mul]
        cases (sgn (.fin t d r)) <;> simp [signed, Int.neg_mul_neg]
      exact Int.eq_of_mul_eq_mul_right (Int.ne_of_gt hbb) (e2.symm.trans e1.symm)
  have hzz : zval f (roundRatio f (s != t) c d (q - r)) = zval f (.fin s' c' q') := by
    rw [← hsg]
    show signed (sgn (roundRatio f (s != t) c d (q - r))) (zmag f (roundRatio f (s != t) c d (q - r))) = _
    rw [sgn_roundRatio, hm2]
  rw [hqt]
  exact ⟨dyf_of_zval hf hV hzz, by rw [hzz]; exact hv⟩
theorem Dyf.ofInt {f : Fmt} (hf : Good f) (hq : 0 ≤ f.qmax) {i : Int} (hi : i.natAbs < 2 ^ f.p) : Dyf f i 0 (round f (FP.Core.ofInt i)) := by
  have hn := qmin_neg hf
  refine rnd hf hq (Int.le_refl _) (by omega) hi (by omega) ?_
  unfold inUnits
  rw [signed_mulI, signed_abs, Int.sub_self]
  simp
theorem Dyf.order {f : Fmt} (hf : Good f) {i j : Int} {k : Nat} {x y : Datum} (fx : FP.Core.fits f x) (fy : FP.Core.fits f y) (hx : Dyf f i k x) (hy : Dyf f j k y) : order x y = some (compare i j) := by
  obtain ⟨⟨s, c, q, rfl⟩, hx⟩ := hx
  obtain ⟨⟨t, d, r, rfl⟩, hy⟩ := hy
  rw [order_zval hf fx fy nofun nofun, ← compare_mul_pos _ _ _ (pw_pos k), hx, hy, compare_mul_pos _ _ _ (pw_pos _)]
/-! doubles -/
def Dy (i : Int) (k : Nat) (a : UInt64) : Prop := Dyf b64 i k (val64 a)
theorem qm64 : (0 : Int) ≤ b64.qmax := by decide
theorem Dy.fin {i : Int} {k : Nat} {a : UInt64} (h : Dy i k a) : DFin a := h.1
theorem Dy.nn {i : Int} {k : Nat} {a : UInt64} (h : Dy i k a) : Jvm.Free.Fl.NoNaN64 a := (Jvm.Free.Fl.fin64_core.mpr h.1).noNaN
theorem Dy.to {i j : Int} {k l : Nat} {a : UInt64} (h : Dy i k a) (e : i * 2 ^ l = j * 2 ^ k) : Dy j l a := Dyf.to h e
theorem Dy.up {i : Int} {k : Nat} {a : UInt64} (h : Dy i k a) (l : Nat) : Dy (i * 2 ^ l) (k + l) a := Dyf.up h l
theorem Dy.add {i j : Int} {k : Nat} {a b : UInt64} (ha : Dy i k a) (hb : Dy j k b) (hi : (i + j).natAbs < 9007199254740992) (hk : k ≤ 1074) : Dy (i + j) k (FP.dadd a b) := by
  show Dyf b64 _ _ (val64 (dadd a b))
  rw [val64_dadd]
  exact Dyf.sum good_b64 qm64 (val64_fits a) (val64_fits b) ha hb hi (by rw [qmin_b64]; omega)
theorem Dy.sub {i j : Int} {k : Nat} {a b : UInt64} (ha : Dy i k a) (hb : Dy j k b) (hi : (i - j).natAbs < 9007199254740992) (hk : k ≤ 1074) : Dy (i - j) k (FP.dsub a b) := by
  show Dyf b64 _ _ (val64 (dsub a b))
  rw [val64_dsub]
  exact Dyf.sum good_b64 qm64 (val64_fits a) (negate_fits (val64_fits b)) ha hb.neg hi (by rw [qmin_b64]; omega)
theorem Dy.mul {i j : Int} {k l : Nat} {a b : UInt64} (ha : Dy i k a) (hb : Dy j l b) (hi : (i * j).natAbs < 9007199254740992) (hk : k + l ≤ 1074) : Dy (i * j) (k + l) (FP.dmul a b) := by
  show Dyf b64 _ _ (val64 (dmul a b))
  rw [val64_dmul]
  exact Dyf.prod good_b64 qm64 (val64_fits a) (val64_fits b) ha hb hi (by rw [qmin_b64]; omega)
theorem Dy.div {i j n : Int} {k l m : Nat} {a b : UInt64} (ha : Dy i k a) (hb : Dy j l b) (hj : j ≠ 0) (hi : n.natAbs < 9007199254740992) (hk : m ≤ 1074) (e : i * 2 ^ l * 2 ^ m = n * j * 2 ^ k) : Dy n m (FP.ddiv a b) := by
  show Dyf b64 _ _ (val64 (ddiv a b))
  rw [val64_ddiv]
  exact Dyf.quot good_b64 qm64 (val64_fits a) (val64_fits b) ha hb hj hi (by rw [qmin_b64]; omega) e
theorem Dy.neg {i : Int} {k : Nat} {a : UInt64} (ha : Dy i k a) : Dy (-i) k (FP.dneg a) := by
  show Dyf b64 _ _ (val64 (FP.dneg a))
  rw [Jvm.FP.val64_dneg]
  exact Dyf.neg ha
theorem Dy.i2d (x : Int32) : Dy x.toInt 0 (FP.i2d x) := by
  show Dyf b64 _ _ (val64 (FP.Core.i2d x))
  rw [val64_i2d]
  exact Dyf.ofInt good_b64 qm64 (by have := int32_abs x; show _ < 2 ^ 53; omega)
theorem Dy.l2d {x : Int64} (h : x.toInt.natAbs < 9007199254740992) : Dy x.toInt 0 (FP.l2d x) := by
  show Dyf b64 _ _ (val64 (FP.Core.l2d x))
  rw [val64_l2d]
  exact Dyf.ofInt good_b64 qm64 h
theorem Dy.cmp {i j : Int} {k : Nat} {a b : UInt64} (ha : Dy i k a) (hb : Dy j k b) : FP.dcmp a b = some (compare i j) :=
  Dyf.order good_b64 (val64_fits a) (val64_fits b) ha hb
theorem Dy.cmp_eq {i j : Int} {k : Nat} {a b : UInt64} (ha : Dy i k a) (hb : Dy j k b) (e : i = j) (o : ClassFile.CmpOp) : cmpValue (FP.dcmp a b) o = 0 := by
  rw [ha.cmp hb, e, compare_self_int]; rfl
theorem Dy.cmp_lt {i j : Int} {k : Nat} {a b : UInt64} (ha : Dy i k a) (hb : Dy j k b) (e : i < j) (o : ClassFile.CmpOp) : cmpValue (FP.dcmp a b) o = -1 := by
  rw [ha.cmp hb, show compare i j = .lt by rw [compare_ite, if_pos e]]; rfl
theorem Dy.cmp_gt {i j : Int} {k : Nat} {a b : UInt64} (ha : Dy i k a) (hb : Dy j k b) (e : j < i) (o : ClassFile.CmpOp) : cmpValue (FP.dcmp a b) o = 1 := by
  rw [ha.cmp hb, show compare i j = .gt by rw [compare_ite, if_neg (by omega), if_neg (by omega)]]; rfl
theorem dy_of {i : Int} {k : Nat} {a : UInt64} {s : Bool} {c : Nat} {q : Int} (h : val64 a = .fin s c q) (e : zval b64 (.fin s c q) * 2 ^ k = i * 2 ^ 1074) : Dy i k a :=
  ⟨⟨s, c, q, h⟩, by rw [h, e]; rfl⟩
theorem dy0 (k : Nat) : Dy 0 k (0 : UInt64) := dy_of (s := false) (c := 0) (q := -1074) (by decide +kernel) (by
  rw [show zval b64 (.fin false 0 (-1074)) = 0 from rfl, Int.zero_mul, Int.zero_mul])
theorem dy1 (k : Nat) : Dy (2 ^ k) k (4607182418800017408 : UInt64) := dy_of (s := false) (c := 2 ^ 52) (q := -52) (by decide +kernel) (by
  rw [show zval b64 (.fin false (2 ^ 52) (-52)) = 2 ^ 1074 by decide +kernel, Int.mul_comm])
theorem Dy.ge {i j : Int} {k : Nat} {a b : UInt64} (ha : Dy i k a) (hb : Dy j k b) (e : j ≤ i) (o : ClassFile.CmpOp) : ¬ (cmpValue (FP.dcmp a b) o < (0 : Int32)) := by
  rcases Int.lt_or_eq_of_le e with h | h
  · rw [ha.cmp_gt hb h]; decide
  · rw [ha.cmp_eq hb h.symm]; decide
theorem Dy.le {i j : Int} {k : Nat} {a b : UInt64} (ha : Dy i k a) (hb : Dy j k b) (e : i ≤ j) (o : ClassFile.CmpOp) : ¬ ((0 : Int32) < cmpValue (FP.dcmp a b) o) := by
  rcases Int.lt_or_eq_of_le e with h | h
  · rw [ha.cmp_lt hb h]; decide
  · rw [ha.cmp_eq hb h]; decide
theorem Dy.lt_inf {i : Int} {k : Nat} {a : UInt64} (ha : Dy i k a) (o : ClassFile.CmpOp) : cmpValue (FP.dcmp a (9218868437227405312 : UInt64)) o < (0 : Int32) := by
  rw [Jvm.RoadKit.dcmp_pinf (Jvm.Free.Fl.fin64_core.mpr ha.1)]; decide
theorem isfin {a : UInt64} (h : DFin a) : ¬ ((0 : Int32) < cmpValue (FP.dcmp (a &&& 0x7fffffffffffffff) (9218868437227405311 : UInt64)) .g) := by
  have hn : dIsNaN a = false := (notNaN_iff a).mpr (by obtain ⟨s, c, q, e⟩ := h; rw [e]; exact nofun)
  rcases (le_max hn).mpr h with e | e <;> rw [show FP.dcmp (a &&& 0x7fffffffffffffff) (9218868437227405311 : UInt64) = _ from e] <;> decide
theorem since0 (s : State) : s.Since s.vm 0 := ⟨State.Warmed39.refl s, fun j p h1 h2 => by
  rw [Array.getElem?_eq_none h1] at h2; cases h2⟩
theorem i2d_nz {v : Int32} (h : v ≠ 0) : ¬ DZero (FP.i2d v) := fun q => i2d_ne_zero h ((zero_bits2 _).mp q)
theorem nn_of {x : UInt64} (h : dIsNaN x = false) : Jvm.Free.Fl.NoNaN64 x := Jvm.Free.Fl.noNaN64_no.mpr h
theorem no_of {x : UInt64} (h : Jvm.Free.Fl.NoNaN64 x) : dIsNaN x = false := Jvm.Free.Fl.noNaN64_no.mp h
theorem no_fin {x : UInt64} (h : DFin x) : dIsNaN x = false := (notNaN_iff x).mpr (by obtain ⟨s, c, q, e⟩ := h; rw [e]; exact nofun)
theorem nn_div {a : UInt64} {v : Int32} (ha : dIsNaN a = false) (h : v ≠ 0) : Jvm.Free.Fl.NoNaN64 (FP.ddiv a (FP.i2d v)) := nn_of (ddiv_out ha (i2d_fin v) (i2d_nz h))
theorem fin_div (a : Int32) {v : Int32} (h : v ≠ 0) : DFin (FP.ddiv (FP.i2d a) (FP.i2d v)) := by
  have h1 := i2d_mag a
  have h2 := i2d_big (v := v) (fun q => h (Int32.toInt_inj.mp q))
  exact fin_of_lt (ddiv_mag h1 h2.1 h2.2 (by decide) (by decide)) (by decide)
end Jvm.OwnFp
namespace Jvm.Pilot.@@N@@
open Jvm Jvm.ClassFile Sem Op Lib Jvm.Free Jvm.Stand Jvm.LawKit Jvm.RoadKit Bundle Jvm.Pilot.@@N@@.Jvm.D
open Jvm.OwnFp
theorem own_n4 (x n : Int32) (h : n = (x &&& (3 : Int32))) : n = 0 ∨ n = 1 ∨ n = 2 ∨ n = 3 := by
  have m := c_and x 3 (by decide)
  rw [← h, show (3 : Int32).toInt = 3 by decide] at m
  have e : n = Int32.ofInt n.toInt := (Int32.ofInt_toInt n).symm
  have : n.toInt = 0 ∨ n.toInt = 1 ∨ n.toInt = 2 ∨ n.toInt = 3 := by omega
  rcases this with q | q | q | q <;> rw [q] at e <;> simp [e] <;> decide
theorem own_c0 : FP.i2d (1 : Int32) = (4607182418800017408 : UInt64) := by decide +kernel
theorem own_c1 : FP.i2d (2 : Int32) = (4611686018427387904 : UInt64) := by decide +kernel
theorem own_c2 : FP.i2d (3 : Int32) = (4613937818241073152 : UInt64) := by decide +kernel
theorem own_ranks {g1 g2 g3 r0 r1 r2 : Int32} (h1 : r0 = ((1 : Int32) + (g1 &&& (536870911 : Int32)))) (h2 : r1 = ((r0 + (1 : Int32)) + (g2 &&& (536870911 : Int32)))) (h3 : r2 = ((r1 + (1 : Int32)) + (g3 &&& (536870911 : Int32)))) : r0 ≠ 0 ∧ r1 ≠ 0 ∧ r2 ≠ 0 := by
  have a1 := c_and g1 536870911 (by decide); have a2 := c_and g2 536870911 (by decide); have a3 := c_and g3 536870911 (by decide)
  rw [show (536870911 : Int32).toInt = 536870911 by decide] at a1 a2 a3
  have s1 := c_iadd 1 (g1 &&& 536870911); have s2 := c_iadd r0 1; have s3 := c_iadd (r0 + 1) (g2 &&& 536870911); have s4 := c_iadd r1 1; have s5 := c_iadd (r1 + 1) (g3 &&& 536870911)
  rw [show (1 : Int32).toInt = 1 by decide] at s1 s2 s4
  rw [← h1] at s1; rw [← h2] at s3; rw [← h3] at s5
  have q1 := rng32 r0; have q2 := rng32 r1; have q3 := rng32 r2; have q4 := rng32 (r0 + 1); have q5 := rng32 (r1 + 1)
  refine ⟨fun e => ?_, fun e => ?_, fun e => ?_⟩ <;> rw [← Int32.toInt_inj, show (0 : Int32).toInt = 0 by decide] at e <;> omega
theorem ef_1_RRIIR (m : MethodId) (x0 : Addr) (x1 : Addr) (x2 : Int32) (x3 : Int32) (x4 : Addr) : entryFrame m #[(.ref x0), (.ref x1), (.int x2), (.int x3), (.ref x4)] 5 = mkF m 0 #[.val (.ref x0), .val (.ref x1), .val (.int x2), .val (.int x3), .val (.ref x4)] [] := by first | (simp [entryFrame, mkF, argsToLocals, Value.category]; done) | rfl
theorem d1_0 : decode prog_10_method_1_code 0 = .ok (.aload_n 0, 1) := by decide +kernel
theorem d1_1 : decode prog_10_method_1_code 1 = .ok (.invokespecial 1, 3) := by decide +kernel
theorem d1_4 : decode prog_10_method_1_code 4 = .ok (.aload_n 0, 1) := by decide +kernel
theorem d1_5 : decode prog_10_method_1_code 5 = .ok (.aload_n 1, 1) := by decide +kernel
theorem d1_6 : decode prog_10_method_1_code 6 = .ok (.putfield 7, 3) := by decide +kernel
theorem d1_9 : decode prog_10_method_1_code 9 = .ok (.aload_n 0, 1) := by decide +kernel
theorem d1_10 : decode prog_10_method_1_code 10 = .ok (.iload_n 2, 1) := by decide +kernel
theorem d1_11 : decode prog_10_method_1_code 11 = .ok (.putfield 13, 3) := by decide +kernel
theorem d1_14 : decode prog_10_method_1_code 14 = .ok (.aload_n 0, 1) := by decide +kernel
theorem d1_15 : decode prog_10_method_1_code 15 = .ok (.iload_n 3, 1) := by decide +kernel
theorem d1_16 : decode prog_10_method_1_code 16 = .ok (.putfield 17, 3) := by decide +kernel
theorem d1_19 : decode prog_10_method_1_code 19 = .ok (.aload_n 0, 1) := by decide +kernel
theorem d1_20 : decode prog_10_method_1_code 20 = .ok (.aload 4, 2) := by decide +kernel
theorem d1_22 : decode prog_10_method_1_code 22 = .ok (.putfield 20, 3) := by decide +kernel
theorem d1_25 : decode prog_10_method_1_code 25 = .ok (.return_, 1) := by decide +kernel
def Q_rm1 (Z : State) (a1 : Addr) (a2 : Addr) (p1 : Int32) (p2 : Int32) (a3 : Addr) (h0 : Heap) (n0 : Nat) (v : Option Value) (h : Heap) (L : List Loc) : Prop := v = none ∧ Fr n0 L ∧ Keep h0 h [a1] ∧ Exa Z h a1 "com/example/round2/round2/eval/TopicResult" ∧ Fld Z h a1 "com/example/round2/round2/eval/TopicResult" "relevant" "I" (.int p2) ∧ Fld Z h a1 "com/example/round2/round2/eval/TopicResult" "relevantRanks" "[I" (.ref a3)
theorem pn_com_2fexample_2fround2_2fround2_2feval_2fTopicResult : plainName "com/example/round2/round2/eval/TopicResult" = true := by first | (simp [plainName, overriddenIn]; done) | decide +kernel
set_option maxRecDepth 65536 in
set_option maxHeartbeats 40000000 in
theorem rm1 (l : Launch) (Z : State) (a0 : Array Value) (hw : ∀ d ∈ tables_1, d.before a0 Z = true) (ws : List Jvm.Cond) (a1 : Addr) (a2 : Addr) (p1 : Int32) (p2 : Int32) (a3 : Addr) (h0 : Heap) (n0 : Nat) (Z0 : n0 ≤ h0.size) (F0 : Fld Z h0 a1 "com/example/round2/round2/eval/TopicResult" "topic" "Ljava/lang/String;" .null) (F1 : Fld Z h0 a1 "com/example/round2/round2/eval/TopicResult" "retrieved" "I" (.int (0 : Int32))) (F2 : Fld Z h0 a1 "com/example/round2/round2/eval/TopicResult" "relevant" "I" (.int (0 : Int32))) (F3 : Fld Z h0 a1 "com/example/round2/round2/eval/TopicResult" "relevantRanks" "[I" .null) (E1 : Exa Z h0 a1 "com/example/round2/round2/eval/TopicResult") (ga : n0 ≤ a1) :
    MetFree l (⟨"com/example/round2/round2/eval/TopicResult", "<init>", "(Ljava/lang/String;II[I)V"⟩ : MethodName) (head1 (Jvm.Cond.code (⟨"com/example/round2/round2/eval/TopicResult", "<init>", "(Ljava/lang/String;II[I)V"⟩ : MethodName) prog_10_method_1_code 5 none :: ws) ({ frames := 1, cells := 0, slots := 0, locals := 12 } : Room)) (fun a U => a = #[(.ref a1), (.ref a2), (.int p1), (.int p2), (.ref a3)] ∧ Z.Warmed39 U.vm ∧ U.heap = h0) (fun _ _ _ _ _ => True) (fun _ U o U' => ∃ v L, o = .returned v ∧ Q_rm1 Z a1 a2 p1 p2 a3 h0 n0 v U'.heap L ∧ FrameEnd U o U' L ({ frames := 1, cells := 0, slots := 0, locals := 12 } : Room).cells ({ frames := 1, cells := 0, slots := 0, locals := 12 } : Room).slots) := by
  refine MetFree.of_bodySF (plainFor_of_name pn_com_2fexample_2fround2_2fround2_2feval_2fTopicResult) hisR ?_
  intro p e s m args below meth c s₁ Bd hml0 hP hK
  obtain ⟨rfl, hZ, hh⟩ := hP
  have hx := Bd.exec
  have hby := Bd.bytes
  have hml : c.maxLocals = 5 := hml0
  have hown : s.vm.findClass "com/example/round2/round2/eval/TopicResult" = some m.cls := findClass_of_methodNamed Bd.named
  have hnm := (name_of_methodNamed Bd.named Bd.method).1
  have X0 : Stand p l e ({ frames := 1, cells := 0, slots := 0, locals := 12 } : Room) s m #[(.ref a1), (.ref a2), (.int p1), (.int p2), (.ref a3)] below meth c s₁ [] 0 0 := Stand.of_body Bd
  have e0 : s₁.heap = h0 := by rw [← hh, Bd.state]; rfl
  have N0 := Fr.nil n0
  have k0 : ∀ t, Steps p.tables e below (s₁.setTop (mkF m 0 #[.val (.ref a1), .val (.ref a2), .val (.int p1), .val (.int p2), .val (.ref a3)] [])) t → Steps p.tables e below (s₁.setTop (entryFrame m #[(.ref a1), (.ref a2), (.int p1), (.int p2), (.ref a3)] 5)) t := fun t k => castTop (ef_1_RRIIR m a1 a2 p1 p2 a3) k
  have K0 := Keep.refl h0 [a1]
  have k101 : ∀ t, Steps p.tables e below (s₁.setTop (mkF m 1 #[.val (.ref a1), .val (.ref a2), .val (.int p1), .val (.int p2), .val (.ref a3)] [(.ref a1)])) t → Steps p.tables e below (s₁.setTop (entryFrame m #[(.ref a1), (.ref a2), (.int p1), (.int p2), (.ref a3)] 5)) t := fun t k => k0 t (by
    show Steps p.tables e below (s₁.setTop (mkF m 0 #[.val (.ref a1), .val (.ref a2), .val (.int p1), .val (.int p2), .val (.ref a3)] [])) _
    refine XS.aloadN X0.here hx rfl (hb hby d1_0) rfl rfl ?_
    exact k)
  obtain ⟨T102, X102, e102, st102⟩ := initO X0 hx hZ hown (hw _ (List.mem_of_getElem? (i := 17) rfl)) (hw _ (List.mem_of_getElem? (i := 18) rfl)) (hw _ (List.mem_of_getElem? (i := 19) rfl)) e0 (g := (mkF m 1 #[.val (.ref a1), .val (.ref a2), .val (.int p1), .val (.int p2), .val (.ref a3)] [(.ref a1)])) rfl (by rw [hml]; rfl) rfl (hb hby d1_1) (by decide) (W := 0) (by show 2 * 0 + _ ≤ _; exact Nat.le_of_eq rfl) (by decide)
  have k103 : ∀ t, Steps p.tables e below (T102.setTop (mkF m 4 #[.val (.ref a1), .val (.ref a2), .val (.int p1), .val (.int p2), .val (.ref a3)] [])) t → Steps p.tables e below (s₁.setTop (entryFrame m #[(.ref a1), (.ref a2), (.int p1), (.int p2), (.ref a3)] 5)) t := fun t k => k101 t (st102 t k)
  have k104 : ∀ t, Steps p.tables e below (T102.setTop (mkF m 6 #[.val (.ref a1), .val (.ref a2), .val (.int p1), .val (.int p2), .val (.ref a3)] [(.ref a2), (.ref a1)])) t → Steps p.tables e below (s₁.setTop (entryFrame m #[(.ref a1), (.ref a2), (.int p1), (.int p2), (.ref a3)] 5)) t := fun t k => k103 t (by
    show Steps p.tables e below (T102.setTop (mkF m 4 #[.val (.ref a1), .val (.ref a2), .val (.int p1), .val (.int p2), .val (.ref a3)] [])) _
    refine XS.aloadN X102.here hx rfl (hb hby d1_4) rfl rfl ?_
    show Steps p.tables e below (T102.setTop (mkF m 5 #[.val (.ref a1), .val (.ref a2), .val (.int p1), .val (.int p2), .val (.ref a3)] [(.ref a1)])) _
    refine XS.aloadN X102.here hx rfl (hb hby d1_5) rfl rfl ?_
    exact k)
  obtain ⟨T105, h105, X105, e105, W105, st105⟩ := putF X102 hx hZ hown (host := "") (Or.inl (hw _ (List.mem_of_getElem? (i := 20) rfl))) Via.refl e102 F0 E1 (Or.inr ⟨(hw _ (List.mem_of_getElem? (i := 21) rfl)), rfl, hnm⟩) (hw _ (List.mem_of_getElem? (i := 4) rfl)) (ty := (.object "java/lang/String")) (by decide) rfl rfl (g := (mkF m 6 #[.val (.ref a1), .val (.ref a2), .val (.int p1), .val (.int p2), .val (.ref a3)] [(.ref a2), (.ref a1)])) rfl rfl (hb hby d1_6)
  have F106 := F0.same W105
  have F107 := F1.other W105 (Or.inr (slot_ne (Or.inr (hw _ (List.mem_of_getElem? (i := 23) rfl))) (Or.inr (hw _ (List.mem_of_getElem? (i := 21) rfl))) (by decide) (t := .int) (t' := (.object "java/lang/String")) (by decide) (by decide)))
  have F108 := F2.other W105 (Or.inr (slot_ne (Or.inr (hw _ (List.mem_of_getElem? (i := 25) rfl))) (Or.inr (hw _ (List.mem_of_getElem? (i := 21) rfl))) (by decide) (t := .int) (t' := (.object "java/lang/String")) (by decide) (by decide)))
  have F109 := F3.other W105 (Or.inr (slot_ne (Or.inr (hw _ (List.mem_of_getElem? (i := 27) rfl))) (Or.inr (hw _ (List.mem_of_getElem? (i := 21) rfl))) (by decide) (t := (.array .int)) (t' := (.object "java/lang/String")) (by decide) (by decide)))
  have F110 := E1.wr W105
  have Z111 : n0 ≤ h105.size := Nat.le_trans Z0 (Nat.le_of_eq W105.size.symm)
  have N112 := Fr.snoc X105 N0 ga
  have K113 := K0.wr W105 (Or.inl (List.mem_of_getElem? (i := 0) rfl))
  have k114 : ∀ t, Steps p.tables e below (T105.setTop (mkF m 9 #[.val (.ref a1), .val (.ref a2), .val (.int p1), .val (.int p2), .val (.ref a3)] [])) t → Steps p.tables e below (s₁.setTop (entryFrame m #[(.ref a1), (.ref a2), (.int p1), (.int p2), (.ref a3)] 5)) t := fun t k => k104 t (st105 t k)
  have k115 : ∀ t, Steps p.tables e below (T105.setTop (mkF m 11 #[.val (.ref a1), .val (.ref a2), .val (.int p1), .val (.int p2), .val (.ref a3)] [(.int p1), (.ref a1)])) t → Steps p.tables e below (s₁.setTop (entryFrame m #[(.ref a1), (.ref a2), (.int p1), (.int p2), (.ref a3)] 5)) t := fun t k => k114 t (by
    show Steps p.tables e below (T105.setTop (mkF m 9 #[.val (.ref a1), .val (.ref a2), .val (.int p1), .val (.int p2), .val (.ref a3)] [])) _
    refine XS.aloadN X105.here hx rfl (hb hby d1_9) rfl rfl ?_
    show Steps p.tables e below (T105.setTop (mkF m 10 #[.val (.ref a1), .val (.ref a2), .val (.int p1), .val (.int p2), .val (.ref a3)] [(.ref a1)])) _
    refine XS.iloadN X105.here hx rfl (hb hby d1_10) rfl ?_
    exact k)
  obtain ⟨T116, h116, X116, e116, W116, st116⟩ := putF X105 hx hZ hown (host := "") (Or.inl (hw _ (List.mem_of_getElem? (i := 22) rfl))) Via.refl e105 F107 F110 (Or.inr ⟨(hw _ (List.mem_of_getElem? (i := 23) rfl)), rfl, hnm⟩) (hw _ (List.mem_of_getElem? (i := 4) rfl)) (ty := .int) (by decide) rfl rfl (g := (mkF m 11 #[.val (.ref a1), .val (.ref a2), .val (.int p1), .val (.int p2), .val (.ref a3)] [(.int p1), (.ref a1)])) rfl rfl (hb hby d1_11)
  have F117 := F107.same W116
  have F118 := F108.other W116 (Or.inr (slot_ne (Or.inr (hw _ (List.mem_of_getElem? (i := 25) rfl))) (Or.inr (hw _ (List.mem_of_getElem? (i := 23) rfl))) (by decide) (t := .int) (t' := .int) (by decide) (by decide)))
  have F119 := F109.other W116 (Or.inr (slot_ne (Or.inr (hw _ (List.mem_of_getElem? (i := 27) rfl))) (Or.inr (hw _ (List.mem_of_getElem? (i := 23) rfl))) (by decide) (t := (.array .int)) (t' := .int) (by decide) (by decide)))
  have F120 := F110.wr W116
  have F121 := F106.other W116 (Or.inr (slot_ne (Or.inr (hw _ (List.mem_of_getElem? (i := 21) rfl))) (Or.inr (hw _ (List.mem_of_getElem? (i := 23) rfl))) (by decide) (t := (.object "java/lang/String")) (t' := .int) (by decide) (by decide)))
  have Z122 : n0 ≤ h116.size := Nat.le_trans Z111 (Nat.le_of_eq W116.size.symm)
  have N123 := Fr.snoc X116 N112 ga
  have K124 := K113.wr W116 (Or.inl (List.mem_of_getElem? (i := 0) rfl))
  have k125 : ∀ t, Steps p.tables e below (T116.setTop (mkF m 14 #[.val (.ref a1), .val (.ref a2), .val (.int p1), .val (.int p2), .val (.ref a3)] [])) t → Steps p.tables e below (s₁.setTop (entryFrame m #[(.ref a1), (.ref a2), (.int p1), (.int p2), (.ref a3)] 5)) t := fun t k => k115 t (st116 t k)
  have k126 : ∀ t, Steps p.tables e below (T116.setTop (mkF m 16 #[.val (.ref a1), .val (.ref a2), .val (.int p1), .val (.int p2), .val (.ref a3)] [(.int p2), (.ref a1)])) t → Steps p.tables e below (s₁.setTop (entryFrame m #[(.ref a1), (.ref a2), (.int p1), (.int p2), (.ref a3)] 5)) t := fun t k => k125 t (by
    show Steps p.tables e below (T116.setTop (mkF m 14 #[.val (.ref a1), .val (.ref a2), .val (.int p1), .val (.int p2), .val (.ref a3)] [])) _
    refine XS.aloadN X116.here hx rfl (hb hby d1_14) rfl rfl ?_
    show Steps p.tables e below (T116.setTop (mkF m 15 #[.val (.ref a1), .val (.ref a2), .val (.int p1), .val (.int p2), .val (.ref a3)] [(.ref a1)])) _
    refine XS.iloadN X116.here hx rfl (hb hby d1_15) rfl ?_
    exact k)
  obtain ⟨T127, h127, X127, e127, W127, st127⟩ := putF X116 hx hZ hown (host := "") (Or.inl (hw _ (List.mem_of_getElem? (i := 24) rfl))) Via.refl e116 F118 F120 (Or.inr ⟨(hw _ (List.mem_of_getElem? (i := 25) rfl)), rfl, hnm⟩) (hw _ (List.mem_of_getElem? (i := 4) rfl)) (ty := .int) (by decide) rfl rfl (g := (mkF m 16 #[.val (.ref a1), .val (.ref a2), .val (.int p1), .val (.int p2), .val (.ref a3)] [(.int p2), (.ref a1)])) rfl rfl (hb hby d1_16)
  have F128 := F118.same W127
  have F129 := F119.other W127 (Or.inr (slot_ne (Or.inr (hw _ (List.mem_of_getElem? (i := 27) rfl))) (Or.inr (hw _ (List.mem_of_getElem? (i := 25) rfl))) (by decide) (t := (.array .int)) (t' := .int) (by decide) (by decide)))
  have F130 := F120.wr W127
  have F131 := F121.other W127 (Or.inr (slot_ne (Or.inr (hw _ (List.mem_of_getElem? (i := 21) rfl))) (Or.inr (hw _ (List.mem_of_getElem? (i := 25) rfl))) (by decide) (t := (.object "java/lang/String")) (t' := .int) (by decide) (by decide)))
  have F132 := F117.other W127 (Or.inr (slot_ne (Or.inr (hw _ (List.mem_of_getElem? (i := 23) rfl))) (Or.inr (hw _ (List.mem_of_getElem? (i := 25) rfl))) (by decide) (t := .int) (t' := .int) (by decide) (by decide)))
  have Z133 : n0 ≤ h127.size := Nat.le_trans Z122 (Nat.le_of_eq W127.size.symm)
  have N134 := Fr.snoc X127 N123 ga
  have K135 := K124.wr W127 (Or.inl (List.mem_of_getElem? (i := 0) rfl))
  have k136 : ∀ t, Steps p.tables e below (T127.setTop (mkF m 19 #[.val (.ref a1), .val (.ref a2), .val (.int p1), .val (.int p2), .val (.ref a3)] [])) t → Steps p.tables e below (s₁.setTop (entryFrame m #[(.ref a1), (.ref a2), (.int p1), (.int p2), (.ref a3)] 5)) t := fun t k => k126 t (st127 t k)
  have k137 : ∀ t, Steps p.tables e below (T127.setTop (mkF m 22 #[.val (.ref a1), .val (.ref a2), .val (.int p1), .val (.int p2), .val (.ref a3)] [(.ref a3), (.ref a1)])) t → Steps p.tables e below (s₁.setTop (entryFrame m #[(.ref a1), (.ref a2), (.int p1), (.int p2), (.ref a3)] 5)) t := fun t k => k136 t (by
    show Steps p.tables e below (T127.setTop (mkF m 19 #[.val (.ref a1), .val (.ref a2), .val (.int p1), .val (.int p2), .val (.ref a3)] [])) _
    refine XS.aloadN X127.here hx rfl (hb hby d1_19) rfl rfl ?_
    show Steps p.tables e below (T127.setTop (mkF m 20 #[.val (.ref a1), .val (.ref a2), .val (.int p1), .val (.int p2), .val (.ref a3)] [(.ref a1)])) _
    refine XS.aload X127.here hx rfl (hb hby d1_20) rfl rfl ?_
    exact k)
  obtain ⟨T138, h138, X138, e138, W138, st138⟩ := putF X127 hx hZ hown (host := "") (Or.inl (hw _ (List.mem_of_getElem? (i := 26) rfl))) Via.refl e127 F129 F130 (Or.inr ⟨(hw _ (List.mem_of_getElem? (i := 27) rfl)), rfl, hnm⟩) (hw _ (List.mem_of_getElem? (i := 4) rfl)) (ty := (.array .int)) (by decide) rfl rfl (g := (mkF m 22 #[.val (.ref a1), .val (.ref a2), .val (.int p1), .val (.int p2), .val (.ref a3)] [(.ref a3), (.ref a1)])) rfl rfl (hb hby d1_22)
  have F139 := F129.same W138
  have F140 := F130.wr W138
  have F141 := F131.other W138 (Or.inr (slot_ne (Or.inr (hw _ (List.mem_of_getElem? (i := 21) rfl))) (Or.inr (hw _ (List.mem_of_getElem? (i := 27) rfl))) (by decide) (t := (.object "java/lang/String")) (t' := (.array .int)) (by decide) (by decide)))
  have F142 := F132.other W138 (Or.inr (slot_ne (Or.inr (hw _ (List.mem_of_getElem? (i := 23) rfl))) (Or.inr (hw _ (List.mem_of_getElem? (i := 27) rfl))) (by decide) (t := .int) (t' := (.array .int)) (by decide) (by decide)))
  have F143 := F128.other W138 (Or.inr (slot_ne (Or.inr (hw _ (List.mem_of_getElem? (i := 25) rfl))) (Or.inr (hw _ (List.mem_of_getElem? (i := 27) rfl))) (by decide) (t := .int) (t' := (.array .int)) (by decide) (by decide)))
  have Z144 : n0 ≤ h138.size := Nat.le_trans Z133 (Nat.le_of_eq W138.size.symm)
  have N145 := Fr.snoc X138 N134 ga
  have K146 := K135.wr W138 (Or.inl (List.mem_of_getElem? (i := 0) rfl))
  have k147 : ∀ t, Steps p.tables e below (T138.setTop (mkF m 25 #[.val (.ref a1), .val (.ref a2), .val (.int p1), .val (.int p2), .val (.ref a3)] [])) t → Steps p.tables e below (s₁.setTop (entryFrame m #[(.ref a1), (.ref a2), (.int p1), (.int p2), (.ref a3)] 5)) t := fun t k => k137 t (st138 t k)
  obtain ⟨fs, hr, hrun, hended, hW, hsame⟩ := X138.leave (v := none) (fun _ => rfl)
  refine ⟨_, _, k147 _ (X138.returnOut hx Bd.returns (hb hby d1_25) hr), hrun, hended, _, _, rfl, ?_, ⟨_, rfl⟩, hW, hsame.mono (by decide) (by decide)⟩
  show Q_rm1 Z a1 a2 p1 p2 a3 h0 n0 _ T138.heap _
  rw [e138]
  exact ⟨rfl, N145, K146, F140, F143, F139⟩
theorem ef_3_R (m : MethodId) (x0 : Addr) : entryFrame m #[(.ref x0)] 4 = mkF m 0 #[.val (.ref x0), .unset, .unset, .unset] [] := by first | (simp [entryFrame, mkF, argsToLocals, Value.category]; done) | rfl
theorem d3_0 : decode prog_10_method_6_code 0 = .ok (.dconst 0, 1) := by decide +kernel
theorem d3_1 : decode prog_10_method_6_code 1 = .ok (.dstore_n 1, 1) := by decide +kernel
theorem d3_2 : decode prog_10_method_6_code 2 = .ok (.iconst 0, 1) := by decide +kernel
theorem d3_3 : decode prog_10_method_6_code 3 = .ok (.istore_n 3, 1) := by decide +kernel
theorem d3_4 : decode prog_10_method_6_code 4 = .ok (.iload_n 3, 1) := by decide +kernel
theorem d3_5 : decode prog_10_method_6_code 5 = .ok (.aload_n 0, 1) := by decide +kernel
theorem d3_6 : decode prog_10_method_6_code 6 = .ok (.getfield 20, 3) := by decide +kernel
theorem d3_9 : decode prog_10_method_6_code 9 = .ok (.arraylength, 1) := by decide +kernel
theorem d3_10 : decode prog_10_method_6_code 10 = .ok (.if_icmp .ge 24, 3) := by decide +kernel
theorem d3_34 : decode prog_10_method_6_code 34 = .ok (.aload_n 0, 1) := by decide +kernel
theorem d3_35 : decode prog_10_method_6_code 35 = .ok (.getfield 17, 3) := by decide +kernel
theorem d3_38 : decode prog_10_method_6_code 38 = .ok (.ifCond .ne 7, 3) := by decide +kernel
theorem d3_45 : decode prog_10_method_6_code 45 = .ok (.dload_n 1, 1) := by decide +kernel
theorem d3_46 : decode prog_10_method_6_code 46 = .ok (.aload_n 0, 1) := by decide +kernel
theorem d3_47 : decode prog_10_method_6_code 47 = .ok (.getfield 17, 3) := by decide +kernel
theorem d3_50 : decode prog_10_method_6_code 50 = .ok (.i2d, 1) := by decide +kernel
theorem d3_51 : decode prog_10_method_6_code 51 = .ok (.ddiv, 1) := by decide +kernel
theorem d3_52 : decode prog_10_method_6_code 52 = .ok (.dreturn, 1) := by decide +kernel
def Q_avp0_0 (Z : State) (a1 : Addr) (a2 : Addr) (k1 : ClassId) (p2 : Int32) (h0 : Heap) (n0 : Nat) (v : Option Value) (h : Heap) (L : List Loc) : Prop := v = some (.double (FP.ddiv (0 : UInt64) (FP.i2d p2))) ∧ Fr n0 L ∧ h = h0
set_option maxRecDepth 65536 in
set_option maxHeartbeats 40000000 in
theorem avp0_0 (l : Launch) (Z : State) (a0 : Array Value) (hw : ∀ d ∈ tables_1, d.before a0 Z = true) (ws : List Jvm.Cond) (a1 : Addr) (a2 : Addr) (k1 : ClassId) (p2 : Int32) (h0 : Heap) (n0 : Nat) (Z0 : n0 ≤ h0.size) (F1 : Fld Z h0 a1 "com/example/round2/round2/eval/TopicResult" "relevantRanks" "[I" (.ref a2)) (F2 : Fld Z h0 a1 "com/example/round2/round2/eval/TopicResult" "relevant" "I" (.int p2)) (V1 : Arv Z h0 a2 k1 .int (0 : Int32) [] (.int (0 : Int32))) (c38 : ¬ (p2 = (0 : Int32))) (nn51 : Jvm.Free.Fl.NoNaN64 (FP.ddiv (0 : UInt64) (FP.i2d p2))) :
    MetFree l (⟨"com/example/round2/round2/eval/TopicResult", "averagePrecision", "()D"⟩ : MethodName) (head1 (Jvm.Cond.code (⟨"com/example/round2/round2/eval/TopicResult", "averagePrecision", "()D"⟩ : MethodName) prog_10_method_6_code 4 (some .double) :: ws) ({ frames := 0, cells := 0, slots := 0, locals := 0 } : Room)) (fun a U => a = #[(.ref a1)] ∧ Z.Warmed39 U.vm ∧ U.heap = h0) (fun _ _ _ _ _ => True) (fun _ U o U' => ∃ v L, o = .returned v ∧ Q_avp0_0 Z a1 a2 k1 p2 h0 n0 v U'.heap L ∧ FrameEnd U o U' L ({ frames := 0, cells := 0, slots := 0, locals := 0 } : Room).cells ({ frames := 0, cells := 0, slots := 0, locals := 0 } : Room).slots) := by
  refine MetFree.of_bodySF (plainFor_of_name pn_com_2fexample_2fround2_2fround2_2feval_2fTopicResult) hisR ?_
  intro p e s m args below meth c s₁ Bd hml0 hP hK
  obtain ⟨rfl, hZ, hh⟩ := hP
  have hx := Bd.exec
  have hby := Bd.bytes
  have hml : c.maxLocals = 4 := hml0
  have hown : s.vm.findClass "com/example/round2/round2/eval/TopicResult" = some m.cls := findClass_of_methodNamed Bd.named
  have hnm := (name_of_methodNamed Bd.named Bd.method).1
  have X0 : Stand p l e ({ frames := 0, cells := 0, slots := 0, locals := 0 } : Room) s m #[(.ref a1)] below meth c s₁ [] 0 0 := Stand.of_body Bd
  have e0 : s₁.heap = h0 := by rw [← hh, Bd.state]; rfl
  have N0 := Fr.nil n0
  have k0 : ∀ t, Steps p.tables e below (s₁.setTop (mkF m 0 #[.val (.ref a1), .unset, .unset, .unset] [])) t → Steps p.tables e below (s₁.setTop (entryFrame m #[(.ref a1)] 4)) t := fun t k => castTop (ef_3_R m a1) k
  have k101 : ∀ t, Steps p.tables e below (s₁.setTop (mkF m 6 #[.val (.ref a1), .val (.double (0 : UInt64)), .second, .val (.int (0 : Int32))] [(.ref a1), (.int (0 : Int32))])) t → Steps p.tables e below (s₁.setTop (entryFrame m #[(.ref a1)] 4)) t := fun t k => k0 t (by
    show Steps p.tables e below (s₁.setTop (mkF m 0 #[.val (.ref a1), .unset, .unset, .unset] [])) _
    refine XS.dconst0 X0.here hx rfl (hb hby d3_0) (v := (0 : UInt64)) rfl ?_
    show Steps p.tables e below (s₁.setTop (mkF m 1 #[.val (.ref a1), .unset, .unset, .unset] [(.double (0 : UInt64))])) _
    refine XS.dstoreN X0.here hx rfl (hb hby d3_1) rfl (l' := #[.val (.ref a1), .val (.double (0 : UInt64)), .second, .unset]) rfl ?_
    show Steps p.tables e below (s₁.setTop (mkF m 2 #[.val (.ref a1), .val (.double (0 : UInt64)), .second, .unset] [])) _
    refine XS.iconst X0.here hx rfl (hb hby d3_2) ?_
    show Steps p.tables e below (s₁.setTop (mkF m 3 #[.val (.ref a1), .val (.double (0 : UInt64)), .second, .unset] [(.int (0 : Int32))])) _
    refine XS.istoreN X0.here hx rfl (hb hby d3_3) rfl (l' := #[.val (.ref a1), .val (.double (0 : UInt64)), .second, .val (.int (0 : Int32))]) rfl ?_
    show Steps p.tables e below (s₁.setTop (mkF m 4 #[.val (.ref a1), .val (.double (0 : UInt64)), .second, .val (.int (0 : Int32))] [])) _
    refine XS.iloadN X0.here hx rfl (hb hby d3_4) rfl ?_
    show Steps p.tables e below (s₁.setTop (mkF m 5 #[.val (.ref a1), .val (.double (0 : UInt64)), .second, .val (.int (0 : Int32))] [(.int (0 : Int32))])) _
    refine XS.aloadN X0.here hx rfl (hb hby d3_5) rfl rfl ?_
    exact k)
  obtain ⟨T102, X102, e102, st102⟩ := getF X0 hx hZ hown (host := "") (Or.inl (hw _ (List.mem_of_getElem? (i := 26) rfl))) Via.refl e0 F1 (g := (mkF m 6 #[.val (.ref a1), .val (.double (0 : UInt64)), .second, .val (.int (0 : Int32))] [(.ref a1), (.int (0 : Int32))])) rfl rfl (hb hby d3_6)
  have k103 : ∀ t, Steps p.tables e below (T102.setTop (mkF m 9 #[.val (.ref a1), .val (.double (0 : UInt64)), .second, .val (.int (0 : Int32))] [(.ref a2), (.int (0 : Int32))])) t → Steps p.tables e below (s₁.setTop (entryFrame m #[(.ref a1)] 4)) t := fun t k => k101 t (st102 t k)
  obtain ⟨c104, Ar104, -, As104, An104, -, -⟩ := id V1
  have k105 : ∀ t, Steps p.tables e below (T102.setTop (mkF m 35 #[.val (.ref a1), .val (.double (0 : UInt64)), .second, .val (.int (0 : Int32))] [(.ref a1)])) t → Steps p.tables e below (s₁.setTop (entryFrame m #[(.ref a1)] 4)) t := fun t k => k103 t (by
    show Steps p.tables e below (T102.setTop (mkF m 9 #[.val (.ref a1), .val (.double (0 : UInt64)), .second, .val (.int (0 : Int32))] [(.ref a2), (.int (0 : Int32))])) _
    refine X102.arraylength hx (by rw [e102]; exact Ar104.1) (State.isArrayOf_alike hZ.alike Ar104.2.1) (g := (mkF m 9 #[.val (.ref a1), .val (.double (0 : UInt64)), .second, .val (.int (0 : Int32))] [(.ref a2), (.int (0 : Int32))])) rfl rfl (hb hby d3_9) _ ?_
    rw [len_of As104 An104]
    show Steps p.tables e below (T102.setTop (mkF m 10 #[.val (.ref a1), .val (.double (0 : UInt64)), .second, .val (.int (0 : Int32))] [(.int (0 : Int32)), (.int (0 : Int32))])) _
    refine XS.icmpYes X102.here hx rfl (pc0 := 10) (pc' := 34) rfl (hb hby d3_10) rfl (flt (by decide)).2.1 (by decide) (by decide) ?_
    show Steps p.tables e below (T102.setTop (mkF m 34 #[.val (.ref a1), .val (.double (0 : UInt64)), .second, .val (.int (0 : Int32))] [])) _
    refine XS.aloadN X102.here hx rfl (hb hby d3_34) rfl rfl ?_
    exact k)
  obtain ⟨T106, X106, e106, st106⟩ := getF X102 hx hZ hown (host := "") (Or.inl (hw _ (List.mem_of_getElem? (i := 24) rfl))) Via.refl e102 F2 (g := (mkF m 35 #[.val (.ref a1), .val (.double (0 : UInt64)), .second, .val (.int (0 : Int32))] [(.ref a1)])) rfl rfl (hb hby d3_35)
  have k107 : ∀ t, Steps p.tables e below (T106.setTop (mkF m 38 #[.val (.ref a1), .val (.double (0 : UInt64)), .second, .val (.int (0 : Int32))] [(.int p2)])) t → Steps p.tables e below (s₁.setTop (entryFrame m #[(.ref a1)] 4)) t := fun t k => k105 t (st106 t k)
  have k108 : ∀ t, Steps p.tables e below (T106.setTop (mkF m 47 #[.val (.ref a1), .val (.double (0 : UInt64)), .second, .val (.int (0 : Int32))] [(.ref a1), (.double (0 : UInt64))])) t → Steps p.tables e below (s₁.setTop (entryFrame m #[(.ref a1)] 4)) t := fun t k => k107 t (by
    show Steps p.tables e below (T106.setTop (mkF m 38 #[.val (.ref a1), .val (.double (0 : UInt64)), .second, .val (.int (0 : Int32))] [(.int p2)])) _
    refine XS.ifYes X106.here hx rfl (pc0 := 38) (pc' := 45) rfl (hb hby d3_38) rfl ((if0 _ _).trans (feq c38).2) (by decide) (by decide) ?_
    show Steps p.tables e below (T106.setTop (mkF m 45 #[.val (.ref a1), .val (.double (0 : UInt64)), .second, .val (.int (0 : Int32))] [])) _
    refine XS.dloadN X106.here hx rfl (hb hby d3_45) rfl ?_
    show Steps p.tables e below (T106.setTop (mkF m 46 #[.val (.ref a1), .val (.double (0 : UInt64)), .second, .val (.int (0 : Int32))] [(.double (0 : UInt64))])) _
    refine XS.aloadN X106.here hx rfl (hb hby d3_46) rfl rfl ?_
    exact k)
  obtain ⟨T109, X109, e109, st109⟩ := getF X106 hx hZ hown (host := "") (Or.inl (hw _ (List.mem_of_getElem? (i := 24) rfl))) Via.refl e106 F2 (g := (mkF m 47 #[.val (.ref a1), .val (.double (0 : UInt64)), .second, .val (.int (0 : Int32))] [(.ref a1), (.double (0 : UInt64))])) rfl rfl (hb hby d3_47)
  have k110 : ∀ t, Steps p.tables e below (T109.setTop (mkF m 50 #[.val (.ref a1), .val (.double (0 : UInt64)), .second, .val (.int (0 : Int32))] [(.int p2), (.double (0 : UInt64))])) t → Steps p.tables e below (s₁.setTop (entryFrame m #[(.ref a1)] 4)) t := fun t k => k108 t (st109 t k)
  have k111 : ∀ t, Steps p.tables e below (T109.setTop (mkF m 52 #[.val (.ref a1), .val (.double (0 : UInt64)), .second, .val (.int (0 : Int32))] [(.double (FP.ddiv (0 : UInt64) (FP.i2d p2)))])) t → Steps p.tables e below (s₁.setTop (entryFrame m #[(.ref a1)] 4)) t := fun t k => k110 t (by
    show Steps p.tables e below (T109.setTop (mkF m 50 #[.val (.ref a1), .val (.double (0 : UInt64)), .second, .val (.int (0 : Int32))] [(.int p2), (.double (0 : UInt64))])) _
    refine XS.i2dS X109.here hx rfl (hb hby d3_50) rfl rfl ?_
    show Steps p.tables e below (T109.setTop (mkF m 51 #[.val (.ref a1), .val (.double (0 : UInt64)), .second, .val (.int (0 : Int32))] [(.double (FP.i2d p2)), (.double (0 : UInt64))])) _
    refine XS.ddivS X109.here hx rfl (hb hby d3_51) rfl (nn51) rfl ?_
    exact k)
  obtain ⟨fs, hr, hrun, hended, hW, hsame⟩ := X109.leave (v := some (.double (FP.ddiv (0 : UInt64) (FP.i2d p2)))) (fun h => by rw [Bd.returns] at h; cases h)
  refine ⟨_, _, k111 _ (retOut X109 hx (t := .double) Bd.returns rfl (Or.inr (Or.inr (Or.inl ⟨rfl, rfl, _, rfl⟩))) (hb hby d3_52) hr), hrun, hended, _, _, rfl, ?_, ⟨_, rfl⟩, hW, hsame.mono (by decide) (by decide)⟩
  show Q_avp0_0 Z a1 a2 k1 p2 h0 n0 _ T109.heap _
  rw [e109]
  exact ⟨rfl, N0, rfl⟩
theorem d3_41 : decode prog_10_method_6_code 41 = .ok (.dconst 0, 1) := by decide +kernel
theorem d3_42 : decode prog_10_method_6_code 42 = .ok (.goto 10, 3) := by decide +kernel
def Q_avp0_1 (Z : State) (a1 : Addr) (a2 : Addr) (k1 : ClassId) (p2 : Int32) (h0 : Heap) (n0 : Nat) (v : Option Value) (h : Heap) (L : List Loc) : Prop := v = some (.double (0 : UInt64)) ∧ Fr n0 L ∧ h = h0
set_option maxRecDepth 65536 in
set_option maxHeartbeats 40000000 in
theorem avp0_1 (l : Launch) (Z : State) (a0 : Array Value) (hw : ∀ d ∈ tables_1, d.before a0 Z = true) (ws : List Jvm.Cond) (a1 : Addr) (a2 : Addr) (k1 : ClassId) (p2 : Int32) (h0 : Heap) (n0 : Nat) (Z0 : n0 ≤ h0.size) (F1 : Fld Z h0 a1 "com/example/round2/round2/eval/TopicResult" "relevantRanks" "[I" (.ref a2)) (F2 : Fld Z h0 a1 "com/example/round2/round2/eval/TopicResult" "relevant" "I" (.int p2)) (V1 : Arv Z h0 a2 k1 .int (0 : Int32) [] (.int (0 : Int32))) (c38 : p2 = (0 : Int32)) :
    MetFree l (⟨"com/example/round2/round2/eval/TopicResult", "averagePrecision", "()D"⟩ : MethodName) (head1 (Jvm.Cond.code (⟨"com/example/round2/round2/eval/TopicResult", "averagePrecision", "()D"⟩ : MethodName) prog_10_method_6_code 4 (some .double) :: ws) ({ frames := 0, cells := 0, slots := 0, locals := 0 } : Room)) (fun a U => a = #[(.ref a1)] ∧ Z.Warmed39 U.vm ∧ U.heap = h0) (fun _ _ _ _ _ => True) (fun _ U o U' => ∃ v L, o = .returned v ∧ Q_avp0_1 Z a1 a2 k1 p2 h0 n0 v U'.heap L ∧ FrameEnd U o U' L ({ frames := 0, cells := 0, slots := 0, locals := 0 } : Room).cells ({ frames := 0, cells := 0, slots := 0, locals := 0 } : Room).slots) := by
  refine MetFree.of_bodySF (plainFor_of_name pn_com_2fexample_2fround2_2fround2_2feval_2fTopicResult) hisR ?_
  intro p e s m args below meth c s₁ Bd hml0 hP hK
  obtain ⟨rfl, hZ, hh⟩ := hP
  have hx := Bd.exec
  have hby := Bd.bytes
  have hml : c.maxLocals = 4 := hml0
  have hown : s.vm.findClass "com/example/round2/round2/eval/TopicResult" = some m.cls := findClass_of_methodNamed Bd.named
  have hnm := (name_of_methodNamed Bd.named Bd.method).1
  have X0 : Stand p l e ({ frames := 0, cells := 0, slots := 0, locals := 0 } : Room) s m #[(.ref a1)] below meth c s₁ [] 0 0 := Stand.of_body Bd
  have e0 : s₁.heap = h0 := by rw [← hh, Bd.state]; rfl
  have N0 := Fr.nil n0
  have k0 : ∀ t, Steps p.tables e below (s₁.setTop (mkF m 0 #[.val (.ref a1), .unset, .unset, .unset] [])) t → Steps p.tables e below (s₁.setTop (entryFrame m #[(.ref a1)] 4)) t := fun t k => castTop (ef_3_R m a1) k
  have k101 : ∀ t, Steps p.tables e below (s₁.setTop (mkF m 6 #[.val (.ref a1), .val (.double (0 : UInt64)), .second, .val (.int (0 : Int32))] [(.ref a1), (.int (0 : Int32))])) t → Steps p.tables e below (s₁.setTop (entryFrame m #[(.ref a1)] 4)) t := fun t k => k0 t (by
    show Steps p.tables e below (s₁.setTop (mkF m 0 #[.val (.ref a1), .unset, .unset, .unset] [])) _
    refine XS.dconst0 X0.here hx rfl (hb hby d3_0) (v := (0 : UInt64)) rfl ?_
    show Steps p.tables e below (s₁.setTop (mkF m 1 #[.val (.ref a1), .unset, .unset, .unset] [(.double (0 : UInt64))])) _
    refine XS.dstoreN X0.here hx rfl (hb hby d3_1) rfl (l' := #[.val (.ref a1), .val (.double (0 : UInt64)), .second, .unset]) rfl ?_
    show Steps p.tables e below (s₁.setTop (mkF m 2 #[.val (.ref a1), .val (.double (0 : UInt64)), .second, .unset] [])) _
    refine XS.iconst X0.here hx rfl (hb hby d3_2) ?_
    show Steps p.tables e below (s₁.setTop (mkF m 3 #[.val (.ref a1), .val (.double (0 : UInt64)), .second, .unset] [(.int (0 : Int32))])) _
    refine XS.istoreN X0.here hx rfl (hb hby d3_3) rfl (l' := #[.val (.ref a1), .val (.double (0 : UInt64)), .second, .val (.int (0 : Int32))]) rfl ?_
    show Steps p.tables e below (s₁.setTop (mkF m 4 #[.val (.ref a1), .val (.double (0 : UInt64)), .second, .val (.int (0 : Int32))] [])) _
    refine XS.iloadN X0.here hx rfl (hb hby d3_4) rfl ?_
    show Steps p.tables e below (s₁.setTop (mkF m 5 #[.val (.ref a1), .val (.double (0 : UInt64)), .second, .val (.int (0 : Int32))] [(.int (0 : Int32))])) _
    refine XS.aloadN X0.here hx rfl (hb hby d3_5) rfl rfl ?_
    exact k)
  obtain ⟨T102, X102, e102, st102⟩ := getF X0 hx hZ hown (host := "") (Or.inl (hw _ (List.mem_of_getElem? (i := 26) rfl))) Via.refl e0 F1 (g := (mkF m 6 #[.val (.ref a1), .val (.double (0 : UInt64)), .second, .val (.int (0 : Int32))] [(.ref a1), (.int (0 : Int32))])) rfl rfl (hb hby d3_6)
  have k103 : ∀ t, Steps p.tables e below (T102.setTop (mkF m 9 #[.val (.ref a1), .val (.double (0 : UInt64)), .second, .val (.int (0 : Int32))] [(.ref a2), (.int (0 : Int32))])) t → Steps p.tables e below (s₁.setTop (entryFrame m #[(.ref a1)] 4)) t := fun t k => k101 t (st102 t k)
  obtain ⟨c104, Ar104, -, As104, An104, -, -⟩ := id V1
  have k105 : ∀ t, Steps p.tables e below (T102.setTop (mkF m 35 #[.val (.ref a1), .val (.double (0 : UInt64)), .second, .val (.int (0 : Int32))] [(.ref a1)])) t → Steps p.tables e below (s₁.setTop (entryFrame m #[(.ref a1)] 4)) t := fun t k => k103 t (by
    show Steps p.tables e below (T102.setTop (mkF m 9 #[.val (.ref a1), .val (.double (0 : UInt64)), .second, .val (.int (0 : Int32))] [(.ref a2), (.int (0 : Int32))])) _
    refine X102.arraylength hx (by rw [e102]; exact Ar104.1) (State.isArrayOf_alike hZ.alike Ar104.2.1) (g := (mkF m 9 #[.val (.ref a1), .val (.double (0 : UInt64)), .second, .val (.int (0 : Int32))] [(.ref a2), (.int (0 : Int32))])) rfl rfl (hb hby d3_9) _ ?_
    rw [len_of As104 An104]
    show Steps p.tables e below (T102.setTop (mkF m 10 #[.val (.ref a1), .val (.double (0 : UInt64)), .second, .val (.int (0 : Int32))] [(.int (0 : Int32)), (.int (0 : Int32))])) _
    refine XS.icmpYes X102.here hx rfl (pc0 := 10) (pc' := 34) rfl (hb hby d3_10) rfl (flt (by decide)).2.1 (by decide) (by decide) ?_
    show Steps p.tables e below (T102.setTop (mkF m 34 #[.val (.ref a1), .val (.double (0 : UInt64)), .second, .val (.int (0 : Int32))] [])) _
    refine XS.aloadN X102.here hx rfl (hb hby d3_34) rfl rfl ?_
    exact k)
  obtain ⟨T106, X106, e106, st106⟩ := getF X102 hx hZ hown (host := "") (Or.inl (hw _ (List.mem_of_getElem? (i := 24) rfl))) Via.refl e102 F2 (g := (mkF m 35 #[.val (.ref a1), .val (.double (0 : UInt64)), .second, .val (.int (0 : Int32))] [(.ref a1)])) rfl rfl (hb hby d3_35)
  have k107 : ∀ t, Steps p.tables e below (T106.setTop (mkF m 38 #[.val (.ref a1), .val (.double (0 : UInt64)), .second, .val (.int (0 : Int32))] [(.int p2)])) t → Steps p.tables e below (s₁.setTop (entryFrame m #[(.ref a1)] 4)) t := fun t k => k105 t (st106 t k)
  have k108 : ∀ t, Steps p.tables e below (T106.setTop (mkF m 52 #[.val (.ref a1), .val (.double (0 : UInt64)), .second, .val (.int (0 : Int32))] [(.double (0 : UInt64))])) t → Steps p.tables e below (s₁.setTop (entryFrame m #[(.ref a1)] 4)) t := fun t k => k107 t (by
    show Steps p.tables e below (T106.setTop (mkF m 38 #[.val (.ref a1), .val (.double (0 : UInt64)), .second, .val (.int (0 : Int32))] [(.int p2)])) _
    refine XS.ifNo X106.here hx rfl (hb hby d3_38) rfl ((if0 _ _).trans (teq c38).2) ?_
    show Steps p.tables e below (T106.setTop (mkF m 41 #[.val (.ref a1), .val (.double (0 : UInt64)), .second, .val (.int (0 : Int32))] [])) _
    refine XS.dconst0 X106.here hx rfl (hb hby d3_41) (v := (0 : UInt64)) rfl ?_
    show Steps p.tables e below (T106.setTop (mkF m 42 #[.val (.ref a1), .val (.double (0 : UInt64)), .second, .val (.int (0 : Int32))] [(.double (0 : UInt64))])) _
    refine XS.goto X106.here hx rfl (pc0 := 42) (pc' := 52) rfl (hb hby d3_42) (by decide) (by decide) ?_
    exact k)
  obtain ⟨fs, hr, hrun, hended, hW, hsame⟩ := X106.leave (v := some (.double (0 : UInt64))) (fun h => by rw [Bd.returns] at h; cases h)
  refine ⟨_, _, k108 _ (retOut X106 hx (t := .double) Bd.returns rfl (Or.inr (Or.inr (Or.inl ⟨rfl, rfl, _, rfl⟩))) (hb hby d3_52) hr), hrun, hended, _, _, rfl, ?_, ⟨_, rfl⟩, hW, hsame.mono (by decide) (by decide)⟩
  show Q_avp0_1 Z a1 a2 k1 p2 h0 n0 _ T106.heap _
  rw [e106]
  exact ⟨rfl, N0, rfl⟩
theorem d3_13 : decode prog_10_method_6_code 13 = .ok (.dload_n 1, 1) := by decide +kernel
theorem d3_14 : decode prog_10_method_6_code 14 = .ok (.iload_n 3, 1) := by decide +kernel
theorem d3_15 : decode prog_10_method_6_code 15 = .ok (.iconst 1, 1) := by decide +kernel
theorem d3_16 : decode prog_10_method_6_code 16 = .ok (.iadd, 1) := by decide +kernel
theorem d3_17 : decode prog_10_method_6_code 17 = .ok (.i2d, 1) := by decide +kernel
theorem d3_18 : decode prog_10_method_6_code 18 = .ok (.aload_n 0, 1) := by decide +kernel
theorem d3_19 : decode prog_10_method_6_code 19 = .ok (.getfield 20, 3) := by decide +kernel
theorem d3_22 : decode prog_10_method_6_code 22 = .ok (.iload_n 3, 1) := by decide +kernel
theorem d3_23 : decode prog_10_method_6_code 23 = .ok (.iaload, 1) := by decide +kernel
theorem d3_24 : decode prog_10_method_6_code 24 = .ok (.i2d, 1) := by decide +kernel
theorem d3_25 : decode prog_10_method_6_code 25 = .ok (.ddiv, 1) := by decide +kernel
theorem d3_26 : decode prog_10_method_6_code 26 = .ok (.dadd, 1) := by decide +kernel
theorem d3_27 : decode prog_10_method_6_code 27 = .ok (.dstore_n 1, 1) := by decide +kernel
theorem d3_28 : decode prog_10_method_6_code 28 = .ok (.iinc 3 1, 3) := by decide +kernel
theorem d3_31 : decode prog_10_method_6_code 31 = .ok (.goto (-27), 3) := by decide +kernel
def Q_avp1_0 (Z : State) (a1 : Addr) (a2 : Addr) (k1 : ClassId) (p2 : Int32) (r0 : Int32) (h0 : Heap) (n0 : Nat) (v : Option Value) (h : Heap) (L : List Loc) : Prop := v = some (.double (FP.ddiv (FP.dadd (0 : UInt64) (FP.ddiv (FP.i2d (1 : Int32)) (FP.i2d r0))) (FP.i2d p2))) ∧ Fr n0 L ∧ h = h0
set_option maxRecDepth 65536 in
set_option maxHeartbeats 40000000 in
theorem avp1_0 (l : Launch) (Z : State) (a0 : Array Value) (hw : ∀ d ∈ tables_1, d.before a0 Z = true) (ws : List Jvm.Cond) (a1 : Addr) (a2 : Addr) (k1 : ClassId) (p2 : Int32) (r0 : Int32) (h0 : Heap) (n0 : Nat) (Z0 : n0 ≤ h0.size) (F1 : Fld Z h0 a1 "com/example/round2/round2/eval/TopicResult" "relevantRanks" "[I" (.ref a2)) (F2 : Fld Z h0 a1 "com/example/round2/round2/eval/TopicResult" "relevant" "I" (.int p2)) (V1 : Arv Z h0 a2 k1 .int (1 : Int32) [(.int r0)] (.int (0 : Int32))) (c38 : ¬ (p2 = (0 : Int32))) (nq0 : Jvm.Free.Fl.NoNaN64 (FP.ddiv (FP.i2d (1 : Int32)) (FP.i2d r0))) (na0 : Jvm.Free.Fl.NoNaN64 (FP.dadd (0 : UInt64) (FP.ddiv (FP.i2d (1 : Int32)) (FP.i2d r0)))) (nn51 : Jvm.Free.Fl.NoNaN64 (FP.ddiv (FP.dadd (0 : UInt64) (FP.ddiv (FP.i2d (1 : Int32)) (FP.i2d r0))) (FP.i2d p2))) :
    MetFree l (⟨"com/example/round2/round2/eval/TopicResult", "averagePrecision", "()D"⟩ : MethodName) (head1 (Jvm.Cond.code (⟨"com/example/round2/round2/eval/TopicResult", "averagePrecision", "()D"⟩ : MethodName) prog_10_method_6_code 4 (some .double) :: ws) ({ frames := 0, cells := 0, slots := 0, locals := 0 } : Room)) (fun a U => a = #[(.ref a1)] ∧ Z.Warmed39 U.vm ∧ U.heap = h0) (fun _ _ _ _ _ => True) (fun _ U o U' => ∃ v L, o = .returned v ∧ Q_avp1_0 Z a1 a2 k1 p2 r0 h0 n0 v U'.heap L ∧ FrameEnd U o U' L ({ frames := 0, cells := 0, slots := 0, locals := 0 } : Room).cells ({ frames := 0, cells := 0, slots := 0, locals := 0 } : Room).slots) := by
  refine MetFree.of_bodySF (plainFor_of_name pn_com_2fexample_2fround2_2fround2_2feval_2fTopicResult) hisR ?_
  intro p e s m args below meth c s₁ Bd hml0 hP hK
  obtain ⟨rfl, hZ, hh⟩ := hP
  have hx := Bd.exec
  have hby := Bd.bytes
  have hml : c.maxLocals = 4 := hml0
  have hown : s.vm.findClass "com/example/round2/round2/eval/TopicResult" = some m.cls := findClass_of_methodNamed Bd.named
  have hnm := (name_of_methodNamed Bd.named Bd.method).1
  have X0 : Stand p l e ({ frames := 0, cells := 0, slots := 0, locals := 0 } : Room) s m #[(.ref a1)] below meth c s₁ [] 0 0 := Stand.of_body Bd
  have e0 : s₁.heap = h0 := by rw [← hh, Bd.state]; rfl
  have N0 := Fr.nil n0
  have k0 : ∀ t, Steps p.tables e below (s₁.setTop (mkF m 0 #[.val (.ref a1), .unset, .unset, .unset] [])) t → Steps p.tables e below (s₁.setTop (entryFrame m #[(.ref a1)] 4)) t := fun t k => castTop (ef_3_R m a1) k
  have k101 : ∀ t, Steps p.tables e below (s₁.setTop (mkF m 6 #[.val (.ref a1), .val (.double (0 : UInt64)), .second, .val (.int (0 : Int32))] [(.ref a1), (.int (0 : Int32))])) t → Steps p.tables e below (s₁.setTop (entryFrame m #[(.ref a1)] 4)) t := fun t k => k0 t (by
    show Steps p.tables e below (s₁.setTop (mkF m 0 #[.val (.ref a1), .unset, .unset, .unset] [])) _
    refine XS.dconst0 X0.here hx rfl (hb hby d3_0) (v := (0 : UInt64)) rfl ?_
    show Steps p.tables e below (s₁.setTop (mkF m 1 #[.val (.ref a1), .unset, .unset, .unset] [(.double (0 : UInt64))])) _
    refine XS.dstoreN X0.here hx rfl (hb hby d3_1) rfl (l' := #[.val (.ref a1), .val (.double (0 : UInt64)), .second, .unset]) rfl ?_
    show Steps p.tables e below (s₁.setTop (mkF m 2 #[.val (.ref a1), .val (.double (0 : UInt64)), .second, .unset] [])) _
    refine XS.iconst X0.here hx rfl (hb hby d3_2) ?_
    show Steps p.tables e below (s₁.setTop (mkF m 3 #[.val (.ref a1), .val (.double (0 : UInt64)), .second, .unset] [(.int (0 : Int32))])) _
    refine XS.istoreN X0.here hx rfl (hb hby d3_3) rfl (l' := #[.val (.ref a1), .val (.double (0 : UInt64)), .second, .val (.int (0 : Int32))]) rfl ?_
    show Steps p.tables e below (s₁.setTop (mkF m 4 #[.val (.ref a1), .val (.double (0 : UInt64)), .second, .val (.int (0 : Int32))] [])) _
    refine XS.iloadN X0.here hx rfl (hb hby d3_4) rfl ?_
    show Steps p.tables e below (s₁.setTop (mkF m 5 #[.val (.ref a1), .val (.double (0 : UInt64)), .second, .val (.int (0 : Int32))] [(.int (0 : Int32))])) _
    refine XS.aloadN X0.here hx rfl (hb hby d3_5) rfl rfl ?_
    exact k)
  obtain ⟨T102, X102, e102, st102⟩ := getF X0 hx hZ hown (host := "") (Or.inl (hw _ (List.mem_of_getElem? (i := 26) rfl))) Via.refl e0 F1 (g := (mkF m 6 #[.val (.ref a1), .val (.double (0 : UInt64)), .second, .val (.int (0 : Int32))] [(.ref a1), (.int (0 : Int32))])) rfl rfl (hb hby d3_6)
  have k103 : ∀ t, Steps p.tables e below (T102.setTop (mkF m 9 #[.val (.ref a1), .val (.double (0 : UInt64)), .second, .val (.int (0 : Int32))] [(.ref a2), (.int (0 : Int32))])) t → Steps p.tables e below (s₁.setTop (entryFrame m #[(.ref a1)] 4)) t := fun t k => k101 t (st102 t k)
  obtain ⟨c104, Ar104, -, As104, An104, -, -⟩ := id V1
  have k105 : ∀ t, Steps p.tables e below (T102.setTop (mkF m 19 #[.val (.ref a1), .val (.double (0 : UInt64)), .second, .val (.int (0 : Int32))] [(.ref a1), (.double (FP.i2d (1 : Int32))), (.double (0 : UInt64))])) t → Steps p.tables e below (s₁.setTop (entryFrame m #[(.ref a1)] 4)) t := fun t k => k103 t (by
    show Steps p.tables e below (T102.setTop (mkF m 9 #[.val (.ref a1), .val (.double (0 : UInt64)), .second, .val (.int (0 : Int32))] [(.ref a2), (.int (0 : Int32))])) _
    refine X102.arraylength hx (by rw [e102]; exact Ar104.1) (State.isArrayOf_alike hZ.alike Ar104.2.1) (g := (mkF m 9 #[.val (.ref a1), .val (.double (0 : UInt64)), .second, .val (.int (0 : Int32))] [(.ref a2), (.int (0 : Int32))])) rfl rfl (hb hby d3_9) _ ?_
    rw [len_of As104 An104]
    show Steps p.tables e below (T102.setTop (mkF m 10 #[.val (.ref a1), .val (.double (0 : UInt64)), .second, .val (.int (0 : Int32))] [(.int (1 : Int32)), (.int (0 : Int32))])) _
    refine XS.icmpNo X102.here hx rfl (hb hby d3_10) rfl (tlt (by decide)).2.1 ?_
    show Steps p.tables e below (T102.setTop (mkF m 13 #[.val (.ref a1), .val (.double (0 : UInt64)), .second, .val (.int (0 : Int32))] [])) _
    refine XS.dloadN X102.here hx rfl (hb hby d3_13) rfl ?_
    show Steps p.tables e below (T102.setTop (mkF m 14 #[.val (.ref a1), .val (.double (0 : UInt64)), .second, .val (.int (0 : Int32))] [(.double (0 : UInt64))])) _
    refine XS.iloadN X102.here hx rfl (hb hby d3_14) rfl ?_
    show Steps p.tables e below (T102.setTop (mkF m 15 #[.val (.ref a1), .val (.double (0 : UInt64)), .second, .val (.int (0 : Int32))] [(.int (0 : Int32)), (.double (0 : UInt64))])) _
    refine XS.iconst X102.here hx rfl (hb hby d3_15) ?_
    show Steps p.tables e below (T102.setTop (mkF m 16 #[.val (.ref a1), .val (.double (0 : UInt64)), .second, .val (.int (0 : Int32))] [(.int (1 : Int32)), (.int (0 : Int32)), (.double (0 : UInt64))])) _
    refine XS.iadd X102.here hx rfl (hb hby d3_16) rfl ?_
    show Steps p.tables e below (T102.setTop (mkF m 17 #[.val (.ref a1), .val (.double (0 : UInt64)), .second, .val (.int (0 : Int32))] [(.int ((0 : Int32) + (1 : Int32))), (.double (0 : UInt64))])) _
    refine castTop (g' := (mkF m 17 #[.val (.ref a1), .val (.double (0 : UInt64)), .second, .val (.int (0 : Int32))] [(.int (1 : Int32)), (.double (0 : UInt64))])) (by rw [show ((0 : Int32) + (1 : Int32)) = (1 : Int32) by decide]) ?_
    show Steps p.tables e below (T102.setTop (mkF m 17 #[.val (.ref a1), .val (.double (0 : UInt64)), .second, .val (.int (0 : Int32))] [(.int (1 : Int32)), (.double (0 : UInt64))])) _
    refine XS.i2dS X102.here hx rfl (hb hby d3_17) rfl rfl ?_
    show Steps p.tables e below (T102.setTop (mkF m 18 #[.val (.ref a1), .val (.double (0 : UInt64)), .second, .val (.int (0 : Int32))] [(.double (FP.i2d (1 : Int32))), (.double (0 : UInt64))])) _
    refine XS.aloadN X102.here hx rfl (hb hby d3_18) rfl rfl ?_
    exact k)
  obtain ⟨T106, X106, e106, st106⟩ := getF X102 hx hZ hown (host := "") (Or.inl (hw _ (List.mem_of_getElem? (i := 26) rfl))) Via.refl e102 F1 (g := (mkF m 19 #[.val (.ref a1), .val (.double (0 : UInt64)), .second, .val (.int (0 : Int32))] [(.ref a1), (.double (FP.i2d (1 : Int32))), (.double (0 : UInt64))])) rfl rfl (hb hby d3_19)
  have k107 : ∀ t, Steps p.tables e below (T106.setTop (mkF m 22 #[.val (.ref a1), .val (.double (0 : UInt64)), .second, .val (.int (0 : Int32))] [(.ref a2), (.double (FP.i2d (1 : Int32))), (.double (0 : UInt64))])) t → Steps p.tables e below (s₁.setTop (entryFrame m #[(.ref a1)] 4)) t := fun t k => k105 t (st106 t k)
  have k108 : ∀ t, Steps p.tables e below (T106.setTop (mkF m 23 #[.val (.ref a1), .val (.double (0 : UInt64)), .second, .val (.int (0 : Int32))] [(.int (0 : Int32)), (.ref a2), (.double (FP.i2d (1 : Int32))), (.double (0 : UInt64))])) t → Steps p.tables e below (s₁.setTop (entryFrame m #[(.ref a1)] 4)) t := fun t k => k107 t (by
    show Steps p.tables e below (T106.setTop (mkF m 22 #[.val (.ref a1), .val (.double (0 : UInt64)), .second, .val (.int (0 : Int32))] [(.ref a2), (.double (FP.i2d (1 : Int32))), (.double (0 : UInt64))])) _
    refine XS.iloadN X106.here hx rfl (hb hby d3_22) rfl ?_
    exact k)
  obtain ⟨c109, Ar109, -, As109, An109, Ah109, -⟩ := id V1
  have hin109 : ¬ ((0 : Int32) < 0 ∨ c109.slots.size ≤ ((0 : Int32)).toNatClampNeg) := inb_of As109 ⟨by decide, by decide⟩
  have hat109 : c109.slots[((0 : Int32)).toNatClampNeg]? = some (.int r0) := Has.at Ah109 hin109 rfl
  have k110 : ∀ t, Steps p.tables e below (T106.setTop (mkF m 6 #[.val (.ref a1), .val (.double (FP.dadd (0 : UInt64) (FP.ddiv (FP.i2d (1 : Int32)) (FP.i2d r0)))), .second, .val (.int (1 : Int32))] [(.ref a1), (.int (1 : Int32))])) t → Steps p.tables e below (s₁.setTop (entryFrame m #[(.ref a1)] 4)) t := fun t k => k108 t (by
    show Steps p.tables e below (T106.setTop (mkF m 23 #[.val (.ref a1), .val (.double (0 : UInt64)), .second, .val (.int (0 : Int32))] [(.int (0 : Int32)), (.ref a2), (.double (FP.i2d (1 : Int32))), (.double (0 : UInt64))])) _
    refine X106.iaload hx (j := (0 : Int32)) (v := (.int r0)) (by rw [e106]; exact Ar109.1) (State.isArrayOf_alike hZ.alike Ar109.2.1) Ar109.2.2 hin109 hat109 (g := (mkF m 23 #[.val (.ref a1), .val (.double (0 : UInt64)), .second, .val (.int (0 : Int32))] [(.int (0 : Int32)), (.ref a2), (.double (FP.i2d (1 : Int32))), (.double (0 : UInt64))])) rfl rfl (hb hby d3_23) _ ?_
    show Steps p.tables e below (T106.setTop (mkF m 24 #[.val (.ref a1), .val (.double (0 : UInt64)), .second, .val (.int (0 : Int32))] [(.int r0), (.double (FP.i2d (1 : Int32))), (.double (0 : UInt64))])) _
    refine XS.i2dS X106.here hx rfl (hb hby d3_24) rfl rfl ?_
    show Steps p.tables e below (T106.setTop (mkF m 25 #[.val (.ref a1), .val (.double (0 : UInt64)), .second, .val (.int (0 : Int32))] [(.double (FP.i2d r0)), (.double (FP.i2d (1 : Int32))), (.double (0 : UInt64))])) _
    refine XS.ddivS X106.here hx rfl (hb hby d3_25) rfl (nq0) rfl ?_
    show Steps p.tables e below (T106.setTop (mkF m 26 #[.val (.ref a1), .val (.double (0 : UInt64)), .second, .val (.int (0 : Int32))] [(.double (FP.ddiv (FP.i2d (1 : Int32)) (FP.i2d r0))), (.double (0 : UInt64))])) _
    refine XS.daddS X106.here hx rfl (hb hby d3_26) rfl (na0) rfl ?_
    show Steps p.tables e below (T106.setTop (mkF m 27 #[.val (.ref a1), .val (.double (0 : UInt64)), .second, .val (.int (0 : Int32))] [(.double (FP.dadd (0 : UInt64) (FP.ddiv (FP.i2d (1 : Int32)) (FP.i2d r0))))])) _
    refine XS.dstoreN X106.here hx rfl (hb hby d3_27) rfl (l' := #[.val (.ref a1), .val (.double (FP.dadd (0 : UInt64) (FP.ddiv (FP.i2d (1 : Int32)) (FP.i2d r0)))), .second, .val (.int (0 : Int32))]) rfl ?_
    show Steps p.tables e below (T106.setTop (mkF m 28 #[.val (.ref a1), .val (.double (FP.dadd (0 : UInt64) (FP.ddiv (FP.i2d (1 : Int32)) (FP.i2d r0)))), .second, .val (.int (0 : Int32))] [])) _
    refine XS.iinc X106.here hx rfl (hb hby d3_28) rfl (l' := #[.val (.ref a1), .val (.double (FP.dadd (0 : UInt64) (FP.ddiv (FP.i2d (1 : Int32)) (FP.i2d r0)))), .second, .val (.int (1 : Int32))]) rfl ?_
    show Steps p.tables e below (T106.setTop (mkF m 31 #[.val (.ref a1), .val (.double (FP.dadd (0 : UInt64) (FP.ddiv (FP.i2d (1 : Int32)) (FP.i2d r0)))), .second, .val (.int (1 : Int32))] [])) _
    refine XS.goto X106.here hx rfl (pc0 := 31) (pc' := 4) rfl (hb hby d3_31) (by decide) (by decide) ?_
    show Steps p.tables e below (T106.setTop (mkF m 4 #[.val (.ref a1), .val (.double (FP.dadd (0 : UInt64) (FP.ddiv (FP.i2d (1 : Int32)) (FP.i2d r0)))), .second, .val (.int (1 : Int32))] [])) _
    refine XS.iloadN X106.here hx rfl (hb hby d3_4) rfl ?_
    show Steps p.tables e below (T106.setTop (mkF m 5 #[.val (.ref a1), .val (.double (FP.dadd (0 : UInt64) (FP.ddiv (FP.i2d (1 : Int32)) (FP.i2d r0)))), .second, .val (.int (1 : Int32))] [(.int (1 : Int32))])) _
    refine XS.aloadN X106.here hx rfl (hb hby d3_5) rfl rfl ?_
    exact k)
  obtain ⟨T111, X111, e111, st111⟩ := getF X106 hx hZ hown (host := "") (Or.inl (hw _ (List.mem_of_getElem? (i := 26) rfl))) Via.refl e106 F1 (g := (mkF m 6 #[.val (.ref a1), .val (.double (FP.dadd (0 : UInt64) (FP.ddiv (FP.i2d (1 : Int32)) (FP.i2d r0)))), .second, .val (.int (1 : Int32))] [(.ref a1), (.int (1 : Int32))])) rfl rfl (hb hby d3_6)
  have k112 : ∀ t, Steps p.tables e below (T111.setTop (mkF m 9 #[.val (.ref a1), .val (.double (FP.dadd (0 : UInt64) (FP.ddiv (FP.i2d (1 : Int32)) (FP.i2d r0)))), .second, .val (.int (1 : Int32))] [(.ref a2), (.int (1 : Int32))])) t → Steps p.tables e below (s₁.setTop (entryFrame m #[(.ref a1)] 4)) t := fun t k => k110 t (st111 t k)
  obtain ⟨c113, Ar113, -, As113, An113, -, -⟩ := id V1
  have k114 : ∀ t, Steps p.tables e below (T111.setTop (mkF m 35 #[.val (.ref a1), .val (.double (FP.dadd (0 : UInt64) (FP.ddiv (FP.i2d (1 : Int32)) (FP.i2d r0)))), .second, .val (.int (1 : Int32))] [(.ref a1)])) t → Steps p.tables e below (s₁.setTop (entryFrame m #[(.ref a1)] 4)) t := fun t k => k112 t (by
    show Steps p.tables e below (T111.setTop (mkF m 9 #[.val (.ref a1), .val (.double (FP.dadd (0 : UInt64) (FP.ddiv (FP.i2d (1 : Int32)) (FP.i2d r0)))), .second, .val (.int (1 : Int32))] [(.ref a2), (.int (1 : Int32))])) _
    refine X111.arraylength hx (by rw [e111]; exact Ar113.1) (State.isArrayOf_alike hZ.alike Ar113.2.1) (g := (mkF m 9 #[.val (.ref a1), .val (.double (FP.dadd (0 : UInt64) (FP.ddiv (FP.i2d (1 : Int32)) (FP.i2d r0)))), .second, .val (.int (1 : Int32))] [(.ref a2), (.int (1 : Int32))])) rfl rfl (hb hby d3_9) _ ?_
    rw [len_of As113 An113]
    show Steps p.tables e below (T111.setTop (mkF m 10 #[.val (.ref a1), .val (.double (FP.dadd (0 : UInt64) (FP.ddiv (FP.i2d (1 : Int32)) (FP.i2d r0)))), .second, .val (.int (1 : Int32))] [(.int (1 : Int32)), (.int (1 : Int32))])) _
    refine XS.icmpYes X111.here hx rfl (pc0 := 10) (pc' := 34) rfl (hb hby d3_10) rfl (flt (by decide)).2.1 (by decide) (by decide) ?_
    show Steps p.tables e below (T111.setTop (mkF m 34 #[.val (.ref a1), .val (.double (FP.dadd (0 : UInt64) (FP.ddiv (FP.i2d (1 : Int32)) (FP.i2d r0)))), .second, .val (.int (1 : Int32))] [])) _
    refine XS.aloadN X111.here hx rfl (hb hby d3_34) rfl rfl ?_
    exact k)
  obtain ⟨T115, X115, e115, st115⟩ := getF X111 hx hZ hown (host := "") (Or.inl (hw _ (List.mem_of_getElem? (i := 24) rfl))) Via.refl e111 F2 (g := (mkF m 35 #[.val (.ref a1), .val (.double (FP.dadd (0 : UInt64) (FP.ddiv (FP.i2d (1 : Int32)) (FP.i2d r0)))), .second, .val (.int (1 : Int32))] [(.ref a1)])) rfl rfl (hb hby d3_35)
  have k116 : ∀ t, Steps p.tables e below (T115.setTop (mkF m 38 #[.val (.ref a1), .val (.double (FP.dadd (0 : UInt64) (FP.ddiv (FP.i2d (1 : Int32)) (FP.i2d r0)))), .second, .val (.int (1 : Int32))] [(.int p2)])) t → Steps p.tables e below (s₁.setTop (entryFrame m #[(.ref a1)] 4)) t := fun t k => k114 t (st115 t k)
  have k117 : ∀ t, Steps p.tables e below (T115.setTop (mkF m 47 #[.val (.ref a1), .val (.double (FP.dadd (0 : UInt64) (FP.ddiv (FP.i2d (1 : Int32)) (FP.i2d r0)))), .second, .val (.int (1 : Int32))] [(.ref a1), (.double (FP.dadd (0 : UInt64) (FP.ddiv (FP.i2d (1 : Int32)) (FP.i2d r0))))])) t → Steps p.tables e below (s₁.setTop (entryFrame m #[(.ref a1)] 4)) t := fun t k => k116 t (by
    show Steps p.tables e below (T115.setTop (mkF m 38 #[.val (.ref a1), .val (.double (FP.dadd (0 : UInt64) (FP.ddiv (FP.i2d (1 : Int32)) (FP.i2d r0)))), .second, .val (.int (1 : Int32))] [(.int p2)])) _
    refine XS.ifYes X115.here hx rfl (pc0 := 38) (pc' := 45) rfl (hb hby d3_38) rfl ((if0 _ _).trans (feq c38).2) (by decide) (by decide) ?_
    show Steps p.tables e below (T115.setTop (mkF m 45 #[.val (.ref a1), .val (.double (FP.dadd (0 : UInt64) (FP.ddiv (FP.i2d (1 : Int32)) (FP.i2d r0)))), .second, .val (.int (1 : Int32))] [])) _
    refine XS.dloadN X115.here hx rfl (hb hby d3_45) rfl ?_
    show Steps p.tables e below (T115.setTop (mkF m 46 #[.val (.ref a1), .val (.double (FP.dadd (0 : UInt64) (FP.ddiv (FP.i2d (1 : Int32)) (FP.i2d r0)))), .second, .val (.int (1 : Int32))] [(.double (FP.dadd (0 : UInt64) (FP.ddiv (FP.i2d (1 : Int32)) (FP.i2d r0))))])) _
    refine XS.aloadN X115.here hx rfl (hb hby d3_46) rfl rfl ?_
    exact k)
  obtain ⟨T118, X118, e118, st118⟩ := getF X115 hx hZ hown (host := "") (Or.inl (hw _ (List.mem_of_getElem? (i := 24) rfl))) Via.refl e115 F2 (g := (mkF m 47 #[.val (.ref a1), .val (.double (FP.dadd (0 : UInt64) (FP.ddiv (FP.i2d (1 : Int32)) (FP.i2d r0)))), .second, .val (.int (1 : Int32))] [(.ref a1), (.double (FP.dadd (0 : UInt64) (FP.ddiv (FP.i2d (1 : Int32)) (FP.i2d r0))))])) rfl rfl (hb hby d3_47)
  have k119 : ∀ t, Steps p.tables e below (T118.setTop (mkF m 50 #[.val (.ref a1), .val (.double (FP.dadd (0 : UInt64) (FP.ddiv (FP.i2d (1 : Int32)) (FP.i2d r0)))), .second, .val (.int (1 : Int32))] [(.int p2), (.double (FP.dadd (0 : UInt64) (FP.ddiv (FP.i2d (1 : Int32)) (FP.i2d r0))))])) t → Steps p.tables e below (s₁.setTop (entryFrame m #[(.ref a1)] 4)) t := fun t k => k117 t (st118 t k)
  have k120 : ∀ t, Steps p.tables e below (T118.setTop (mkF m 52 #[.val (.ref a1), .val (.double (FP.dadd (0 : UInt64) (FP.ddiv (FP.i2d (1 : Int32)) (FP.i2d r0)))), .second, .val (.int (1 : Int32))] [(.double (FP.ddiv (FP.dadd (0 : UInt64) (FP.ddiv (FP.i2d (1 : Int32)) (FP.i2d r0))) (FP.i2d p2)))])) t → Steps p.tables e below (s₁.setTop (entryFrame m #[(.ref a1)] 4)) t := fun t k => k119 t (by
    show Steps p.tables e below (T118.setTop (mkF m 50 #[.val (.ref a1), .val (.double (FP.dadd (0 : UInt64) (FP.ddiv (FP.i2d (1 : Int32)) (FP.i2d r0)))), .second, .val (.int (1 : Int32))] [(.int p2), (.double (FP.dadd (0 : UInt64) (FP.ddiv (FP.i2d (1 : Int32)) (FP.i2d r0))))])) _
    refine XS.i2dS X118.here hx rfl (hb hby d3_50) rfl rfl ?_
    show Steps p.tables e below (T118.setTop (mkF m 51 #[.val (.ref a1), .val (.double (FP.dadd (0 : UInt64) (FP.ddiv (FP.i2d (1 : Int32)) (FP.i2d r0)))), .second, .val (.int (1 : Int32))] [(.double (FP.i2d p2)), (.double (FP.dadd (0 : UInt64) (FP.ddiv (FP.i2d (1 : Int32)) (FP.i2d r0))))])) _
    refine XS.ddivS X118.here hx rfl (hb hby d3_51) rfl (nn51) rfl ?_
    exact k)
  obtain ⟨fs, hr, hrun, hended, hW, hsame⟩ := X118.leave (v := some (.double (FP.ddiv (FP.dadd (0 : UInt64) (FP.ddiv (FP.i2d (1 : Int32)) (FP.i2d r0))) (FP.i2d p2)))) (fun h => by rw [Bd.returns] at h; cases h)
  refine ⟨_, _, k120 _ (retOut X118 hx (t := .double) Bd.returns rfl (Or.inr (Or.inr (Or.inl ⟨rfl, rfl, _, rfl⟩))) (hb hby d3_52) hr), hrun, hended, _, _, rfl, ?_, ⟨_, rfl⟩, hW, hsame.mono (by decide) (by decide)⟩
  show Q_avp1_0 Z a1 a2 k1 p2 r0 h0 n0 _ T118.heap _
  rw [e118]
  exact ⟨rfl, N0, rfl⟩
def Q_avp1_1 (Z : State) (a1 : Addr) (a2 : Addr) (k1 : ClassId) (p2 : Int32) (r0 : Int32) (h0 : Heap) (n0 : Nat) (v : Option Value) (h : Heap) (L : List Loc) : Prop := v = some (.double (0 : UInt64)) ∧ Fr n0 L ∧ h = h0
set_option maxRecDepth 65536 in
set_option maxHeartbeats 40000000 in
theorem avp1_1 (l : Launch) (Z : State) (a0 : Array Value) (hw : ∀ d ∈ tables_1, d.before a0 Z = true) (ws : List Jvm.Cond) (a1 : Addr) (a2 : Addr) (k1 : ClassId) (p2 : Int32) (r0 : Int32) (h0 : Heap) (n0 : Nat) (Z0 : n0 ≤ h0.size) (F1 : Fld Z h0 a1 "com/example/round2/round2/eval/TopicResult" "relevantRanks" "[I" (.ref a2)) (F2 : Fld Z h0 a1 "com/example/round2/round2/eval/TopicResult" "relevant" "I" (.int p2)) (V1 : Arv Z h0 a2 k1 .int (1 : Int32) [(.int r0)] (.int (0 : Int32))) (c38 : p2 = (0 : Int32)) (nq0 : Jvm.Free.Fl.NoNaN64 (FP.ddiv (FP.i2d (1 : Int32)) (FP.i2d r0))) (na0 : Jvm.Free.Fl.NoNaN64 (FP.dadd (0 : UInt64) (FP.ddiv (FP.i2d (1 : Int32)) (FP.i2d r0)))) :
    MetFree l (⟨"com/example/round2/round2/eval/TopicResult", "averagePrecision", "()D"⟩ : MethodName) (head1 (Jvm.Cond.code (⟨"com/example/round2/round2/eval/TopicResult", "averagePrecision", "()D"⟩ : MethodName) prog_10_method_6_code 4 (some .double) :: ws) ({ frames := 0, cells := 0, slots := 0, locals := 0 } : Room)) (fun a U => a = #[(.ref a1)] ∧ Z.Warmed39 U.vm ∧ U.heap = h0) (fun _ _ _ _ _ => True) (fun _ U o U' => ∃ v L, o = .returned v ∧ Q_avp1_1 Z a1 a2 k1 p2 r0 h0 n0 v U'.heap L ∧ FrameEnd U o U' L ({ frames := 0, cells := 0, slots := 0, locals := 0 } : Room).cells ({ frames := 0, cells := 0, slots := 0, locals := 0 } : Room).slots) := by
  refine MetFree.of_bodySF (plainFor_of_name pn_com_2fexample_2fround2_2fround2_2feval_2fTopicResult) hisR ?_
  intro p e s m args below meth c s₁ Bd hml0 hP hK
  obtain ⟨rfl, hZ, hh⟩ := hP
  have hx := Bd.exec
  have hby := Bd.bytes
  have hml : c.maxLocals = 4 := hml0
  have hown : s.vm.findClass "com/example/round2/round2/eval/TopicResult" = some m.cls := findClass_of_methodNamed Bd.named
  have hnm := (name_of_methodNamed Bd.named Bd.method).1
  have X0 : Stand p l e ({ frames := 0, cells := 0, slots := 0, locals := 0 } : Room) s m #[(.ref a1)] below meth c s₁ [] 0 0 := Stand.of_body Bd
  have e0 : s₁.heap = h0 := by rw [← hh, Bd.state]; rfl
  have N0 := Fr.nil n0
  have k0 : ∀ t, Steps p.tables e below (s₁.setTop (mkF m 0 #[.val (.ref a1), .unset, .unset, .unset] [])) t → Steps p.tables e below (s₁.setTop (entryFrame m #[(.ref a1)] 4)) t := fun t k => castTop (ef_3_R m a1) k
  have k101 : ∀ t, Steps p.tables e below (s₁.setTop (mkF m 6 #[.val (.ref a1), .val (.double (0 : UInt64)), .second, .val (.int (0 : Int32))] [(.ref a1), (.int (0 : Int32))])) t → Steps p.tables e below (s₁.setTop (entryFrame m #[(.ref a1)] 4)) t := fun t k => k0 t (by
    show Steps p.tables e below (s₁.setTop (mkF m 0 #[.val (.ref a1), .unset, .unset, .unset] [])) _
    refine XS.dconst0 X0.here hx rfl (hb hby d3_0) (v := (0 : UInt64)) rfl ?_
    show Steps p.tables e below (s₁.setTop (mkF m 1 #[.val (.ref a1), .unset, .unset, .unset] [(.double (0 : UInt64))])) _
    refine XS.dstoreN X0.here hx rfl (hb hby d3_1) rfl (l' := #[.val (.ref a1), .val (.double (0 : UInt64)), .second, .unset]) rfl ?_
    show Steps p.tables e below (s₁.setTop (mkF m 2 #[.val (.ref a1), .val (.double (0 : UInt64)), .second, .unset] [])) _
    refine XS.iconst X0.here hx rfl (hb hby d3_2) ?_
    show Steps p.tables e below (s₁.setTop (mkF m 3 #[.val (.ref a1), .val (.double (0 : UInt64)), .second, .unset] [(.int (0 : Int32))])) _
    refine XS.istoreN X0.here hx rfl (hb hby d3_3) rfl (l' := #[.val (.ref a1), .val (.double (0 : UInt64)), .second, .val (.int (0 : Int32))]) rfl ?_
    show Steps p.tables e below (s₁.setTop (mkF m 4 #[.val (.ref a1), .val (.double (0 : UInt64)), .second, .val (.int (0 : Int32))] [])) _
    refine XS.iloadN X0.here hx rfl (hb hby d3_4) rfl ?_
    show Steps p.tables e below (s₁.setTop (mkF m 5 #[.val (.ref a1), .val (.double (0 : UInt64)), .second, .val (.int (0 : Int32))] [(.int (0 : Int32))])) _
    refine XS.aloadN X0.here hx rfl (hb hby d3_5) rfl rfl ?_
    exact k)
  obtain ⟨T102, X102, e102, st102⟩ := getF X0 hx hZ hown (host := "") (Or.inl (hw _ (List.mem_of_getElem? (i := 26) rfl))) Via.refl e0 F1 (g := (mkF m 6 #[.val (.ref a1), .val (.double (0 : UInt64)), .second, .val (.int (0 : Int32))] [(.ref a1), (.int (0 : Int32))])) rfl rfl (hb hby d3_6)
  have k103 : ∀ t, Steps p.tables e below (T102.setTop (mkF m 9 #[.val (.ref a1), .val (.double (0 : UInt64)), .second, .val (.int (0 : Int32))] [(.ref a2), (.int (0 : Int32))])) t → Steps p.tables e below (s₁.setTop (entryFrame m #[(.ref a1)] 4)) t := fun t k => k101 t (st102 t k)
  obtain ⟨c104, Ar104, -, As104, An104, -, -⟩ := id V1
  have k105 : ∀ t, Steps p.tables e below (T102.setTop (mkF m 19 #[.val (.ref a1), .val (.double (0 : UInt64)), .second, .val (.int (0 : Int32))] [(.ref a1), (.double (FP.i2d (1 : Int32))), (.double (0 : UInt64))])) t → Steps p.tables e below (s₁.setTop (entryFrame m #[(.ref a1)] 4)) t := fun t k => k103 t (by
    show Steps p.tables e below (T102.setTop (mkF m 9 #[.val (.ref a1), .val (.double (0 : UInt64)), .second, .val (.int (0 : Int32))] [(.ref a2), (.int (0 : Int32))])) _
    refine X102.arraylength hx (by rw [e102]; exact Ar104.1) (State.isArrayOf_alike hZ.alike Ar104.2.1) (g := (mkF m 9 #[.val (.ref a1), .val (.double (0 : UInt64)), .second, .val (.int (0 : Int32))] [(.ref a2), (.int (0 : Int32))])) rfl rfl (hb hby d3_9) _ ?_
    rw [len_of As104 An104]
    show Steps p.tables e below (T102.setTop (mkF m 10 #[.val (.ref a1), .val (.double (0 : UInt64)), .second, .val (.int (0 : Int32))] [(.int (1 : Int32)), (.int (0 : Int32))])) _
    refine XS.icmpNo X102.here hx rfl (hb hby d3_10) rfl (tlt (by decide)).2.1 ?_
    show Steps p.tables e below (T102.setTop (mkF m 13 #[.val (.ref a1), .val (.double (0 : UInt64)), .second, .val (.int (0 : Int32))] [])) _
    refine XS.dloadN X102.here hx rfl (hb hby d3_13) rfl ?_
    show Steps p.tables e below (T102.setTop (mkF m 14 #[.val (.ref a1), .val (.double (0 : UInt64)), .second, .val (.int (0 : Int32))] [(.double (0 : UInt64))])) _
    refine XS.iloadN X102.here hx rfl (hb hby d3_14) rfl ?_
    show Steps p.tables e below (T102.setTop (mkF m 15 #[.val (.ref a1), .val (.double (0 : UInt64)), .second, .val (.int (0 : Int32))] [(.int (0 : Int32)), (.double (0 : UInt64))])) _
    refine XS.iconst X102.here hx rfl (hb hby d3_15) ?_
    show Steps p.tables e below (T102.setTop (mkF m 16 #[.val (.ref a1), .val (.double (0 : UInt64)), .second, .val (.int (0 : Int32))] [(.int (1 : Int32)), (.int (0 : Int32)), (.double (0 : UInt64))])) _
    refine XS.iadd X102.here hx rfl (hb hby d3_16) rfl ?_
    show Steps p.tables e below (T102.setTop (mkF m 17 #[.val (.ref a1), .val (.double (0 : UInt64)), .second, .val (.int (0 : Int32))] [(.int ((0 : Int32) + (1 : Int32))), (.double (0 : UInt64))])) _
    refine castTop (g' := (mkF m 17 #[.val (.ref a1), .val (.double (0 : UInt64)), .second, .val (.int (0 : Int32))] [(.int (1 : Int32)), (.double (0 : UInt64))])) (by rw [show ((0 : Int32) + (1 : Int32)) = (1 : Int32) by decide]) ?_
    show Steps p.tables e below (T102.setTop (mkF m 17 #[.val (.ref a1), .val (.double (0 : UInt64)), .second, .val (.int (0 : Int32))] [(.int (1 : Int32)), (.double (0 : UInt64))])) _
    refine XS.i2dS X102.here hx rfl (hb hby d3_17) rfl rfl ?_
    show Steps p.tables e below (T102.setTop (mkF m 18 #[.val (.ref a1), .val (.double (0 : UInt64)), .second, .val (.int (0 : Int32))] [(.double (FP.i2d (1 : Int32))), (.double (0 : UInt64))])) _
    refine XS.aloadN X102.here hx rfl (hb hby d3_18) rfl rfl ?_
    exact k)
  obtain ⟨T106, X106, e106, st106⟩ := getF X102 hx hZ hown (host := "") (Or.inl (hw _ (List.mem_of_getElem? (i := 26) rfl))) Via.refl e102 F1 (g := (mkF m 19 #[.val (.ref a1), .val (.double (0 : UInt64)), .second, .val (.int (0 : Int32))] [(.ref a1), (.double (FP.i2d (1 : Int32))), (.double (0 : UInt64))])) rfl rfl (hb hby d3_19)
  have k107 : ∀ t, Steps p.tables e below (T106.setTop (mkF m 22 #[.val (.ref a1), .val (.double (0 : UInt64)), .second, .val (.int (0 : Int32))] [(.ref a2), (.double (FP.i2d (1 : Int32))), (.double (0 : UInt64))])) t → Steps p.tables e below (s₁.setTop (entryFrame m #[(.ref a1)] 4)) t := fun t k => k105 t (st106 t k)
  have k108 : ∀ t, Steps p.tables e below (T106.setTop (mkF m 23 #[.val (.ref a1), .val (.double (0 : UInt64)), .second, .val (.int (0 : Int32))] [(.int (0 : Int32)), (.ref a2), (.double (FP.i2d (1 : Int32))), (.double (0 : UInt64))])) t → Steps p.tables e below (s₁.setTop (entryFrame m #[(.ref a1)] 4)) t := fun t k => k107 t (by
    show Steps p.tables e below (T106.setTop (mkF m 22 #[.val (.ref a1), .val (.double (0 : UInt64)), .second, .val (.int (0 : Int32))] [(.ref a2), (.double (FP.i2d (1 : Int32))), (.double (0 : UInt64))])) _
    refine XS.iloadN X106.here hx rfl (hb hby d3_22) rfl ?_
    exact k)
  obtain ⟨c109, Ar109, -, As109, An109, Ah109, -⟩ := id V1
  have hin109 : ¬ ((0 : Int32) < 0 ∨ c109.slots.size ≤ ((0 : Int32)).toNatClampNeg) := inb_of As109 ⟨by decide, by decide⟩
  have hat109 : c109.slots[((0 : Int32)).toNatClampNeg]? = some (.int r0) := Has.at Ah109 hin109 rfl
  have k110 : ∀ t, Steps p.tables e below (T106.setTop (mkF m 6 #[.val (.ref a1), .val (.double (FP.dadd (0 : UInt64) (FP.ddiv (FP.i2d (1 : Int32)) (FP.i2d r0)))), .second, .val (.int (1 : Int32))] [(.ref a1), (.int (1 : Int32))])) t → Steps p.tables e below (s₁.setTop (entryFrame m #[(.ref a1)] 4)) t := fun t k => k108 t (by
    show Steps p.tables e below (T106.setTop (mkF m 23 #[.val (.ref a1), .val (.double (0 : UInt64)), .second, .val (.int (0 : Int32))] [(.int (0 : Int32)), (.ref a2), (.double (FP.i2d (1 : Int32))), (.double (0 : UInt64))])) _
    refine X106.iaload hx (j := (0 : Int32)) (v := (.int r0)) (by rw [e106]; exact Ar109.1) (State.isArrayOf_alike hZ.alike Ar109.2.1) Ar109.2.2 hin109 hat109 (g := (mkF m 23 #[.val (.ref a1), .val (.double (0 : UInt64)), .second, .val (.int (0 : Int32))] [(.int (0 : Int32)), (.ref a2), (.double (FP.i2d (1 : Int32))), (.double (0 : UInt64))])) rfl rfl (hb hby d3_23) _ ?_
    show Steps p.tables e below (T106.setTop (mkF m 24 #[.val (.ref a1), .val (.double (0 : UInt64)), .second, .val (.int (0 : Int32))] [(.int r0), (.double (FP.i2d (1 : Int32))), (.double (0 : UInt64))])) _
    refine XS.i2dS X106.here hx rfl (hb hby d3_24) rfl rfl ?_
    show Steps p.tables e below (T106.setTop (mkF m 25 #[.val (.ref a1), .val (.double (0 : UInt64)), .second, .val (.int (0 : Int32))] [(.double (FP.i2d r0)), (.double (FP.i2d (1 : Int32))), (.double (0 : UInt64))])) _
    refine XS.ddivS X106.here hx rfl (hb hby d3_25) rfl (nq0) rfl ?_
    show Steps p.tables e below (T106.setTop (mkF m 26 #[.val (.ref a1), .val (.double (0 : UInt64)), .second, .val (.int (0 : Int32))] [(.double (FP.ddiv (FP.i2d (1 : Int32)) (FP.i2d r0))), (.double (0 : UInt64))])) _
    refine XS.daddS X106.here hx rfl (hb hby d3_26) rfl (na0) rfl ?_
    show Steps p.tables e below (T106.setTop (mkF m 27 #[.val (.ref a1), .val (.double (0 : UInt64)), .second, .val (.int (0 : Int32))] [(.double (FP.dadd (0 : UInt64) (FP.ddiv (FP.i2d (1 : Int32)) (FP.i2d r0))))])) _
    refine XS.dstoreN X106.here hx rfl (hb hby d3_27) rfl (l' := #[.val (.ref a1), .val (.double (FP.dadd (0 : UInt64) (FP.ddiv (FP.i2d (1 : Int32)) (FP.i2d r0)))), .second, .val (.int (0 : Int32))]) rfl ?_
    show Steps p.tables e below (T106.setTop (mkF m 28 #[.val (.ref a1), .val (.double (FP.dadd (0 : UInt64) (FP.ddiv (FP.i2d (1 : Int32)) (FP.i2d r0)))), .second, .val (.int (0 : Int32))] [])) _
    refine XS.iinc X106.here hx rfl (hb hby d3_28) rfl (l' := #[.val (.ref a1), .val (.double (FP.dadd (0 : UInt64) (FP.ddiv (FP.i2d (1 : Int32)) (FP.i2d r0)))), .second, .val (.int (1 : Int32))]) rfl ?_
    show Steps p.tables e below (T106.setTop (mkF m 31 #[.val (.ref a1), .val (.double (FP.dadd (0 : UInt64) (FP.ddiv (FP.i2d (1 : Int32)) (FP.i2d r0)))), .second, .val (.int (1 : Int32))] [])) _
    refine XS.goto X106.here hx rfl (pc0 := 31) (pc' := 4) rfl (hb hby d3_31) (by decide) (by decide) ?_
    show Steps p.tables e below (T106.setTop (mkF m 4 #[.val (.ref a1), .val (.double (FP.dadd (0 : UInt64) (FP.ddiv (FP.i2d (1 : Int32)) (FP.i2d r0)))), .second, .val (.int (1 : Int32))] [])) _
    refine XS.iloadN X106.here hx rfl (hb hby d3_4) rfl ?_
    show Steps p.tables e below (T106.setTop (mkF m 5 #[.val (.ref a1), .val (.double (FP.dadd (0 : UInt64) (FP.ddiv (FP.i2d (1 : Int32)) (FP.i2d r0)))), .second, .val (.int (1 : Int32))] [(.int (1 : Int32))])) _
    refine XS.aloadN X106.here hx rfl (hb hby d3_5) rfl rfl ?_
    exact k)
  obtain ⟨T111, X111, e111, st111⟩ := getF X106 hx hZ hown (host := "") (Or.inl (hw _ (List.mem_of_getElem? (i := 26) rfl))) Via.refl e106 F1 (g := (mkF m 6 #[.val (.ref a1), .val (.double (FP.dadd (0 : UInt64) (FP.ddiv (FP.i2d (1 : Int32)) (FP.i2d r0)))), .second, .val (.int (1 : Int32))] [(.ref a1), (.int (1 : Int32))])) rfl rfl (hb hby d3_6)
  have k112 : ∀ t, Steps p.tables e below (T111.setTop (mkF m 9 #[.val (.ref a1), .val (.double (FP.dadd (0 : UInt64) (FP.ddiv (FP.i2d (1 : Int32)) (FP.i2d r0)))), .second, .val (.int (1 : Int32))] [(.ref a2), (.int (1 : Int32))])) t → Steps p.tables e below (s₁.setTop (entryFrame m #[(.ref a1)] 4)) t := fun t k => k110 t (st111 t k)
  obtain ⟨c113, Ar113, -, As113, An113, -, -⟩ := id V1
  have k114 : ∀ t, Steps p.tables e below (T111.setTop (mkF m 35 #[.val (.ref a1), .val (.double (FP.dadd (0 : UInt64) (FP.ddiv (FP.i2d (1 : Int32)) (FP.i2d r0)))), .second, .val (.int (1 : Int32))] [(.ref a1)])) t → Steps p.tables e below (s₁.setTop (entryFrame m #[(.ref a1)] 4)) t := fun t k => k112 t (by
    show Steps p.tables e below (T111.setTop (mkF m 9 #[.val (.ref a1), .val (.double (FP.dadd (0 : UInt64) (FP.ddiv (FP.i2d (1 : Int32)) (FP.i2d r0)))), .second, .val (.int (1 : Int32))] [(.ref a2), (.int (1 : Int32))])) _
    refine X111.arraylength hx (by rw [e111]; exact Ar113.1) (State.isArrayOf_alike hZ.alike Ar113.2.1) (g := (mkF m 9 #[.val (.ref a1), .val (.double (FP.dadd (0 : UInt64) (FP.ddiv (FP.i2d (1 : Int32)) (FP.i2d r0)))), .second, .val (.int (1 : Int32))] [(.ref a2), (.int (1 : Int32))])) rfl rfl (hb hby d3_9) _ ?_
    rw [len_of As113 An113]
    show Steps p.tables e below (T111.setTop (mkF m 10 #[.val (.ref a1), .val (.double (FP.dadd (0 : UInt64) (FP.ddiv (FP.i2d (1 : Int32)) (FP.i2d r0)))), .second, .val (.int (1 : Int32))] [(.int (1 : Int32)), (.int (1 : Int32))])) _
    refine XS.icmpYes X111.here hx rfl (pc0 := 10) (pc' := 34) rfl (hb hby d3_10) rfl (flt (by decide)).2.1 (by decide) (by decide) ?_
    show Steps p.tables e below (T111.setTop (mkF m 34 #[.val (.ref a1), .val (.double (FP.dadd (0 : UInt64) (FP.ddiv (FP.i2d (1 : Int32)) (FP.i2d r0)))), .second, .val (.int (1 : Int32))] [])) _
    refine XS.aloadN X111.here hx rfl (hb hby d3_34) rfl rfl ?_
    exact k)
  obtain ⟨T115, X115, e115, st115⟩ := getF X111 hx hZ hown (host := "") (Or.inl (hw _ (List.mem_of_getElem? (i := 24) rfl))) Via.refl e111 F2 (g := (mkF m 35 #[.val (.ref a1), .val (.double (FP.dadd (0 : UInt64) (FP.ddiv (FP.i2d (1 : Int32)) (FP.i2d r0)))), .second, .val (.int (1 : Int32))] [(.ref a1)])) rfl rfl (hb hby d3_35)
  have k116 : ∀ t, Steps p.tables e below (T115.setTop (mkF m 38 #[.val (.ref a1), .val (.double (FP.dadd (0 : UInt64) (FP.ddiv (FP.i2d (1 : Int32)) (FP.i2d r0)))), .second, .val (.int (1 : Int32))] [(.int p2)])) t → Steps p.tables e below (s₁.setTop (entryFrame m #[(.ref a1)] 4)) t := fun t k => k114 t (st115 t k)
  have k117 : ∀ t, Steps p.tables e below (T115.setTop (mkF m 52 #[.val (.ref a1), .val (.double (FP.dadd (0 : UInt64) (FP.ddiv (FP.i2d (1 : Int32)) (FP.i2d r0)))), .second, .val (.int (1 : Int32))] [(.double (0 : UInt64))])) t → Steps p.tables e below (s₁.setTop (entryFrame m #[(.ref a1)] 4)) t := fun t k => k116 t (by
    show Steps p.tables e below (T115.setTop (mkF m 38 #[.val (.ref a1), .val (.double (FP.dadd (0 : UInt64) (FP.ddiv (FP.i2d (1 : Int32)) (FP.i2d r0)))), .second, .val (.int (1 : Int32))] [(.int p2)])) _
    refine XS.ifNo X115.here hx rfl (hb hby d3_38) rfl ((if0 _ _).trans (teq c38).2) ?_
    show Steps p.tables e below (T115.setTop (mkF m 41 #[.val (.ref a1), .val (.double (FP.dadd (0 : UInt64) (FP.ddiv (FP.i2d (1 : Int32)) (FP.i2d r0)))), .second, .val (.int (1 : Int32))] [])) _
    refine XS.dconst0 X115.here hx rfl (hb hby d3_41) (v := (0 : UInt64)) rfl ?_
    show Steps p.tables e below (T115.setTop (mkF m 42 #[.val (.ref a1), .val (.double (FP.dadd (0 : UInt64) (FP.ddiv (FP.i2d (1 : Int32)) (FP.i2d r0)))), .second, .val (.int (1 : Int32))] [(.double (0 : UInt64))])) _
    refine XS.goto X115.here hx rfl (pc0 := 42) (pc' := 52) rfl (hb hby d3_42) (by decide) (by decide) ?_
    exact k)
  obtain ⟨fs, hr, hrun, hended, hW, hsame⟩ := X115.leave (v := some (.double (0 : UInt64))) (fun h => by rw [Bd.returns] at h; cases h)
  refine ⟨_, _, k117 _ (retOut X115 hx (t := .double) Bd.returns rfl (Or.inr (Or.inr (Or.inl ⟨rfl, rfl, _, rfl⟩))) (hb hby d3_52) hr), hrun, hended, _, _, rfl, ?_, ⟨_, rfl⟩, hW, hsame.mono (by decide) (by decide)⟩
  show Q_avp1_1 Z a1 a2 k1 p2 r0 h0 n0 _ T115.heap _
  rw [e115]
  exact ⟨rfl, N0, rfl⟩
def Q_avp2_0 (Z : State) (a1 : Addr) (a2 : Addr) (k1 : ClassId) (p2 : Int32) (r0 : Int32) (r1 : Int32) (h0 : Heap) (n0 : Nat) (v : Option Value) (h : Heap) (L : List Loc) : Prop := v = some (.double (FP.ddiv (FP.dadd (FP.dadd (0 : UInt64) (FP.ddiv (FP.i2d (1 : Int32)) (FP.i2d r0))) (FP.ddiv (FP.i2d (2 : Int32)) (FP.i2d r1))) (FP.i2d p2))) ∧ Fr n0 L ∧ h = h0
set_option maxRecDepth 65536 in
set_option maxHeartbeats 40000000 in
theorem avp2_0 (l : Launch) (Z : State) (a0 : Array Value) (hw : ∀ d ∈ tables_1, d.before a0 Z = true) (ws : List Jvm.Cond) (a1 : Addr) (a2 : Addr) (k1 : ClassId) (p2 : Int32) (r0 : Int32) (r1 : Int32) (h0 : Heap) (n0 : Nat) (Z0 : n0 ≤ h0.size) (F1 : Fld Z h0 a1 "com/example/round2/round2/eval/TopicResult" "relevantRanks" "[I" (.ref a2)) (F2 : Fld Z h0 a1 "com/example/round2/round2/eval/TopicResult" "relevant" "I" (.int p2)) (V1 : Arv Z h0 a2 k1 .int (2 : Int32) [(.int r0), (.int r1)] (.int (0 : Int32))) (c38 : ¬ (p2 = (0 : Int32))) (nq0 : Jvm.Free.Fl.NoNaN64 (FP.ddiv (FP.i2d (1 : Int32)) (FP.i2d r0))) (na0 : Jvm.Free.Fl.NoNaN64 (FP.dadd (0 : UInt64) (FP.ddiv (FP.i2d (1 : Int32)) (FP.i2d r0)))) (nq1 : Jvm.Free.Fl.NoNaN64 (FP.ddiv (FP.i2d (2 : Int32)) (FP.i2d r1))) (na1 : Jvm.Free.Fl.NoNaN64 (FP.dadd (FP.dadd (0 : UInt64) (FP.ddiv (FP.i2d (1 : Int32)) (FP.i2d r0))) (FP.ddiv (FP.i2d (2 : Int32)) (FP.i2d r1)))) (nn51 : Jvm.Free.Fl.NoNaN64 (FP.ddiv (FP.dadd (FP.dadd (0 : UInt64) (FP.ddiv (FP.i2d (1 : Int32)) (FP.i2d r0))) (FP.ddiv (FP.i2d (2 : Int32)) (FP.i2d r1))) (FP.i2d p2))) :
    MetFree l (⟨"com/example/round2/round2/eval/TopicResult", "averagePrecision", "()D"⟩ : MethodName) (head1 (Jvm.Cond.code (⟨"com/example/round2/round2/eval/TopicResult", "averagePrecision", "()D"⟩ : MethodName) prog_10_method_6_code 4 (some .double) :: ws) ({ frames := 0, cells := 0, slots := 0, locals := 0 } : Room)) (fun a U => a = #[(.ref a1)] ∧ Z.Warmed39 U.vm ∧ U.heap = h0) (fun _ _ _ _ _ => True) (fun _ U o U' => ∃ v L, o = .returned v ∧ Q_avp2_0 Z a1 a2 k1 p2 r0 r1 h0 n0 v U'.heap L ∧ FrameEnd U o U' L ({ frames := 0, cells := 0, slots := 0, locals := 0 } : Room).cells ({ frames := 0, cells := 0, slots := 0, locals := 0 } : Room).slots) := by
  refine MetFree.of_bodySF (plainFor_of_name pn_com_2fexample_2fround2_2fround2_2feval_2fTopicResult) hisR ?_
  intro p e s m args below meth c s₁ Bd hml0 hP hK
  obtain ⟨rfl, hZ, hh⟩ := hP
  have hx := Bd.exec
  have hby := Bd.bytes
  have hml : c.maxLocals = 4 := hml0
  have hown : s.vm.findClass "com/example/round2/round2/eval/TopicResult" = some m.cls := findClass_of_methodNamed Bd.named
  have hnm := (name_of_methodNamed Bd.named Bd.method).1
  have X0 : Stand p l e ({ frames := 0, cells := 0, slots := 0, locals := 0 } : Room) s m #[(.ref a1)] below meth c s₁ [] 0 0 := Stand.of_body Bd
  have e0 : s₁.heap = h0 := by rw [← hh, Bd.state]; rfl
  have N0 := Fr.nil n0
  have k0 : ∀ t, Steps p.tables e below (s₁.setTop (mkF m 0 #[.val (.ref a1), .unset, .unset, .unset] [])) t → Steps p.tables e below (s₁.setTop (entryFrame m #[(.ref a1)] 4)) t := fun t k => castTop (ef_3_R m a1) k
  have k101 : ∀ t, Steps p.tables e below (s₁.setTop (mkF m 6 #[.val (.ref a1), .val (.double (0 : UInt64)), .second, .val (.int (0 : Int32))] [(.ref a1), (.int (0 : Int32))])) t → Steps p.tables e below (s₁.setTop (entryFrame m #[(.ref a1)] 4)) t := fun t k => k0 t (by
    show Steps p.tables e below (s₁.setTop (mkF m 0 #[.val (.ref a1), .unset, .unset, .unset] [])) _
    refine XS.dconst0 X0.here hx rfl (hb hby d3_0) (v := (0 : UInt64)) rfl ?_
    show Steps p.tables e below (s₁.setTop (mkF m 1 #[.val (.ref a1), .unset, .unset, .unset] [(.double (0 : UInt64))])) _
    refine XS.dstoreN X0.here hx rfl (hb hby d3_1) rfl (l' := #[.val (.ref a1), .val (.double (0 : UInt64)), .second, .unset]) rfl ?_
    show Steps p.tables e below (s₁.setTop (mkF m 2 #[.val (.ref a1), .val (.double (0 : UInt64)), .second, .unset] [])) _
    refine XS.iconst X0.here hx rfl (hb hby d3_2) ?_
    show Steps p.tables e below (s₁.setTop (mkF m 3 #[.val (.ref a1), .val (.double (0 : UInt64)), .second, .unset] [(.int (0 : Int32))])) _
    refine XS.istoreN X0.here hx rfl (hb hby d3_3) rfl (l' := #[.val (.ref a1), .val (.double (0 : UInt64)), .second, .val (.int (0 : Int32))]) rfl ?_
    show Steps p.tables e below (s₁.setTop (mkF m 4 #[.val (.ref a1), .val (.double (0 : UInt64)), .second, .val (.int (0 : Int32))] [])) _
    refine XS.iloadN X0.here hx rfl (hb hby d3_4) rfl ?_
    show Steps p.tables e below (s₁.setTop (mkF m 5 #[.val (.ref a1), .val (.double (0 : UInt64)), .second, .val (.int (0 : Int32))] [(.int (0 : Int32))])) _
    refine XS.aloadN X0.here hx rfl (hb hby d3_5) rfl rfl ?_
    exact k)
  obtain ⟨T102, X102, e102, st102⟩ := getF X0 hx hZ hown (host := "") (Or.inl (hw _ (List.mem_of_getElem? (i := 26) rfl))) Via.refl e0 F1 (g := (mkF m 6 #[.val (.ref a1), .val (.double (0 : UInt64)), .second, .val (.int (0 : Int32))] [(.ref a1), (.int (0 : Int32))])) rfl rfl (hb hby d3_6)
  have k103 : ∀ t, Steps p.tables e below (T102.setTop (mkF m 9 #[.val (.ref a1), .val (.double (0 : UInt64)), .second, .val (.int (0 : Int32))] [(.ref a2), (.int (0 : Int32))])) t → Steps p.tables e below (s₁.setTop (entryFrame m #[(.ref a1)] 4)) t := fun t k => k101 t (st102 t k)
  obtain ⟨c104, Ar104, -, As104, An104, -, -⟩ := id V1
  have k105 : ∀ t, Steps p.tables e below (T102.setTop (mkF m 19 #[.val (.ref a1), .val (.double (0 : UInt64)), .second, .val (.int (0 : Int32))] [(.ref a1), (.double (FP.i2d (1 : Int32))), (.double (0 : UInt64))])) t → Steps p.tables e below (s₁.setTop (entryFrame m #[(.ref a1)] 4)) t := fun t k => k103 t (by
    show Steps p.tables e below (T102.setTop (mkF m 9 #[.val (.ref a1), .val (.double (0 : UInt64)), .second, .val (.int (0 : Int32))] [(.ref a2), (.int (0 : Int32))])) _
    refine X102.arraylength hx (by rw [e102]; exact Ar104.1) (State.isArrayOf_alike hZ.alike Ar104.2.1) (g := (mkF m 9 #[.val (.ref a1), .val (.double (0 : UInt64)), .second, .val (.int (0 : Int32))] [(.ref a2), (.int (0 : Int32))])) rfl rfl (hb hby d3_9) _ ?_
    rw [len_of As104 An104]
    show Steps p.tables e below (T102.setTop (mkF m 10 #[.val (.ref a1), .val (.double (0 : UInt64)), .second, .val (.int (0 : Int32))] [(.int (2 : Int32)), (.int (0 : Int32))])) _
    refine XS.icmpNo X102.here hx rfl (hb hby d3_10) rfl (tlt (by decide)).2.1 ?_
    show Steps p.tables e below (T102.setTop (mkF m 13 #[.val (.ref a1), .val (.double (0 : UInt64)), .second, .val (.int (0 : Int32))] [])) _
    refine XS.dloadN X102.here hx rfl (hb hby d3_13) rfl ?_
    show Steps p.tables e below (T102.setTop (mkF m 14 #[.val (.ref a1), .val (.double (0 : UInt64)), .second, .val (.int (0 : Int32))] [(.double (0 : UInt64))])) _
    refine XS.iloadN X102.here hx rfl (hb hby d3_14) rfl ?_
    show Steps p.tables e below (T102.setTop (mkF m 15 #[.val (.ref a1), .val (.double (0 : UInt64)), .second, .val (.int (0 : Int32))] [(.int (0 : Int32)), (.double (0 : UInt64))])) _
    refine XS.iconst X102.here hx rfl (hb hby d3_15) ?_
    show Steps p.tables e below (T102.setTop (mkF m 16 #[.val (.ref a1), .val (.double (0 : UInt64)), .second, .val (.int (0 : Int32))] [(.int (1 : Int32)), (.int (0 : Int32)), (.double (0 : UInt64))])) _
    refine XS.iadd X102.here hx rfl (hb hby d3_16) rfl ?_
    show Steps p.tables e below (T102.setTop (mkF m 17 #[.val (.ref a1), .val (.double (0 : UInt64)), .second, .val (.int (0 : Int32))] [(.int ((0 : Int32) + (1 : Int32))), (.double (0 : UInt64))])) _
    refine castTop (g' := (mkF m 17 #[.val (.ref a1), .val (.double (0 : UInt64)), .second, .val (.int (0 : Int32))] [(.int (1 : Int32)), (.double (0 : UInt64))])) (by rw [show ((0 : Int32) + (1 : Int32)) = (1 : Int32) by decide]) ?_
    show Steps p.tables e below (T102.setTop (mkF m 17 #[.val (.ref a1), .val (.double (0 : UInt64)), .second, .val (.int (0 : Int32))] [(.int (1 : Int32)), (.double (0 : UInt64))])) _
    refine XS.i2dS X102.here hx rfl (hb hby d3_17) rfl rfl ?_
    show Steps p.tables e below (T102.setTop (mkF m 18 #[.val (.ref a1), .val (.double (0 : UInt64)), .second, .val (.int (0 : Int32))] [(.double (FP.i2d (1 : Int32))), (.double (0 : UInt64))])) _
    refine XS.aloadN X102.here hx rfl (hb hby d3_18) rfl rfl ?_
    exact k)
  obtain ⟨T106, X106, e106, st106⟩ := getF X102 hx hZ hown (host := "") (Or.inl (hw _ (List.mem_of_getElem? (i := 26) rfl))) Via.refl e102 F1 (g := (mkF m 19 #[.val (.ref a1), .val (.double (0 : UInt64)), .second, .val (.int (0 : Int32))] [(.ref a1), (.double (FP.i2d (1 : Int32))), (.double (0 : UInt64))])) rfl rfl (hb hby d3_19)
  have k107 : ∀ t, Steps p.tables e below (T106.setTop (mkF m 22 #[.val (.ref a1), .val (.double (0 : UInt64)), .second, .val (.int (0 : Int32))] [(.ref a2), (.double (FP.i2d (1 : Int32))), (.double (0 : UInt64))])) t → Steps p.tables e below (s₁.setTop (entryFrame m #[(.ref a1)] 4)) t := fun t k => k105 t (st106 t k)
  have k108 : ∀ t, Steps p.tables e below (T106.setTop (mkF m 23 #[.val (.ref a1), .val (.double (0 : UInt64)), .second, .val (.int (0 : Int32))] [(.int (0 : Int32)), (.ref a2), (.double (FP.i2d (1 : Int32))), (.double (0 : UInt64))])) t → Steps p.tables e below (s₁.setTop (entryFrame m #[(.ref a1)] 4)) t := fun t k => k107 t (by
    show Steps p.tables e below (T106.setTop (mkF m 22 #[.val (.ref a1), .val (.double (0 : UInt64)), .second, .val (.int (0 : Int32))] [(.ref a2), (.double (FP.i2d (1 : Int32))), (.double (0 : UInt64))])) _
    refine XS.iloadN X106.here hx rfl (hb hby d3_22) rfl ?_
    exact k)
  obtain ⟨c109, Ar109, -, As109, An109, Ah109, -⟩ := id V1
  have hin109 : ¬ ((0 : Int32) < 0 ∨ c109.slots.size ≤ ((0 : Int32)).toNatClampNeg) := inb_of As109 ⟨by decide, by decide⟩
  have hat109 : c109.slots[((0 : Int32)).toNatClampNeg]? = some (.int r0) := Has.at Ah109 hin109 rfl
  have k110 : ∀ t, Steps p.tables e below (T106.setTop (mkF m 6 #[.val (.ref a1), .val (.double (FP.dadd (0 : UInt64) (FP.ddiv (FP.i2d (1 : Int32)) (FP.i2d r0)))), .second, .val (.int (1 : Int32))] [(.ref a1), (.int (1 : Int32))])) t → Steps p.tables e below (s₁.setTop (entryFrame m #[(.ref a1)] 4)) t := fun t k => k108 t (by
    show Steps p.tables e below (T106.setTop (mkF m 23 #[.val (.ref a1), .val (.double (0 : UInt64)), .second, .val (.int (0 : Int32))] [(.int (0 : Int32)), (.ref a2), (.double (FP.i2d (1 : Int32))), (.double (0 : UInt64))])) _
    refine X106.iaload hx (j := (0 : Int32)) (v := (.int r0)) (by rw [e106]; exact Ar109.1) (State.isArrayOf_alike hZ.alike Ar109.2.1) Ar109.2.2 hin109 hat109 (g := (mkF m 23 #[.val (.ref a1), .val (.double (0 : UInt64)), .second, .val (.int (0 : Int32))] [(.int (0 : Int32)), (.ref a2), (.double (FP.i2d (1 : Int32))), (.double (0 : UInt64))])) rfl rfl (hb hby d3_23) _ ?_
    show Steps p.tables e below (T106.setTop (mkF m 24 #[.val (.ref a1), .val (.double (0 : UInt64)), .second, .val (.int (0 : Int32))] [(.int r0), (.double (FP.i2d (1 : Int32))), (.double (0 : UInt64))])) _
    refine XS.i2dS X106.here hx rfl (hb hby d3_24) rfl rfl ?_
    show Steps p.tables e below (T106.setTop (mkF m 25 #[.val (.ref a1), .val (.double (0 : UInt64)), .second, .val (.int (0 : Int32))] [(.double (FP.i2d r0)), (.double (FP.i2d (1 : Int32))), (.double (0 : UInt64))])) _
    refine XS.ddivS X106.here hx rfl (hb hby d3_25) rfl (nq0) rfl ?_
    show Steps p.tables e below (T106.setTop (mkF m 26 #[.val (.ref a1), .val (.double (0 : UInt64)), .second, .val (.int (0 : Int32))] [(.double (FP.ddiv (FP.i2d (1 : Int32)) (FP.i2d r0))), (.double (0 : UInt64))])) _
    refine XS.daddS X106.here hx rfl (hb hby d3_26) rfl (na0) rfl ?_
    show Steps p.tables e below (T106.setTop (mkF m 27 #[.val (.ref a1), .val (.double (0 : UInt64)), .second, .val (.int (0 : Int32))] [(.double (FP.dadd (0 : UInt64) (FP.ddiv (FP.i2d (1 : Int32)) (FP.i2d r0))))])) _
    refine XS.dstoreN X106.here hx rfl (hb hby d3_27) rfl (l' := #[.val (.ref a1), .val (.double (FP.dadd (0 : UInt64) (FP.ddiv (FP.i2d (1 : Int32)) (FP.i2d r0)))), .second, .val (.int (0 : Int32))]) rfl ?_
    show Steps p.tables e below (T106.setTop (mkF m 28 #[.val (.ref a1), .val (.double (FP.dadd (0 : UInt64) (FP.ddiv (FP.i2d (1 : Int32)) (FP.i2d r0)))), .second, .val (.int (0 : Int32))] [])) _
    refine XS.iinc X106.here hx rfl (hb hby d3_28) rfl (l' := #[.val (.ref a1), .val (.double (FP.dadd (0 : UInt64) (FP.ddiv (FP.i2d (1 : Int32)) (FP.i2d r0)))), .second, .val (.int (1 : Int32))]) rfl ?_
    show Steps p.tables e below (T106.setTop (mkF m 31 #[.val (.ref a1), .val (.double (FP.dadd (0 : UInt64) (FP.ddiv (FP.i2d (1 : Int32)) (FP.i2d r0)))), .second, .val (.int (1 : Int32))] [])) _
    refine XS.goto X106.here hx rfl (pc0 := 31) (pc' := 4) rfl (hb hby d3_31) (by decide) (by decide) ?_
    show Steps p.tables e below (T106.setTop (mkF m 4 #[.val (.ref a1), .val (.double (FP.dadd (0 : UInt64) (FP.ddiv (FP.i2d (1 : Int32)) (FP.i2d r0)))), .second, .val (.int (1 : Int32))] [])) _
    refine XS.iloadN X106.here hx rfl (hb hby d3_4) rfl ?_
    show Steps p.tables e below (T106.setTop (mkF m 5 #[.val (.ref a1), .val (.double (FP.dadd (0 : UInt64) (FP.ddiv (FP.i2d (1 : Int32)) (FP.i2d r0)))), .second, .val (.int (1 : Int32))] [(.int (1 : Int32))])) _
    refine XS.aloadN X106.here hx rfl (hb hby d3_5) rfl rfl ?_
    exact k)
  obtain ⟨T111, X111, e111, st111⟩ := getF X106 hx hZ hown (host := "") (Or.inl (hw _ (List.mem_of_getElem? (i := 26) rfl))) Via.refl e106 F1 (g := (mkF m 6 #[.val (.ref a1), .val (.double (FP.dadd (0 : UInt64) (FP.ddiv (FP.i2d (1 : Int32)) (FP.i2d r0)))), .second, .val (.int (1 : Int32))] [(.ref a1), (.int (1 : Int32))])) rfl rfl (hb hby d3_6)
  have k112 : ∀ t, Steps p.tables e below (T111.setTop (mkF m 9 #[.val (.ref a1), .val (.double (FP.dadd (0 : UInt64) (FP.ddiv (FP.i2d (1 : Int32)) (FP.i2d r0)))), .second, .val (.int (1 : Int32))] [(.ref a2), (.int (1 : Int32))])) t → Steps p.tables e below (s₁.setTop (entryFrame m #[(.ref a1)] 4)) t := fun t k => k110 t (st111 t k)
  obtain ⟨c113, Ar113, -, As113, An113, -, -⟩ := id V1
  have k114 : ∀ t, Steps p.tables e below (T111.setTop (mkF m 19 #[.val (.ref a1), .val (.double (FP.dadd (0 : UInt64) (FP.ddiv (FP.i2d (1 : Int32)) (FP.i2d r0)))), .second, .val (.int (1 : Int32))] [(.ref a1), (.double (FP.i2d (2 : Int32))), (.double (FP.dadd (0 : UInt64) (FP.ddiv (FP.i2d (1 : Int32)) (FP.i2d r0))))])) t → Steps p.tables e below (s₁.setTop (entryFrame m #[(.ref a1)] 4)) t := fun t k => k112 t (by
    show Steps p.tables e below (T111.setTop (mkF m 9 #[.val (.ref a1), .val (.double (FP.dadd (0 : UInt64) (FP.ddiv (FP.i2d (1 : Int32)) (FP.i2d r0)))), .second, .val (.int (1 : Int32))] [(.ref a2), (.int (1 : Int32))])) _
    refine X111.arraylength hx (by rw [e111]; exact Ar113.1) (State.isArrayOf_alike hZ.alike Ar113.2.1) (g := (mkF m 9 #[.val (.ref a1), .val (.double (FP.dadd (0 : UInt64) (FP.ddiv (FP.i2d (1 : Int32)) (FP.i2d r0)))), .second, .val (.int (1 : Int32))] [(.ref a2), (.int (1 : Int32))])) rfl rfl (hb hby d3_9) _ ?_
    rw [len_of As113 An113]
    show Steps p.tables e below (T111.setTop (mkF m 10 #[.val (.ref a1), .val (.double (FP.dadd (0 : UInt64) (FP.ddiv (FP.i2d (1 : Int32)) (FP.i2d r0)))), .second, .val (.int (1 : Int32))] [(.int (2 : Int32)), (.int (1 : Int32))])) _
    refine XS.icmpNo X111.here hx rfl (hb hby d3_10) rfl (tlt (by decide)).2.1 ?_
    show Steps p.tables e below (T111.setTop (mkF m 13 #[.val (.ref a1), .val (.double (FP.dadd (0 : UInt64) (FP.ddiv (FP.i2d (1 : Int32)) (FP.i2d r0)))), .second, .val (.int (1 : Int32))] [])) _
    refine XS.dloadN X111.here hx rfl (hb hby d3_13) rfl ?_
    show Steps p.tables e below (T111.setTop (mkF m 14 #[.val (.ref a1), .val (.double (FP.dadd (0 : UInt64) (FP.ddiv (FP.i2d (1 : Int32)) (FP.i2d r0)))), .second, .val (.int (1 : Int32))] [(.double (FP.dadd (0 : UInt64) (FP.ddiv (FP.i2d (1 : Int32)) (FP.i2d r0))))])) _
    refine XS.iloadN X111.here hx rfl (hb hby d3_14) rfl ?_
    show Steps p.tables e below (T111.setTop (mkF m 15 #[.val (.ref a1), .val (.double (FP.dadd (0 : UInt64) (FP.ddiv (FP.i2d (1 : Int32)) (FP.i2d r0)))), .second, .val (.int (1 : Int32))] [(.int (1 : Int32)), (.double (FP.dadd (0 : UInt64) (FP.ddiv (FP.i2d (1 : Int32)) (FP.i2d r0))))])) _
    refine XS.iconst X111.here hx rfl (hb hby d3_15) ?_
    show Steps p.tables e below (T111.setTop (mkF m 16 #[.val (.ref a1), .val (.double (FP.dadd (0 : UInt64) (FP.ddiv (FP.i2d (1 : Int32)) (FP.i2d r0)))), .second, .val (.int (1 : Int32))] [(.int (1 : Int32)), (.int (1 : Int32)), (.double (FP.dadd (0 : UInt64) (FP.ddiv (FP.i2d (1 : Int32)) (FP.i2d r0))))])) _
    refine XS.iadd X111.here hx rfl (hb hby d3_16) rfl ?_
    show Steps p.tables e below (T111.setTop (mkF m 17 #[.val (.ref a1), .val (.double (FP.dadd (0 : UInt64) (FP.ddiv (FP.i2d (1 : Int32)) (FP.i2d r0)))), .second, .val (.int (1 : Int32))] [(.int ((1 : Int32) + (1 : Int32))), (.double (FP.dadd (0 : UInt64) (FP.ddiv (FP.i2d (1 : Int32)) (FP.i2d r0))))])) _
    refine castTop (g' := (mkF m 17 #[.val (.ref a1), .val (.double (FP.dadd (0 : UInt64) (FP.ddiv (FP.i2d (1 : Int32)) (FP.i2d r0)))), .second, .val (.int (1 : Int32))] [(.int (2 : Int32)), (.double (FP.dadd (0 : UInt64) (FP.ddiv (FP.i2d (1 : Int32)) (FP.i2d r0))))])) (by rw [show ((1 : Int32) + (1 : Int32)) = (2 : Int32) by decide]) ?_
    show Steps p.tables e below (T111.setTop (mkF m 17 #[.val (.ref a1), .val (.double (FP.dadd (0 : UInt64) (FP.ddiv (FP.i2d (1 : Int32)) (FP.i2d r0)))), .second, .val (.int (1 : Int32))] [(.int (2 : Int32)), (.double (FP.dadd (0 : UInt64) (FP.ddiv (FP.i2d (1 : Int32)) (FP.i2d r0))))])) _
    refine XS.i2dS X111.here hx rfl (hb hby d3_17) rfl rfl ?_
    show Steps p.tables e below (T111.setTop (mkF m 18 #[.val (.ref a1), .val (.double (FP.dadd (0 : UInt64) (FP.ddiv (FP.i2d (1 : Int32)) (FP.i2d r0)))), .second, .val (.int (1 : Int32))] [(.double (FP.i2d (2 : Int32))), (.double (FP.dadd (0 : UInt64) (FP.ddiv (FP.i2d (1 : Int32)) (FP.i2d r0))))])) _
    refine XS.aloadN X111.here hx rfl (hb hby d3_18) rfl rfl ?_
    exact k)
  obtain ⟨T115, X115, e115, st115⟩ := getF X111 hx hZ hown (host := "") (Or.inl (hw _ (List.mem_of_getElem? (i := 26) rfl))) Via.refl e111 F1 (g := (mkF m 19 #[.val (.ref a1), .val (.double (FP.dadd (0 : UInt64) (FP.ddiv (FP.i2d (1 : Int32)) (FP.i2d r0)))), .second, .val (.int (1 : Int32))] [(.ref a1), (.double (FP.i2d (2 : Int32))), (.double (FP.dadd (0 : UInt64) (FP.ddiv (FP.i2d (1 : Int32)) (FP.i2d r0))))])) rfl rfl (hb hby d3_19)
  have k116 : ∀ t, Steps p.tables e below (T115.setTop (mkF m 22 #[.val (.ref a1), .val (.double (FP.dadd (0 : UInt64) (FP.ddiv (FP.i2d (1 : Int32)) (FP.i2d r0)))), .second, .val (.int (1 : Int32))] [(.ref a2), (.double (FP.i2d (2 : Int32))), (.double (FP.dadd (0 : UInt64) (FP.ddiv (FP.i2d (1 : Int32)) (FP.i2d r0))))])) t → Steps p.tables e below (s₁.setTop (entryFrame m #[(.ref a1)] 4)) t := fun t k => k114 t (st115 t k)
  have k117 : ∀ t, Steps p.tables e below (T115.setTop (mkF m 23 #[.val (.ref a1), .val (.double (FP.dadd (0 : UInt64) (FP.ddiv (FP.i2d (1 : Int32)) (FP.i2d r0)))), .second, .val (.int (1 : Int32))] [(.int (1 : Int32)), (.ref a2), (.double (FP.i2d (2 : Int32))), (.double (FP.dadd (0 : UInt64) (FP.ddiv (FP.i2d (1 : Int32)) (FP.i2d r0))))])) t → Steps p.tables e below (s₁.setTop (entryFrame m #[(.ref a1)] 4)) t := fun t k => k116 t (by
    show Steps p.tables e below (T115.setTop (mkF m 22 #[.val (.ref a1), .val (.double (FP.dadd (0 : UInt64) (FP.ddiv (FP.i2d (1 : Int32)) (FP.i2d r0)))), .second, .val (.int (1 : Int32))] [(.ref a2), (.double (FP.i2d (2 : Int32))), (.double (FP.dadd (0 : UInt64) (FP.ddiv (FP.i2d (1 : Int32)) (FP.i2d r0))))])) _
    refine XS.iloadN X115.here hx rfl (hb hby d3_22) rfl ?_
    exact k)
  obtain ⟨c118, Ar118, -, As118, An118, Ah118, -⟩ := id V1
  have hin118 : ¬ ((1 : Int32) < 0 ∨ c118.slots.size ≤ ((1 : Int32)).toNatClampNeg) := inb_of As118 ⟨by decide, by decide⟩
  have hat118 : c118.slots[((1 : Int32)).toNatClampNeg]? = some (.int r1) := Has.at Ah118 hin118 rfl
  have k119 : ∀ t, Steps p.tables e below (T115.setTop (mkF m 6 #[.val (.ref a1), .val (.double (FP.dadd (FP.dadd (0 : UInt64) (FP.ddiv (FP.i2d (1 : Int32)) (FP.i2d r0))) (FP.ddiv (FP.i2d (2 : Int32)) (FP.i2d r1)))), .second, .val (.int (2 : Int32))] [(.ref a1), (.int (2 : Int32))])) t → Steps p.tables e below (s₁.setTop (entryFrame m #[(.ref a1)] 4)) t := fun t k => k117 t (by
    show Steps p.tables e below (T115.setTop (mkF m 23 #[.val (.ref a1), .val (.double (FP.dadd (0 : UInt64) (FP.ddiv (FP.i2d (1 : Int32)) (FP.i2d r0)))), .second, .val (.int (1 : Int32))] [(.int (1 : Int32)), (.ref a2), (.double (FP.i2d (2 : Int32))), (.double (FP.dadd (0 : UInt64) (FP.ddiv (FP.i2d (1 : Int32)) (FP.i2d r0))))])) _
    refine X115.iaload hx (j := (1 : Int32)) (v := (.int r1)) (by rw [e115]; exact Ar118.1) (State.isArrayOf_alike hZ.alike Ar118.2.1) Ar118.2.2 hin118 hat118 (g := (mkF m 23 #[.val (.ref a1), .val (.double (FP.dadd (0 : UInt64) (FP.ddiv (FP.i2d (1 : Int32)) (FP.i2d r0)))), .second, .val (.int (1 : Int32))] [(.int (1 : Int32)), (.ref a2), (.double (FP.i2d (2 : Int32))), (.double (FP.dadd (0 : UInt64) (FP.ddiv (FP.i2d (1 : Int32)) (FP.i2d r0))))])) rfl rfl (hb hby d3_23) _ ?_
    show Steps p.tables e below (T115.setTop (mkF m 24 #[.val (.ref a1), .val (.double (FP.dadd (0 : UInt64) (FP.ddiv (FP.i2d (1 : Int32)) (FP.i2d r0)))), .second, .val (.int (1 : Int32))] [(.int r1), (.double (FP.i2d (2 : Int32))), (.double (FP.dadd (0 : UInt64) (FP.ddiv (FP.i2d (1 : Int32)) (FP.i2d r0))))])) _
    refine XS.i2dS X115.here hx rfl (hb hby d3_24) rfl rfl ?_
    show Steps p.tables e below (T115.setTop (mkF m 25 #[.val (.ref a1), .val (.double (FP.dadd (0 : UInt64) (FP.ddiv (FP.i2d (1 : Int32)) (FP.i2d r0)))), .second, .val (.int (1 : Int32))] [(.double (FP.i2d r1)), (.double (FP.i2d (2 : Int32))), (.double (FP.dadd (0 : UInt64) (FP.ddiv (FP.i2d (1 : Int32)) (FP.i2d r0))))])) _
    refine XS.ddivS X115.here hx rfl (hb hby d3_25) rfl (nq1) rfl ?_
    show Steps p.tables e below (T115.setTop (mkF m 26 #[.val (.ref a1), .val (.double (FP.dadd (0 : UInt64) (FP.ddiv (FP.i2d (1 : Int32)) (FP.i2d r0)))), .second, .val (.int (1 : Int32))] [(.double (FP.ddiv (FP.i2d (2 : Int32)) (FP.i2d r1))), (.double (FP.dadd (0 : UInt64) (FP.ddiv (FP.i2d (1 : Int32)) (FP.i2d r0))))])) _
    refine XS.daddS X115.here hx rfl (hb hby d3_26) rfl (na1) rfl ?_
    show Steps p.tables e below (T115.setTop (mkF m 27 #[.val (.ref a1), .val (.double (FP.dadd (0 : UInt64) (FP.ddiv (FP.i2d (1 : Int32)) (FP.i2d r0)))), .second, .val (.int (1 : Int32))] [(.double (FP.dadd (FP.dadd (0 : UInt64) (FP.ddiv (FP.i2d (1 : Int32)) (FP.i2d r0))) (FP.ddiv (FP.i2d (2 : Int32)) (FP.i2d r1))))])) _
    refine XS.dstoreN X115.here hx rfl (hb hby d3_27) rfl (l' := #[.val (.ref a1), .val (.double (FP.dadd (FP.dadd (0 : UInt64) (FP.ddiv (FP.i2d (1 : Int32)) (FP.i2d r0))) (FP.ddiv (FP.i2d (2 : Int32)) (FP.i2d r1)))), .second, .val (.int (1 : Int32))]) rfl ?_
    show Steps p.tables e below (T115.setTop (mkF m 28 #[.val (.ref a1), .val (.double (FP.dadd (FP.dadd (0 : UInt64) (FP.ddiv (FP.i2d (1 : Int32)) (FP.i2d r0))) (FP.ddiv (FP.i2d (2 : Int32)) (FP.i2d r1)))), .second, .val (.int (1 : Int32))] [])) _
    refine XS.iinc X115.here hx rfl (hb hby d3_28) rfl (l' := #[.val (.ref a1), .val (.double (FP.dadd (FP.dadd (0 : UInt64) (FP.ddiv (FP.i2d (1 : Int32)) (FP.i2d r0))) (FP.ddiv (FP.i2d (2 : Int32)) (FP.i2d r1)))), .second, .val (.int (2 : Int32))]) rfl ?_
    show Steps p.tables e below (T115.setTop (mkF m 31 #[.val (.ref a1), .val (.double (FP.dadd (FP.dadd (0 : UInt64) (FP.ddiv (FP.i2d (1 : Int32)) (FP.i2d r0))) (FP.ddiv (FP.i2d (2 : Int32)) (FP.i2d r1)))), .second, .val (.int (2 : Int32))] [])) _
    refine XS.goto X115.here hx rfl (pc0 := 31) (pc' := 4) rfl (hb hby d3_31) (by decide) (by decide) ?_
    show Steps p.tables e below (T115.setTop (mkF m 4 #[.val (.ref a1), .val (.double (FP.dadd (FP.dadd (0 : UInt64) (FP.ddiv (FP.i2d (1 : Int32)) (FP.i2d r0))) (FP.ddiv (FP.i2d (2 : Int32)) (FP.i2d r1)))), .second, .val (.int (2 : Int32))] [])) _
    refine XS.iloadN X115.here hx rfl (hb hby d3_4) rfl ?_
    show Steps p.tables e below (T115.setTop (mkF m 5 #[.val (.ref a1), .val (.double (FP.dadd (FP.dadd (0 : UInt64) (FP.ddiv (FP.i2d (1 : Int32)) (FP.i2d r0))) (FP.ddiv (FP.i2d (2 : Int32)) (FP.i2d r1)))), .second, .val (.int (2 : Int32))] [(.int (2 : Int32))])) _
    refine XS.aloadN X115.here hx rfl (hb hby d3_5) rfl rfl ?_
    exact k)
  obtain ⟨T120, X120, e120, st120⟩ := getF X115 hx hZ hown (host := "") (Or.inl (hw _ (List.mem_of_getElem? (i := 26) rfl))) Via.refl e115 F1 (g := (mkF m 6 #[.val (.ref a1), .val (.double (FP.dadd (FP.dadd (0 : UInt64) (FP.ddiv (FP.i2d (1 : Int32)) (FP.i2d r0))) (FP.ddiv (FP.i2d (2 : Int32)) (FP.i2d r1)))), .second, .val (.int (2 : Int32))] [(.ref a1), (.int (2 : Int32))])) rfl rfl (hb hby d3_6)
  have k121 : ∀ t, Steps p.tables e below (T120.setTop (mkF m 9 #[.val (.ref a1), .val (.double (FP.dadd (FP.dadd (0 : UInt64) (FP.ddiv (FP.i2d (1 : Int32)) (FP.i2d r0))) (FP.ddiv (FP.i2d (2 : Int32)) (FP.i2d r1)))), .second, .val (.int (2 : Int32))] [(.ref a2), (.int (2 : Int32))])) t → Steps p.tables e below (s₁.setTop (entryFrame m #[(.ref a1)] 4)) t := fun t k => k119 t (st120 t k)
  obtain ⟨c122, Ar122, -, As122, An122, -, -⟩ := id V1
  have k123 : ∀ t, Steps p.tables e below (T120.setTop (mkF m 35 #[.val (.ref a1), .val (.double (FP.dadd (FP.dadd (0 : UInt64) (FP.ddiv (FP.i2d (1 : Int32)) (FP.i2d r0))) (FP.ddiv (FP.i2d (2 : Int32)) (FP.i2d r1)))), .second, .val (.int (2 : Int32))] [(.ref a1)])) t → Steps p.tables e below (s₁.setTop (entryFrame m #[(.ref a1)] 4)) t := fun t k => k121 t (by
    show Steps p.tables e below (T120.setTop (mkF m 9 #[.val (.ref a1), .val (.double (FP.dadd (FP.dadd (0 : UInt64) (FP.ddiv (FP.i2d (1 : Int32)) (FP.i2d r0))) (FP.ddiv (FP.i2d (2 : Int32)) (FP.i2d r1)))), .second, .val (.int (2 : Int32))] [(.ref a2), (.int (2 : Int32))])) _
    refine X120.arraylength hx (by rw [e120]; exact Ar122.1) (State.isArrayOf_alike hZ.alike Ar122.2.1) (g := (mkF m 9 #[.val (.ref a1), .val (.double (FP.dadd (FP.dadd (0 : UInt64) (FP.ddiv (FP.i2d (1 : Int32)) (FP.i2d r0))) (FP.ddiv (FP.i2d (2 : Int32)) (FP.i2d r1)))), .second, .val (.int (2 : Int32))] [(.ref a2), (.int (2 : Int32))])) rfl rfl (hb hby d3_9) _ ?_
    rw [len_of As122 An122]
    show Steps p.tables e below (T120.setTop (mkF m 10 #[.val (.ref a1), .val (.double (FP.dadd (FP.dadd (0 : UInt64) (FP.ddiv (FP.i2d (1 : Int32)) (FP.i2d r0))) (FP.ddiv (FP.i2d (2 : Int32)) (FP.i2d r1)))), .second, .val (.int (2 : Int32))] [(.int (2 : Int32)), (.int (2 : Int32))])) _
    refine XS.icmpYes X120.here hx rfl (pc0 := 10) (pc' := 34) rfl (hb hby d3_10) rfl (flt (by decide)).2.1 (by decide) (by decide) ?_
    show Steps p.tables e below (T120.setTop (mkF m 34 #[.val (.ref a1), .val (.double (FP.dadd (FP.dadd (0 : UInt64) (FP.ddiv (FP.i2d (1 : Int32)) (FP.i2d r0))) (FP.ddiv (FP.i2d (2 : Int32)) (FP.i2d r1)))), .second, .val (.int (2 : Int32))] [])) _
    refine XS.aloadN X120.here hx rfl (hb hby d3_34) rfl rfl ?_
    exact k)
  obtain ⟨T124, X124, e124, st124⟩ := getF X120 hx hZ hown (host := "") (Or.inl (hw _ (List.mem_of_getElem? (i := 24) rfl))) Via.refl e120 F2 (g := (mkF m 35 #[.val (.ref a1), .val (.double (FP.dadd (FP.dadd (0 : UInt64) (FP.ddiv (FP.i2d (1 : Int32)) (FP.i2d r0))) (FP.ddiv (FP.i2d (2 : Int32)) (FP.i2d r1)))), .second, .val (.int (2 : Int32))] [(.ref a1)])) rfl rfl (hb hby d3_35)
  have k125 : ∀ t, Steps p.tables e below (T124.setTop (mkF m 38 #[.val (.ref a1), .val (.double (FP.dadd (FP.dadd (0 : UInt64) (FP.ddiv (FP.i2d (1 : Int32)) (FP.i2d r0))) (FP.ddiv (FP.i2d (2 : Int32)) (FP.i2d r1)))), .second, .val (.int (2 : Int32))] [(.int p2)])) t → Steps p.tables e below (s₁.setTop (entryFrame m #[(.ref a1)] 4)) t := fun t k => k123 t (st124 t k)
  have k126 : ∀ t, Steps p.tables e below (T124.setTop (mkF m 47 #[.val (.ref a1), .val (.double (FP.dadd (FP.dadd (0 : UInt64) (FP.ddiv (FP.i2d (1 : Int32)) (FP.i2d r0))) (FP.ddiv (FP.i2d (2 : Int32)) (FP.i2d r1)))), .second, .val (.int (2 : Int32))] [(.ref a1), (.double (FP.dadd (FP.dadd (0 : UInt64) (FP.ddiv (FP.i2d (1 : Int32)) (FP.i2d r0))) (FP.ddiv (FP.i2d (2 : Int32)) (FP.i2d r1))))])) t → Steps p.tables e below (s₁.setTop (entryFrame m #[(.ref a1)] 4)) t := fun t k => k125 t (by
    show Steps p.tables e below (T124.setTop (mkF m 38 #[.val (.ref a1), .val (.double (FP.dadd (FP.dadd (0 : UInt64) (FP.ddiv (FP.i2d (1 : Int32)) (FP.i2d r0))) (FP.ddiv (FP.i2d (2 : Int32)) (FP.i2d r1)))), .second, .val (.int (2 : Int32))] [(.int p2)])) _
    refine XS.ifYes X124.here hx rfl (pc0 := 38) (pc' := 45) rfl (hb hby d3_38) rfl ((if0 _ _).trans (feq c38).2) (by decide) (by decide) ?_
    show Steps p.tables e below (T124.setTop (mkF m 45 #[.val (.ref a1), .val (.double (FP.dadd (FP.dadd (0 : UInt64) (FP.ddiv (FP.i2d (1 : Int32)) (FP.i2d r0))) (FP.ddiv (FP.i2d (2 : Int32)) (FP.i2d r1)))), .second, .val (.int (2 : Int32))] [])) _
    refine XS.dloadN X124.here hx rfl (hb hby d3_45) rfl ?_
    show Steps p.tables e below (T124.setTop (mkF m 46 #[.val (.ref a1), .val (.double (FP.dadd (FP.dadd (0 : UInt64) (FP.ddiv (FP.i2d (1 : Int32)) (FP.i2d r0))) (FP.ddiv (FP.i2d (2 : Int32)) (FP.i2d r1)))), .second, .val (.int (2 : Int32))] [(.double (FP.dadd (FP.dadd (0 : UInt64) (FP.ddiv (FP.i2d (1 : Int32)) (FP.i2d r0))) (FP.ddiv (FP.i2d (2 : Int32)) (FP.i2d r1))))])) _
    refine XS.aloadN X124.here hx rfl (hb hby d3_46) rfl rfl ?_
    exact k)
  obtain ⟨T127, X127, e127, st127⟩ := getF X124 hx hZ hown (host := "") (Or.inl (hw _ (List.mem_of_getElem? (i := 24) rfl))) Via.refl e124 F2 (g := (mkF m 47 #[.val (.ref a1), .val (.double (FP.dadd (FP.dadd (0 : UInt64) (FP.ddiv (FP.i2d (1 : Int32)) (FP.i2d r0))) (FP.ddiv (FP.i2d (2 : Int32)) (FP.i2d r1)))), .second, .val (.int (2 : Int32))] [(.ref a1), (.double (FP.dadd (FP.dadd (0 : UInt64) (FP.ddiv (FP.i2d (1 : Int32)) (FP.i2d r0))) (FP.ddiv (FP.i2d (2 : Int32)) (FP.i2d r1))))])) rfl rfl (hb hby d3_47)
  have k128 : ∀ t, Steps p.tables e below (T127.setTop (mkF m 50 #[.val (.ref a1), .val (.double (FP.dadd (FP.dadd (0 : UInt64) (FP.ddiv (FP.i2d (1 : Int32)) (FP.i2d r0))) (FP.ddiv (FP.i2d (2 : Int32)) (FP.i2d r1)))), .second, .val (.int (2 : Int32))] [(.int p2), (.double (FP.dadd (FP.dadd (0 : UInt64) (FP.ddiv (FP.i2d (1 : Int32)) (FP.i2d r0))) (FP.ddiv (FP.i2d (2 : Int32)) (FP.i2d r1))))])) t → Steps p.tables e below (s₁.setTop (entryFrame m #[(.ref a1)] 4)) t := fun t k => k126 t (st127 t k)
  have k129 : ∀ t, Steps p.tables e below (T127.setTop (mkF m 52 #[.val (.ref a1), .val (.double (FP.dadd (FP.dadd (0 : UInt64) (FP.ddiv (FP.i2d (1 : Int32)) (FP.i2d r0))) (FP.ddiv (FP.i2d (2 : Int32)) (FP.i2d r1)))), .second, .val (.int (2 : Int32))] [(.double (FP.ddiv (FP.dadd (FP.dadd (0 : UInt64) (FP.ddiv (FP.i2d (1 : Int32)) (FP.i2d r0))) (FP.ddiv (FP.i2d (2 : Int32)) (FP.i2d r1))) (FP.i2d p2)))])) t → Steps p.tables e below (s₁.setTop (entryFrame m #[(.ref a1)] 4)) t := fun t k => k128 t (by
    show Steps p.tables e below (T127.setTop (mkF m 50 #[.val (.ref a1), .val (.double (FP.dadd (FP.dadd (0 : UInt64) (FP.ddiv (FP.i2d (1 : Int32)) (FP.i2d r0))) (FP.ddiv (FP.i2d (2 : Int32)) (FP.i2d r1)))), .second, .val (.int (2 : Int32))] [(.int p2), (.double (FP.dadd (FP.dadd (0 : UInt64) (FP.ddiv (FP.i2d (1 : Int32)) (FP.i2d r0))) (FP.ddiv (FP.i2d (2 : Int32)) (FP.i2d r1))))])) _
    refine XS.i2dS X127.here hx rfl (hb hby d3_50) rfl rfl ?_
    show Steps p.tables e below (T127.setTop (mkF m 51 #[.val (.ref a1), .val (.double (FP.dadd (FP.dadd (0 : UInt64) (FP.ddiv (FP.i2d (1 : Int32)) (FP.i2d r0))) (FP.ddiv (FP.i2d (2 : Int32)) (FP.i2d r1)))), .second, .val (.int (2 : Int32))] [(.double (FP.i2d p2)), (.double (FP.dadd (FP.dadd (0 : UInt64) (FP.ddiv (FP.i2d (1 : Int32)) (FP.i2d r0))) (FP.ddiv (FP.i2d (2 : Int32)) (FP.i2d r1))))])) _
    refine XS.ddivS X127.here hx rfl (hb hby d3_51) rfl (nn51) rfl ?_
    exact k)
  obtain ⟨fs, hr, hrun, hended, hW, hsame⟩ := X127.leave (v := some (.double (FP.ddiv (FP.dadd (FP.dadd (0 : UInt64) (FP.ddiv (FP.i2d (1 : Int32)) (FP.i2d r0))) (FP.ddiv (FP.i2d (2 : Int32)) (FP.i2d r1))) (FP.i2d p2)))) (fun h => by rw [Bd.returns] at h; cases h)
  refine ⟨_, _, k129 _ (retOut X127 hx (t := .double) Bd.returns rfl (Or.inr (Or.inr (Or.inl ⟨rfl, rfl, _, rfl⟩))) (hb hby d3_52) hr), hrun, hended, _, _, rfl, ?_, ⟨_, rfl⟩, hW, hsame.mono (by decide) (by decide)⟩
  show Q_avp2_0 Z a1 a2 k1 p2 r0 r1 h0 n0 _ T127.heap _
  rw [e127]
  exact ⟨rfl, N0, rfl⟩
def Q_avp2_1 (Z : State) (a1 : Addr) (a2 : Addr) (k1 : ClassId) (p2 : Int32) (r0 : Int32) (r1 : Int32) (h0 : Heap) (n0 : Nat) (v : Option Value) (h : Heap) (L : List Loc) : Prop := v = some (.double (0 : UInt64)) ∧ Fr n0 L ∧ h = h0
set_option maxRecDepth 65536 in
set_option maxHeartbeats 40000000 in
theorem avp2_1 (l : Launch) (Z : State) (a0 : Array Value) (hw : ∀ d ∈ tables_1, d.before a0 Z = true) (ws : List Jvm.Cond) (a1 : Addr) (a2 : Addr) (k1 : ClassId) (p2 : Int32) (r0 : Int32) (r1 : Int32) (h0 : Heap) (n0 : Nat) (Z0 : n0 ≤ h0.size) (F1 : Fld Z h0 a1 "com/example/round2/round2/eval/TopicResult" "relevantRanks" "[I" (.ref a2)) (F2 : Fld Z h0 a1 "com/example/round2/round2/eval/TopicResult" "relevant" "I" (.int p2)) (V1 : Arv Z h0 a2 k1 .int (2 : Int32) [(.int r0), (.int r1)] (.int (0 : Int32))) (c38 : p2 = (0 : Int32)) (nq0 : Jvm.Free.Fl.NoNaN64 (FP.ddiv (FP.i2d (1 : Int32)) (FP.i2d r0))) (na0 : Jvm.Free.Fl.NoNaN64 (FP.dadd (0 : UInt64) (FP.ddiv (FP.i2d (1 : Int32)) (FP.i2d r0)))) (nq1 : Jvm.Free.Fl.NoNaN64 (FP.ddiv (FP.i2d (2 : Int32)) (FP.i2d r1))) (na1 : Jvm.Free.Fl.NoNaN64 (FP.dadd (FP.dadd (0 : UInt64) (FP.ddiv (FP.i2d (1 : Int32)) (FP.i2d r0))) (FP.ddiv (FP.i2d (2 : Int32)) (FP.i2d r1)))) :
    MetFree l (⟨"com/example/round2/round2/eval/TopicResult", "averagePrecision", "()D"⟩ : MethodName) (head1 (Jvm.Cond.code (⟨"com/example/round2/round2/eval/TopicResult", "averagePrecision", "()D"⟩ : MethodName) prog_10_method_6_code 4 (some .double) :: ws) ({ frames := 0, cells := 0, slots := 0, locals := 0 } : Room)) (fun a U => a = #[(.ref a1)] ∧ Z.Warmed39 U.vm ∧ U.heap = h0) (fun _ _ _ _ _ => True) (fun _ U o U' => ∃ v L, o = .returned v ∧ Q_avp2_1 Z a1 a2 k1 p2 r0 r1 h0 n0 v U'.heap L ∧ FrameEnd U o U' L ({ frames := 0, cells := 0, slots := 0, locals := 0 } : Room).cells ({ frames := 0, cells := 0, slots := 0, locals := 0 } : Room).slots) := by
  refine MetFree.of_bodySF (plainFor_of_name pn_com_2fexample_2fround2_2fround2_2feval_2fTopicResult) hisR ?_
  intro p e s m args below meth c s₁ Bd hml0 hP hK
  obtain ⟨rfl, hZ, hh⟩ := hP
  have hx := Bd.exec
  have hby := Bd.bytes
  have hml : c.maxLocals = 4 := hml0
  have hown : s.vm.findClass "com/example/round2/round2/eval/TopicResult" = some m.cls := findClass_of_methodNamed Bd.named
  have hnm := (name_of_methodNamed Bd.named Bd.method).1
  have X0 : Stand p l e ({ frames := 0, cells := 0, slots := 0, locals := 0 } : Room) s m #[(.ref a1)] below meth c s₁ [] 0 0 := Stand.of_body Bd
  have e0 : s₁.heap = h0 := by rw [← hh, Bd.state]; rfl
  have N0 := Fr.nil n0
  have k0 : ∀ t, Steps p.tables e below (s₁.setTop (mkF m 0 #[.val (.ref a1), .unset, .unset, .unset] [])) t → Steps p.tables e below (s₁.setTop (entryFrame m #[(.ref a1)] 4)) t := fun t k => castTop (ef_3_R m a1) k
  have k101 : ∀ t, Steps p.tables e below (s₁.setTop (mkF m 6 #[.val (.ref a1), .val (.double (0 : UInt64)), .second, .val (.int (0 : Int32))] [(.ref a1), (.int (0 : Int32))])) t → Steps p.tables e below (s₁.setTop (entryFrame m #[(.ref a1)] 4)) t := fun t k => k0 t (by
    show Steps p.tables e below (s₁.setTop (mkF m 0 #[.val (.ref a1), .unset, .unset, .unset] [])) _
    refine XS.dconst0 X0.here hx rfl (hb hby d3_0) (v := (0 : UInt64)) rfl ?_
    show Steps p.tables e below (s₁.setTop (mkF m 1 #[.val (.ref a1), .unset, .unset, .unset] [(.double (0 : UInt64))])) _
    refine XS.dstoreN X0.here hx rfl (hb hby d3_1) rfl (l' := #[.val (.ref a1), .val (.double (0 : UInt64)), .second, .unset]) rfl ?_
    show Steps p.tables e below (s₁.setTop (mkF m 2 #[.val (.ref a1), .val (.double (0 : UInt64)), .second, .unset] [])) _
    refine XS.iconst X0.here hx rfl (hb hby d3_2) ?_
    show Steps p.tables e below (s₁.setTop (mkF m 3 #[.val (.ref a1), .val (.double (0 : UInt64)), .second, .unset] [(.int (0 : Int32))])) _
    refine XS.istoreN X0.here hx rfl (hb hby d3_3) rfl (l' := #[.val (.ref a1), .val (.double (0 : UInt64)), .second, .val (.int (0 : Int32))]) rfl ?_
    show Steps p.tables e below (s₁.setTop (mkF m 4 #[.val (.ref a1), .val (.double (0 : UInt64)), .second, .val (.int (0 : Int32))] [])) _
    refine XS.iloadN X0.here hx rfl (hb hby d3_4) rfl ?_
    show Steps p.tables e below (s₁.setTop (mkF m 5 #[.val (.ref a1), .val (.double (0 : UInt64)), .second, .val (.int (0 : Int32))] [(.int (0 : Int32))])) _
    refine XS.aloadN X0.here hx rfl (hb hby d3_5) rfl rfl ?_
    exact k)
  obtain ⟨T102, X102, e102, st102⟩ := getF X0 hx hZ hown (host := "") (Or.inl (hw _ (List.mem_of_getElem? (i := 26) rfl))) Via.refl e0 F1 (g := (mkF m 6 #[.val (.ref a1), .val (.double (0 : UInt64)), .second, .val (.int (0 : Int32))] [(.ref a1), (.int (0 : Int32))])) rfl rfl (hb hby d3_6)
  have k103 : ∀ t, Steps p.tables e below (T102.setTop (mkF m 9 #[.val (.ref a1), .val (.double (0 : UInt64)), .second, .val (.int (0 : Int32))] [(.ref a2), (.int (0 : Int32))])) t → Steps p.tables e below (s₁.setTop (entryFrame m #[(.ref a1)] 4)) t := fun t k => k101 t (st102 t k)
  obtain ⟨c104, Ar104, -, As104, An104, -, -⟩ := id V1
  have k105 : ∀ t, Steps p.tables e below (T102.setTop (mkF m 19 #[.val (.ref a1), .val (.double (0 : UInt64)), .second, .val (.int (0 : Int32))] [(.ref a1), (.double (FP.i2d (1 : Int32))), (.double (0 : UInt64))])) t → Steps p.tables e below (s₁.setTop (entryFrame m #[(.ref a1)] 4)) t := fun t k => k103 t (by
    show Steps p.tables e below (T102.setTop (mkF m 9 #[.val (.ref a1), .val (.double (0 : UInt64)), .second, .val (.int (0 : Int32))] [(.ref a2), (.int (0 : Int32))])) _
    refine X102.arraylength hx (by rw [e102]; exact Ar104.1) (State.isArrayOf_alike hZ.alike Ar104.2.1) (g := (mkF m 9 #[.val (.ref a1), .val (.double (0 : UInt64)), .second, .val (.int (0 : Int32))] [(.ref a2), (.int (0 : Int32))])) rfl rfl (hb hby d3_9) _ ?_
    rw [len_of As104 An104]
    show Steps p.tables e below (T102.setTop (mkF m 10 #[.val (.ref a1), .val (.double (0 : UInt64)), .second, .val (.int (0 : Int32))] [(.int (2 : Int32)), (.int (0 : Int32))])) _
    refine XS.icmpNo X102.here hx rfl (hb hby d3_10) rfl (tlt (by decide)).2.1 ?_
    show Steps p.tables e below (T102.setTop (mkF m 13 #[.val (.ref a1), .val (.double (0 : UInt64)), .second, .val (.int (0 : Int32))] [])) _
    refine XS.dloadN X102.here hx rfl (hb hby d3_13) rfl ?_
    show Steps p.tables e below (T102.setTop (mkF m 14 #[.val (.ref a1), .val (.double (0 : UInt64)), .second, .val (.int (0 : Int32))] [(.double (0 : UInt64))])) _
    refine XS.iloadN X102.here hx rfl (hb hby d3_14) rfl ?_
    show Steps p.tables e below (T102.setTop (mkF m 15 #[.val (.ref a1), .val (.double (0 : UInt64)), .second, .val (.int (0 : Int32))] [(.int (0 : Int32)), (.double (0 : UInt64))])) _
    refine XS.iconst X102.here hx rfl (hb hby d3_15) ?_
    show Steps p.tables e below (T102.setTop (mkF m 16 #[.val (.ref a1), .val (.double (0 : UInt64)), .second, .val (.int (0 : Int32))] [(.int (1 : Int32)), (.int (0 : Int32)), (.double (0 : UInt64))])) _
    refine XS.iadd X102.here hx rfl (hb hby d3_16) rfl ?_
    show Steps p.tables e below (T102.setTop (mkF m 17 #[.val (.ref a1), .val (.double (0 : UInt64)), .second, .val (.int (0 : Int32))] [(.int ((0 : Int32) + (1 : Int32))), (.double (0 : UInt64))])) _
    refine castTop (g' := (mkF m 17 #[.val (.ref a1), .val (.double (0 : UInt64)), .second, .val (.int (0 : Int32))] [(.int (1 : Int32)), (.double (0 : UInt64))])) (by rw [show ((0 : Int32) + (1 : Int32)) = (1 : Int32) by decide]) ?_
    show Steps p.tables e below (T102.setTop (mkF m 17 #[.val (.ref a1), .val (.double (0 : UInt64)), .second, .val (.int (0 : Int32))] [(.int (1 : Int32)), (.double (0 : UInt64))])) _
    refine XS.i2dS X102.here hx rfl (hb hby d3_17) rfl rfl ?_
    show Steps p.tables e below (T102.setTop (mkF m 18 #[.val (.ref a1), .val (.double (0 : UInt64)), .second, .val (.int (0 : Int32))] [(.double (FP.i2d (1 : Int32))), (.double (0 : UInt64))])) _
    refine XS.aloadN X102.here hx rfl (hb hby d3_18) rfl rfl ?_
    exact k)
  obtain ⟨T106, X106, e106, st106⟩ := getF X102 hx hZ hown (host := "") (Or.inl (hw _ (List.mem_of_getElem? (i := 26) rfl))) Via.refl e102 F1 (g := (mkF m 19 #[.val (.ref a1), .val (.double (0 : UInt64)), .second, .val (.int (0 : Int32))] [(.ref a1), (.double (FP.i2d (1 : Int32))), (.double (0 : UInt64))])) rfl rfl (hb hby d3_19)
  have k107 : ∀ t, Steps p.tables e below (T106.setTop (mkF m 22 #[.val (.ref a1), .val (.double (0 : UInt64)), .second, .val (.int (0 : Int32))] [(.ref a2), (.double (FP.i2d (1 : Int32))), (.double (0 : UInt64))])) t → Steps p.tables e below (s₁.setTop (entryFrame m #[(.ref a1)] 4)) t := fun t k => k105 t (st106 t k)
  have k108 : ∀ t, Steps p.tables e below (T106.setTop (mkF m 23 #[.val (.ref a1), .val (.double (0 : UInt64)), .second, .val (.int (0 : Int32))] [(.int (0 : Int32)), (.ref a2), (.double (FP.i2d (1 : Int32))), (.double (0 : UInt64))])) t → Steps p.tables e below (s₁.setTop (entryFrame m #[(.ref a1)] 4)) t := fun t k => k107 t (by
    show Steps p.tables e below (T106.setTop (mkF m 22 #[.val (.ref a1), .val (.double (0 : UInt64)), .second, .val (.int (0 : Int32))] [(.ref a2), (.double (FP.i2d (1 : Int32))), (.double (0 : UInt64))])) _
    refine XS.iloadN X106.here hx rfl (hb hby d3_22) rfl ?_
    exact k)
  obtain ⟨c109, Ar109, -, As109, An109, Ah109, -⟩ := id V1
  have hin109 : ¬ ((0 : Int32) < 0 ∨ c109.slots.size ≤ ((0 : Int32)).toNatClampNeg) := inb_of As109 ⟨by decide, by decide⟩
  have hat109 : c109.slots[((0 : Int32)).toNatClampNeg]? = some (.int r0) := Has.at Ah109 hin109 rfl
  have k110 : ∀ t, Steps p.tables e below (T106.setTop (mkF m 6 #[.val (.ref a1), .val (.double (FP.dadd (0 : UInt64) (FP.ddiv (FP.i2d (1 : Int32)) (FP.i2d r0)))), .second, .val (.int (1 : Int32))] [(.ref a1), (.int (1 : Int32))])) t → Steps p.tables e below (s₁.setTop (entryFrame m #[(.ref a1)] 4)) t := fun t k => k108 t (by
    show Steps p.tables e below (T106.setTop (mkF m 23 #[.val (.ref a1), .val (.double (0 : UInt64)), .second, .val (.int (0 : Int32))] [(.int (0 : Int32)), (.ref a2), (.double (FP.i2d (1 : Int32))), (.double (0 : UInt64))])) _
    refine X106.iaload hx (j := (0 : Int32)) (v := (.int r0)) (by rw [e106]; exact Ar109.1) (State.isArrayOf_alike hZ.alike Ar109.2.1) Ar109.2.2 hin109 hat109 (g := (mkF m 23 #[.val (.ref a1), .val (.double (0 : UInt64)), .second, .val (.int (0 : Int32))] [(.int (0 : Int32)), (.ref a2), (.double (FP.i2d (1 : Int32))), (.double (0 : UInt64))])) rfl rfl (hb hby d3_23) _ ?_
    show Steps p.tables e below (T106.setTop (mkF m 24 #[.val (.ref a1), .val (.double (0 : UInt64)), .second, .val (.int (0 : Int32))] [(.int r0), (.double (FP.i2d (1 : Int32))), (.double (0 : UInt64))])) _
    refine XS.i2dS X106.here hx rfl (hb hby d3_24) rfl rfl ?_
    show Steps p.tables e below (T106.setTop (mkF m 25 #[.val (.ref a1), .val (.double (0 : UInt64)), .second, .val (.int (0 : Int32))] [(.double (FP.i2d r0)), (.double (FP.i2d (1 : Int32))), (.double (0 : UInt64))])) _
    refine XS.ddivS X106.here hx rfl (hb hby d3_25) rfl (nq0) rfl ?_
    show Steps p.tables e below (T106.setTop (mkF m 26 #[.val (.ref a1), .val (.double (0 : UInt64)), .second, .val (.int (0 : Int32))] [(.double (FP.ddiv (FP.i2d (1 : Int32)) (FP.i2d r0))), (.double (0 : UInt64))])) _
    refine XS.daddS X106.here hx rfl (hb hby d3_26) rfl (na0) rfl ?_
    show Steps p.tables e below (T106.setTop (mkF m 27 #[.val (.ref a1), .val (.double (0 : UInt64)), .second, .val (.int (0 : Int32))] [(.double (FP.dadd (0 : UInt64) (FP.ddiv (FP.i2d (1 : Int32)) (FP.i2d r0))))])) _
    refine XS.dstoreN X106.here hx rfl (hb hby d3_27) rfl (l' := #[.val (.ref a1), .val (.double (FP.dadd (0 : UInt64) (FP.ddiv (FP.i2d (1 : Int32)) (FP.i2d r0)))), .second, .val (.int (0 : Int32))]) rfl ?_
    show Steps p.tables e below (T106.setTop (mkF m 28 #[.val (.ref a1), .val (.double (FP.dadd (0 : UInt64) (FP.ddiv (FP.i2d (1 : Int32)) (FP.i2d r0)))), .second, .val (.int (0 : Int32))] [])) _
    refine XS.iinc X106.here hx rfl (hb hby d3_28) rfl (l' := #[.val (.ref a1), .val (.double (FP.dadd (0 : UInt64) (FP.ddiv (FP.i2d (1 : Int32)) (FP.i2d r0)))), .second, .val (.int (1 : Int32))]) rfl ?_
    show Steps p.tables e below (T106.setTop (mkF m 31 #[.val (.ref a1), .val (.double (FP.dadd (0 : UInt64) (FP.ddiv (FP.i2d (1 : Int32)) (FP.i2d r0)))), .second, .val (.int (1 : Int32))] [])) _
    refine XS.goto X106.here hx rfl (pc0 := 31) (pc' := 4) rfl (hb hby d3_31) (by decide) (by decide) ?_
    show Steps p.tables e below (T106.setTop (mkF m 4 #[.val (.ref a1), .val (.double (FP.dadd (0 : UInt64) (FP.ddiv (FP.i2d (1 : Int32)) (FP.i2d r0)))), .second, .val (.int (1 : Int32))] [])) _
    refine XS.iloadN X106.here hx rfl (hb hby d3_4) rfl ?_
    show Steps p.tables e below (T106.setTop (mkF m 5 #[.val (.ref a1), .val (.double (FP.dadd (0 : UInt64) (FP.ddiv (FP.i2d (1 : Int32)) (FP.i2d r0)))), .second, .val (.int (1 : Int32))] [(.int (1 : Int32))])) _
    refine XS.aloadN X106.here hx rfl (hb hby d3_5) rfl rfl ?_
    exact k)
  obtain ⟨T111, X111, e111, st111⟩ := getF X106 hx hZ hown (host := "") (Or.inl (hw _ (List.mem_of_getElem? (i := 26) rfl))) Via.refl e106 F1 (g := (mkF m 6 #[.val (.ref a1), .val (.double (FP.dadd (0 : UInt64) (FP.ddiv (FP.i2d (1 : Int32)) (FP.i2d r0)))), .second, .val (.int (1 : Int32))] [(.ref a1), (.int (1 : Int32))])) rfl rfl (hb hby d3_6)
  have k112 : ∀ t, Steps p.tables e below (T111.setTop (mkF m 9 #[.val (.ref a1), .val (.double (FP.dadd (0 : UInt64) (FP.ddiv (FP.i2d (1 : Int32)) (FP.i2d r0)))), .second, .val (.int (1 : Int32))] [(.ref a2), (.int (1 : Int32))])) t → Steps p.tables e below (s₁.setTop (entryFrame m #[(.ref a1)] 4)) t := fun t k => k110 t (st111 t k)
  obtain ⟨c113, Ar113, -, As113, An113, -, -⟩ := id V1
  have k114 : ∀ t, Steps p.tables e below (T111.setTop (mkF m 19 #[.val (.ref a1), .val (.double (FP.dadd (0 : UInt64) (FP.ddiv (FP.i2d (1 : Int32)) (FP.i2d r0)))), .second, .val (.int (1 : Int32))] [(.ref a1), (.double (FP.i2d (2 : Int32))), (.double (FP.dadd (0 : UInt64) (FP.ddiv (FP.i2d (1 : Int32)) (FP.i2d r0))))])) t → Steps p.tables e below (s₁.setTop (entryFrame m #[(.ref a1)] 4)) t := fun t k => k112 t (by
    show Steps p.tables e below (T111.setTop (mkF m 9 #[.val (.ref a1), .val (.double (FP.dadd (0 : UInt64) (FP.ddiv (FP.i2d (1 : Int32)) (FP.i2d r0)))), .second, .val (.int (1 : Int32))] [(.ref a2), (.int (1 : Int32))])) _
    refine X111.arraylength hx (by rw [e111]; exact Ar113.1) (State.isArrayOf_alike hZ.alike Ar113.2.1) (g := (mkF m 9 #[.val (.ref a1), .val (.double (FP.dadd (0 : UInt64) (FP.ddiv (FP.i2d (1 : Int32)) (FP.i2d r0)))), .second, .val (.int (1 : Int32))] [(.ref a2), (.int (1 : Int32))])) rfl rfl (hb hby d3_9) _ ?_
    rw [len_of As113 An113]
    show Steps p.tables e below (T111.setTop (mkF m 10 #[.val (.ref a1), .val (.double (FP.dadd (0 : UInt64) (FP.ddiv (FP.i2d (1 : Int32)) (FP.i2d r0)))), .second, .val (.int (1 : Int32))] [(.int (2 : Int32)), (.int (1 : Int32))])) _
    refine XS.icmpNo X111.here hx rfl (hb hby d3_10) rfl (tlt (by decide)).2.1 ?_
    show Steps p.tables e below (T111.setTop (mkF m 13 #[.val (.ref a1), .val (.double (FP.dadd (0 : UInt64) (FP.ddiv (FP.i2d (1 : Int32)) (FP.i2d r0)))), .second, .val (.int (1 : Int32))] [])) _
    refine XS.dloadN X111.here hx rfl (hb hby d3_13) rfl ?_
    show Steps p.tables e below (T111.setTop (mkF m 14 #[.val (.ref a1), .val (.double (FP.dadd (0 : UInt64) (FP.ddiv (FP.i2d (1 : Int32)) (FP.i2d r0)))), .second, .val (.int (1 : Int32))] [(.double (FP.dadd (0 : UInt64) (FP.ddiv (FP.i2d (1 : Int32)) (FP.i2d r0))))])) _
    refine XS.iloadN X111.here hx rfl (hb hby d3_14) rfl ?_
    show Steps p.tables e below (T111.setTop (mkF m 15 #[.val (.ref a1), .val (.double (FP.dadd (0 : UInt64) (FP.ddiv (FP.i2d (1 : Int32)) (FP.i2d r0)))), .second, .val (.int (1 : Int32))] [(.int (1 : Int32)), (.double (FP.dadd (0 : UInt64) (FP.ddiv (FP.i2d (1 : Int32)) (FP.i2d r0))))])) _
    refine XS.iconst X111.here hx rfl (hb hby d3_15) ?_
    show Steps p.tables e below (T111.setTop (mkF m 16 #[.val (.ref a1), .val (.double (FP.dadd (0 : UInt64) (FP.ddiv (FP.i2d (1 : Int32)) (FP.i2d r0)))), .second, .val (.int (1 : Int32))] [(.int (1 : Int32)), (.int (1 : Int32)), (.double (FP.dadd (0 : UInt64) (FP.ddiv (FP.i2d (1 : Int32)) (FP.i2d r0))))])) _
    refine XS.iadd X111.here hx rfl (hb hby d3_16) rfl ?_
    show Steps p.tables e below (T111.setTop (mkF m 17 #[.val (.ref a1), .val (.double (FP.dadd (0 : UInt64) (FP.ddiv (FP.i2d (1 : Int32)) (FP.i2d r0)))), .second, .val (.int (1 : Int32))] [(.int ((1 : Int32) + (1 : Int32))), (.double (FP.dadd (0 : UInt64) (FP.ddiv (FP.i2d (1 : Int32)) (FP.i2d r0))))])) _
    refine castTop (g' := (mkF m 17 #[.val (.ref a1), .val (.double (FP.dadd (0 : UInt64) (FP.ddiv (FP.i2d (1 : Int32)) (FP.i2d r0)))), .second, .val (.int (1 : Int32))] [(.int (2 : Int32)), (.double (FP.dadd (0 : UInt64) (FP.ddiv (FP.i2d (1 : Int32)) (FP.i2d r0))))])) (by rw [show ((1 : Int32) + (1 : Int32)) = (2 : Int32) by decide]) ?_
    show Steps p.tables e below (T111.setTop (mkF m 17 #[.val (.ref a1), .val (.double (FP.dadd (0 : UInt64) (FP.ddiv (FP.i2d (1 : Int32)) (FP.i2d r0)))), .second, .val (.int (1 : Int32))] [(.int (2 : Int32)), (.double (FP.dadd (0 : UInt64) (FP.ddiv (FP.i2d (1 : Int32)) (FP.i2d r0))))])) _
    refine XS.i2dS X111.here hx rfl (hb hby d3_17) rfl rfl ?_
    show Steps p.tables e below (T111.setTop (mkF m 18 #[.val (.ref a1), .val (.double (FP.dadd (0 : UInt64) (FP.ddiv (FP.i2d (1 : Int32)) (FP.i2d r0)))), .second, .val (.int (1 : Int32))] [(.double (FP.i2d (2 : Int32))), (.double (FP.dadd (0 : UInt64) (FP.ddiv (FP.i2d (1 : Int32)) (FP.i2d r0))))])) _
    refine XS.aloadN X111.here hx rfl (hb hby d3_18) rfl rfl ?_
    exact k)
  obtain ⟨T115, X115, e115, st115⟩ := getF X111 hx hZ hown (host := "") (Or.inl (hw _ (List.mem_of_getElem? (i := 26) rfl))) Via.refl e111 F1 (g := (mkF m 19 #[.val (.ref a1), .val (.double (FP.dadd (0 : UInt64) (FP.ddiv (FP.i2d (1 : Int32)) (FP.i2d r0)))), .second, .val (.int (1 : Int32))] [(.ref a1), (.double (FP.i2d (2 : Int32))), (.double (FP.dadd (0 : UInt64) (FP.ddiv (FP.i2d (1 : Int32)) (FP.i2d r0))))])) rfl rfl (hb hby d3_19)
  have k116 : ∀ t, Steps p.tables e below (T115.setTop (mkF m 22 #[.val (.ref a1), .val (.double (FP.dadd (0 : UInt64) (FP.ddiv (FP.i2d (1 : Int32)) (FP.i2d r0)))), .second, .val (.int (1 : Int32))] [(.ref a2), (.double (FP.i2d (2 : Int32))), (.double (FP.dadd (0 : UInt64) (FP.ddiv (FP.i2d (1 : Int32)) (FP.i2d r0))))])) t → Steps p.tables e below (s₁.setTop (entryFrame m #[(.ref a1)] 4)) t := fun t k => k114 t (st115 t k)
  have k117 : ∀ t, Steps p.tables e below (T115.setTop (mkF m 23 #[.val (.ref a1), .val (.double (FP.dadd (0 : UInt64) (FP.ddiv (FP.i2d (1 : Int32)) (FP.i2d r0)))), .second, .val (.int (1 : Int32))] [(.int (1 : Int32)), (.ref a2), (.double (FP.i2d (2 : Int32))), (.double (FP.dadd (0 : UInt64) (FP.ddiv (FP.i2d (1 : Int32)) (FP.i2d r0))))])) t → Steps p.tables e below (s₁.setTop (entryFrame m #[(.ref a1)] 4)) t := fun t k => k116 t (by
    show Steps p.tables e below (T115.setTop (mkF m 22 #[.val (.ref a1), .val (.double (FP.dadd (0 : UInt64) (FP.ddiv (FP.i2d (1 : Int32)) (FP.i2d r0)))), .second, .val (.int (1 : Int32))] [(.ref a2), (.double (FP.i2d (2 : Int32))), (.double (FP.dadd (0 : UInt64) (FP.ddiv (FP.i2d (1 : Int32)) (FP.i2d r0))))])) _
    refine XS.iloadN X115.here hx rfl (hb hby d3_22) rfl ?_
    exact k)
  obtain ⟨c118, Ar118, -, As118, An118, Ah118, -⟩ := id V1
  have hin118 : ¬ ((1 : Int32) < 0 ∨ c118.slots.size ≤ ((1 : Int32)).toNatClampNeg) := inb_of As118 ⟨by decide, by decide⟩
  have hat118 : c118.slots[((1 : Int32)).toNatClampNeg]? = some (.int r1) := Has.at Ah118 hin118 rfl
  have k119 : ∀ t, Steps p.tables e below (T115.setTop (mkF m 6 #[.val (.ref a1), .val (.double (FP.dadd (FP.dadd (0 : UInt64) (FP.ddiv (FP.i2d (1 : Int32)) (FP.i2d r0))) (FP.ddiv (FP.i2d (2 : Int32)) (FP.i2d r1)))), .second, .val (.int (2 : Int32))] [(.ref a1), (.int (2 : Int32))])) t → Steps p.tables e below (s₁.setTop (entryFrame m #[(.ref a1)] 4)) t := fun t k => k117 t (by
    show Steps p.tables e below (T115.setTop (mkF m 23 #[.val (.ref a1), .val (.double (FP.dadd (0 : UInt64) (FP.ddiv (FP.i2d (1 : Int32)) (FP.i2d r0)))), .second, .val (.int (1 : Int32))] [(.int (1 : Int32)), (.ref a2), (.double (FP.i2d (2 : Int32))), (.double (FP.dadd (0 : UInt64) (FP.ddiv (FP.i2d (1 : Int32)) (FP.i2d r0))))])) _
    refine X115.iaload hx (j := (1 : Int32)) (v := (.int r1)) (by rw [e115]; exact Ar118.1) (State.isArrayOf_alike hZ.alike Ar118.2.1) Ar118.2.2 hin118 hat118 (g := (mkF m 23 #[.val (.ref a1), .val (.double (FP.dadd (0 : UInt64) (FP.ddiv (FP.i2d (1 : Int32)) (FP.i2d r0)))), .second, .val (.int (1 : Int32))] [(.int (1 : Int32)), (.ref a2), (.double (FP.i2d (2 : Int32))), (.double (FP.dadd (0 : UInt64) (FP.ddiv (FP.i2d (1 : Int32)) (FP.i2d r0))))])) rfl rfl (hb hby d3_23) _ ?_
    show Steps p.tables e below (T115.setTop (mkF m 24 #[.val (.ref a1), .val (.double (FP.dadd (0 : UInt64) (FP.ddiv (FP.i2d (1 : Int32)) (FP.i2d r0)))), .second, .val (.int (1 : Int32))] [(.int r1), (.double (FP.i2d (2 : Int32))), (.double (FP.dadd (0 : UInt64) (FP.ddiv (FP.i2d (1 : Int32)) (FP.i2d r0))))])) _
    refine XS.i2dS X115.here hx rfl (hb hby d3_24) rfl rfl ?_
    show Steps p.tables e below (T115.setTop (mkF m 25 #[.val (.ref a1), .val (.double (FP.dadd (0 : UInt64) (FP.ddiv (FP.i2d (1 : Int32)) (FP.i2d r0)))), .second, .val (.int (1 : Int32))] [(.double (FP.i2d r1)), (.double (FP.i2d (2 : Int32))), (.double (FP.dadd (0 : UInt64) (FP.ddiv (FP.i2d (1 : Int32)) (FP.i2d r0))))])) _
    refine XS.ddivS X115.here hx rfl (hb hby d3_25) rfl (nq1) rfl ?_
    show Steps p.tables e below (T115.setTop (mkF m 26 #[.val (.ref a1), .val (.double (FP.dadd (0 : UInt64) (FP.ddiv (FP.i2d (1 : Int32)) (FP.i2d r0)))), .second, .val (.int (1 : Int32))] [(.double (FP.ddiv (FP.i2d (2 : Int32)) (FP.i2d r1))), (.double (FP.dadd (0 : UInt64) (FP.ddiv (FP.i2d (1 : Int32)) (FP.i2d r0))))])) _
    refine XS.daddS X115.here hx rfl (hb hby d3_26) rfl (na1) rfl ?_
    show Steps p.tables e below (T115.setTop (mkF m 27 #[.val (.ref a1), .val (.double (FP.dadd (0 : UInt64) (FP.ddiv (FP.i2d (1 : Int32)) (FP.i2d r0)))), .second, .val (.int (1 : Int32))] [(.double (FP.dadd (FP.dadd (0 : UInt64) (FP.ddiv (FP.i2d (1 : Int32)) (FP.i2d r0))) (FP.ddiv (FP.i2d (2 : Int32)) (FP.i2d r1))))])) _
    refine XS.dstoreN X115.here hx rfl (hb hby d3_27) rfl (l' := #[.val (.ref a1), .val (.double (FP.dadd (FP.dadd (0 : UInt64) (FP.ddiv (FP.i2d (1 : Int32)) (FP.i2d r0))) (FP.ddiv (FP.i2d (2 : Int32)) (FP.i2d r1)))), .second, .val (.int (1 : Int32))]) rfl ?_
    show Steps p.tables e below (T115.setTop (mkF m 28 #[.val (.ref a1), .val (.double (FP.dadd (FP.dadd (0 : UInt64) (FP.ddiv (FP.i2d (1 : Int32)) (FP.i2d r0))) (FP.ddiv (FP.i2d (2 : Int32)) (FP.i2d r1)))), .second, .val (.int (1 : Int32))] [])) _
    refine XS.iinc X115.here hx rfl (hb hby d3_28) rfl (l' := #[.val (.ref a1), .val (.double (FP.dadd (FP.dadd (0 : UInt64) (FP.ddiv (FP.i2d (1 : Int32)) (FP.i2d r0))) (FP.ddiv (FP.i2d (2 : Int32)) (FP.i2d r1)))), .second, .val (.int (2 : Int32))]) rfl ?_
    show Steps p.tables e below (T115.setTop (mkF m 31 #[.val (.ref a1), .val (.double (FP.dadd (FP.dadd (0 : UInt64) (FP.ddiv (FP.i2d (1 : Int32)) (FP.i2d r0))) (FP.ddiv (FP.i2d (2 : Int32)) (FP.i2d r1)))), .second, .val (.int (2 : Int32))] [])) _
    refine XS.goto X115.here hx rfl (pc0 := 31) (pc' := 4) rfl (hb hby d3_31) (by decide) (by decide) ?_
    show Steps p.tables e below (T115.setTop (mkF m 4 #[.val (.ref a1), .val (.double (FP.dadd (FP.dadd (0 : UInt64) (FP.ddiv (FP.i2d (1 : Int32)) (FP.i2d r0))) (FP.ddiv (FP.i2d (2 : Int32)) (FP.i2d r1)))), .second, .val (.int (2 : Int32))] [])) _
    refine XS.iloadN X115.here hx rfl (hb hby d3_4) rfl ?_
    show Steps p.tables e below (T115.setTop (mkF m 5 #[.val (.ref a1), .val (.double (FP.dadd (FP.dadd (0 : UInt64) (FP.ddiv (FP.i2d (1 : Int32)) (FP.i2d r0))) (FP.ddiv (FP.i2d (2 : Int32)) (FP.i2d r1)))), .second, .val (.int (2 : Int32))] [(.int (2 : Int32))])) _
    refine XS.aloadN X115.here hx rfl (hb hby d3_5) rfl rfl ?_
    exact k)
  obtain ⟨T120, X120, e120, st120⟩ := getF X115 hx hZ hown (host := "") (Or.inl (hw _ (List.mem_of_getElem? (i := 26) rfl))) Via.refl e115 F1 (g := (mkF m 6 #[.val (.ref a1), .val (.double (FP.dadd (FP.dadd (0 : UInt64) (FP.ddiv (FP.i2d (1 : Int32)) (FP.i2d r0))) (FP.ddiv (FP.i2d (2 : Int32)) (FP.i2d r1)))), .second, .val (.int (2 : Int32))] [(.ref a1), (.int (2 : Int32))])) rfl rfl (hb hby d3_6)
  have k121 : ∀ t, Steps p.tables e below (T120.setTop (mkF m 9 #[.val (.ref a1), .val (.double (FP.dadd (FP.dadd (0 : UInt64) (FP.ddiv (FP.i2d (1 : Int32)) (FP.i2d r0))) (FP.ddiv (FP.i2d (2 : Int32)) (FP.i2d r1)))), .second, .val (.int (2 : Int32))] [(.ref a2), (.int (2 : Int32))])) t → Steps p.tables e below (s₁.setTop (entryFrame m #[(.ref a1)] 4)) t := fun t k => k119 t (st120 t k)
  obtain ⟨c122, Ar122, -, As122, An122, -, -⟩ := id V1
  have k123 : ∀ t, Steps p.tables e below (T120.setTop (mkF m 35 #[.val (.ref a1), .val (.double (FP.dadd (FP.dadd (0 : UInt64) (FP.ddiv (FP.i2d (1 : Int32)) (FP.i2d r0))) (FP.ddiv (FP.i2d (2 : Int32)) (FP.i2d r1)))), .second, .val (.int (2 : Int32))] [(.ref a1)])) t → Steps p.tables e below (s₁.setTop (entryFrame m #[(.ref a1)] 4)) t := fun t k => k121 t (by
    show Steps p.tables e below (T120.setTop (mkF m 9 #[.val (.ref a1), .val (.double (FP.dadd (FP.dadd (0 : UInt64) (FP.ddiv (FP.i2d (1 : Int32)) (FP.i2d r0))) (FP.ddiv (FP.i2d (2 : Int32)) (FP.i2d r1)))), .second, .val (.int (2 : Int32))] [(.ref a2), (.int (2 : Int32))])) _
    refine X120.arraylength hx (by rw [e120]; exact Ar122.1) (State.isArrayOf_alike hZ.alike Ar122.2.1) (g := (mkF m 9 #[.val (.ref a1), .val (.double (FP.dadd (FP.dadd (0 : UInt64) (FP.ddiv (FP.i2d (1 : Int32)) (FP.i2d r0))) (FP.ddiv (FP.i2d (2 : Int32)) (FP.i2d r1)))), .second, .val (.int (2 : Int32))] [(.ref a2), (.int (2 : Int32))])) rfl rfl (hb hby d3_9) _ ?_
    rw [len_of As122 An122]
    show Steps p.tables e below (T120.setTop (mkF m 10 #[.val (.ref a1), .val (.double (FP.dadd (FP.dadd (0 : UInt64) (FP.ddiv (FP.i2d (1 : Int32)) (FP.i2d r0))) (FP.ddiv (FP.i2d (2 : Int32)) (FP.i2d r1)))), .second, .val (.int (2 : Int32))] [(.int (2 : Int32)), (.int (2 : Int32))])) _
    refine XS.icmpYes X120.here hx rfl (pc0 := 10) (pc' := 34) rfl (hb hby d3_10) rfl (flt (by decide)).2.1 (by decide) (by decide) ?_
    show Steps p.tables e below (T120.setTop (mkF m 34 #[.val (.ref a1), .val (.double (FP.dadd (FP.dadd (0 : UInt64) (FP.ddiv (FP.i2d (1 : Int32)) (FP.i2d r0))) (FP.ddiv (FP.i2d (2 : Int32)) (FP.i2d r1)))), .second, .val (.int (2 : Int32))] [])) _
    refine XS.aloadN X120.here hx rfl (hb hby d3_34) rfl rfl ?_
    exact k)
  obtain ⟨T124, X124, e124, st124⟩ := getF X120 hx hZ hown (host := "") (Or.inl (hw _ (List.mem_of_getElem? (i := 24) rfl))) Via.refl e120 F2 (g := (mkF m 35 #[.val (.ref a1), .val (.double (FP.dadd (FP.dadd (0 : UInt64) (FP.ddiv (FP.i2d (1 : Int32)) (FP.i2d r0))) (FP.ddiv (FP.i2d (2 : Int32)) (FP.i2d r1)))), .second, .val (.int (2 : Int32))] [(.ref a1)])) rfl rfl (hb hby d3_35)
  have k125 : ∀ t, Steps p.tables e below (T124.setTop (mkF m 38 #[.val (.ref a1), .val (.double (FP.dadd (FP.dadd (0 : UInt64) (FP.ddiv (FP.i2d (1 : Int32)) (FP.i2d r0))) (FP.ddiv (FP.i2d (2 : Int32)) (FP.i2d r1)))), .second, .val (.int (2 : Int32))] [(.int p2)])) t → Steps p.tables e below (s₁.setTop (entryFrame m #[(.ref a1)] 4)) t := fun t k => k123 t (st124 t k)
  have k126 : ∀ t, Steps p.tables e below (T124.setTop (mkF m 52 #[.val (.ref a1), .val (.double (FP.dadd (FP.dadd (0 : UInt64) (FP.ddiv (FP.i2d (1 : Int32)) (FP.i2d r0))) (FP.ddiv (FP.i2d (2 : Int32)) (FP.i2d r1)))), .second, .val (.int (2 : Int32))] [(.double (0 : UInt64))])) t → Steps p.tables e below (s₁.setTop (entryFrame m #[(.ref a1)] 4)) t := fun t k => k125 t (by
    show Steps p.tables e below (T124.setTop (mkF m 38 #[.val (.ref a1), .val (.double (FP.dadd (FP.dadd (0 : UInt64) (FP.ddiv (FP.i2d (1 : Int32)) (FP.i2d r0))) (FP.ddiv (FP.i2d (2 : Int32)) (FP.i2d r1)))), .second, .val (.int (2 : Int32))] [(.int p2)])) _
    refine XS.ifNo X124.here hx rfl (hb hby d3_38) rfl ((if0 _ _).trans (teq c38).2) ?_
    show Steps p.tables e below (T124.setTop (mkF m 41 #[.val (.ref a1), .val (.double (FP.dadd (FP.dadd (0 : UInt64) (FP.ddiv (FP.i2d (1 : Int32)) (FP.i2d r0))) (FP.ddiv (FP.i2d (2 : Int32)) (FP.i2d r1)))), .second, .val (.int (2 : Int32))] [])) _
    refine XS.dconst0 X124.here hx rfl (hb hby d3_41) (v := (0 : UInt64)) rfl ?_
    show Steps p.tables e below (T124.setTop (mkF m 42 #[.val (.ref a1), .val (.double (FP.dadd (FP.dadd (0 : UInt64) (FP.ddiv (FP.i2d (1 : Int32)) (FP.i2d r0))) (FP.ddiv (FP.i2d (2 : Int32)) (FP.i2d r1)))), .second, .val (.int (2 : Int32))] [(.double (0 : UInt64))])) _
    refine XS.goto X124.here hx rfl (pc0 := 42) (pc' := 52) rfl (hb hby d3_42) (by decide) (by decide) ?_
    exact k)
  obtain ⟨fs, hr, hrun, hended, hW, hsame⟩ := X124.leave (v := some (.double (0 : UInt64))) (fun h => by rw [Bd.returns] at h; cases h)
  refine ⟨_, _, k126 _ (retOut X124 hx (t := .double) Bd.returns rfl (Or.inr (Or.inr (Or.inl ⟨rfl, rfl, _, rfl⟩))) (hb hby d3_52) hr), hrun, hended, _, _, rfl, ?_, ⟨_, rfl⟩, hW, hsame.mono (by decide) (by decide)⟩
  show Q_avp2_1 Z a1 a2 k1 p2 r0 r1 h0 n0 _ T124.heap _
  rw [e124]
  exact ⟨rfl, N0, rfl⟩
def Q_avp3_0 (Z : State) (a1 : Addr) (a2 : Addr) (k1 : ClassId) (p2 : Int32) (r0 : Int32) (r1 : Int32) (r2 : Int32) (h0 : Heap) (n0 : Nat) (v : Option Value) (h : Heap) (L : List Loc) : Prop := v = some (.double (FP.ddiv (FP.dadd (FP.dadd (FP.dadd (0 : UInt64) (FP.ddiv (FP.i2d (1 : Int32)) (FP.i2d r0))) (FP.ddiv (FP.i2d (2 : Int32)) (FP.i2d r1))) (FP.ddiv (FP.i2d (3 : Int32)) (FP.i2d r2))) (FP.i2d p2))) ∧ Fr n0 L ∧ h = h0
set_option maxRecDepth 65536 in
set_option maxHeartbeats 40000000 in
theorem avp3_0 (l : Launch) (Z : State) (a0 : Array Value) (hw : ∀ d ∈ tables_1, d.before a0 Z = true) (ws : List Jvm.Cond) (a1 : Addr) (a2 : Addr) (k1 : ClassId) (p2 : Int32) (r0 : Int32) (r1 : Int32) (r2 : Int32) (h0 : Heap) (n0 : Nat) (Z0 : n0 ≤ h0.size) (F1 : Fld Z h0 a1 "com/example/round2/round2/eval/TopicResult" "relevantRanks" "[I" (.ref a2)) (F2 : Fld Z h0 a1 "com/example/round2/round2/eval/TopicResult" "relevant" "I" (.int p2)) (V1 : Arv Z h0 a2 k1 .int (3 : Int32) [(.int r0), (.int r1), (.int r2)] (.int (0 : Int32))) (c38 : ¬ (p2 = (0 : Int32))) (nq0 : Jvm.Free.Fl.NoNaN64 (FP.ddiv (FP.i2d (1 : Int32)) (FP.i2d r0))) (na0 : Jvm.Free.Fl.NoNaN64 (FP.dadd (0 : UInt64) (FP.ddiv (FP.i2d (1 : Int32)) (FP.i2d r0)))) (nq1 : Jvm.Free.Fl.NoNaN64 (FP.ddiv (FP.i2d (2 : Int32)) (FP.i2d r1))) (na1 : Jvm.Free.Fl.NoNaN64 (FP.dadd (FP.dadd (0 : UInt64) (FP.ddiv (FP.i2d (1 : Int32)) (FP.i2d r0))) (FP.ddiv (FP.i2d (2 : Int32)) (FP.i2d r1)))) (nq2 : Jvm.Free.Fl.NoNaN64 (FP.ddiv (FP.i2d (3 : Int32)) (FP.i2d r2))) (na2 : Jvm.Free.Fl.NoNaN64 (FP.dadd (FP.dadd (FP.dadd (0 : UInt64) (FP.ddiv (FP.i2d (1 : Int32)) (FP.i2d r0))) (FP.ddiv (FP.i2d (2 : Int32)) (FP.i2d r1))) (FP.ddiv (FP.i2d (3 : Int32)) (FP.i2d r2)))) (nn51 : Jvm.Free.Fl.NoNaN64 (FP.ddiv (FP.dadd (FP.dadd (FP.dadd (0 : UInt64) (FP.ddiv (FP.i2d (1 : Int32)) (FP.i2d r0))) (FP.ddiv (FP.i2d (2 : Int32)) (FP.i2d r1))) (FP.ddiv (FP.i2d (3 : Int32)) (FP.i2d r2))) (FP.i2d p2))) :
    MetFree l (⟨"com/example/round2/round2/eval/TopicResult", "averagePrecision", "()D"⟩ : MethodName) (head1 (Jvm.Cond.code (⟨"com/example/round2/round2/eval/TopicResult", "averagePrecision", "()D"⟩ : MethodName) prog_10_method_6_code 4 (some .double) :: ws) ({ frames := 0, cells := 0, slots := 0, locals := 0 } : Room)) (fun a U => a = #[(.ref a1)] ∧ Z.Warmed39 U.vm ∧ U.heap = h0) (fun _ _ _ _ _ => True) (fun _ U o U' => ∃ v L, o = .returned v ∧ Q_avp3_0 Z a1 a2 k1 p2 r0 r1 r2 h0 n0 v U'.heap L ∧ FrameEnd U o U' L ({ frames := 0, cells := 0, slots := 0, locals := 0 } : Room).cells ({ frames := 0, cells := 0, slots := 0, locals := 0 } : Room).slots) := by
  refine MetFree.of_bodySF (plainFor_of_name pn_com_2fexample_2fround2_2fround2_2feval_2fTopicResult) hisR ?_
  intro p e s m args below meth c s₁ Bd hml0 hP hK
  obtain ⟨rfl, hZ, hh⟩ := hP
  have hx := Bd.exec
  have hby := Bd.bytes
  have hml : c.maxLocals = 4 := hml0
  have hown : s.vm.findClass "com/example/round2/round2/eval/TopicResult" = some m.cls := findClass_of_methodNamed Bd.named
  have hnm := (name_of_methodNamed Bd.named Bd.method).1
  have X0 : Stand p l e ({ frames := 0, cells := 0, slots := 0, locals := 0 } : Room) s m #[(.ref a1)] below meth c s₁ [] 0 0 := Stand.of_body Bd
  have e0 : s₁.heap = h0 := by rw [← hh, Bd.state]; rfl
  have N0 := Fr.nil n0
  have k0 : ∀ t, Steps p.tables e below (s₁.setTop (mkF m 0 #[.val (.ref a1), .unset, .unset, .unset] [])) t → Steps p.tables e below (s₁.setTop (entryFrame m #[(.ref a1)] 4)) t := fun t k => castTop (ef_3_R m a1) k
  have k101 : ∀ t, Steps p.tables e below (s₁.setTop (mkF m 6 #[.val (.ref a1), .val (.double (0 : UInt64)), .second, .val (.int (0 : Int32))] [(.ref a1), (.int (0 : Int32))])) t → Steps p.tables e below (s₁.setTop (entryFrame m #[(.ref a1)] 4)) t := fun t k => k0 t (by
    show Steps p.tables e below (s₁.setTop (mkF m 0 #[.val (.ref a1), .unset, .unset, .unset] [])) _
    refine XS.dconst0 X0.here hx rfl (hb hby d3_0) (v := (0 : UInt64)) rfl ?_
    show Steps p.tables e below (s₁.setTop (mkF m 1 #[.val (.ref a1), .unset, .unset, .unset] [(.double (0 : UInt64))])) _
    refine XS.dstoreN X0.here hx rfl (hb hby d3_1) rfl (l' := #[.val (.ref a1), .val (.double (0 : UInt64)), .second, .unset]) rfl ?_
    show Steps p.tables e below (s₁.setTop (mkF m 2 #[.val (.ref a1), .val (.double (0 : UInt64)), .second, .unset] [])) _
    refine XS.iconst X0.here hx rfl (hb hby d3_2) ?_
    show Steps p.tables e below (s₁.setTop (mkF m 3 #[.val (.ref a1), .val (.double (0 : UInt64)), .second, .unset] [(.int (0 : Int32))])) _
    refine XS.istoreN X0.here hx rfl (hb hby d3_3) rfl (l' := #[.val (.ref a1), .val (.double (0 : UInt64)), .second, .val (.int (0 : Int32))]) rfl ?_
    show Steps p.tables e below (s₁.setTop (mkF m 4 #[.val (.ref a1), .val (.double (0 : UInt64)), .second, .val (.int (0 : Int32))] [])) _
    refine XS.iloadN X0.here hx rfl (hb hby d3_4) rfl ?_
    show Steps p.tables e below (s₁.setTop (mkF m 5 #[.val (.ref a1), .val (.double (0 : UInt64)), .second, .val (.int (0 : Int32))] [(.int (0 : Int32))])) _
    refine XS.aloadN X0.here hx rfl (hb hby d3_5) rfl rfl ?_
    exact k)
  obtain ⟨T102, X102, e102, st102⟩ := getF X0 hx hZ hown (host := "") (Or.inl (hw _ (List.mem_of_getElem? (i := 26) rfl))) Via.refl e0 F1 (g := (mkF m 6 #[.val (.ref a1), .val (.double (0 : UInt64)), .second, .val (.int (0 : Int32))] [(.ref a1), (.int (0 : Int32))])) rfl rfl (hb hby d3_6)
  have k103 : ∀ t, Steps p.tables e below (T102.setTop (mkF m 9 #[.val (.ref a1), .val (.double (0 : UInt64)), .second, .val (.int (0 : Int32))] [(.ref a2), (.int (0 : Int32))])) t → Steps p.tables e below (s₁.setTop (entryFrame m #[(.ref a1)] 4)) t := fun t k => k101 t (st102 t k)
  obtain ⟨c104, Ar104, -, As104, An104, -, -⟩ := id V1
  have k105 : ∀ t, Steps p.tables e below (T102.setTop (mkF m 19 #[.val (.ref a1), .val (.double (0 : UInt64)), .second, .val (.int (0 : Int32))] [(.ref a1), (.double (FP.i2d (1 : Int32))), (.double (0 : UInt64))])) t → Steps p.tables e below (s₁.setTop (entryFrame m #[(.ref a1)] 4)) t := fun t k => k103 t (by
    show Steps p.tables e below (T102.setTop (mkF m 9 #[.val (.ref a1), .val (.double (0 : UInt64)), .second, .val (.int (0 : Int32))] [(.ref a2), (.int (0 : Int32))])) _
    refine X102.arraylength hx (by rw [e102]; exact Ar104.1) (State.isArrayOf_alike hZ.alike Ar104.2.1) (g := (mkF m 9 #[.val (.ref a1), .val (.double (0 : UInt64)), .second, .val (.int (0 : Int32))] [(.ref a2), (.int (0 : Int32))])) rfl rfl (hb hby d3_9) _ ?_
    rw [len_of As104 An104]
    show Steps p.tables e below (T102.setTop (mkF m 10 #[.val (.ref a1), .val (.double (0 : UInt64)), .second, .val (.int (0 : Int32))] [(.int (3 : Int32)), (.int (0 : Int32))])) _
    refine XS.icmpNo X102.here hx rfl (hb hby d3_10) rfl (tlt (by decide)).2.1 ?_
    show Steps p.tables e below (T102.setTop (mkF m 13 #[.val (.ref a1), .val (.double (0 : UInt64)), .second, .val (.int (0 : Int32))] [])) _
    refine XS.dloadN X102.here hx rfl (hb hby d3_13) rfl ?_
    show Steps p.tables e below (T102.setTop (mkF m 14 #[.val (.ref a1), .val (.double (0 : UInt64)), .second, .val (.int (0 : Int32))] [(.double (0 : UInt64))])) _
    refine XS.iloadN X102.here hx rfl (hb hby d3_14) rfl ?_
    show Steps p.tables e below (T102.setTop (mkF m 15 #[.val (.ref a1), .val (.double (0 : UInt64)), .second, .val (.int (0 : Int32))] [(.int (0 : Int32)), (.double (0 : UInt64))])) _
    refine XS.iconst X102.here hx rfl (hb hby d3_15) ?_
    show Steps p.tables e below (T102.setTop (mkF m 16 #[.val (.ref a1), .val (.double (0 : UInt64)), .second, .val (.int (0 : Int32))] [(.int (1 : Int32)), (.int (0 : Int32)), (.double (0 : UInt64))])) _
    refine XS.iadd X102.here hx rfl (hb hby d3_16) rfl ?_
    show Steps p.tables e below (T102.setTop (mkF m 17 #[.val (.ref a1), .val (.double (0 : UInt64)), .second, .val (.int (0 : Int32))] [(.int ((0 : Int32) + (1 : Int32))), (.double (0 : UInt64))])) _
    refine castTop (g' := (mkF m 17 #[.val (.ref a1), .val (.double (0 : UInt64)), .second, .val (.int (0 : Int32))] [(.int (1 : Int32)), (.double (0 : UInt64))])) (by rw [show ((0 : Int32) + (1 : Int32)) = (1 : Int32) by decide]) ?_
    show Steps p.tables e below (T102.setTop (mkF m 17 #[.val (.ref a1), .val (.double (0 : UInt64)), .second, .val (.int (0 : Int32))] [(.int (1 : Int32)), (.double (0 : UInt64))])) _
    refine XS.i2dS X102.here hx rfl (hb hby d3_17) rfl rfl ?_
    show Steps p.tables e below (T102.setTop (mkF m 18 #[.val (.ref a1), .val (.double (0 : UInt64)), .second, .val (.int (0 : Int32))] [(.double (FP.i2d (1 : Int32))), (.double (0 : UInt64))])) _
    refine XS.aloadN X102.here hx rfl (hb hby d3_18) rfl rfl ?_
    exact k)
  obtain ⟨T106, X106, e106, st106⟩ := getF X102 hx hZ hown (host := "") (Or.inl (hw _ (List.mem_of_getElem? (i := 26) rfl))) Via.refl e102 F1 (g := (mkF m 19 #[.val (.ref a1), .val (.double (0 : UInt64)), .second, .val (.int (0 : Int32))] [(.ref a1), (.double (FP.i2d (1 : Int32))), (.double (0 : UInt64))])) rfl rfl (hb hby d3_19)
  have k107 : ∀ t, Steps p.tables e below (T106.setTop (mkF m 22 #[.val (.ref a1), .val (.double (0 : UInt64)), .second, .val (.int (0 : Int32))] [(.ref a2), (.double (FP.i2d (1 : Int32))), (.double (0 : UInt64))])) t → Steps p.tables e below (s₁.setTop (entryFrame m #[(.ref a1)] 4)) t := fun t k => k105 t (st106 t k)
  have k108 : ∀ t, Steps p.tables e below (T106.setTop (mkF m 23 #[.val (.ref a1), .val (.double (0 : UInt64)), .second, .val (.int (0 : Int32))] [(.int (0 : Int32)), (.ref a2), (.double (FP.i2d (1 : Int32))), (.double (0 : UInt64))])) t → Steps p.tables e below (s₁.setTop (entryFrame m #[(.ref a1)] 4)) t := fun t k => k107 t (by
    show Steps p.tables e below (T106.setTop (mkF m 22 #[.val (.ref a1), .val (.double (0 : UInt64)), .second, .val (.int (0 : Int32))] [(.ref a2), (.double (FP.i2d (1 : Int32))), (.double (0 : UInt64))])) _
    refine XS.iloadN X106.here hx rfl (hb hby d3_22) rfl ?_
    exact k)
  obtain ⟨c109, Ar109, -, As109, An109, Ah109, -⟩ := id V1
  have hin109 : ¬ ((0 : Int32) < 0 ∨ c109.slots.size ≤ ((0 : Int32)).toNatClampNeg) := inb_of As109 ⟨by decide, by decide⟩
  have hat109 : c109.slots[((0 : Int32)).toNatClampNeg]? = some (.int r0) := Has.at Ah109 hin109 rfl
  have k110 : ∀ t, Steps p.tables e below (T106.setTop (mkF m 6 #[.val (.ref a1), .val (.double (FP.dadd (0 : UInt64) (FP.ddiv (FP.i2d (1 : Int32)) (FP.i2d r0)))), .second, .val (.int (1 : Int32))] [(.ref a1), (.int (1 : Int32))])) t → Steps p.tables e below (s₁.setTop (entryFrame m #[(.ref a1)] 4)) t := fun t k => k108 t (by
    show Steps p.tables e below (T106.setTop (mkF m 23 #[.val (.ref a1), .val (.double (0 : UInt64)), .second, .val (.int (0 : Int32))] [(.int (0 : Int32)), (.ref a2), (.double (FP.i2d (1 : Int32))), (.double (0 : UInt64))])) _
    refine X106.iaload hx (j := (0 : Int32)) (v := (.int r0)) (by rw [e106]; exact Ar109.1) (State.isArrayOf_alike hZ.alike Ar109.2.1) Ar109.2.2 hin109 hat109 (g := (mkF m 23 #[.val (.ref a1), .val (.double (0 : UInt64)), .second, .val (.int (0 : Int32))] [(.int (0 : Int32)), (.ref a2), (.double (FP.i2d (1 : Int32))), (.double (0 : UInt64))])) rfl rfl (hb hby d3_23) _ ?_
    show Steps p.tables e below (T106.setTop (mkF m 24 #[.val (.ref a1), .val (.double (0 : UInt64)), .second, .val (.int (0 : Int32))] [(.int r0), (.double (FP.i2d (1 : Int32))), (.double (0 : UInt64))])) _
    refine XS.i2dS X106.here hx rfl (hb hby d3_24) rfl rfl ?_
    show Steps p.tables e below (T106.setTop (mkF m 25 #[.val (.ref a1), .val (.double (0 : UInt64)), .second, .val (.int (0 : Int32))] [(.double (FP.i2d r0)), (.double (FP.i2d (1 : Int32))), (.double (0 : UInt64))])) _
    refine XS.ddivS X106.here hx rfl (hb hby d3_25) rfl (nq0) rfl ?_
    show Steps p.tables e below (T106.setTop (mkF m 26 #[.val (.ref a1), .val (.double (0 : UInt64)), .second, .val (.int (0 : Int32))] [(.double (FP.ddiv (FP.i2d (1 : Int32)) (FP.i2d r0))), (.double (0 : UInt64))])) _
    refine XS.daddS X106.here hx rfl (hb hby d3_26) rfl (na0) rfl ?_
    show Steps p.tables e below (T106.setTop (mkF m 27 #[.val (.ref a1), .val (.double (0 : UInt64)), .second, .val (.int (0 : Int32))] [(.double (FP.dadd (0 : UInt64) (FP.ddiv (FP.i2d (1 : Int32)) (FP.i2d r0))))])) _
    refine XS.dstoreN X106.here hx rfl (hb hby d3_27) rfl (l' := #[.val (.ref a1), .val (.double (FP.dadd (0 : UInt64) (FP.ddiv (FP.i2d (1 : Int32)) (FP.i2d r0)))), .second, .val (.int (0 : Int32))]) rfl ?_
    show Steps p.tables e below (T106.setTop (mkF m 28 #[.val (.ref a1), .val (.double (FP.dadd (0 : UInt64) (FP.ddiv (FP.i2d (1 : Int32)) (FP.i2d r0)))), .second, .val (.int (0 : Int32))] [])) _
    refine XS.iinc X106.here hx rfl (hb hby d3_28) rfl (l' := #[.val (.ref a1), .val (.double (FP.dadd (0 : UInt64) (FP.ddiv (FP.i2d (1 : Int32)) (FP.i2d r0)))), .second, .val (.int (1 : Int32))]) rfl ?_
    show Steps p.tables e below (T106.setTop (mkF m 31 #[.val (.ref a1), .val (.double (FP.dadd (0 : UInt64) (FP.ddiv (FP.i2d (1 : Int32)) (FP.i2d r0)))), .second, .val (.int (1 : Int32))] [])) _
    refine XS.goto X106.here hx rfl (pc0 := 31) (pc' := 4) rfl (hb hby d3_31) (by decide) (by decide) ?_
    show Steps p.tables e below (T106.setTop (mkF m 4 #[.val (.ref a1), .val (.double (FP.dadd (0 : UInt64) (FP.ddiv (FP.i2d (1 : Int32)) (FP.i2d r0)))), .second, .val (.int (1 : Int32))] [])) _
    refine XS.iloadN X106.here hx rfl (hb hby d3_4) rfl ?_
    show Steps p.tables e below (T106.setTop (mkF m 5 #[.val (.ref a1), .val (.double (FP.dadd (0 : UInt64) (FP.ddiv (FP.i2d (1 : Int32)) (FP.i2d r0)))), .second, .val (.int (1 : Int32))] [(.int (1 : Int32))])) _
    refine XS.aloadN X106.here hx rfl (hb hby d3_5) rfl rfl ?_
    exact k)
  obtain ⟨T111, X111, e111, st111⟩ := getF X106 hx hZ hown (host := "") (Or.inl (hw _ (List.mem_of_getElem? (i := 26) rfl))) Via.refl e106 F1 (g := (mkF m 6 #[.val (.ref a1), .val (.double (FP.dadd (0 : UInt64) (FP.ddiv (FP.i2d (1 : Int32)) (FP.i2d r0)))), .second, .val (.int (1 : Int32))] [(.ref a1), (.int (1 : Int32))])) rfl rfl (hb hby d3_6)
  have k112 : ∀ t, Steps p.tables e below (T111.setTop (mkF m 9 #[.val (.ref a1), .val (.double (FP.dadd (0 : UInt64) (FP.ddiv (FP.i2d (1 : Int32)) (FP.i2d r0)))), .second, .val (.int (1 : Int32))] [(.ref a2), (.int (1 : Int32))])) t → Steps p.tables e below (s₁.setTop (entryFrame m #[(.ref a1)] 4)) t := fun t k => k110 t (st111 t k)
  obtain ⟨c113, Ar113, -, As113, An113, -, -⟩ := id V1
  have k114 : ∀ t, Steps p.tables e below (T111.setTop (mkF m 19 #[.val (.ref a1), .val (.double (FP.dadd (0 : UInt64) (FP.ddiv (FP.i2d (1 : Int32)) (FP.i2d r0)))), .second, .val (.int (1 : Int32))] [(.ref a1), (.double (FP.i2d (2 : Int32))), (.double (FP.dadd (0 : UInt64) (FP.ddiv (FP.i2d (1 : Int32)) (FP.i2d r0))))])) t → Steps p.tables e below (s₁.setTop (entryFrame m #[(.ref a1)] 4)) t := fun t k => k112 t (by
    show Steps p.tables e below (T111.setTop (mkF m 9 #[.val (.ref a1), .val (.double (FP.dadd (0 : UInt64) (FP.ddiv (FP.i2d (1 : Int32)) (FP.i2d r0)))), .second, .val (.int (1 : Int32))] [(.ref a2), (.int (1 : Int32))])) _
    refine X111.arraylength hx (by rw [e111]; exact Ar113.1) (State.isArrayOf_alike hZ.alike Ar113.2.1) (g := (mkF m 9 #[.val (.ref a1), .val (.double (FP.dadd (0 : UInt64) (FP.ddiv (FP.i2d (1 : Int32)) (FP.i2d r0)))), .second, .val (.int (1 : Int32))] [(.ref a2), (.int (1 : Int32))])) rfl rfl (hb hby d3_9) _ ?_
    rw [len_of As113 An113]
    show Steps p.tables e below (T111.setTop (mkF m 10 #[.val (.ref a1), .val (.double (FP.dadd (0 : UInt64) (FP.ddiv (FP.i2d (1 : Int32)) (FP.i2d r0)))), .second, .val (.int (1 : Int32))] [(.int (3 : Int32)), (.int (1 : Int32))])) _
    refine XS.icmpNo X111.here hx rfl (hb hby d3_10) rfl (tlt (by decide)).2.1 ?_
    show Steps p.tables e below (T111.setTop (mkF m 13 #[.val (.ref a1), .val (.double (FP.dadd (0 : UInt64) (FP.ddiv (FP.i2d (1 : Int32)) (FP.i2d r0)))), .second, .val (.int (1 : Int32))] [])) _
    refine XS.dloadN X111.here hx rfl (hb hby d3_13) rfl ?_
    show Steps p.tables e below (T111.setTop (mkF m 14 #[.val (.ref a1), .val (.double (FP.dadd (0 : UInt64) (FP.ddiv (FP.i2d (1 : Int32)) (FP.i2d r0)))), .second, .val (.int (1 : Int32))] [(.double (FP.dadd (0 : UInt64) (FP.ddiv (FP.i2d (1 : Int32)) (FP.i2d r0))))])) _
    refine XS.iloadN X111.here hx rfl (hb hby d3_14) rfl ?_
    show Steps p.tables e below (T111.setTop (mkF m 15 #[.val (.ref a1), .val (.double (FP.dadd (0 : UInt64) (FP.ddiv (FP.i2d (1 : Int32)) (FP.i2d r0)))), .second, .val (.int (1 : Int32))] [(.int (1 : Int32)), (.double (FP.dadd (0 : UInt64) (FP.ddiv (FP.i2d (1 : Int32)) (FP.i2d r0))))])) _
    refine XS.iconst X111.here hx rfl (hb hby d3_15) ?_
    show Steps p.tables e below (T111.setTop (mkF m 16 #[.val (.ref a1), .val (.double (FP.dadd (0 : UInt64) (FP.ddiv (FP.i2d (1 : Int32)) (FP.i2d r0)))), .second, .val (.int (1 : Int32))] [(.int (1 : Int32)), (.int (1 : Int32)), (.double (FP.dadd (0 : UInt64) (FP.ddiv (FP.i2d (1 : Int32)) (FP.i2d r0))))])) _
    refine XS.iadd X111.here hx rfl (hb hby d3_16) rfl ?_
    show Steps p.tables e below (T111.setTop (mkF m 17 #[.val (.ref a1), .val (.double (FP.dadd (0 : UInt64) (FP.ddiv (FP.i2d (1 : Int32)) (FP.i2d r0)))), .second, .val (.int (1 : Int32))] [(.int ((1 : Int32) + (1 : Int32))), (.double (FP.dadd (0 : UInt64) (FP.ddiv (FP.i2d (1 : Int32)) (FP.i2d r0))))])) _
    refine castTop (g' := (mkF m 17 #[.val (.ref a1), .val (.double (FP.dadd (0 : UInt64) (FP.ddiv (FP.i2d (1 : Int32)) (FP.i2d r0)))), .second, .val (.int (1 : Int32))] [(.int (2 : Int32)), (.double (FP.dadd (0 : UInt64) (FP.ddiv (FP.i2d (1 : Int32)) (FP.i2d r0))))])) (by rw [show ((1 : Int32) + (1 : Int32)) = (2 : Int32) by decide]) ?_
    show Steps p.tables e below (T111.setTop (mkF m 17 #[.val (.ref a1), .val (.double (FP.dadd (0 : UInt64) (FP.ddiv (FP.i2d (1 : Int32)) (FP.i2d r0)))), .second, .val (.int (1 : Int32))] [(.int (2 : Int32)), (.double (FP.dadd (0 : UInt64) (FP.ddiv (FP.i2d (1 : Int32)) (FP.i2d r0))))])) _
    refine XS.i2dS X111.here hx rfl (hb hby d3_17) rfl rfl ?_
    show Steps p.tables e below (T111.setTop (mkF m 18 #[.val (.ref a1), .val (.double (FP.dadd (0 : UInt64) (FP.ddiv (FP.i2d (1 : Int32)) (FP.i2d r0)))), .second, .val (.int (1 : Int32))] [(.double (FP.i2d (2 : Int32))), (.double (FP.dadd (0 : UInt64) (FP.ddiv (FP.i2d (1 : Int32)) (FP.i2d r0))))])) _
    refine XS.aloadN X111.here hx rfl (hb hby d3_18) rfl rfl ?_
    exact k)
  obtain ⟨T115, X115, e115, st115⟩ := getF X111 hx hZ hown (host := "") (Or.inl (hw _ (List.mem_of_getElem? (i := 26) rfl))) Via.refl e111 F1 (g := (mkF m 19 #[.val (.ref a1), .val (.double (FP.dadd (0 : UInt64) (FP.ddiv (FP.i2d (1 : Int32)) (FP.i2d r0)))), .second, .val (.int (1 : Int32))] [(.ref a1), (.double (FP.i2d (2 : Int32))), (.double (FP.dadd (0 : UInt64) (FP.ddiv (FP.i2d (1 : Int32)) (FP.i2d r0))))])) rfl rfl (hb hby d3_19)
  have k116 : ∀ t, Steps p.tables e below (T115.setTop (mkF m 22 #[.val (.ref a1), .val (.double (FP.dadd (0 : UInt64) (FP.ddiv (FP.i2d (1 : Int32)) (FP.i2d r0)))), .second, .val (.int (1 : Int32))] [(.ref a2), (.double (FP.i2d (2 : Int32))), (.double (FP.dadd (0 : UInt64) (FP.ddiv (FP.i2d (1 : Int32)) (FP.i2d r0))))])) t → Steps p.tables e below (s₁.setTop (entryFrame m #[(.ref a1)] 4)) t := fun t k => k114 t (st115 t k)
  have k117 : ∀ t, Steps p.tables e below (T115.setTop (mkF m 23 #[.val (.ref a1), .val (.double (FP.dadd (0 : UInt64) (FP.ddiv (FP.i2d (1 : Int32)) (FP.i2d r0)))), .second, .val (.int (1 : Int32))] [(.int (1 : Int32)), (.ref a2), (.double (FP.i2d (2 : Int32))), (.double (FP.dadd (0 : UInt64) (FP.ddiv (FP.i2d (1 : Int32)) (FP.i2d r0))))])) t → Steps p.tables e below (s₁.setTop (entryFrame m #[(.ref a1)] 4)) t := fun t k => k116 t (by
    show Steps p.tables e below (T115.setTop (mkF m 22 #[.val (.ref a1), .val (.double (FP.dadd (0 : UInt64) (FP.ddiv (FP.i2d (1 : Int32)) (FP.i2d r0)))), .second, .val (.int (1 : Int32))] [(.ref a2), (.double (FP.i2d (2 : Int32))), (.double (FP.dadd (0 : UInt64) (FP.ddiv (FP.i2d (1 : Int32)) (FP.i2d r0))))])) _
    refine XS.iloadN X115.here hx rfl (hb hby d3_22) rfl ?_
    exact k)
  obtain ⟨c118, Ar118, -, As118, An118, Ah118, -⟩ := id V1
  have hin118 : ¬ ((1 : Int32) < 0 ∨ c118.slots.size ≤ ((1 : Int32)).toNatClampNeg) := inb_of As118 ⟨by decide, by decide⟩
  have hat118 : c118.slots[((1 : Int32)).toNatClampNeg]? = some (.int r1) := Has.at Ah118 hin118 rfl
  have k119 : ∀ t, Steps p.tables e below (T115.setTop (mkF m 6 #[.val (.ref a1), .val (.double (FP.dadd (FP.dadd (0 : UInt64) (FP.ddiv (FP.i2d (1 : Int32)) (FP.i2d r0))) (FP.ddiv (FP.i2d (2 : Int32)) (FP.i2d r1)))), .second, .val (.int (2 : Int32))] [(.ref a1), (.int (2 : Int32))])) t → Steps p.tables e below (s₁.setTop (entryFrame m #[(.ref a1)] 4)) t := fun t k => k117 t (by
    show Steps p.tables e below (T115.setTop (mkF m 23 #[.val (.ref a1), .val (.double (FP.dadd (0 : UInt64) (FP.ddiv (FP.i2d (1 : Int32)) (FP.i2d r0)))), .second, .val (.int (1 : Int32))] [(.int (1 : Int32)), (.ref a2), (.double (FP.i2d (2 : Int32))), (.double (FP.dadd (0 : UInt64) (FP.ddiv (FP.i2d (1 : Int32)) (FP.i2d r0))))])) _
    refine X115.iaload hx (j := (1 : Int32)) (v := (.int r1)) (by rw [e115]; exact Ar118.1) (State.isArrayOf_alike hZ.alike Ar118.2.1) Ar118.2.2 hin118 hat118 (g := (mkF m 23 #[.val (.ref a1), .val (.double (FP.dadd (0 : UInt64) (FP.ddiv (FP.i2d (1 : Int32)) (FP.i2d r0)))), .second, .val (.int (1 : Int32))] [(.int (1 : Int32)), (.ref a2), (.double (FP.i2d (2 : Int32))), (.double (FP.dadd (0 : UInt64) (FP.ddiv (FP.i2d (1 : Int32)) (FP.i2d r0))))])) rfl rfl (hb hby d3_23) _ ?_
    show Steps p.tables e below (T115.setTop (mkF m 24 #[.val (.ref a1), .val (.double (FP.dadd (0 : UInt64) (FP.ddiv (FP.i2d (1 : Int32)) (FP.i2d r0)))), .second, .val (.int (1 : Int32))] [(.int r1), (.double (FP.i2d (2 : Int32))), (.double (FP.dadd (0 : UInt64) (FP.ddiv (FP.i2d (1 : Int32)) (FP.i2d r0))))])) _
    refine XS.i2dS X115.here hx rfl (hb hby d3_24) rfl rfl ?_
    show Steps p.tables e below (T115.setTop (mkF m 25 #[.val (.ref a1), .val (.double (FP.dadd (0 : UInt64) (FP.ddiv (FP.i2d (1 : Int32)) (FP.i2d r0)))), .second, .val (.int (1 : Int32))] [(.double (FP.i2d r1)), (.double (FP.i2d (2 : Int32))), (.double (FP.dadd (0 : UInt64) (FP.ddiv (FP.i2d (1 : Int32)) (FP.i2d r0))))])) _
    refine XS.ddivS X115.here hx rfl (hb hby d3_25) rfl (nq1) rfl ?_
    show Steps p.tables e below (T115.setTop (mkF m 26 #[.val (.ref a1), .val (.double (FP.dadd (0 : UInt64) (FP.ddiv (FP.i2d (1 : Int32)) (FP.i2d r0)))), .second, .val (.int (1 : Int32))] [(.double (FP.ddiv (FP.i2d (2 : Int32)) (FP.i2d r1))), (.double (FP.dadd (0 : UInt64) (FP.ddiv (FP.i2d (1 : Int32)) (FP.i2d r0))))])) _
    refine XS.daddS X115.here hx rfl (hb hby d3_26) rfl (na1) rfl ?_
    show Steps p.tables e below (T115.setTop (mkF m 27 #[.val (.ref a1), .val (.double (FP.dadd (0 : UInt64) (FP.ddiv (FP.i2d (1 : Int32)) (FP.i2d r0)))), .second, .val (.int (1 : Int32))] [(.double (FP.dadd (FP.dadd (0 : UInt64) (FP.ddiv (FP.i2d (1 : Int32)) (FP.i2d r0))) (FP.ddiv (FP.i2d (2 : Int32)) (FP.i2d r1))))])) _
    refine XS.dstoreN X115.here hx rfl (hb hby d3_27) rfl (l' := #[.val (.ref a1), .val (.double (FP.dadd (FP.dadd (0 : UInt64) (FP.ddiv (FP.i2d (1 : Int32)) (FP.i2d r0))) (FP.ddiv (FP.i2d (2 : Int32)) (FP.i2d r1)))), .second, .val (.int (1 : Int32))]) rfl ?_
    show Steps p.tables e below (T115.setTop (mkF m 28 #[.val (.ref a1), .val (.double (FP.dadd (FP.dadd (0 : UInt64) (FP.ddiv (FP.i2d (1 : Int32)) (FP.i2d r0))) (FP.ddiv (FP.i2d (2 : Int32)) (FP.i2d r1)))), .second, .val (.int (1 : Int32))] [])) _
    refine XS.iinc X115.here hx rfl (hb hby d3_28) rfl (l' := #[.val (.ref a1), .val (.double (FP.dadd (FP.dadd (0 : UInt64) (FP.ddiv (FP.i2d (1 : Int32)) (FP.i2d r0))) (FP.ddiv (FP.i2d (2 : Int32)) (FP.i2d r1)))), .second, .val (.int (2 : Int32))]) rfl ?_
    show Steps p.tables e below (T115.setTop (mkF m 31 #[.val (.ref a1), .val (.double (FP.dadd (FP.dadd (0 : UInt64) (FP.ddiv (FP.i2d (1 : Int32)) (FP.i2d r0))) (FP.ddiv (FP.i2d (2 : Int32)) (FP.i2d r1)))), .second, .val (.int (2 : Int32))] [])) _
    refine XS.goto X115.here hx rfl (pc0 := 31) (pc' := 4) rfl (hb hby d3_31) (by decide) (by decide) ?_
    show Steps p.tables e below (T115.setTop (mkF m 4 #[.val (.ref a1), .val (.double (FP.dadd (FP.dadd (0 : UInt64) (FP.ddiv (FP.i2d (1 : Int32)) (FP.i2d r0))) (FP.ddiv (FP.i2d (2 : Int32)) (FP.i2d r1)))), .second, .val (.int (2 : Int32))] [])) _
    refine XS.iloadN X115.here hx rfl (hb hby d3_4) rfl ?_
    show Steps p.tables e below (T115.setTop (mkF m 5 #[.val (.ref a1), .val (.double (FP.dadd (FP.dadd (0 : UInt64) (FP.ddiv (FP.i2d (1 : Int32)) (FP.i2d r0))) (FP.ddiv (FP.i2d (2 : Int32)) (FP.i2d r1)))), .second, .val (.int (2 : Int32))] [(.int (2 : Int32))])) _
    refine XS.aloadN X115.here hx rfl (hb hby d3_5) rfl rfl ?_
    exact k)
  obtain ⟨T120, X120, e120, st120⟩ := getF X115 hx hZ hown (host := "") (Or.inl (hw _ (List.mem_of_getElem? (i := 26) rfl))) Via.refl e115 F1 (g := (mkF m 6 #[.val (.ref a1), .val (.double (FP.dadd (FP.dadd (0 : UInt64) (FP.ddiv (FP.i2d (1 : Int32)) (FP.i2d r0))) (FP.ddiv (FP.i2d (2 : Int32)) (FP.i2d r1)))), .second, .val (.int (2 : Int32))] [(.ref a1), (.int (2 : Int32))])) rfl rfl (hb hby d3_6)
  have k121 : ∀ t, Steps p.tables e below (T120.setTop (mkF m 9 #[.val (.ref a1), .val (.double (FP.dadd (FP.dadd (0 : UInt64) (FP.ddiv (FP.i2d (1 : Int32)) (FP.i2d r0))) (FP.ddiv (FP.i2d (2 : Int32)) (FP.i2d r1)))), .second, .val (.int (2 : Int32))] [(.ref a2), (.int (2 : Int32))])) t → Steps p.tables e below (s₁.setTop (entryFrame m #[(.ref a1)] 4)) t := fun t k => k119 t (st120 t k)
  obtain ⟨c122, Ar122, -, As122, An122, -, -⟩ := id V1
  have k123 : ∀ t, Steps p.tables e below (T120.setTop (mkF m 19 #[.val (.ref a1), .val (.double (FP.dadd (FP.dadd (0 : UInt64) (FP.ddiv (FP.i2d (1 : Int32)) (FP.i2d r0))) (FP.ddiv (FP.i2d (2 : Int32)) (FP.i2d r1)))), .second, .val (.int (2 : Int32))] [(.ref a1), (.double (FP.i2d (3 : Int32))), (.double (FP.dadd (FP.dadd (0 : UInt64) (FP.ddiv (FP.i2d (1 : Int32)) (FP.i2d r0))) (FP.ddiv (FP.i2d (2 : Int32)) (FP.i2d r1))))])) t → Steps p.tables e below (s₁.setTop (entryFrame m #[(.ref a1)] 4)) t := fun t k => k121 t (by
    show Steps p.tables e below (T120.setTop (mkF m 9 #[.val (.ref a1), .val (.double (FP.dadd (FP.dadd (0 : UInt64) (FP.ddiv (FP.i2d (1 : Int32)) (FP.i2d r0))) (FP.ddiv (FP.i2d (2 : Int32)) (FP.i2d r1)))), .second, .val (.int (2 : Int32))] [(.ref a2), (.int (2 : Int32))])) _
    refine X120.arraylength hx (by rw [e120]; exact Ar122.1) (State.isArrayOf_alike hZ.alike Ar122.2.1) (g := (mkF m 9 #[.val (.ref a1), .val (.double (FP.dadd (FP.dadd (0 : UInt64) (FP.ddiv (FP.i2d (1 : Int32)) (FP.i2d r0))) (FP.ddiv (FP.i2d (2 : Int32)) (FP.i2d r1)))), .second, .val (.int (2 : Int32))] [(.ref a2), (.int (2 : Int32))])) rfl rfl (hb hby d3_9) _ ?_
    rw [len_of As122 An122]
    show Steps p.tables e below (T120.setTop (mkF m 10 #[.val (.ref a1), .val (.double (FP.dadd (FP.dadd (0 : UInt64) (FP.ddiv (FP.i2d (1 : Int32)) (FP.i2d r0))) (FP.ddiv (FP.i2d (2 : Int32)) (FP.i2d r1)))), .second, .val (.int (2 : Int32))] [(.int (3 : Int32)), (.int (2 : Int32))])) _
    refine XS.icmpNo X120.here hx rfl (hb hby d3_10) rfl (tlt (by decide)).2.1 ?_
    show Steps p.tables e below (T120.setTop (mkF m 13 #[.val (.ref a1), .val (.double (FP.dadd (FP.dadd (0 : UInt64) (FP.ddiv (FP.i2d (1 : Int32)) (FP.i2d r0))) (FP.ddiv (FP.i2d (2 : Int32)) (FP.i2d r1)))), .second, .val (.int (2 : Int32))] [])) _
    refine XS.dloadN X120.here hx rfl (hb hby d3_13) rfl ?_
    show Steps p.tables e below (T120.setTop (mkF m 14 #[.val (.ref a1), .val (.double (FP.dadd (FP.dadd (0 : UInt64) (FP.ddiv (FP.i2d (1 : Int32)) (FP.i2d r0))) (FP.ddiv (FP.i2d (2 : Int32)) (FP.i2d r1)))), .second, .val (.int (2 : Int32))] [(.double (FP.dadd (FP.dadd (0 : UInt64) (FP.ddiv (FP.i2d (1 : Int32)) (FP.i2d r0))) (FP.ddiv (FP.i2d (2 : Int32)) (FP.i2d r1))))])) _
    refine XS.iloadN X120.here hx rfl (hb hby d3_14) rfl ?_
    show Steps p.tables e below (T120.setTop (mkF m 15 #[.val (.ref a1), .val (.double (FP.dadd (FP.dadd (0 : UInt64) (FP.ddiv (FP.i2d (1 : Int32)) (FP.i2d r0))) (FP.ddiv (FP.i2d (2 : Int32)) (FP.i2d r1)))), .second, .val (.int (2 : Int32))] [(.int (2 : Int32)), (.double (FP.dadd (FP.dadd (0 : UInt64) (FP.ddiv (FP.i2d (1 : Int32)) (FP.i2d r0))) (FP.ddiv (FP.i2d (2 : Int32)) (FP.i2d r1))))])) _
    refine XS.iconst X120.here hx rfl (hb hby d3_15) ?_
    show Steps p.tables e below (T120.setTop (mkF m 16 #[.val (.ref a1), .val (.double (FP.dadd (FP.dadd (0 : UInt64) (FP.ddiv (FP.i2d (1 : Int32)) (FP.i2d r0))) (FP.ddiv (FP.i2d (2 : Int32)) (FP.i2d r1)))), .second, .val (.int (2 : Int32))] [(.int (1 : Int32)), (.int (2 : Int32)), (.double (FP.dadd (FP.dadd (0 : UInt64) (FP.ddiv (FP.i2d (1 : Int32)) (FP.i2d r0))) (FP.ddiv (FP.i2d (2 : Int32)) (FP.i2d r1))))])) _
    refine XS.iadd X120.here hx rfl (hb hby d3_16) rfl ?_
    show Steps p.tables e below (T120.setTop (mkF m 17 #[.val (.ref a1), .val (.double (FP.dadd (FP.dadd (0 : UInt64) (FP.ddiv (FP.i2d (1 : Int32)) (FP.i2d r0))) (FP.ddiv (FP.i2d (2 : Int32)) (FP.i2d r1)))), .second, .val (.int (2 : Int32))] [(.int ((2 : Int32) + (1 : Int32))), (.double (FP.dadd (FP.dadd (0 : UInt64) (FP.ddiv (FP.i2d (1 : Int32)) (FP.i2d r0))) (FP.ddiv (FP.i2d (2 : Int32)) (FP.i2d r1))))])) _
    refine castTop (g' := (mkF m 17 #[.val (.ref a1), .val (.double (FP.dadd (FP.dadd (0 : UInt64) (FP.ddiv (FP.i2d (1 : Int32)) (FP.i2d r0))) (FP.ddiv (FP.i2d (2 : Int32)) (FP.i2d r1)))), .second, .val (.int (2 : Int32))] [(.int (3 : Int32)), (.double (FP.dadd (FP.dadd (0 : UInt64) (FP.ddiv (FP.i2d (1 : Int32)) (FP.i2d r0))) (FP.ddiv (FP.i2d (2 : Int32)) (FP.i2d r1))))])) (by rw [show ((2 : Int32) + (1 : Int32)) = (3 : Int32) by decide]) ?_
    show Steps p.tables e below (T120.setTop (mkF m 17 #[.val (.ref a1), .val (.double (FP.dadd (FP.dadd (0 : UInt64) (FP.ddiv (FP.i2d (1 : Int32)) (FP.i2d r0))) (FP.ddiv (FP.i2d (2 : Int32)) (FP.i2d r1)))), .second, .val (.int (2 : Int32))] [(.int (3 : Int32)), (.double (FP.dadd (FP.dadd (0 : UInt64) (FP.ddiv (FP.i2d (1 : Int32)) (FP.i2d r0))) (FP.ddiv (FP.i2d (2 : Int32)) (FP.i2d r1))))])) _
    refine XS.i2dS X120.here hx rfl (hb hby d3_17) rfl rfl ?_
    show Steps p.tables e below (T120.setTop (mkF m 18 #[.val (.ref a1), .val (.double (FP.dadd (FP.dadd (0 : UInt64) (FP.ddiv (FP.i2d (1 : Int32)) (FP.i2d r0))) (FP.ddiv (FP.i2d (2 : Int32)) (FP.i2d r1)))), .second, .val (.int (2 : Int32))] [(.double (FP.i2d (3 : Int32))), (.double (FP.dadd (FP.dadd (0 : UInt64) (FP.ddiv (FP.i2d (1 : Int32)) (FP.i2d r0))) (FP.ddiv (FP.i2d (2 : Int32)) (FP.i2d r1))))])) _
    refine XS.aloadN X120.here hx rfl (hb hby d3_18) rfl rfl ?_
    exact k)
  obtain ⟨T124, X124, e124, st124⟩ := getF X120 hx hZ hown (host := "") (Or.inl (hw _ (List.mem_of_getElem? (i := 26) rfl))) Via.refl e120 F1 (g := (mkF m 19 #[.val (.ref a1), .val (.double (FP.dadd (FP.dadd (0 : UInt64) (FP.ddiv (FP.i2d (1 : Int32)) (FP.i2d r0))) (FP.ddiv (FP.i2d (2 : Int32)) (FP.i2d r1)))), .second, .val (.int (2 : Int32))] [(.ref a1), (.double (FP.i2d (3 : Int32))), (.double (FP.dadd (FP.dadd (0 : UInt64) (FP.ddiv (FP.i2d (1 : Int32)) (FP.i2d r0))) (FP.ddiv (FP.i2d (2 : Int32)) (FP.i2d r1))))])) rfl rfl (hb hby d3_19)
  have k125 : ∀ t, Steps p.tables e below (T124.setTop (mkF m 22 #[.val (.ref a1), .val (.double (FP.dadd (FP.dadd (0 : UInt64) (FP.ddiv (FP.i2d (1 : Int32)) (FP.i2d r0))) (FP.ddiv (FP.i2d (2 : Int32)) (FP.i2d r1)))), .second, .val (.int (2 : Int32))] [(.ref a2), (.double (FP.i2d (3 : Int32))), (.double (FP.dadd (FP.dadd (0 : UInt64) (FP.ddiv (FP.i2d (1 : Int32)) (FP.i2d r0))) (FP.ddiv (FP.i2d (2 : Int32)) (FP.i2d r1))))])) t → Steps p.tables e below (s₁.setTop (entryFrame m #[(.ref a1)] 4)) t := fun t k => k123 t (st124 t k)
  have k126 : ∀ t, Steps p.tables e below (T124.setTop (mkF m 23 #[.val (.ref a1), .val (.double (FP.dadd (FP.dadd (0 : UInt64) (FP.ddiv (FP.i2d (1 : Int32)) (FP.i2d r0))) (FP.ddiv (FP.i2d (2 : Int32)) (FP.i2d r1)))), .second, .val (.int (2 : Int32))] [(.int (2 : Int32)), (.ref a2), (.double (FP.i2d (3 : Int32))), (.double (FP.dadd (FP.dadd (0 : UInt64) (FP.ddiv (FP.i2d (1 : Int32)) (FP.i2d r0))) (FP.ddiv (FP.i2d (2 : Int32)) (FP.i2d r1))))])) t → Steps p.tables e below (s₁.setTop (entryFrame m #[(.ref a1)] 4)) t := fun t k => k125 t (by
    show Steps p.tables e below (T124.setTop (mkF m 22 #[.val (.ref a1), .val (.double (FP.dadd (FP.dadd (0 : UInt64) (FP.ddiv (FP.i2d (1 : Int32)) (FP.i2d r0))) (FP.ddiv (FP.i2d (2 : Int32)) (FP.i2d r1)))), .second, .val (.int (2 : Int32))] [(.ref a2), (.double (FP.i2d (3 : Int32))), (.double (FP.dadd (FP.dadd (0 : UInt64) (FP.ddiv (FP.i2d (1 : Int32)) (FP.i2d r0))) (FP.ddiv (FP.i2d (2 : Int32)) (FP.i2d r1))))])) _
    refine XS.iloadN X124.here hx rfl (hb hby d3_22) rfl ?_
    exact k)
  obtain ⟨c127, Ar127, -, As127, An127, Ah127, -⟩ := id V1
  have hin127 : ¬ ((2 : Int32) < 0 ∨ c127.slots.size ≤ ((2 : Int32)).toNatClampNeg) := inb_of As127 ⟨by decide, by decide⟩
  have hat127 : c127.slots[((2 : Int32)).toNatClampNeg]? = some (.int r2) := Has.at Ah127 hin127 rfl
  have k128 : ∀ t, Steps p.tables e below (T124.setTop (mkF m 6 #[.val (.ref a1), .val (.double (FP.dadd (FP.dadd (FP.dadd (0 : UInt64) (FP.ddiv (FP.i2d (1 : Int32)) (FP.i2d r0))) (FP.ddiv (FP.i2d (2 : Int32)) (FP.i2d r1))) (FP.ddiv (FP.i2d (3 : Int32)) (FP.i2d r2)))), .second, .val (.int (3 : Int32))] [(.ref a1), (.int (3 : Int32))])) t → Steps p.tables e below (s₁.setTop (entryFrame m #[(.ref a1)] 4)) t := fun t k => k126 t (by
    show Steps p.tables e below (T124.setTop (mkF m 23 #[.val (.ref a1), .val (.double (FP.dadd (FP.dadd (0 : UInt64) (FP.ddiv (FP.i2d (1 : Int32)) (FP.i2d r0))) (FP.ddiv (FP.i2d (2 : Int32)) (FP.i2d r1)))), .second, .val (.int (2 : Int32))] [(.int (2 : Int32)), (.ref a2), (.double (FP.i2d (3 : Int32))), (.double (FP.dadd (FP.dadd (0 : UInt64) (FP.ddiv (FP.i2d (1 : Int32)) (FP.i2d r0))) (FP.ddiv (FP.i2d (2 : Int32)) (FP.i2d r1))))])) _
    refine X124.iaload hx (j := (2 : Int32)) (v := (.int r2)) (by rw [e124]; exact Ar127.1) (State.isArrayOf_alike hZ.alike Ar127.2.1) Ar127.2.2 hin127 hat127 (g := (mkF m 23 #[.val (.ref a1), .val (.double (FP.dadd (FP.dadd (0 : UInt64) (FP.ddiv (FP.i2d (1 : Int32)) (FP.i2d r0))) (FP.ddiv (FP.i2d (2 : Int32)) (FP.i2d r1)))), .second, .val (.int (2 : Int32))] [(.int (2 : Int32)), (.ref a2), (.double (FP.i2d (3 : Int32))), (.double (FP.dadd (FP.dadd (0 : UInt64) (FP.ddiv (FP.i2d (1 : Int32)) (FP.i2d r0))) (FP.ddiv (FP.i2d (2 : Int32)) (FP.i2d r1))))])) rfl rfl (hb hby d3_23) _ ?_
    show Steps p.tables e below (T124.setTop (mkF m 24 #[.val (.ref a1), .val (.double (FP.dadd (FP.dadd (0 : UInt64) (FP.ddiv (FP.i2d (1 : Int32)) (FP.i2d r0))) (FP.ddiv (FP.i2d (2 : Int32)) (FP.i2d r1)))), .second, .val (.int (2 : Int32))] [(.int r2), (.double (FP.i2d (3 : Int32))), (.double (FP.dadd (FP.dadd (0 : UInt64) (FP.ddiv (FP.i2d (1 : Int32)) (FP.i2d r0))) (FP.ddiv (FP.i2d (2 : Int32)) (FP.i2d r1))))])) _
    refine XS.i2dS X124.here hx rfl (hb hby d3_24) rfl rfl ?_
    show Steps p.tables e below (T124.setTop (mkF m 25 #[.val (.ref a1), .val (.double (FP.dadd (FP.dadd (0 : UInt64) (FP.ddiv (FP.i2d (1 : Int32)) (FP.i2d r0))) (FP.ddiv (FP.i2d (2 : Int32)) (FP.i2d r1)))), .second, .val (.int (2 : Int32))] [(.double (FP.i2d r2)), (.double (FP.i2d (3 : Int32))), (.double (FP.dadd (FP.dadd (0 : UInt64) (FP.ddiv (FP.i2d (1 : Int32)) (FP.i2d r0))) (FP.ddiv (FP.i2d (2 : Int32)) (FP.i2d r1))))])) _
    refine XS.ddivS X124.here hx rfl (hb hby d3_25) rfl (nq2) rfl ?_
    show Steps p.tables e below (T124.setTop (mkF m 26 #[.val (.ref a1), .val (.double (FP.dadd (FP.dadd (0 : UInt64) (FP.ddiv (FP.i2d (1 : Int32)) (FP.i2d r0))) (FP.ddiv (FP.i2d (2 : Int32)) (FP.i2d r1)))), .second, .val (.int (2 : Int32))] [(.double (FP.ddiv (FP.i2d (3 : Int32)) (FP.i2d r2))), (.double (FP.dadd (FP.dadd (0 : UInt64) (FP.ddiv (FP.i2d (1 : Int32)) (FP.i2d r0))) (FP.ddiv (FP.i2d (2 : Int32)) (FP.i2d r1))))])) _
    refine XS.daddS X124.here hx rfl (hb hby d3_26) rfl (na2) rfl ?_
    show Steps p.tables e below (T124.setTop (mkF m 27 #[.val (.ref a1), .val (.double (FP.dadd (FP.dadd (0 : UInt64) (FP.ddiv (FP.i2d (1 : Int32)) (FP.i2d r0))) (FP.ddiv (FP.i2d (2 : Int32)) (FP.i2d r1)))), .second, .val (.int (2 : Int32))] [(.double (FP.dadd (FP.dadd (FP.dadd (0 : UInt64) (FP.ddiv (FP.i2d (1 : Int32)) (FP.i2d r0))) (FP.ddiv (FP.i2d (2 : Int32)) (FP.i2d r1))) (FP.ddiv (FP.i2d (3 : Int32)) (FP.i2d r2))))])) _
    refine XS.dstoreN X124.here hx rfl (hb hby d3_27) rfl (l' := #[.val (.ref a1), .val (.double (FP.dadd (FP.dadd (FP.dadd (0 : UInt64) (FP.ddiv (FP.i2d (1 : Int32)) (FP.i2d r0))) (FP.ddiv (FP.i2d (2 : Int32)) (FP.i2d r1))) (FP.ddiv (FP.i2d (3 : Int32)) (FP.i2d r2)))), .second, .val (.int (2 : Int32))]) rfl ?_
    show Steps p.tables e below (T124.setTop (mkF m 28 #[.val (.ref a1), .val (.double (FP.dadd (FP.dadd (FP.dadd (0 : UInt64) (FP.ddiv (FP.i2d (1 : Int32)) (FP.i2d r0))) (FP.ddiv (FP.i2d (2 : Int32)) (FP.i2d r1))) (FP.ddiv (FP.i2d (3 : Int32)) (FP.i2d r2)))), .second, .val (.int (2 : Int32))] [])) _
    refine XS.iinc X124.here hx rfl (hb hby d3_28) rfl (l' := #[.val (.ref a1), .val (.double (FP.dadd (FP.dadd (FP.dadd (0 : UInt64) (FP.ddiv (FP.i2d (1 : Int32)) (FP.i2d r0))) (FP.ddiv (FP.i2d (2 : Int32)) (FP.i2d r1))) (FP.ddiv (FP.i2d (3 : Int32)) (FP.i2d r2)))), .second, .val (.int (3 : Int32))]) rfl ?_
    show Steps p.tables e below (T124.setTop (mkF m 31 #[.val (.ref a1), .val (.double (FP.dadd (FP.dadd (FP.dadd (0 : UInt64) (FP.ddiv (FP.i2d (1 : Int32)) (FP.i2d r0))) (FP.ddiv (FP.i2d (2 : Int32)) (FP.i2d r1))) (FP.ddiv (FP.i2d (3 : Int32)) (FP.i2d r2)))), .second, .val (.int (3 : Int32))] [])) _
    refine XS.goto X124.here hx rfl (pc0 := 31) (pc' := 4) rfl (hb hby d3_31) (by decide) (by decide) ?_
    show Steps p.tables e below (T124.setTop (mkF m 4 #[.val (.ref a1), .val (.double (FP.dadd (FP.dadd (FP.dadd (0 : UInt64) (FP.ddiv (FP.i2d (1 : Int32)) (FP.i2d r0))) (FP.ddiv (FP.i2d (2 : Int32)) (FP.i2d r1))) (FP.ddiv (FP.i2d (3 : Int32)) (FP.i2d r2)))), .second, .val (.int (3 : Int32))] [])) _
    refine XS.iloadN X124.here hx rfl (hb hby d3_4) rfl ?_
    show Steps p.tables e below (T124.setTop (mkF m 5 #[.val (.ref a1), .val (.double (FP.dadd (FP.dadd (FP.dadd (0 : UInt64) (FP.ddiv (FP.i2d (1 : Int32)) (FP.i2d r0))) (FP.ddiv (FP.i2d (2 : Int32)) (FP.i2d r1))) (FP.ddiv (FP.i2d (3 : Int32)) (FP.i2d r2)))), .second, .val (.int (3 : Int32))] [(.int (3 : Int32))])) _
    refine XS.aloadN X124.here hx rfl (hb hby d3_5) rfl rfl ?_
    exact k)
  obtain ⟨T129, X129, e129, st129⟩ := getF X124 hx hZ hown (host := "") (Or.inl (hw _ (List.mem_of_getElem? (i := 26) rfl))) Via.refl e124 F1 (g := (mkF m 6 #[.val (.ref a1), .val (.double (FP.dadd (FP.dadd (FP.dadd (0 : UInt64) (FP.ddiv (FP.i2d (1 : Int32)) (FP.i2d r0))) (FP.ddiv (FP.i2d (2 : Int32)) (FP.i2d r1))) (FP.ddiv (FP.i2d (3 : Int32)) (FP.i2d r2)))), .second, .val (.int (3 : Int32))] [(.ref a1), (.int (3 : Int32))])) rfl rfl (hb hby d3_6)
  have k130 : ∀ t, Steps p.tables e below (T129.setTop (mkF m 9 #[.val (.ref a1), .val (.double (FP.dadd (FP.dadd (FP.dadd (0 : UInt64) (FP.ddiv (FP.i2d (1 : Int32)) (FP.i2d r0))) (FP.ddiv (FP.i2d (2 : Int32)) (FP.i2d r1))) (FP.ddiv (FP.i2d (3 : Int32)) (FP.i2d r2)))), .second, .val (.int (3 : Int32))] [(.ref a2), (.int (3 : Int32))])) t → Steps p.tables e below (s₁.setTop (entryFrame m #[(.ref a1)] 4)) t := fun t k => k128 t (st129 t k)
  obtain ⟨c131, Ar131, -, As131, An131, -, -⟩ := id V1
  have k132 : ∀ t, Steps p.tables e below (T129.setTop (mkF m 35 #[.val (.ref a1), .val (.double (FP.dadd (FP.dadd (FP.dadd (0 : UInt64) (FP.ddiv (FP.i2d (1 : Int32)) (FP.i2d r0))) (FP.ddiv (FP.i2d (2 : Int32)) (FP.i2d r1))) (FP.ddiv (FP.i2d (3 : Int32)) (FP.i2d r2)))), .second, .val (.int (3 : Int32))] [(.ref a1)])) t → Steps p.tables e below (s₁.setTop (entryFrame m #[(.ref a1)] 4)) t := fun t k => k130 t (by
    show Steps p.tables e below (T129.setTop (mkF m 9 #[.val (.ref a1), .val (.double (FP.dadd (FP.dadd (FP.dadd (0 : UInt64) (FP.ddiv (FP.i2d (1 : Int32)) (FP.i2d r0))) (FP.ddiv (FP.i2d (2 : Int32)) (FP.i2d r1))) (FP.ddiv (FP.i2d (3 : Int32)) (FP.i2d r2)))), .second, .val (.int (3 : Int32))] [(.ref a2), (.int (3 : Int32))])) _
    refine X129.arraylength hx (by rw [e129]; exact Ar131.1) (State.isArrayOf_alike hZ.alike Ar131.2.1) (g := (mkF m 9 #[.val (.ref a1), .val (.double (FP.dadd (FP.dadd (FP.dadd (0 : UInt64) (FP.ddiv (FP.i2d (1 : Int32)) (FP.i2d r0))) (FP.ddiv (FP.i2d (2 : Int32)) (FP.i2d r1))) (FP.ddiv (FP.i2d (3 : Int32)) (FP.i2d r2)))), .second, .val (.int (3 : Int32))] [(.ref a2), (.int (3 : Int32))])) rfl rfl (hb hby d3_9) _ ?_
    rw [len_of As131 An131]
    show Steps p.tables e below (T129.setTop (mkF m 10 #[.val (.ref a1), .val (.double (FP.dadd (FP.dadd (FP.dadd (0 : UInt64) (FP.ddiv (FP.i2d (1 : Int32)) (FP.i2d r0))) (FP.ddiv (FP.i2d (2 : Int32)) (FP.i2d r1))) (FP.ddiv (FP.i2d (3 : Int32)) (FP.i2d r2)))), .second, .val (.int (3 : Int32))] [(.int (3 : Int32)), (.int (3 : Int32))])) _
    refine XS.icmpYes X129.here hx rfl (pc0 := 10) (pc' := 34) rfl (hb hby d3_10) rfl (flt (by decide)).2.1 (by decide) (by decide) ?_
    show Steps p.tables e below (T129.setTop (mkF m 34 #[.val (.ref a1), .val (.double (FP.dadd (FP.dadd (FP.dadd (0 : UInt64) (FP.ddiv (FP.i2d (1 : Int32)) (FP.i2d r0))) (FP.ddiv (FP.i2d (2 : Int32)) (FP.i2d r1))) (FP.ddiv (FP.i2d (3 : Int32)) (FP.i2d r2)))), .second, .val (.int (3 : Int32))] [])) _
    refine XS.aloadN X129.here hx rfl (hb hby d3_34) rfl rfl ?_
    exact k)
  obtain ⟨T133, X133, e133, st133⟩ := getF X129 hx hZ hown (host := "") (Or.inl (hw _ (List.mem_of_getElem? (i := 24) rfl))) Via.refl e129 F2 (g := (mkF m 35 #[.val (.ref a1), .val (.double (FP.dadd (FP.dadd (FP.dadd (0 : UInt64) (FP.ddiv (FP.i2d (1 : Int32)) (FP.i2d r0))) (FP.ddiv (FP.i2d (2 : Int32)) (FP.i2d r1))) (FP.ddiv (FP.i2d (3 : Int32)) (FP.i2d r2)))), .second, .val (.int (3 : Int32))] [(.ref a1)])) rfl rfl (hb hby d3_35)
  have k134 : ∀ t, Steps p.tables e below (T133.setTop (mkF m 38 #[.val (.ref a1), .val (.double (FP.dadd (FP.dadd (FP.dadd (0 : UInt64) (FP.ddiv (FP.i2d (1 : Int32)) (FP.i2d r0))) (FP.ddiv (FP.i2d (2 : Int32)) (FP.i2d r1))) (FP.ddiv (FP.i2d (3 : Int32)) (FP.i2d r2)))), .second, .val (.int (3 : Int32))] [(.int p2)])) t → Steps p.tables e below (s₁.setTop (entryFrame m #[(.ref a1)] 4)) t := fun t k => k132 t (st133 t k)
  have k135 : ∀ t, Steps p.tables e below (T133.setTop (mkF m 47 #[.val (.ref a1), .val (.double (FP.dadd (FP.dadd (FP.dadd (0 : UInt64) (FP.ddiv (FP.i2d (1 : Int32)) (FP.i2d r0))) (FP.ddiv (FP.i2d (2 : Int32)) (FP.i2d r1))) (FP.ddiv (FP.i2d (3 : Int32)) (FP.i2d r2)))), .second, .val (.int (3 : Int32))] [(.ref a1), (.double (FP.dadd (FP.dadd (FP.dadd (0 : UInt64) (FP.ddiv (FP.i2d (1 : Int32)) (FP.i2d r0))) (FP.ddiv (FP.i2d (2 : Int32)) (FP.i2d r1))) (FP.ddiv (FP.i2d (3 : Int32)) (FP.i2d r2))))])) t → Steps p.tables e below (s₁.setTop (entryFrame m #[(.ref a1)] 4)) t := fun t k => k134 t (by
    show Steps p.tables e below (T133.setTop (mkF m 38 #[.val (.ref a1), .val (.double (FP.dadd (FP.dadd (FP.dadd (0 : UInt64) (FP.ddiv (FP.i2d (1 : Int32)) (FP.i2d r0))) (FP.ddiv (FP.i2d (2 : Int32)) (FP.i2d r1))) (FP.ddiv (FP.i2d (3 : Int32)) (FP.i2d r2)))), .second, .val (.int (3 : Int32))] [(.int p2)])) _
    refine XS.ifYes X133.here hx rfl (pc0 := 38) (pc' := 45) rfl (hb hby d3_38) rfl ((if0 _ _).trans (feq c38).2) (by decide) (by decide) ?_
    show Steps p.tables e below (T133.setTop (mkF m 45 #[.val (.ref a1), .val (.double (FP.dadd (FP.dadd (FP.dadd (0 : UInt64) (FP.ddiv (FP.i2d (1 : Int32)) (FP.i2d r0))) (FP.ddiv (FP.i2d (2 : Int32)) (FP.i2d r1))) (FP.ddiv (FP.i2d (3 : Int32)) (FP.i2d r2)))), .second, .val (.int (3 : Int32))] [])) _
    refine XS.dloadN X133.here hx rfl (hb hby d3_45) rfl ?_
    show Steps p.tables e below (T133.setTop (mkF m 46 #[.val (.ref a1), .val (.double (FP.dadd (FP.dadd (FP.dadd (0 : UInt64) (FP.ddiv (FP.i2d (1 : Int32)) (FP.i2d r0))) (FP.ddiv (FP.i2d (2 : Int32)) (FP.i2d r1))) (FP.ddiv (FP.i2d (3 : Int32)) (FP.i2d r2)))), .second, .val (.int (3 : Int32))] [(.double (FP.dadd (FP.dadd (FP.dadd (0 : UInt64) (FP.ddiv (FP.i2d (1 : Int32)) (FP.i2d r0))) (FP.ddiv (FP.i2d (2 : Int32)) (FP.i2d r1))) (FP.ddiv (FP.i2d (3 : Int32)) (FP.i2d r2))))])) _
    refine XS.aloadN X133.here hx rfl (hb hby d3_46) rfl rfl ?_
    exact k)
  obtain ⟨T136, X136, e136, st136⟩ := getF X133 hx hZ hown (host := "") (Or.inl (hw _ (List.mem_of_getElem? (i := 24) rfl))) Via.refl e133 F2 (g := (mkF m 47 #[.val (.ref a1), .val (.double (FP.dadd (FP.dadd (FP.dadd (0 : UInt64) (FP.ddiv (FP.i2d (1 : Int32)) (FP.i2d r0))) (FP.ddiv (FP.i2d (2 : Int32)) (FP.i2d r1))) (FP.ddiv (FP.i2d (3 : Int32)) (FP.i2d r2)))), .second, .val (.int (3 : Int32))] [(.ref a1), (.double (FP.dadd (FP.dadd (FP.dadd (0 : UInt64) (FP.ddiv (FP.i2d (1 : Int32)) (FP.i2d r0))) (FP.ddiv (FP.i2d (2 : Int32)) (FP.i2d r1))) (FP.ddiv (FP.i2d (3 : Int32)) (FP.i2d r2))))])) rfl rfl (hb hby d3_47)
  have k137 : ∀ t, Steps p.tables e below (T136.setTop (mkF m 50 #[.val (.ref a1), .val (.double (FP.dadd (FP.dadd (FP.dadd (0 : UInt64) (FP.ddiv (FP.i2d (1 : Int32)) (FP.i2d r0))) (FP.ddiv (FP.i2d (2 : Int32)) (FP.i2d r1))) (FP.ddiv (FP.i2d (3 : Int32)) (FP.i2d r2)))), .second, .val (.int (3 : Int32))] [(.int p2), (.double (FP.dadd (FP.dadd (FP.dadd (0 : UInt64) (FP.ddiv (FP.i2d (1 : Int32)) (FP.i2d r0))) (FP.ddiv (FP.i2d (2 : Int32)) (FP.i2d r1))) (FP.ddiv (FP.i2d (3 : Int32)) (FP.i2d r2))))])) t → Steps p.tables e below (s₁.setTop (entryFrame m #[(.ref a1)] 4)) t := fun t k => k135 t (st136 t k)
  have k138 : ∀ t, Steps p.tables e below (T136.setTop (mkF m 52 #[.val (.ref a1), .val (.double (FP.dadd (FP.dadd (FP.dadd (0 : UInt64) (FP.ddiv (FP.i2d (1 : Int32)) (FP.i2d r0))) (FP.ddiv (FP.i2d (2 : Int32)) (FP.i2d r1))) (FP.ddiv (FP.i2d (3 : Int32)) (FP.i2d r2)))), .second, .val (.int (3 : Int32))] [(.double (FP.ddiv (FP.dadd (FP.dadd (FP.dadd (0 : UInt64) (FP.ddiv (FP.i2d (1 : Int32)) (FP.i2d r0))) (FP.ddiv (FP.i2d (2 : Int32)) (FP.i2d r1))) (FP.ddiv (FP.i2d (3 : Int32)) (FP.i2d r2))) (FP.i2d p2)))])) t → Steps p.tables e below (s₁.setTop (entryFrame m #[(.ref a1)] 4)) t := fun t k => k137 t (by
    show Steps p.tables e below (T136.setTop (mkF m 50 #[.val (.ref a1), .val (.double (FP.dadd (FP.dadd (FP.dadd (0 : UInt64) (FP.ddiv (FP.i2d (1 : Int32)) (FP.i2d r0))) (FP.ddiv (FP.i2d (2 : Int32)) (FP.i2d r1))) (FP.ddiv (FP.i2d (3 : Int32)) (FP.i2d r2)))), .second, .val (.int (3 : Int32))] [(.int p2), (.double (FP.dadd (FP.dadd (FP.dadd (0 : UInt64) (FP.ddiv (FP.i2d (1 : Int32)) (FP.i2d r0))) (FP.ddiv (FP.i2d (2 : Int32)) (FP.i2d r1))) (FP.ddiv (FP.i2d (3 : Int32)) (FP.i2d r2))))])) _
    refine XS.i2dS X136.here hx rfl (hb hby d3_50) rfl rfl ?_
    show Steps p.tables e below (T136.setTop (mkF m 51 #[.val (.ref a1), .val (.double (FP.dadd (FP.dadd (FP.dadd (0 : UInt64) (FP.ddiv (FP.i2d (1 : Int32)) (FP.i2d r0))) (FP.ddiv (FP.i2d (2 : Int32)) (FP.i2d r1))) (FP.ddiv (FP.i2d (3 : Int32)) (FP.i2d r2)))), .second, .val (.int (3 : Int32))] [(.double (FP.i2d p2)), (.double (FP.dadd (FP.dadd (FP.dadd (0 : UInt64) (FP.ddiv (FP.i2d (1 : Int32)) (FP.i2d r0))) (FP.ddiv (FP.i2d (2 : Int32)) (FP.i2d r1))) (FP.ddiv (FP.i2d (3 : Int32)) (FP.i2d r2))))])) _
    refine XS.ddivS X136.here hx rfl (hb hby d3_51) rfl (nn51) rfl ?_
    exact k)
  obtain ⟨fs, hr, hrun, hended, hW, hsame⟩ := X136.leave (v := some (.double (FP.ddiv (FP.dadd (FP.dadd (FP.dadd (0 : UInt64) (FP.ddiv (FP.i2d (1 : Int32)) (FP.i2d r0))) (FP.ddiv (FP.i2d (2 : Int32)) (FP.i2d r1))) (FP.ddiv (FP.i2d (3 : Int32)) (FP.i2d r2))) (FP.i2d p2)))) (fun h => by rw [Bd.returns] at h; cases h)
  refine ⟨_, _, k138 _ (retOut X136 hx (t := .double) Bd.returns rfl (Or.inr (Or.inr (Or.inl ⟨rfl, rfl, _, rfl⟩))) (hb hby d3_52) hr), hrun, hended, _, _, rfl, ?_, ⟨_, rfl⟩, hW, hsame.mono (by decide) (by decide)⟩
  show Q_avp3_0 Z a1 a2 k1 p2 r0 r1 r2 h0 n0 _ T136.heap _
  rw [e136]
  exact ⟨rfl, N0, rfl⟩
def Q_avp3_1 (Z : State) (a1 : Addr) (a2 : Addr) (k1 : ClassId) (p2 : Int32) (r0 : Int32) (r1 : Int32) (r2 : Int32) (h0 : Heap) (n0 : Nat) (v : Option Value) (h : Heap) (L : List Loc) : Prop := v = some (.double (0 : UInt64)) ∧ Fr n0 L ∧ h = h0
set_option maxRecDepth 65536 in
set_option maxHeartbeats 40000000 in
theorem avp3_1 (l : Launch) (Z : State) (a0 : Array Value) (hw : ∀ d ∈ tables_1, d.before a0 Z = true) (ws : List Jvm.Cond) (a1 : Addr) (a2 : Addr) (k1 : ClassId) (p2 : Int32) (r0 : Int32) (r1 : Int32) (r2 : Int32) (h0 : Heap) (n0 : Nat) (Z0 : n0 ≤ h0.size) (F1 : Fld Z h0 a1 "com/example/round2/round2/eval/TopicResult" "relevantRanks" "[I" (.ref a2)) (F2 : Fld Z h0 a1 "com/example/round2/round2/eval/TopicResult" "relevant" "I" (.int p2)) (V1 : Arv Z h0 a2 k1 .int (3 : Int32) [(.int r0), (.int r1), (.int r2)] (.int (0 : Int32))) (c38 : p2 = (0 : Int32)) (nq0 : Jvm.Free.Fl.NoNaN64 (FP.ddiv (FP.i2d (1 : Int32)) (FP.i2d r0))) (na0 : Jvm.Free.Fl.NoNaN64 (FP.dadd (0 : UInt64) (FP.ddiv (FP.i2d (1 : Int32)) (FP.i2d r0)))) (nq1 : Jvm.Free.Fl.NoNaN64 (FP.ddiv (FP.i2d (2 : Int32)) (FP.i2d r1))) (na1 : Jvm.Free.Fl.NoNaN64 (FP.dadd (FP.dadd (0 : UInt64) (FP.ddiv (FP.i2d (1 : Int32)) (FP.i2d r0))) (FP.ddiv (FP.i2d (2 : Int32)) (FP.i2d r1)))) (nq2 : Jvm.Free.Fl.NoNaN64 (FP.ddiv (FP.i2d (3 : Int32)) (FP.i2d r2))) (na2 : Jvm.Free.Fl.NoNaN64 (FP.dadd (FP.dadd (FP.dadd (0 : UInt64) (FP.ddiv (FP.i2d (1 : Int32)) (FP.i2d r0))) (FP.ddiv (FP.i2d (2 : Int32)) (FP.i2d r1))) (FP.ddiv (FP.i2d (3 : Int32)) (FP.i2d r2)))) :
    MetFree l (⟨"com/example/round2/round2/eval/TopicResult", "averagePrecision", "()D"⟩ : MethodName) (head1 (Jvm.Cond.code (⟨"com/example/round2/round2/eval/TopicResult", "averagePrecision", "()D"⟩ : MethodName) prog_10_method_6_code 4 (some .double) :: ws) ({ frames := 0, cells := 0, slots := 0, locals := 0 } : Room)) (fun a U => a = #[(.ref a1)] ∧ Z.Warmed39 U.vm ∧ U.heap = h0) (fun _ _ _ _ _ => True) (fun _ U o U' => ∃ v L, o = .returned v ∧ Q_avp3_1 Z a1 a2 k1 p2 r0 r1 r2 h0 n0 v U'.heap L ∧ FrameEnd U o U' L ({ frames := 0, cells := 0, slots := 0, locals := 0 } : Room).cells ({ frames := 0, cells := 0, slots := 0, locals := 0 } : Room).slots) := by
  refine MetFree.of_bodySF (plainFor_of_name pn_com_2fexample_2fround2_2fround2_2feval_2fTopicResult) hisR ?_
  intro p e s m args below meth c s₁ Bd hml0 hP hK
  obtain ⟨rfl, hZ, hh⟩ := hP
  have hx := Bd.exec
  have hby := Bd.bytes
  have hml : c.maxLocals = 4 := hml0
  have hown : s.vm.findClass "com/example/round2/round2/eval/TopicResult" = some m.cls := findClass_of_methodNamed Bd.named
  have hnm := (name_of_methodNamed Bd.named Bd.method).1
  have X0 : Stand p l e ({ frames := 0, cells := 0, slots := 0, locals := 0 } : Room) s m #[(.ref a1)] below meth c s₁ [] 0 0 := Stand.of_body Bd
  have e0 : s₁.heap = h0 := by rw [← hh, Bd.state]; rfl
  have N0 := Fr.nil n0
  have k0 : ∀ t, Steps p.tables e below (s₁.setTop (mkF m 0 #[.val (.ref a1), .unset, .unset, .unset] [])) t → Steps p.tables e below (s₁.setTop (entryFrame m #[(.ref a1)] 4)) t := fun t k => castTop (ef_3_R m a1) k
  have k101 : ∀ t, Steps p.tables e below (s₁.setTop (mkF m 6 #[.val (.ref a1), .val (.double (0 : UInt64)), .second, .val (.int (0 : Int32))] [(.ref a1), (.int (0 : Int32))])) t → Steps p.tables e below (s₁.setTop (entryFrame m #[(.ref a1)] 4)) t := fun t k => k0 t (by
    show Steps p.tables e below (s₁.setTop (mkF m 0 #[.val (.ref a1), .unset, .unset, .unset] [])) _
    refine XS.dconst0 X0.here hx rfl (hb hby d3_0) (v := (0 : UInt64)) rfl ?_
    show Steps p.tables e below (s₁.setTop (mkF m 1 #[.val (.ref a1), .unset, .unset, .unset] [(.double (0 : UInt64))])) _
    refine XS.dstoreN X0.here hx rfl (hb hby d3_1) rfl (l' := #[.val (.ref a1), .val (.double (0 : UInt64)), .second, .unset]) rfl ?_
    show Steps p.tables e below (s₁.setTop (mkF m 2 #[.val (.ref a1), .val (.double (0 : UInt64)), .second, .unset] [])) _
    refine XS.iconst X0.here hx rfl (hb hby d3_2) ?_
    show Steps p.tables e below (s₁.setTop (mkF m 3 #[.val (.ref a1), .val (.double (0 : UInt64)), .second, .unset] [(.int (0 : Int32))])) _
    refine XS.istoreN X0.here hx rfl (hb hby d3_3) rfl (l' := #[.val (.ref a1), .val (.double (0 : UInt64)), .second, .val (.int (0 : Int32))]) rfl ?_
    show Steps p.tables e below (s₁.setTop (mkF m 4 #[.val (.ref a1), .val (.double (0 : UInt64)), .second, .val (.int (0 : Int32))] [])) _
    refine XS.iloadN X0.here hx rfl (hb hby d3_4) rfl ?_
    show Steps p.tables e below (s₁.setTop (mkF m 5 #[.val (.ref a1), .val (.double (0 : UInt64)), .second, .val (.int (0 : Int32))] [(.int (0 : Int32))])) _
    refine XS.aloadN X0.here hx rfl (hb hby d3_5) rfl rfl ?_
    exact k)
  obtain ⟨T102, X102, e102, st102⟩ := getF X0 hx hZ hown (host := "") (Or.inl (hw _ (List.mem_of_getElem? (i := 26) rfl))) Via.refl e0 F1 (g := (mkF m 6 #[.val (.ref a1), .val (.double (0 : UInt64)), .second, .val (.int (0 : Int32))] [(.ref a1), (.int (0 : Int32))])) rfl rfl (hb hby d3_6)
  have k103 : ∀ t, Steps p.tables e below (T102.setTop (mkF m 9 #[.val (.ref a1), .val (.double (0 : UInt64)), .second, .val (.int (0 : Int32))] [(.ref a2), (.int (0 : Int32))])) t → Steps p.tables e below (s₁.setTop (entryFrame m #[(.ref a1)] 4)) t := fun t k => k101 t (st102 t k)
  obtain ⟨c104, Ar104, -, As104, An104, -, -⟩ := id V1
  have k105 : ∀ t, Steps p.tables e below (T102.setTop (mkF m 19 #[.val (.ref a1), .val (.double (0 : UInt64)), .second, .val (.int (0 : Int32))] [(.ref a1), (.double (FP.i2d (1 : Int32))), (.double (0 : UInt64))])) t → Steps p.tables e below (s₁.setTop (entryFrame m #[(.ref a1)] 4)) t := fun t k => k103 t (by
    show Steps p.tables e below (T102.setTop (mkF m 9 #[.val (.ref a1), .val (.double (0 : UInt64)), .second, .val (.int (0 : Int32))] [(.ref a2), (.int (0 : Int32))])) _
    refine X102.arraylength hx (by rw [e102]; exact Ar104.1) (State.isArrayOf_alike hZ.alike Ar104.2.1) (g := (mkF m 9 #[.val (.ref a1), .val (.double (0 : UInt64)), .second, .val (.int (0 : Int32))] [(.ref a2), (.int (0 : Int32))])) rfl rfl (hb hby d3_9) _ ?_
    rw [len_of As104 An104]
    show Steps p.tables e below (T102.setTop (mkF m 10 #[.val (.ref a1), .val (.double (0 : UInt64)), .second, .val (.int (0 : Int32))] [(.int (3 : Int32)), (.int (0 : Int32))])) _
    refine XS.icmpNo X102.here hx rfl (hb hby d3_10) rfl (tlt (by decide)).2.1 ?_
    show Steps p.tables e below (T102.setTop (mkF m 13 #[.val (.ref a1), .val (.double (0 : UInt64)), .second, .val (.int (0 : Int32))] [])) _
    refine XS.dloadN X102.here hx rfl (hb hby d3_13) rfl ?_
    show Steps p.tables e below (T102.setTop (mkF m 14 #[.val (.ref a1), .val (.double (0 : UInt64)), .second, .val (.int (0 : Int32))] [(.double (0 : UInt64))])) _
    refine XS.iloadN X102.here hx rfl (hb hby d3_14) rfl ?_
    show Steps p.tables e below (T102.setTop (mkF m 15 #[.val (.ref a1), .val (.double (0 : UInt64)), .second, .val (.int (0 : Int32))] [(.int (0 : Int32)), (.double (0 : UInt64))])) _
    refine XS.iconst X102.here hx rfl (hb hby d3_15) ?_
    show Steps p.tables e below (T102.setTop (mkF m 16 #[.val (.ref a1), .val (.double (0 : UInt64)), .second, .val (.int (0 : Int32))] [(.int (1 : Int32)), (.int (0 : Int32)), (.double (0 : UInt64))])) _
    refine XS.iadd X102.here hx rfl (hb hby d3_16) rfl ?_
    show Steps p.tables e below (T102.setTop (mkF m 17 #[.val (.ref a1), .val (.double (0 : UInt64)), .second, .val (.int (0 : Int32))] [(.int ((0 : Int32) + (1 : Int32))), (.double (0 : UInt64))])) _
    refine castTop (g' := (mkF m 17 #[.val (.ref a1), .val (.double (0 : UInt64)), .second, .val (.int (0 : Int32))] [(.int (1 : Int32)), (.double (0 : UInt64))])) (by rw [show ((0 : Int32) + (1 : Int32)) = (1 : Int32) by decide]) ?_
    show Steps p.tables e below (T102.setTop (mkF m 17 #[.val (.ref a1), .val (.double (0 : UInt64)), .second, .val (.int (0 : Int32))] [(.int (1 : Int32)), (.double (0 : UInt64))])) _
    refine XS.i2dS X102.here hx rfl (hb hby d3_17) rfl rfl ?_
    show Steps p.tables e below (T102.setTop (mkF m 18 #[.val (.ref a1), .val (.double (0 : UInt64)), .second, .val (.int (0 : Int32))] [(.double (FP.i2d (1 : Int32))), (.double (0 : UInt64))])) _
    refine XS.aloadN X102.here hx rfl (hb hby d3_18) rfl rfl ?_
    exact k)
  obtain ⟨T106, X106, e106, st106⟩ := getF X102 hx hZ hown (host := "") (Or.inl (hw _ (List.mem_of_getElem? (i := 26) rfl))) Via.refl e102 F1 (g := (mkF m 19 #[.val (.ref a1), .val (.double (0 : UInt64)), .second, .val (.int (0 : Int32))] [(.ref a1), (.double (FP.i2d (1 : Int32))), (.double (0 : UInt64))])) rfl rfl (hb hby d3_19)
  have k107 : ∀ t, Steps p.tables e below (T106.setTop (mkF m 22 #[.val (.ref a1), .val (.double (0 : UInt64)), .second, .val (.int (0 : Int32))] [(.ref a2), (.double (FP.i2d (1 : Int32))), (.double (0 : UInt64))])) t → Steps p.tables e below (s₁.setTop (entryFrame m #[(.ref a1)] 4)) t := fun t k => k105 t (st106 t k)
  have k108 : ∀ t, Steps p.tables e below (T106.setTop (mkF m 23 #[.val (.ref a1), .val (.double (0 : UInt64)), .second, .val (.int (0 : Int32))] [(.int (0 : Int32)), (.ref a2), (.double (FP.i2d (1 : Int32))), (.double (0 : UInt64))])) t → Steps p.tables e below (s₁.setTop (entryFrame m #[(.ref a1)] 4)) t := fun t k => k107 t (by
    show Steps p.tables e below (T106.setTop (mkF m 22 #[.val (.ref a1), .val (.double (0 : UInt64)), .second, .val (.int (0 : Int32))] [(.ref a2), (.double (FP.i2d (1 : Int32))), (.double (0 : UInt64))])) _
    refine XS.iloadN X106.here hx rfl (hb hby d3_22) rfl ?_
    exact k)
  obtain ⟨c109, Ar109, -, As109, An109, Ah109, -⟩ := id V1
  have hin109 : ¬ ((0 : Int32) < 0 ∨ c109.slots.size ≤ ((0 : Int32)).toNatClampNeg) := inb_of As109 ⟨by decide, by decide⟩
  have hat109 : c109.slots[((0 : Int32)).toNatClampNeg]? = some (.int r0) := Has.at Ah109 hin109 rfl
  have k110 : ∀ t, Steps p.tables e below (T106.setTop (mkF m 6 #[.val (.ref a1), .val (.double (FP.dadd (0 : UInt64) (FP.ddiv (FP.i2d (1 : Int32)) (FP.i2d r0)))), .second, .val (.int (1 : Int32))] [(.ref a1), (.int (1 : Int32))])) t → Steps p.tables e below (s₁.setTop (entryFrame m #[(.ref a1)] 4)) t := fun t k => k108 t (by
    show Steps p.tables e below (T106.setTop (mkF m 23 #[.val (.ref a1), .val (.double (0 : UInt64)), .second, .val (.int (0 : Int32))] [(.int (0 : Int32)), (.ref a2), (.double (FP.i2d (1 : Int32))), (.double (0 : UInt64))])) _
    refine X106.iaload hx (j := (0 : Int32)) (v := (.int r0)) (by rw [e106]; exact Ar109.1) (State.isArrayOf_alike hZ.alike Ar109.2.1) Ar109.2.2 hin109 hat109 (g := (mkF m 23 #[.val (.ref a1), .val (.double (0 : UInt64)), .second, .val (.int (0 : Int32))] [(.int (0 : Int32)), (.ref a2), (.double (FP.i2d (1 : Int32))), (.double (0 : UInt64))])) rfl rfl (hb hby d3_23) _ ?_
    show Steps p.tables e below (T106.setTop (mkF m 24 #[.val (.ref a1), .val (.double (0 : UInt64)), .second, .val (.int (0 : Int32))] [(.int r0), (.double (FP.i2d (1 : Int32))), (.double (0 : UInt64))])) _
    refine XS.i2dS X106.here hx rfl (hb hby d3_24) rfl rfl ?_
    show Steps p.tables e below (T106.setTop (mkF m 25 #[.val (.ref a1), .val (.double (0 : UInt64)), .second, .val (.int (0 : Int32))] [(.double (FP.i2d r0)), (.double (FP.i2d (1 : Int32))), (.double (0 : UInt64))])) _
    refine XS.ddivS X106.here hx rfl (hb hby d3_25) rfl (nq0) rfl ?_
    show Steps p.tables e below (T106.setTop (mkF m 26 #[.val (.ref a1), .val (.double (0 : UInt64)), .second, .val (.int (0 : Int32))] [(.double (FP.ddiv (FP.i2d (1 : Int32)) (FP.i2d r0))), (.double (0 : UInt64))])) _
    refine XS.daddS X106.here hx rfl (hb hby d3_26) rfl (na0) rfl ?_
    show Steps p.tables e below (T106.setTop (mkF m 27 #[.val (.ref a1), .val (.double (0 : UInt64)), .second, .val (.int (0 : Int32))] [(.double (FP.dadd (0 : UInt64) (FP.ddiv (FP.i2d (1 : Int32)) (FP.i2d r0))))])) _
    refine XS.dstoreN X106.here hx rfl (hb hby d3_27) rfl (l' := #[.val (.ref a1), .val (.double (FP.dadd (0 : UInt64) (FP.ddiv (FP.i2d (1 : Int32)) (FP.i2d r0)))), .second, .val (.int (0 : Int32))]) rfl ?_
    show Steps p.tables e below (T106.setTop (mkF m 28 #[.val (.ref a1), .val (.double (FP.dadd (0 : UInt64) (FP.ddiv (FP.i2d (1 : Int32)) (FP.i2d r0)))), .second, .val (.int (0 : Int32))] [])) _
    refine XS.iinc X106.here hx rfl (hb hby d3_28) rfl (l' := #[.val (.ref a1), .val (.double (FP.dadd (0 : UInt64) (FP.ddiv (FP.i2d (1 : Int32)) (FP.i2d r0)))), .second, .val (.int (1 : Int32))]) rfl ?_
    show Steps p.tables e below (T106.setTop (mkF m 31 #[.val (.ref a1), .val (.double (FP.dadd (0 : UInt64) (FP.ddiv (FP.i2d (1 : Int32)) (FP.i2d r0)))), .second, .val (.int (1 : Int32))] [])) _
    refine XS.goto X106.here hx rfl (pc0 := 31) (pc' := 4) rfl (hb hby d3_31) (by decide) (by decide) ?_
    show Steps p.tables e below (T106.setTop (mkF m 4 #[.val (.ref a1), .val (.double (FP.dadd (0 : UInt64) (FP.ddiv (FP.i2d (1 : Int32)) (FP.i2d r0)))), .second, .val (.int (1 : Int32))] [])) _
    refine XS.iloadN X106.here hx rfl (hb hby d3_4) rfl ?_
    show Steps p.tables e below (T106.setTop (mkF m 5 #[.val (.ref a1), .val (.double (FP.dadd (0 : UInt64) (FP.ddiv (FP.i2d (1 : Int32)) (FP.i2d r0)))), .second, .val (.int (1 : Int32))] [(.int (1 : Int32))])) _
    refine XS.aloadN X106.here hx rfl (hb hby d3_5) rfl rfl ?_
    exact k)
  obtain ⟨T111, X111, e111, st111⟩ := getF X106 hx hZ hown (host := "") (Or.inl (hw _ (List.mem_of_getElem? (i := 26) rfl))) Via.refl e106 F1 (g := (mkF m 6 #[.val (.ref a1), .val (.double (FP.dadd (0 : UInt64) (FP.ddiv (FP.i2d (1 : Int32)) (FP.i2d r0)))), .second, .val (.int (1 : Int32))] [(.ref a1), (.int (1 : Int32))])) rfl rfl (hb hby d3_6)
  have k112 : ∀ t, Steps p.tables e below (T111.setTop (mkF m 9 #[.val (.ref a1), .val (.double (FP.dadd (0 : UInt64) (FP.ddiv (FP.i2d (1 : Int32)) (FP.i2d r0)))), .second, .val (.int (1 : Int32))] [(.ref a2), (.int (1 : Int32))])) t → Steps p.tables e below (s₁.setTop (entryFrame m #[(.ref a1)] 4)) t := fun t k => k110 t (st111 t k)
  obtain ⟨c113, Ar113, -, As113, An113, -, -⟩ := id V1
  have k114 : ∀ t, Steps p.tables e below (T111.setTop (mkF m 19 #[.val (.ref a1), .val (.double (FP.dadd (0 : UInt64) (FP.ddiv (FP.i2d (1 : Int32)) (FP.i2d r0)))), .second, .val (.int (1 : Int32))] [(.ref a1), (.double (FP.i2d (2 : Int32))), (.double (FP.dadd (0 : UInt64) (FP.ddiv (FP.i2d (1 : Int32)) (FP.i2d r0))))])) t → Steps p.tables e below (s₁.setTop (entryFrame m #[(.ref a1)] 4)) t := fun t k => k112 t (by
    show Steps p.tables e below (T111.setTop (mkF m 9 #[.val (.ref a1), .val (.double (FP.dadd (0 : UInt64) (FP.ddiv (FP.i2d (1 : Int32)) (FP.i2d r0)))), .second, .val (.int (1 : Int32))] [(.ref a2), (.int (1 : Int32))])) _
    refine X111.arraylength hx (by rw [e111]; exact Ar113.1) (State.isArrayOf_alike hZ.alike Ar113.2.1) (g := (mkF m 9 #[.val (.ref a1), .val (.double (FP.dadd (0 : UInt64) (FP.ddiv (FP.i2d (1 : Int32)) (FP.i2d r0)))), .second, .val (.int (1 : Int32))] [(.ref a2), (.int (1 : Int32))])) rfl rfl (hb hby d3_9) _ ?_
    rw [len_of As113 An113]
    show Steps p.tables e below (T111.setTop (mkF m 10 #[.val (.ref a1), .val (.double (FP.dadd (0 : UInt64) (FP.ddiv (FP.i2d (1 : Int32)) (FP.i2d r0)))), .second, .val (.int (1 : Int32))] [(.int (3 : Int32)), (.int (1 : Int32))])) _
    refine XS.icmpNo X111.here hx rfl (hb hby d3_10) rfl (tlt (by decide)).2.1 ?_
    show Steps p.tables e below (T111.setTop (mkF m 13 #[.val (.ref a1), .val (.double (FP.dadd (0 : UInt64) (FP.ddiv (FP.i2d (1 : Int32)) (FP.i2d r0)))), .second, .val (.int (1 : Int32))] [])) _
    refine XS.dloadN X111.here hx rfl (hb hby d3_13) rfl ?_
    show Steps p.tables e below (T111.setTop (mkF m 14 #[.val (.ref a1), .val (.double (FP.dadd (0 : UInt64) (FP.ddiv (FP.i2d (1 : Int32)) (FP.i2d r0)))), .second, .val (.int (1 : Int32))] [(.double (FP.dadd (0 : UInt64) (FP.ddiv (FP.i2d (1 : Int32)) (FP.i2d r0))))])) _
    refine XS.iloadN X111.here hx rfl (hb hby d3_14) rfl ?_
    show Steps p.tables e below (T111.setTop (mkF m 15 #[.val (.ref a1), .val (.double (FP.dadd (0 : UInt64) (FP.ddiv (FP.i2d (1 : Int32)) (FP.i2d r0)))), .second, .val (.int (1 : Int32))] [(.int (1 : Int32)), (.double (FP.dadd (0 : UInt64) (FP.ddiv (FP.i2d (1 : Int32)) (FP.i2d r0))))])) _
    refine XS.iconst X111.here hx rfl (hb hby d3_15) ?_
    show Steps p.tables e below (T111.setTop (mkF m 16 #[.val (.ref a1), .val (.double (FP.dadd (0 : UInt64) (FP.ddiv (FP.i2d (1 : Int32)) (FP.i2d r0)))), .second, .val (.int (1 : Int32))] [(.int (1 : Int32)), (.int (1 : Int32)), (.double (FP.dadd (0 : UInt64) (FP.ddiv (FP.i2d (1 : Int32)) (FP.i2d r0))))])) _
    refine XS.iadd X111.here hx rfl (hb hby d3_16) rfl ?_
    show Steps p.tables e below (T111.setTop (mkF m 17 #[.val (.ref a1), .val (.double (FP.dadd (0 : UInt64) (FP.ddiv (FP.i2d (1 : Int32)) (FP.i2d r0)))), .second, .val (.int (1 : Int32))] [(.int ((1 : Int32) + (1 : Int32))), (.double (FP.dadd (0 : UInt64) (FP.ddiv (FP.i2d (1 : Int32)) (FP.i2d r0))))])) _
    refine castTop (g' := (mkF m 17 #[.val (.ref a1), .val (.double (FP.dadd (0 : UInt64) (FP.ddiv (FP.i2d (1 : Int32)) (FP.i2d r0)))), .second, .val (.int (1 : Int32))] [(.int (2 : Int32)), (.double (FP.dadd (0 : UInt64) (FP.ddiv (FP.i2d (1 : Int32)) (FP.i2d r0))))])) (by rw [show ((1 : Int32) + (1 : Int32)) = (2 : Int32) by decide]) ?_
    show Steps p.tables e below (T111.setTop (mkF m 17 #[.val (.ref a1), .val (.double (FP.dadd (0 : UInt64) (FP.ddiv (FP.i2d (1 : Int32)) (FP.i2d r0)))), .second, .val (.int (1 : Int32))] [(.int (2 : Int32)), (.double (FP.dadd (0 : UInt64) (FP.ddiv (FP.i2d (1 : Int32)) (FP.i2d r0))))])) _
    refine XS.i2dS X111.here hx rfl (hb hby d3_17) rfl rfl ?_
    show Steps p.tables e below (T111.setTop (mkF m 18 #[.val (.ref a1), .val (.double (FP.dadd (0 : UInt64) (FP.ddiv (FP.i2d (1 : Int32)) (FP.i2d r0)))), .second, .val (.int (1 : Int32))] [(.double (FP.i2d (2 : Int32))), (.double (FP.dadd (0 : UInt64) (FP.ddiv (FP.i2d (1 : Int32)) (FP.i2d r0))))])) _
    refine XS.aloadN X111.here hx rfl (hb hby d3_18) rfl rfl ?_
    exact k)
  obtain ⟨T115, X115, e115, st115⟩ := getF X111 hx hZ hown (host := "") (Or.inl (hw _ (List.mem_of_getElem? (i := 26) rfl))) Via.refl e111 F1 (g := (mkF m 19 #[.val (.ref a1), .val (.double (FP.dadd (0 : UInt64) (FP.ddiv (FP.i2d (1 : Int32)) (FP.i2d r0)))), .second, .val (.int (1 : Int32))] [(.ref a1), (.double (FP.i2d (2 : Int32))), (.double (FP.dadd (0 : UInt64) (FP.ddiv (FP.i2d (1 : Int32)) (FP.i2d r0))))])) rfl rfl (hb hby d3_19)
  have k116 : ∀ t, Steps p.tables e below (T115.setTop (mkF m 22 #[.val (.ref a1), .val (.double (FP.dadd (0 : UInt64) (FP.ddiv (FP.i2d (1 : Int32)) (FP.i2d r0)))), .second, .val (.int (1 : Int32))] [(.ref a2), (.double (FP.i2d (2 : Int32))), (.double (FP.dadd (0 : UInt64) (FP.ddiv (FP.i2d (1 : Int32)) (FP.i2d r0))))])) t → Steps p.tables e below (s₁.setTop (entryFrame m #[(.ref a1)] 4)) t := fun t k => k114 t (st115 t k)
  have k117 : ∀ t, Steps p.tables e below (T115.setTop (mkF m 23 #[.val (.ref a1), .val (.double (FP.dadd (0 : UInt64) (FP.ddiv (FP.i2d (1 : Int32)) (FP.i2d r0)))), .second, .val (.int (1 : Int32))] [(.int (1 : Int32)), (.ref a2), (.double (FP.i2d (2 : Int32))), (.double (FP.dadd (0 : UInt64) (FP.ddiv (FP.i2d (1 : Int32)) (FP.i2d r0))))])) t → Steps p.tables e below (s₁.setTop (entryFrame m #[(.ref a1)] 4)) t := fun t k => k116 t (by
    show Steps p.tables e below (T115.setTop (mkF m 22 #[.val (.ref a1), .val (.double (FP.dadd (0 : UInt64) (FP.ddiv (FP.i2d (1 : Int32)) (FP.i2d r0)))), .second, .val (.int (1 : Int32))] [(.ref a2), (.double (FP.i2d (2 : Int32))), (.double (FP.dadd (0 : UInt64) (FP.ddiv (FP.i2d (1 : Int32)) (FP.i2d r0))))])) _
    refine XS.iloadN X115.here hx rfl (hb hby d3_22) rfl ?_
    exact k)
  obtain ⟨c118, Ar118, -, As118, An118, Ah118, -⟩ := id V1
  have hin118 : ¬ ((1 : Int32) < 0 ∨ c118.slots.size ≤ ((1 : Int32)).toNatClampNeg) := inb_of As118 ⟨by decide, by decide⟩
  have hat118 : c118.slots[((1 : Int32)).toNatClampNeg]? = some (.int r1) := Has.at Ah118 hin118 rfl
  have k119 : ∀ t, Steps p.tables e below (T115.setTop (mkF m 6 #[.val (.ref a1), .val (.double (FP.dadd (FP.dadd (0 : UInt64) (FP.ddiv (FP.i2d (1 : Int32)) (FP.i2d r0))) (FP.ddiv (FP.i2d (2 : Int32)) (FP.i2d r1)))), .second, .val (.int (2 : Int32))] [(.ref a1), (.int (2 : Int32))])) t → Steps p.tables e below (s₁.setTop (entryFrame m #[(.ref a1)] 4)) t := fun t k => k117 t (by
    show Steps p.tables e below (T115.setTop (mkF m 23 #[.val (.ref a1), .val (.double (FP.dadd (0 : UInt64) (FP.ddiv (FP.i2d (1 : Int32)) (FP.i2d r0)))), .second, .val (.int (1 : Int32))] [(.int (1 : Int32)), (.ref a2), (.double (FP.i2d (2 : Int32))), (.double (FP.dadd (0 : UInt64) (FP.ddiv (FP.i2d (1 : Int32)) (FP.i2d r0))))])) _
    refine X115.iaload hx (j := (1 : Int32)) (v := (.int r1)) (by rw [e115]; exact Ar118.1) (State.isArrayOf_alike hZ.alike Ar118.2.1) Ar118.2.2 hin118 hat118 (g := (mkF m 23 #[.val (.ref a1), .val (.double (FP.dadd (0 : UInt64) (FP.ddiv (FP.i2d (1 : Int32)) (FP.i2d r0)))), .second, .val (.int (1 : Int32))] [(.int (1 : Int32)), (.ref a2), (.double (FP.i2d (2 : Int32))), (.double (FP.dadd (0 : UInt64) (FP.ddiv (FP.i2d (1 : Int32)) (FP.i2d r0))))])) rfl rfl (hb hby d3_23) _ ?_
    show Steps p.tables e below (T115.setTop (mkF m 24 #[.val (.ref a1), .val (.double (FP.dadd (0 : UInt64) (FP.ddiv (FP.i2d (1 : Int32)) (FP.i2d r0)))), .second, .val (.int (1 : Int32))] [(.int r1), (.double (FP.i2d (2 : Int32))), (.double (FP.dadd (0 : UInt64) (FP.ddiv (FP.i2d (1 : Int32)) (FP.i2d r0))))])) _
    refine XS.i2dS X115.here hx rfl (hb hby d3_24) rfl rfl ?_
    show Steps p.tables e below (T115.setTop (mkF m 25 #[.val (.ref a1), .val (.double (FP.dadd (0 : UInt64) (FP.ddiv (FP.i2d (1 : Int32)) (FP.i2d r0)))), .second, .val (.int (1 : Int32))] [(.double (FP.i2d r1)), (.double (FP.i2d (2 : Int32))), (.double (FP.dadd (0 : UInt64) (FP.ddiv (FP.i2d (1 : Int32)) (FP.i2d r0))))])) _
    refine XS.ddivS X115.here hx rfl (hb hby d3_25) rfl (nq1) rfl ?_
    show Steps p.tables e below (T115.setTop (mkF m 26 #[.val (.ref a1), .val (.double (FP.dadd (0 : UInt64) (FP.ddiv (FP.i2d (1 : Int32)) (FP.i2d r0)))), .second, .val (.int (1 : Int32))] [(.double (FP.ddiv (FP.i2d (2 : Int32)) (FP.i2d r1))), (.double (FP.dadd (0 : UInt64) (FP.ddiv (FP.i2d (1 : Int32)) (FP.i2d r0))))])) _
    refine XS.daddS X115.here hx rfl (hb hby d3_26) rfl (na1) rfl ?_
    show Steps p.tables e below (T115.setTop (mkF m 27 #[.val (.ref a1), .val (.double (FP.dadd (0 : UInt64) (FP.ddiv (FP.i2d (1 : Int32)) (FP.i2d r0)))), .second, .val (.int (1 : Int32))] [(.double (FP.dadd (FP.dadd (0 : UInt64) (FP.ddiv (FP.i2d (1 : Int32)) (FP.i2d r0))) (FP.ddiv (FP.i2d (2 : Int32)) (FP.i2d r1))))])) _
    refine XS.dstoreN X115.here hx rfl (hb hby d3_27) rfl (l' := #[.val (.ref a1), .val (.double (FP.dadd (FP.dadd (0 : UInt64) (FP.ddiv (FP.i2d (1 : Int32)) (FP.i2d r0))) (FP.ddiv (FP.i2d (2 : Int32)) (FP.i2d r1)))), .second, .val (.int (1 : Int32))]) rfl ?_
    show Steps p.tables e below (T115.setTop (mkF m 28 #[.val (.ref a1), .val (.double (FP.dadd (FP.dadd (0 : UInt64) (FP.ddiv (FP.i2d (1 : Int32)) (FP.i2d r0))) (FP.ddiv (FP.i2d (2 : Int32)) (FP.i2d r1)))), .second, .val (.int (1 : Int32))] [])) _
    refine XS.iinc X115.here hx rfl (hb hby d3_28) rfl (l' := #[.val (.ref a1), .val (.double (FP.dadd (FP.dadd (0 : UInt64) (FP.ddiv (FP.i2d (1 : Int32)) (FP.i2d r0))) (FP.ddiv (FP.i2d (2 : Int32)) (FP.i2d r1)))), .second, .val (.int (2 : Int32))]) rfl ?_
    show Steps p.tables e below (T115.setTop (mkF m 31 #[.val (.ref a1), .val (.double (FP.dadd (FP.dadd (0 : UInt64) (FP.ddiv (FP.i2d (1 : Int32)) (FP.i2d r0))) (FP.ddiv (FP.i2d (2 : Int32)) (FP.i2d r1)))), .second, .val (.int (2 : Int32))] [])) _
    refine XS.goto X115.here hx rfl (pc0 := 31) (pc' := 4) rfl (hb hby d3_31) (by decide) (by decide) ?_
    show Steps p.tables e below (T115.setTop (mkF m 4 #[.val (.ref a1), .val (.double (FP.dadd (FP.dadd (0 : UInt64) (FP.ddiv (FP.i2d (1 : Int32)) (FP.i2d r0))) (FP.ddiv (FP.i2d (2 : Int32)) (FP.i2d r1)))), .second, .val (.int (2 : Int32))] [])) _
    refine XS.iloadN X115.here hx rfl (hb hby d3_4) rfl ?_
    show Steps p.tables e below (T115.setTop (mkF m 5 #[.val (.ref a1), .val (.double (FP.dadd (FP.dadd (0 : UInt64) (FP.ddiv (FP.i2d (1 : Int32)) (FP.i2d r0))) (FP.ddiv (FP.i2d (2 : Int32)) (FP.i2d r1)))), .second, .val (.int (2 : Int32))] [(.int (2 : Int32))])) _
    refine XS.aloadN X115.here hx rfl (hb hby d3_5) rfl rfl ?_
    exact k)
  obtain ⟨T120, X120, e120, st120⟩ := getF X115 hx hZ hown (host := "") (Or.inl (hw _ (List.mem_of_getElem? (i := 26) rfl))) Via.refl e115 F1 (g := (mkF m 6 #[.val (.ref a1), .val (.double (FP.dadd (FP.dadd (0 : UInt64) (FP.ddiv (FP.i2d (1 : Int32)) (FP.i2d r0))) (FP.ddiv (FP.i2d (2 : Int32)) (FP.i2d r1)))), .second, .val (.int (2 : Int32))] [(.ref a1), (.int (2 : Int32))])) rfl rfl (hb hby d3_6)
  have k121 : ∀ t, Steps p.tables e below (T120.setTop (mkF m 9 #[.val (.ref a1), .val (.double (FP.dadd (FP.dadd (0 : UInt64) (FP.ddiv (FP.i2d (1 : Int32)) (FP.i2d r0))) (FP.ddiv (FP.i2d (2 : Int32)) (FP.i2d r1)))), .second, .val (.int (2 : Int32))] [(.ref a2), (.int (2 : Int32))])) t → Steps p.tables e below (s₁.setTop (entryFrame m #[(.ref a1)] 4)) t := fun t k => k119 t (st120 t k)
  obtain ⟨c122, Ar122, -, As122, An122, -, -⟩ := id V1
  have k123 : ∀ t, Steps p.tables e below (T120.setTop (mkF m 19 #[.val (.ref a1), .val (.double (FP.dadd (FP.dadd (0 : UInt64) (FP.ddiv (FP.i2d (1 : Int32)) (FP.i2d r0))) (FP.ddiv (FP.i2d (2 : Int32)) (FP.i2d r1)))), .second, .val (.int (2 : Int32))] [(.ref a1), (.double (FP.i2d (3 : Int32))), (.double (FP.dadd (FP.dadd (0 : UInt64) (FP.ddiv (FP.i2d (1 : Int32)) (FP.i2d r0))) (FP.ddiv (FP.i2d (2 : Int32)) (FP.i2d r1))))])) t → Steps p.tables e below (s₁.setTop (entryFrame m #[(.ref a1)] 4)) t := fun t k => k121 t (by
    show Steps p.tables e below (T120.setTop (mkF m 9 #[.val (.ref a1), .val (.double (FP.dadd (FP.dadd (0 : UInt64) (FP.ddiv (FP.i2d (1 : Int32)) (FP.i2d r0))) (FP.ddiv (FP.i2d (2 : Int32)) (FP.i2d r1)))), .second, .val (.int (2 : Int32))] [(.ref a2), (.int (2 : Int32))])) _
    refine X120.arraylength hx (by rw [e120]; exact Ar122.1) (State.isArrayOf_alike hZ.alike Ar122.2.1) (g := (mkF m 9 #[.val (.ref a1), .val (.double (FP.dadd (FP.dadd (0 : UInt64) (FP.ddiv (FP.i2d (1 : Int32)) (FP.i2d r0))) (FP.ddiv (FP.i2d (2 : Int32)) (FP.i2d r1)))), .second, .val (.int (2 : Int32))] [(.ref a2), (.int (2 : Int32))])) rfl rfl (hb hby d3_9) _ ?_
    rw [len_of As122 An122]
    show Steps p.tables e below (T120.setTop (mkF m 10 #[.val (.ref a1), .val (.double (FP.dadd (FP.dadd (0 : UInt64) (FP.ddiv (FP.i2d (1 : Int32)) (FP.i2d r0))) (FP.ddiv (FP.i2d (2 : Int32)) (FP.i2d r1)))), .second, .val (.int (2 : Int32))] [(.int (3 : Int32)), (.int (2 : Int32))])) _
    refine XS.icmpNo X120.here hx rfl (hb hby d3_10) rfl (tlt (by decide)).2.1 ?_
    show Steps p.tables e below (T120.setTop (mkF m 13 #[.val (.ref a1), .val (.double (FP.dadd (FP.dadd (0 : UInt64) (FP.ddiv (FP.i2d (1 : Int32)) (FP.i2d r0))) (FP.ddiv (FP.i2d (2 : Int32)) (FP.i2d r1)))), .second, .val (.int (2 : Int32))] [])) _
    refine XS.dloadN X120.here hx rfl (hb hby d3_13) rfl ?_
    show Steps p.tables e below (T120.setTop (mkF m 14 #[.val (.ref a1), .val (.double (FP.dadd (FP.dadd (0 : UInt64) (FP.ddiv (FP.i2d (1 : Int32)) (FP.i2d r0))) (FP.ddiv (FP.i2d (2 : Int32)) (FP.i2d r1)))), .second, .val (.int (2 : Int32))] [(.double (FP.dadd (FP.dadd (0 : UInt64) (FP.ddiv (FP.i2d (1 : Int32)) (FP.i2d r0))) (FP.ddiv (FP.i2d (2 : Int32)) (FP.i2d r1))))])) _
    refine XS.iloadN X120.here hx rfl (hb hby d3_14) rfl ?_
    show Steps p.tables e below (T120.setTop (mkF m 15 #[.val (.ref a1), .val (.double (FP.dadd (FP.dadd (0 : UInt64) (FP.ddiv (FP.i2d (1 : Int32)) (FP.i2d r0))) (FP.ddiv (FP.i2d (2 : Int32)) (FP.i2d r1)))), .second, .val (.int (2 : Int32))] [(.int (2 : Int32)), (.double (FP.dadd (FP.dadd (0 : UInt64) (FP.ddiv (FP.i2d (1 : Int32)) (FP.i2d r0))) (FP.ddiv (FP.i2d (2 : Int32)) (FP.i2d r1))))])) _
    refine XS.iconst X120.here hx rfl (hb hby d3_15) ?_
    show Steps p.tables e below (T120.setTop (mkF m 16 #[.val (.ref a1), .val (.double (FP.dadd (FP.dadd (0 : UInt64) (FP.ddiv (FP.i2d (1 : Int32)) (FP.i2d r0))) (FP.ddiv (FP.i2d (2 : Int32)) (FP.i2d r1)))), .second, .val (.int (2 : Int32))] [(.int (1 : Int32)), (.int (2 : Int32)), (.double (FP.dadd (FP.dadd (0 : UInt64) (FP.ddiv (FP.i2d (1 : Int32)) (FP.i2d r0))) (FP.ddiv (FP.i2d (2 : Int32)) (FP.i2d r1))))])) _
    refine XS.iadd X120.here hx rfl (hb hby d3_16) rfl ?_
    show Steps p.tables e below (T120.setTop (mkF m 17 #[.val (.ref a1), .val (.double (FP.dadd (FP.dadd (0 : UInt64) (FP.ddiv (FP.i2d (1 : Int32)) (FP.i2d r0))) (FP.ddiv (FP.i2d (2 : Int32)) (FP.i2d r1)))), .second, .val (.int (2 : Int32))] [(.int ((2 : Int32) + (1 : Int32))), (.double (FP.dadd (FP.dadd (0 : UInt64) (FP.ddiv (FP.i2d (1 : Int32)) (FP.i2d r0))) (FP.ddiv (FP.i2d (2 : Int32)) (FP.i2d r1))))])) _
    refine castTop (g' := (mkF m 17 #[.val (.ref a1), .val (.double (FP.dadd (FP.dadd (0 : UInt64) (FP.ddiv (FP.i2d (1 : Int32)) (FP.i2d r0))) (FP.ddiv (FP.i2d (2 : Int32)) (FP.i2d r1)))), .second, .val (.int (2 : Int32))] [(.int (3 : Int32)), (.double (FP.dadd (FP.dadd (0 : UInt64) (FP.ddiv (FP.i2d (1 : Int32)) (FP.i2d r0))) (FP.ddiv (FP.i2d (2 : Int32)) (FP.i2d r1))))])) (by rw [show ((2 : Int32) + (1 : Int32)) = (3 : Int32) by decide]) ?_
    show Steps p.tables e below (T120.setTop (mkF m 17 #[.val (.ref a1), .val (.double (FP.dadd (FP.dadd (0 : UInt64) (FP.ddiv (FP.i2d (1 : Int32)) (FP.i2d r0))) (FP.ddiv (FP.i2d (2 : Int32)) (FP.i2d r1)))), .second, .val (.int (2 : Int32))] [(.int (3 : Int32)), (.double (FP.dadd (FP.dadd (0 : UInt64) (FP.ddiv (FP.i2d (1 : Int32)) (FP.i2d r0))) (FP.ddiv (FP.i2d (2 : Int32)) (FP.i2d r1))))])) _
    refine XS.i2dS X120.here hx rfl (hb hby d3_17) rfl rfl ?_
    show Steps p.tables e below (T120.setTop (mkF m 18 #[.val (.ref a1), .val (.double (FP.dadd (FP.dadd (0 : UInt64) (FP.ddiv (FP.i2d (1 : Int32)) (FP.i2d r0))) (FP.ddiv (FP.i2d (2 : Int32)) (FP.i2d r1)))), .second, .val (.int (2 : Int32))] [(.double (FP.i2d (3 : Int32))), (.double (FP.dadd (FP.dadd (0 : UInt64) (FP.ddiv (FP.i2d (1 : Int32)) (FP.i2d r0))) (FP.ddiv (FP.i2d (2 : Int32)) (FP.i2d r1))))])) _
    refine XS.aloadN X120.here hx rfl (hb hby d3_18) rfl rfl ?_
    exact k)
  obtain ⟨T124, X124, e124, st124⟩ := getF X120 hx hZ hown (host := "") (Or.inl (hw _ (List.mem_of_getElem? (i := 26) rfl))) Via.refl e120 F1 (g := (mkF m 19 #[.val (.ref a1), .val (.double (FP.dadd (FP.dadd (0 : UInt64) (FP.ddiv (FP.i2d (1 : Int32)) (FP.i2d r0))) (FP.ddiv (FP.i2d (2 : Int32)) (FP.i2d r1)))), .second, .val (.int (2 : Int32))] [(.ref a1), (.double (FP.i2d (3 : Int32))), (.double (FP.dadd (FP.dadd (0 : UInt64) (FP.ddiv (FP.i2d (1 : Int32)) (FP.i2d r0))) (FP.ddiv (FP.i2d (2 : Int32)) (FP.i2d r1))))])) rfl rfl (hb hby d3_19)
  have k125 : ∀ t, Steps p.tables e below (T124.setTop (mkF m 22 #[.val (.ref a1), .val (.double (FP.dadd (FP.dadd (0 : UInt64) (FP.ddiv (FP.i2d (1 : Int32)) (FP.i2d r0))) (FP.ddiv (FP.i2d (2 : Int32)) (FP.i2d r1)))), .second, .val (.int (2 : Int32))] [(.ref a2), (.double (FP.i2d (3 : Int32))), (.double (FP.dadd (FP.dadd (0 : UInt64) (FP.ddiv (FP.i2d (1 : Int32)) (FP.i2d r0))) (FP.ddiv (FP.i2d (2 : Int32)) (FP.i2d r1))))])) t → Steps p.tables e below (s₁.setTop (entryFrame m #[(.ref a1)] 4)) t := fun t k => k123 t (st124 t k)
  have k126 : ∀ t, Steps p.tables e below (T124.setTop (mkF m 23 #[.val (.ref a1), .val (.double (FP.dadd (FP.dadd (0 : UInt64) (FP.ddiv (FP.i2d (1 : Int32)) (FP.i2d r0))) (FP.ddiv (FP.i2d (2 : Int32)) (FP.i2d r1)))), .second, .val (.int (2 : Int32))] [(.int (2 : Int32)), (.ref a2), (.double (FP.i2d (3 : Int32))), (.double (FP.dadd (FP.dadd (0 : UInt64) (FP.ddiv (FP.i2d (1 : Int32)) (FP.i2d r0))) (FP.ddiv (FP.i2d (2 : Int32)) (FP.i2d r1))))])) t → Steps p.tables e below (s₁.setTop (entryFrame m #[(.ref a1)] 4)) t := fun t k => k125 t (by
    show Steps p.tables e below (T124.setTop (mkF m 22 #[.val (.ref a1), .val (.double (FP.dadd (FP.dadd (0 : UInt64) (FP.ddiv (FP.i2d (1 : Int32)) (FP.i2d r0))) (FP.ddiv (FP.i2d (2 : Int32)) (FP.i2d r1)))), .second, .val (.int (2 : Int32))] [(.ref a2), (.double (FP.i2d (3 : Int32))), (.double (FP.dadd (FP.dadd (0 : UInt64) (FP.ddiv (FP.i2d (1 : Int32)) (FP.i2d r0))) (FP.ddiv (FP.i2d (2 : Int32)) (FP.i2d r1))))])) _
    refine XS.iloadN X124.here hx rfl (hb hby d3_22) rfl ?_
    exact k)
  obtain ⟨c127, Ar127, -, As127, An127, Ah127, -⟩ := id V1
  have hin127 : ¬ ((2 : Int32) < 0 ∨ c127.slots.size ≤ ((2 : Int32)).toNatClampNeg) := inb_of As127 ⟨by decide, by decide⟩
  have hat127 : c127.slots[((2 : Int32)).toNatClampNeg]? = some (.int r2) := Has.at Ah127 hin127 rfl
  have k128 : ∀ t, Steps p.tables e below (T124.setTop (mkF m 6 #[.val (.ref a1), .val (.double (FP.dadd (FP.dadd (FP.dadd (0 : UInt64) (FP.ddiv (FP.i2d (1 : Int32)) (FP.i2d r0))) (FP.ddiv (FP.i2d (2 : Int32)) (FP.i2d r1))) (FP.ddiv (FP.i2d (3 : Int32)) (FP.i2d r2)))), .second, .val (.int (3 : Int32))] [(.ref a1), (.int (3 : Int32))])) t → Steps p.tables e below (s₁.setTop (entryFrame m #[(.ref a1)] 4)) t := fun t k => k126 t (by
    show Steps p.tables e below (T124.setTop (mkF m 23 #[.val (.ref a1), .val (.double (FP.dadd (FP.dadd (0 : UInt64) (FP.ddiv (FP.i2d (1 : Int32)) (FP.i2d r0))) (FP.ddiv (FP.i2d (2 : Int32)) (FP.i2d r1)))), .second, .val (.int (2 : Int32))] [(.int (2 : Int32)), (.ref a2), (.double (FP.i2d (3 : Int32))), (.double (FP.dadd (FP.dadd (0 : UInt64) (FP.ddiv (FP.i2d (1 : Int32)) (FP.i2d r0))) (FP.ddiv (FP.i2d (2 : Int32)) (FP.i2d r1))))])) _
    refine X124.iaload hx (j := (2 : Int32)) (v := (.int r2)) (by rw [e124]; exact Ar127.1) (State.isArrayOf_alike hZ.alike Ar127.2.1) Ar127.2.2 hin127 hat127 (g := (mkF m 23 #[.val (.ref a1), .val (.double (FP.dadd (FP.dadd (0 : UInt64) (FP.ddiv (FP.i2d (1 : Int32)) (FP.i2d r0))) (FP.ddiv (FP.i2d (2 : Int32)) (FP.i2d r1)))), .second, .val (.int (2 : Int32))] [(.int (2 : Int32)), (.ref a2), (.double (FP.i2d (3 : Int32))), (.double (FP.dadd (FP.dadd (0 : UInt64) (FP.ddiv (FP.i2d (1 : Int32)) (FP.i2d r0))) (FP.ddiv (FP.i2d (2 : Int32)) (FP.i2d r1))))])) rfl rfl (hb hby d3_23) _ ?_
    show Steps p.tables e below (T124.setTop (mkF m 24 #[.val (.ref a1), .val (.double (FP.dadd (FP.dadd (0 : UInt64) (FP.ddiv (FP.i2d (1 : Int32)) (FP.i2d r0))) (FP.ddiv (FP.i2d (2 : Int32)) (FP.i2d r1)))), .second, .val (.int (2 : Int32))] [(.int r2), (.double (FP.i2d (3 : Int32))), (.double (FP.dadd (FP.dadd (0 : UInt64) (FP.ddiv (FP.i2d (1 : Int32)) (FP.i2d r0))) (FP.ddiv (FP.i2d (2 : Int32)) (FP.i2d r1))))])) _
    refine XS.i2dS X124.here hx rfl (hb hby d3_24) rfl rfl ?_
    show Steps p.tables e below (T124.setTop (mkF m 25 #[.val (.ref a1), .val (.double (FP.dadd (FP.dadd (0 : UInt64) (FP.ddiv (FP.i2d (1 : Int32)) (FP.i2d r0))) (FP.ddiv (FP.i2d (2 : Int32)) (FP.i2d r1)))), .second, .val (.int (2 : Int32))] [(.double (FP.i2d r2)), (.double (FP.i2d (3 : Int32))), (.double (FP.dadd (FP.dadd (0 : UInt64) (FP.ddiv (FP.i2d (1 : Int32)) (FP.i2d r0))) (FP.ddiv (FP.i2d (2 : Int32)) (FP.i2d r1))))])) _
    refine XS.ddivS X124.here hx rfl (hb hby d3_25) rfl (nq2) rfl ?_
    show Steps p.tables e below (T124.setTop (mkF m 26 #[.val (.ref a1), .val (.double (FP.dadd (FP.dadd (0 : UInt64) (FP.ddiv (FP.i2d (1 : Int32)) (FP.i2d r0))) (FP.ddiv (FP.i2d (2 : Int32)) (FP.i2d r1)))), .second, .val (.int (2 : Int32))] [(.double (FP.ddiv (FP.i2d (3 : Int32)) (FP.i2d r2))), (.double (FP.dadd (FP.dadd (0 : UInt64) (FP.ddiv (FP.i2d (1 : Int32)) (FP.i2d r0))) (FP.ddiv (FP.i2d (2 : Int32)) (FP.i2d r1))))])) _
    refine XS.daddS X124.here hx rfl (hb hby d3_26) rfl (na2) rfl ?_
    show Steps p.tables e below (T124.setTop (mkF m 27 #[.val (.ref a1), .val (.double (FP.dadd (FP.dadd (0 : UInt64) (FP.ddiv (FP.i2d (1 : Int32)) (FP.i2d r0))) (FP.ddiv (FP.i2d (2 : Int32)) (FP.i2d r1)))), .second, .val (.int (2 : Int32))] [(.double (FP.dadd (FP.dadd (FP.dadd (0 : UInt64) (FP.ddiv (FP.i2d (1 : Int32)) (FP.i2d r0))) (FP.ddiv (FP.i2d (2 : Int32)) (FP.i2d r1))) (FP.ddiv (FP.i2d (3 : Int32)) (FP.i2d r2))))])) _
    refine XS.dstoreN X124.here hx rfl (hb hby d3_27) rfl (l' := #[.val (.ref a1), .val (.double (FP.dadd (FP.dadd (FP.dadd (0 : UInt64) (FP.ddiv (FP.i2d (1 : Int32)) (FP.i2d r0))) (FP.ddiv (FP.i2d (2 : Int32)) (FP.i2d r1))) (FP.ddiv (FP.i2d (3 : Int32)) (FP.i2d r2)))), .second, .val (.int (2 : Int32))]) rfl ?_
    show Steps p.tables e below (T124.setTop (mkF m 28 #[.val (.ref a1), .val (.double (FP.dadd (FP.dadd (FP.dadd (0 : UInt64) (FP.ddiv (FP.i2d (1 : Int32)) (FP.i2d r0))) (FP.ddiv (FP.i2d (2 : Int32)) (FP.i2d r1))) (FP.ddiv (FP.i2d (3 : Int32)) (FP.i2d r2)))), .second, .val (.int (2 : Int32))] [])) _
    refine XS.iinc X124.here hx rfl (hb hby d3_28) rfl (l' := #[.val (.ref a1), .val (.double (FP.dadd (FP.dadd (FP.dadd (0 : UInt64) (FP.ddiv (FP.i2d (1 : Int32)) (FP.i2d r0))) (FP.ddiv (FP.i2d (2 : Int32)) (FP.i2d r1))) (FP.ddiv (FP.i2d (3 : Int32)) (FP.i2d r2)))), .second, .val (.int (3 : Int32))]) rfl ?_
    show Steps p.tables e below (T124.setTop (mkF m 31 #[.val (.ref a1), .val (.double (FP.dadd (FP.dadd (FP.dadd (0 : UInt64) (FP.ddiv (FP.i2d (1 : Int32)) (FP.i2d r0))) (FP.ddiv (FP.i2d (2 : Int32)) (FP.i2d r1))) (FP.ddiv (FP.i2d (3 : Int32)) (FP.i2d r2)))), .second, .val (.int (3 : Int32))] [])) _
    refine XS.goto X124.here hx rfl (pc0 := 31) (pc' := 4) rfl (hb hby d3_31) (by decide) (by decide) ?_
    show Steps p.tables e below (T124.setTop (mkF m 4 #[.val (.ref a1), .val (.double (FP.dadd (FP.dadd (FP.dadd (0 : UInt64) (FP.ddiv (FP.i2d (1 : Int32)) (FP.i2d r0))) (FP.ddiv (FP.i2d (2 : Int32)) (FP.i2d r1))) (FP.ddiv (FP.i2d (3 : Int32)) (FP.i2d r2)))), .second, .val (.int (3 : Int32))] [])) _
    refine XS.iloadN X124.here hx rfl (hb hby d3_4) rfl ?_
    show Steps p.tables e below (T124.setTop (mkF m 5 #[.val (.ref a1), .val (.double (FP.dadd (FP.dadd (FP.dadd (0 : UInt64) (FP.ddiv (FP.i2d (1 : Int32)) (FP.i2d r0))) (FP.ddiv (FP.i2d (2 : Int32)) (FP.i2d r1))) (FP.ddiv (FP.i2d (3 : Int32)) (FP.i2d r2)))), .second, .val (.int (3 : Int32))] [(.int (3 : Int32))])) _
    refine XS.aloadN X124.here hx rfl (hb hby d3_5) rfl rfl ?_
    exact k)
  obtain ⟨T129, X129, e129, st129⟩ := getF X124 hx hZ hown (host := "") (Or.inl (hw _ (List.mem_of_getElem? (i := 26) rfl))) Via.refl e124 F1 (g := (mkF m 6 #[.val (.ref a1), .val (.double (FP.dadd (FP.dadd (FP.dadd (0 : UInt64) (FP.ddiv (FP.i2d (1 : Int32)) (FP.i2d r0))) (FP.ddiv (FP.i2d (2 : Int32)) (FP.i2d r1))) (FP.ddiv (FP.i2d (3 : Int32)) (FP.i2d r2)))), .second, .val (.int (3 : Int32))] [(.ref a1), (.int (3 : Int32))])) rfl rfl (hb hby d3_6)
  have k130 : ∀ t, Steps p.tables e below (T129.setTop (mkF m 9 #[.val (.ref a1), .val (.double (FP.dadd (FP.dadd (FP.dadd (0 : UInt64) (FP.ddiv (FP.i2d (1 : Int32)) (FP.i2d r0))) (FP.ddiv (FP.i2d (2 : Int32)) (FP.i2d r1))) (FP.ddiv (FP.i2d (3 : Int32)) (FP.i2d r2)))), .second, .val (.int (3 : Int32))] [(.ref a2), (.int (3 : Int32))])) t → Steps p.tables e below (s₁.setTop (entryFrame m #[(.ref a1)] 4)) t := fun t k => k128 t (st129 t k)
  obtain ⟨c131, Ar131, -, As131, An131, -, -⟩ := id V1
  have k132 : ∀ t, Steps p.tables e below (T129.setTop (mkF m 35 #[.val (.ref a1), .val (.double (FP.dadd (FP.dadd (FP.dadd (0 : UInt64) (FP.ddiv (FP.i2d (1 : Int32)) (FP.i2d r0))) (FP.ddiv (FP.i2d (2 : Int32)) (FP.i2d r1))) (FP.ddiv (FP.i2d (3 : Int32)) (FP.i2d r2)))), .second, .val (.int (3 : Int32))] [(.ref a1)])) t → Steps p.tables e below (s₁.setTop (entryFrame m #[(.ref a1)] 4)) t := fun t k => k130 t (by
    show Steps p.tables e below (T129.setTop (mkF m 9 #[.val (.ref a1), .val (.double (FP.dadd (FP.dadd (FP.dadd (0 : UInt64) (FP.ddiv (FP.i2d (1 : Int32)) (FP.i2d r0))) (FP.ddiv (FP.i2d (2 : Int32)) (FP.i2d r1))) (FP.ddiv (FP.i2d (3 : Int32)) (FP.i2d r2)))), .second, .val (.int (3 : Int32))] [(.ref a2), (.int (3 : Int32))])) _
    refine X129.arraylength hx (by rw [e129]; exact Ar131.1) (State.isArrayOf_alike hZ.alike Ar131.2.1) (g := (mkF m 9 #[.val (.ref a1), .val (.double (FP.dadd (FP.dadd (FP.dadd (0 : UInt64) (FP.ddiv (FP.i2d (1 : Int32)) (FP.i2d r0))) (FP.ddiv (FP.i2d (2 : Int32)) (FP.i2d r1))) (FP.ddiv (FP.i2d (3 : Int32)) (FP.i2d r2)))), .second, .val (.int (3 : Int32))] [(.ref a2), (.int (3 : Int32))])) rfl rfl (hb hby d3_9) _ ?_
    rw [len_of As131 An131]
    show Steps p.tables e below (T129.setTop (mkF m 10 #[.val (.ref a1), .val (.double (FP.dadd (FP.dadd (FP.dadd (0 : UInt64) (FP.ddiv (FP.i2d (1 : Int32)) (FP.i2d r0))) (FP.ddiv (FP.i2d (2 : Int32)) (FP.i2d r1))) (FP.ddiv (FP.i2d (3 : Int32)) (FP.i2d r2)))), .second, .val (.int (3 : Int32))] [(.int (3 : Int32)), (.int (3 : Int32))])) _
    refine XS.icmpYes X129.here hx rfl (pc0 := 10) (pc' := 34) rfl (hb hby d3_10) rfl (flt (by decide)).2.1 (by decide) (by decide) ?_
    show Steps p.tables e below (T129.setTop (mkF m 34 #[.val (.ref a1), .val (.double (FP.dadd (FP.dadd (FP.dadd (0 : UInt64) (FP.ddiv (FP.i2d (1 : Int32)) (FP.i2d r0))) (FP.ddiv (FP.i2d (2 : Int32)) (FP.i2d r1))) (FP.ddiv (FP.i2d (3 : Int32)) (FP.i2d r2)))), .second, .val (.int (3 : Int32))] [])) _
    refine XS.aloadN X129.here hx rfl (hb hby d3_34) rfl rfl ?_
    exact k)
  obtain ⟨T133, X133, e133, st133⟩ := getF X129 hx hZ hown (host := "") (Or.inl (hw _ (List.mem_of_getElem? (i := 24) rfl))) Via.refl e129 F2 (g := (mkF m 35 #[.val (.ref a1), .val (.double (FP.dadd (FP.dadd (FP.dadd (0 : UInt64) (FP.ddiv (FP.i2d (1 : Int32)) (FP.i2d r0))) (FP.ddiv (FP.i2d (2 : Int32)) (FP.i2d r1))) (FP.ddiv (FP.i2d (3 : Int32)) (FP.i2d r2)))), .second, .val (.int (3 : Int32))] [(.ref a1)])) rfl rfl (hb hby d3_35)
  have k134 : ∀ t, Steps p.tables e below (T133.setTop (mkF m 38 #[.val (.ref a1), .val (.double (FP.dadd (FP.dadd (FP.dadd (0 : UInt64) (FP.ddiv (FP.i2d (1 : Int32)) (FP.i2d r0))) (FP.ddiv (FP.i2d (2 : Int32)) (FP.i2d r1))) (FP.ddiv (FP.i2d (3 : Int32)) (FP.i2d r2)))), .second, .val (.int (3 : Int32))] [(.int p2)])) t → Steps p.tables e below (s₁.setTop (entryFrame m #[(.ref a1)] 4)) t := fun t k => k132 t (st133 t k)
  have k135 : ∀ t, Steps p.tables e below (T133.setTop (mkF m 52 #[.val (.ref a1), .val (.double (FP.dadd (FP.dadd (FP.dadd (0 : UInt64) (FP.ddiv (FP.i2d (1 : Int32)) (FP.i2d r0))) (FP.ddiv (FP.i2d (2 : Int32)) (FP.i2d r1))) (FP.ddiv (FP.i2d (3 : Int32)) (FP.i2d r2)))), .second, .val (.int (3 : Int32))] [(.double (0 : UInt64))])) t → Steps p.tables e below (s₁.setTop (entryFrame m #[(.ref a1)] 4)) t := fun t k => k134 t (by
    show Steps p.tables e below (T133.setTop (mkF m 38 #[.val (.ref a1), .val (.double (FP.dadd (FP.dadd (FP.dadd (0 : UInt64) (FP.ddiv (FP.i2d (1 : Int32)) (FP.i2d r0))) (FP.ddiv (FP.i2d (2 : Int32)) (FP.i2d r1))) (FP.ddiv (FP.i2d (3 : Int32)) (FP.i2d r2)))), .second, .val (.int (3 : Int32))] [(.int p2)])) _
    refine XS.ifNo X133.here hx rfl (hb hby d3_38) rfl ((if0 _ _).trans (teq c38).2) ?_
    show Steps p.tables e below (T133.setTop (mkF m 41 #[.val (.ref a1), .val (.double (FP.dadd (FP.dadd (FP.dadd (0 : UInt64) (FP.ddiv (FP.i2d (1 : Int32)) (FP.i2d r0))) (FP.ddiv (FP.i2d (2 : Int32)) (FP.i2d r1))) (FP.ddiv (FP.i2d (3 : Int32)) (FP.i2d r2)))), .second, .val (.int (3 : Int32))] [])) _
    refine XS.dconst0 X133.here hx rfl (hb hby d3_41) (v := (0 : UInt64)) rfl ?_
    show Steps p.tables e below (T133.setTop (mkF m 42 #[.val (.ref a1), .val (.double (FP.dadd (FP.dadd (FP.dadd (0 : UInt64) (FP.ddiv (FP.i2d (1 : Int32)) (FP.i2d r0))) (FP.ddiv (FP.i2d (2 : Int32)) (FP.i2d r1))) (FP.ddiv (FP.i2d (3 : Int32)) (FP.i2d r2)))), .second, .val (.int (3 : Int32))] [(.double (0 : UInt64))])) _
    refine XS.goto X133.here hx rfl (pc0 := 42) (pc' := 52) rfl (hb hby d3_42) (by decide) (by decide) ?_
    exact k)
  obtain ⟨fs, hr, hrun, hended, hW, hsame⟩ := X133.leave (v := some (.double (0 : UInt64))) (fun h => by rw [Bd.returns] at h; cases h)
  refine ⟨_, _, k135 _ (retOut X133 hx (t := .double) Bd.returns rfl (Or.inr (Or.inr (Or.inl ⟨rfl, rfl, _, rfl⟩))) (hb hby d3_52) hr), hrun, hended, _, _, rfl, ?_, ⟨_, rfl⟩, hW, hsame.mono (by decide) (by decide)⟩
  show Q_avp3_1 Z a1 a2 k1 p2 r0 r1 r2 h0 n0 _ T133.heap _
  rw [e133]
  exact ⟨rfl, N0, rfl⟩
theorem ef_0_IIIII (m : MethodId) (x0 : Int32) (x1 : Int32) (x2 : Int32) (x3 : Int32) (x4 : Int32) : entryFrame m #[(.int x0), (.int x1), (.int x2), (.int x3), (.int x4)] maxLocals = mkF m 0 #[.val (.int x0), .val (.int x1), .val (.int x2), .val (.int x3), .val (.int x4), .unset, .unset, .unset, .unset, .unset, .unset, .unset, .unset, .unset, .unset, .unset, .unset, .unset, .unset] [] := by first | (simp [entryFrame, mkF, argsToLocals, Value.category, maxLocals]; done) | rfl
theorem own_strAtoms {Z : State} {a0 : Array Value} (hw : ∀ d ∈ tables_1, d.before a0 Z = true) : ∀ a ∈ Bundle.stringAtoms, a.before a0 Z = true := by
  intro a ha
  simp only [Bundle.stringAtoms, List.mem_cons, List.not_mem_nil, or_false] at ha
  rcases ha with rfl | rfl | rfl | rfl | rfl | rfl | rfl
  · exact (hw _ (List.mem_of_getElem? (i := 7) rfl))
  · exact (hw _ (List.mem_of_getElem? (i := 8) rfl))
  · exact (hw _ (List.mem_of_getElem? (i := 9) rfl))
  · exact (hw _ (List.mem_of_getElem? (i := 10) rfl))
  · exact (hw _ (List.mem_of_getElem? (i := 11) rfl))
  · exact (hw _ (List.mem_of_getElem? (i := 12) rfl))
  · exact (hw _ (List.mem_of_getElem? (i := 13) rfl))
theorem pd__28Ljava_2flang_2fString_3bII_5bI_29V : parseMethodDescriptor "(Ljava/lang/String;II[I)V" = some ⟨[(.object "java/lang/String"), .int, .int, (.array .int)], none⟩ := by decide +kernel
theorem pd__28_29D : parseMethodDescriptor "()D" = some ⟨[], some .double⟩ := by decide +kernel
def Q_rm0 (Z : State) (ln : Int32) (la : Int32) (lb : Int32) (lc : Int32) (ld : Int32) (h0 : Heap) (n0 : Nat) (v : Option Value) (h : Heap) (L : List Loc) : Prop := v = some (.int 1) ∧ Fr n0 L
theorem pn_com_2fexample_2fround2_2fround2_2feval_2fTopicResultAveragePrecisionPinLaw : plainName "com/example/round2/round2/eval/TopicResultAveragePrecisionPinLaw" = true := by first | (simp [plainName, overriddenIn]; done) | decide +kernel
set_option maxRecDepth 65536 in
set_option maxHeartbeats 40000000 in
theorem rm0 (l : Launch) (Z : State) (a0 : Array Value) (hw : ∀ d ∈ tables_1, d.before a0 Z = true) (ws : List Jvm.Cond) (ln : Int32) (la : Int32) (lb : Int32) (lc : Int32) (ld : Int32) (h0 : Heap) (n0 : Nat) (Z0 : n0 ≤ h0.size) :
    MetFree l x (head1 (Jvm.Cond.code x code maxLocals ret :: ws) room_1) (fun a U => a = #[(.int ln), (.int la), (.int lb), (.int lc), (.int ld)] ∧ Z.Warmed39 U.vm ∧ U.heap = h0) (fun _ _ _ _ _ => True) (fun _ U o U' => ∃ v L, o = .returned v ∧ Q_rm0 Z ln la lb lc ld h0 n0 v U'.heap L ∧ ReturnedEndW U o U' L room_1.cells room_1.slots) := by
  refine MetFree.of_bodySF (plainFor_of_name pn_com_2fexample_2fround2_2fround2_2feval_2fTopicResultAveragePrecisionPinLaw) hisR ?_
  intro p e s m args below meth c s₁ Bd hml0 hP hK
  obtain ⟨rfl, hZ, hh⟩ := hP
  have hx := Bd.exec
  have hby := Bd.bytes
  have hml : c.maxLocals = 19 := hml0
  have hown : s.vm.findClass "com/example/round2/round2/eval/TopicResultAveragePrecisionPinLaw" = some m.cls := findClass_of_methodNamed Bd.named
  have hnm := (name_of_methodNamed Bd.named Bd.method).1
  have X0 : Stand p l e room_1 s m #[(.int ln), (.int la), (.int lb), (.int lc), (.int ld)] below meth c s₁ [] 0 0 := Stand.of_body Bd
  have e0 : s₁.heap = h0 := by rw [← hh, Bd.state]; rfl
  have N0 := Fr.nil n0
  have hS0 : s.Since s.vm 0 := Jvm.OwnFp.since0 s
  have k0 : ∀ t, Steps p.tables e below (s₁.setTop (mkF m 0 #[.val (.int ln), .val (.int la), .val (.int lb), .val (.int lc), .val (.int ld), .unset, .unset, .unset, .unset, .unset, .unset, .unset, .unset, .unset, .unset, .unset, .unset, .unset, .unset] [])) t → Steps p.tables e below (s₁.setTop (entryFrame m #[(.int ln), (.int la), (.int lb), (.int lc), (.int ld)] maxLocals)) t := fun t k => castTop (ef_0_IIIII m ln la lb lc ld) k
  obtain ⟨n, hn⟩ : ∃ z : Int32, z = (ln &&& (3 : Int32)) := ⟨_, rfl⟩
  obtain ⟨r0, hr0⟩ : ∃ z : Int32, z = ((1 : Int32) + (la &&& (536870911 : Int32))) := ⟨_, rfl⟩
  obtain ⟨r1, hr1⟩ : ∃ z : Int32, z = ((r0 + (1 : Int32)) + (lb &&& (536870911 : Int32))) := ⟨_, rfl⟩
  obtain ⟨r2, hr2⟩ : ∃ z : Int32, z = ((r1 + (1 : Int32)) + (lc &&& (536870911 : Int32))) := ⟨_, rfl⟩
  obtain ⟨rel, hrel⟩ : ∃ z : Int32, z = (n + (ld &&& (1073741823 : Int32))) := ⟨_, rfl⟩
  have k101 : ∀ t, Steps p.tables e below (s₁.setTop (mkF m 45 #[.val (.int ln), .val (.int la), .val (.int lb), .val (.int lc), .val (.int ld), .val (.int n), .val (.int r0), .val (.int r1), .val (.int r2), .val (.int rel), .unset, .unset, .unset, .unset, .unset, .unset, .unset, .unset, .unset] [])) t → Steps p.tables e below (s₁.setTop (entryFrame m #[(.int ln), (.int la), (.int lb), (.int lc), (.int ld)] maxLocals)) t := fun t k => k0 t (by
    show Steps p.tables e below (s₁.setTop (mkF m 0 #[.val (.int ln), .val (.int la), .val (.int lb), .val (.int lc), .val (.int ld), .unset, .unset, .unset, .unset, .unset, .unset, .unset, .unset, .unset, .unset, .unset, .unset, .unset, .unset] [])) _
    refine XS.iloadN X0.here hx rfl (hb hby at_0) rfl ?_
    show Steps p.tables e below (s₁.setTop (mkF m 1 #[.val (.int ln), .val (.int la), .val (.int lb), .val (.int lc), .val (.int ld), .unset, .unset, .unset, .unset, .unset, .unset, .unset, .unset, .unset, .unset, .unset, .unset, .unset, .unset] [(.int ln)])) _
    refine XS.iconst X0.here hx rfl (hb hby at_1) ?_
    show Steps p.tables e below (s₁.setTop (mkF m 2 #[.val (.int ln), .val (.int la), .val (.int lb), .val (.int lc), .val (.int ld), .unset, .unset, .unset, .unset, .unset, .unset, .unset, .unset, .unset, .unset, .unset, .unset, .unset, .unset] [(.int (3 : Int32)), (.int ln)])) _
    refine XS.iand X0.here hx rfl (hb hby at_2) rfl ?_
    show Steps p.tables e below (s₁.setTop (mkF m 3 #[.val (.int ln), .val (.int la), .val (.int lb), .val (.int lc), .val (.int ld), .unset, .unset, .unset, .unset, .unset, .unset, .unset, .unset, .unset, .unset, .unset, .unset, .unset, .unset] [(.int (ln &&& (3 : Int32)))])) _
    refine castTop (g' := (mkF m 3 #[.val (.int ln), .val (.int la), .val (.int lb), .val (.int lc), .val (.int ld), .unset, .unset, .unset, .unset, .unset, .unset, .unset, .unset, .unset, .unset, .unset, .unset, .unset, .unset] [(.int n)])) (by rw [hn]) ?_
    show Steps p.tables e below (s₁.setTop (mkF m 3 #[.val (.int ln), .val (.int la), .val (.int lb), .val (.int lc), .val (.int ld), .unset, .unset, .unset, .unset, .unset, .unset, .unset, .unset, .unset, .unset, .unset, .unset, .unset, .unset] [(.int n)])) _
    refine XS.istore X0.here hx rfl (hb hby at_3) rfl (l' := #[.val (.int ln), .val (.int la), .val (.int lb), .val (.int lc), .val (.int ld), .val (.int n), .unset, .unset, .unset, .unset, .unset, .unset, .unset, .unset, .unset, .unset, .unset, .unset, .unset]) rfl ?_
    show Steps p.tables e below (s₁.setTop (mkF m 5 #[.val (.int ln), .val (.int la), .val (.int lb), .val (.int lc), .val (.int ld), .val (.int n), .unset, .unset, .unset, .unset, .unset, .unset, .unset, .unset, .unset, .unset, .unset, .unset, .unset] [])) _
    refine XS.iconst X0.here hx rfl (hb hby at_5) ?_
    show Steps p.tables e below (s₁.setTop (mkF m 6 #[.val (.int ln), .val (.int la), .val (.int lb), .val (.int lc), .val (.int ld), .val (.int n), .unset, .unset, .unset, .unset, .unset, .unset, .unset, .unset, .unset, .unset, .unset, .unset, .unset] [(.int (1 : Int32))])) _
    refine XS.iloadN X0.here hx rfl (hb hby at_6) rfl ?_
    show Steps p.tables e below (s₁.setTop (mkF m 7 #[.val (.int ln), .val (.int la), .val (.int lb), .val (.int lc), .val (.int ld), .val (.int n), .unset, .unset, .unset, .unset, .unset, .unset, .unset, .unset, .unset, .unset, .unset, .unset, .unset] [(.int la), (.int (1 : Int32))])) _
    refine X0.ldcInt hx hown (mvT hZ (hw _ (List.mem_of_getElem? (i := 0) rfl))) (g := (mkF m 7 #[.val (.int ln), .val (.int la), .val (.int lb), .val (.int lc), .val (.int ld), .val (.int n), .unset, .unset, .unset, .unset, .unset, .unset, .unset, .unset, .unset, .unset, .unset, .unset, .unset] [(.int la), (.int (1 : Int32))])) rfl (hb hby at_7) _ ?_
    show Steps p.tables e below (s₁.setTop (mkF m 9 #[.val (.int ln), .val (.int la), .val (.int lb), .val (.int lc), .val (.int ld), .val (.int n), .unset, .unset, .unset, .unset, .unset, .unset, .unset, .unset, .unset, .unset, .unset, .unset, .unset] [(.int (536870911 : Int32)), (.int la), (.int (1 : Int32))])) _
    refine XS.iand X0.here hx rfl (hb hby at_9) rfl ?_
    show Steps p.tables e below (s₁.setTop (mkF m 10 #[.val (.int ln), .val (.int la), .val (.int lb), .val (.int lc), .val (.int ld), .val (.int n), .unset, .unset, .unset, .unset, .unset, .unset, .unset, .unset, .unset, .unset, .unset, .unset, .unset] [(.int (la &&& (536870911 : Int32))), (.int (1 : Int32))])) _
    refine XS.iadd X0.here hx rfl (hb hby at_10) rfl ?_
    show Steps p.tables e below (s₁.setTop (mkF m 11 #[.val (.int ln), .val (.int la), .val (.int lb), .val (.int lc), .val (.int ld), .val (.int n), .unset, .unset, .unset, .unset, .unset, .unset, .unset, .unset, .unset, .unset, .unset, .unset, .unset] [(.int ((1 : Int32) + (la &&& (536870911 : Int32))))])) _
    refine castTop (g' := (mkF m 11 #[.val (.int ln), .val (.int la), .val (.int lb), .val (.int lc), .val (.int ld), .val (.int n), .unset, .unset, .unset, .unset, .unset, .unset, .unset, .unset, .unset, .unset, .unset, .unset, .unset] [(.int r0)])) (by rw [hr0]) ?_
    show Steps p.tables e below (s₁.setTop (mkF m 11 #[.val (.int ln), .val (.int la), .val (.int lb), .val (.int lc), .val (.int ld), .val (.int n), .unset, .unset, .unset, .unset, .unset, .unset, .unset, .unset, .unset, .unset, .unset, .unset, .unset] [(.int r0)])) _
    refine XS.istore X0.here hx rfl (hb hby at_11) rfl (l' := #[.val (.int ln), .val (.int la), .val (.int lb), .val (.int lc), .val (.int ld), .val (.int n), .val (.int r0), .unset, .unset, .unset, .unset, .unset, .unset, .unset, .unset, .unset, .unset, .unset, .unset]) rfl ?_
    show Steps p.tables e below (s₁.setTop (mkF m 13 #[.val (.int ln), .val (.int la), .val (.int lb), .val (.int lc), .val (.int ld), .val (.int n), .val (.int r0), .unset, .unset, .unset, .unset, .unset, .unset, .unset, .unset, .unset, .unset, .unset, .unset] [])) _
    refine XS.iload X0.here hx rfl (hb hby at_13) rfl ?_
    show Steps p.tables e below (s₁.setTop (mkF m 15 #[.val (.int ln), .val (.int la), .val (.int lb), .val (.int lc), .val (.int ld), .val (.int n), .val (.int r0), .unset, .unset, .unset, .unset, .unset, .unset, .unset, .unset, .unset, .unset, .unset, .unset] [(.int r0)])) _
    refine XS.iconst X0.here hx rfl (hb hby at_15) ?_
    show Steps p.tables e below (s₁.setTop (mkF m 16 #[.val (.int ln), .val (.int la), .val (.int lb), .val (.int lc), .val (.int ld), .val (.int n), .val (.int r0), .unset, .unset, .unset, .unset, .unset, .unset, .unset, .unset, .unset, .unset, .unset, .unset] [(.int (1 : Int32)), (.int r0)])) _
    refine XS.iadd X0.here hx rfl (hb hby at_16) rfl ?_
    show Steps p.tables e below (s₁.setTop (mkF m 17 #[.val (.int ln), .val (.int la), .val (.int lb), .val (.int lc), .val (.int ld), .val (.int n), .val (.int r0), .unset, .unset, .unset, .unset, .unset, .unset, .unset, .unset, .unset, .unset, .unset, .unset] [(.int (r0 + (1 : Int32)))])) _
    refine XS.iloadN X0.here hx rfl (hb hby at_17) rfl ?_
    show Steps p.tables e below (s₁.setTop (mkF m 18 #[.val (.int ln), .val (.int la), .val (.int lb), .val (.int lc), .val (.int ld), .val (.int n), .val (.int r0), .unset, .unset, .unset, .unset, .unset, .unset, .unset, .unset, .unset, .unset, .unset, .unset] [(.int lb), (.int (r0 + (1 : Int32)))])) _
    refine X0.ldcInt hx hown (mvT hZ (hw _ (List.mem_of_getElem? (i := 0) rfl))) (g := (mkF m 18 #[.val (.int ln), .val (.int la), .val (.int lb), .val (.int lc), .val (.int ld), .val (.int n), .val (.int r0), .unset, .unset, .unset, .unset, .unset, .unset, .unset, .unset, .unset, .unset, .unset, .unset] [(.int lb), (.int (r0 + (1 : Int32)))])) rfl (hb hby at_18) _ ?_
    show Steps p.tables e below (s₁.setTop (mkF m 20 #[.val (.int ln), .val (.int la), .val (.int lb), .val (.int lc), .val (.int ld), .val (.int n), .val (.int r0), .unset, .unset, .unset, .unset, .unset, .unset, .unset, .unset, .unset, .unset, .unset, .unset] [(.int (536870911 : Int32)), (.int lb), (.int (r0 + (1 : Int32)))])) _
    refine XS.iand X0.here hx rfl (hb hby at_20) rfl ?_
    show Steps p.tables e below (s₁.setTop (mkF m 21 #[.val (.int ln), .val (.int la), .val (.int lb), .val (.int lc), .val (.int ld), .val (.int n), .val (.int r0), .unset, .unset, .unset, .unset, .unset, .unset, .unset, .unset, .unset, .unset, .unset, .unset] [(.int (lb &&& (536870911 : Int32))), (.int (r0 + (1 : Int32)))])) _
    refine XS.iadd X0.here hx rfl (hb hby at_21) rfl ?_
    show Steps p.tables e below (s₁.setTop (mkF m 22 #[.val (.int ln), .val (.int la), .val (.int lb), .val (.int lc), .val (.int ld), .val (.int n), .val (.int r0), .unset, .unset, .unset, .unset, .unset, .unset, .unset, .unset, .unset, .unset, .unset, .unset] [(.int ((r0 + (1 : Int32)) + (lb &&& (536870911 : Int32))))])) _
    refine castTop (g' := (mkF m 22 #[.val (.int ln), .val (.int la), .val (.int lb), .val (.int lc), .val (.int ld), .val (.int n), .val (.int r0), .unset, .unset, .unset, .unset, .unset, .unset, .unset, .unset, .unset, .unset, .unset, .unset] [(.int r1)])) (by rw [hr1]) ?_
    show Steps p.tables e below (s₁.setTop (mkF m 22 #[.val (.int ln), .val (.int la), .val (.int lb), .val (.int lc), .val (.int ld), .val (.int n), .val (.int r0), .unset, .unset, .unset, .unset, .unset, .unset, .unset, .unset, .unset, .unset, .unset, .unset] [(.int r1)])) _
    refine XS.istore X0.here hx rfl (hb hby at_22) rfl (l' := #[.val (.int ln), .val (.int la), .val (.int lb), .val (.int lc), .val (.int ld), .val (.int n), .val (.int r0), .val (.int r1), .unset, .unset, .unset, .unset, .unset, .unset, .unset, .unset, .unset, .unset, .unset]) rfl ?_
    show Steps p.tables e below (s₁.setTop (mkF m 24 #[.val (.int ln), .val (.int la), .val (.int lb), .val (.int lc), .val (.int ld), .val (.int n), .val (.int r0), .val (.int r1), .unset, .unset, .unset, .unset, .unset, .unset, .unset, .unset, .unset, .unset, .unset] [])) _
    refine XS.iload X0.here hx rfl (hb hby at_24) rfl ?_
    show Steps p.tables e below (s₁.setTop (mkF m 26 #[.val (.int ln), .val (.int la), .val (.int lb), .val (.int lc), .val (.int ld), .val (.int n), .val (.int r0), .val (.int r1), .unset, .unset, .unset, .unset, .unset, .unset, .unset, .unset, .unset, .unset, .unset] [(.int r1)])) _
    refine XS.iconst X0.here hx rfl (hb hby at_26) ?_
    show Steps p.tables e below (s₁.setTop (mkF m 27 #[.val (.int ln), .val (.int la), .val (.int lb), .val (.int lc), .val (.int ld), .val (.int n), .val (.int r0), .val (.int r1), .unset, .unset, .unset, .unset, .unset, .unset, .unset, .unset, .unset, .unset, .unset] [(.int (1 : Int32)), (.int r1)])) _
    refine XS.iadd X0.here hx rfl (hb hby at_27) rfl ?_
    show Steps p.tables e below (s₁.setTop (mkF m 28 #[.val (.int ln), .val (.int la), .val (.int lb), .val (.int lc), .val (.int ld), .val (.int n), .val (.int r0), .val (.int r1), .unset, .unset, .unset, .unset, .unset, .unset, .unset, .unset, .unset, .unset, .unset] [(.int (r1 + (1 : Int32)))])) _
    refine XS.iloadN X0.here hx rfl (hb hby at_28) rfl ?_
    show Steps p.tables e below (s₁.setTop (mkF m 29 #[.val (.int ln), .val (.int la), .val (.int lb), .val (.int lc), .val (.int ld), .val (.int n), .val (.int r0), .val (.int r1), .unset, .unset, .unset, .unset, .unset, .unset, .unset, .unset, .unset, .unset, .unset] [(.int lc), (.int (r1 + (1 : Int32)))])) _
    refine X0.ldcInt hx hown (mvT hZ (hw _ (List.mem_of_getElem? (i := 0) rfl))) (g := (mkF m 29 #[.val (.int ln), .val (.int la), .val (.int lb), .val (.int lc), .val (.int ld), .val (.int n), .val (.int r0), .val (.int r1), .unset, .unset, .unset, .unset, .unset, .unset, .unset, .unset, .unset, .unset, .unset] [(.int lc), (.int (r1 + (1 : Int32)))])) rfl (hb hby at_29) _ ?_
    show Steps p.tables e below (s₁.setTop (mkF m 31 #[.val (.int ln), .val (.int la), .val (.int lb), .val (.int lc), .val (.int ld), .val (.int n), .val (.int r0), .val (.int r1), .unset, .unset, .unset, .unset, .unset, .unset, .unset, .unset, .unset, .unset, .unset] [(.int (536870911 : Int32)), (.int lc), (.int (r1 + (1 : Int32)))])) _
    refine XS.iand X0.here hx rfl (hb hby at_31) rfl ?_
    show Steps p.tables e below (s₁.setTop (mkF m 32 #[.val (.int ln), .val (.int la), .val (.int lb), .val (.int lc), .val (.int ld), .val (.int n), .val (.int r0), .val (.int r1), .unset, .unset, .unset, .unset, .unset, .unset, .unset, .unset, .unset, .unset, .unset] [(.int (lc &&& (536870911 : Int32))), (.int (r1 + (1 : Int32)))])) _
    refine XS.iadd X0.here hx rfl (hb hby at_32) rfl ?_
    show Steps p.tables e below (s₁.setTop (mkF m 33 #[.val (.int ln), .val (.int la), .val (.int lb), .val (.int lc), .val (.int ld), .val (.int n), .val (.int r0), .val (.int r1), .unset, .unset, .unset, .unset, .unset, .unset, .unset, .unset, .unset, .unset, .unset] [(.int ((r1 + (1 : Int32)) + (lc &&& (536870911 : Int32))))])) _
    refine castTop (g' := (mkF m 33 #[.val (.int ln), .val (.int la), .val (.int lb), .val (.int lc), .val (.int ld), .val (.int n), .val (.int r0), .val (.int r1), .unset, .unset, .unset, .unset, .unset, .unset, .unset, .unset, .unset, .unset, .unset] [(.int r2)])) (by rw [hr2]) ?_
    show Steps p.tables e below (s₁.setTop (mkF m 33 #[.val (.int ln), .val (.int la), .val (.int lb), .val (.int lc), .val (.int ld), .val (.int n), .val (.int r0), .val (.int r1), .unset, .unset, .unset, .unset, .unset, .unset, .unset, .unset, .unset, .unset, .unset] [(.int r2)])) _
    refine XS.istore X0.here hx rfl (hb hby at_33) rfl (l' := #[.val (.int ln), .val (.int la), .val (.int lb), .val (.int lc), .val (.int ld), .val (.int n), .val (.int r0), .val (.int r1), .val (.int r2), .unset, .unset, .unset, .unset, .unset, .unset, .unset, .unset, .unset, .unset]) rfl ?_
    show Steps p.tables e below (s₁.setTop (mkF m 35 #[.val (.int ln), .val (.int la), .val (.int lb), .val (.int lc), .val (.int ld), .val (.int n), .val (.int r0), .val (.int r1), .val (.int r2), .unset, .unset, .unset, .unset, .unset, .unset, .unset, .unset, .unset, .unset] [])) _
    refine XS.iload X0.here hx rfl (hb hby at_35) rfl ?_
    show Steps p.tables e below (s₁.setTop (mkF m 37 #[.val (.int ln), .val (.int la), .val (.int lb), .val (.int lc), .val (.int ld), .val (.int n), .val (.int r0), .val (.int r1), .val (.int r2), .unset, .unset, .unset, .unset, .unset, .unset, .unset, .unset, .unset, .unset] [(.int n)])) _
    refine XS.iload X0.here hx rfl (hb hby at_37) rfl ?_
    show Steps p.tables e below (s₁.setTop (mkF m 39 #[.val (.int ln), .val (.int la), .val (.int lb), .val (.int lc), .val (.int ld), .val (.int n), .val (.int r0), .val (.int r1), .val (.int r2), .unset, .unset, .unset, .unset, .unset, .unset, .unset, .unset, .unset, .unset] [(.int ld), (.int n)])) _
    refine X0.ldcInt hx hown (mvT hZ (hw _ (List.mem_of_getElem? (i := 1) rfl))) (g := (mkF m 39 #[.val (.int ln), .val (.int la), .val (.int lb), .val (.int lc), .val (.int ld), .val (.int n), .val (.int r0), .val (.int r1), .val (.int r2), .unset, .unset, .unset, .unset, .unset, .unset, .unset, .unset, .unset, .unset] [(.int ld), (.int n)])) rfl (hb hby at_39) _ ?_
    show Steps p.tables e below (s₁.setTop (mkF m 41 #[.val (.int ln), .val (.int la), .val (.int lb), .val (.int lc), .val (.int ld), .val (.int n), .val (.int r0), .val (.int r1), .val (.int r2), .unset, .unset, .unset, .unset, .unset, .unset, .unset, .unset, .unset, .unset] [(.int (1073741823 : Int32)), (.int ld), (.int n)])) _
    refine XS.iand X0.here hx rfl (hb hby at_41) rfl ?_
    show Steps p.tables e below (s₁.setTop (mkF m 42 #[.val (.int ln), .val (.int la), .val (.int lb), .val (.int lc), .val (.int ld), .val (.int n), .val (.int r0), .val (.int r1), .val (.int r2), .unset, .unset, .unset, .unset, .unset, .unset, .unset, .unset, .unset, .unset] [(.int (ld &&& (1073741823 : Int32))), (.int n)])) _
    refine XS.iadd X0.here hx rfl (hb hby at_42) rfl ?_
    show Steps p.tables e below (s₁.setTop (mkF m 43 #[.val (.int ln), .val (.int la), .val (.int lb), .val (.int lc), .val (.int ld), .val (.int n), .val (.int r0), .val (.int r1), .val (.int r2), .unset, .unset, .unset, .unset, .unset, .unset, .unset, .unset, .unset, .unset] [(.int (n + (ld &&& (1073741823 : Int32))))])) _
    refine castTop (g' := (mkF m 43 #[.val (.int ln), .val (.int la), .val (.int lb), .val (.int lc), .val (.int ld), .val (.int n), .val (.int r0), .val (.int r1), .val (.int r2), .unset, .unset, .unset, .unset, .unset, .unset, .unset, .unset, .unset, .unset] [(.int rel)])) (by rw [hrel]) ?_
    show Steps p.tables e below (s₁.setTop (mkF m 43 #[.val (.int ln), .val (.int la), .val (.int lb), .val (.int lc), .val (.int ld), .val (.int n), .val (.int r0), .val (.int r1), .val (.int r2), .unset, .unset, .unset, .unset, .unset, .unset, .unset, .unset, .unset, .unset] [(.int rel)])) _
    refine XS.istore X0.here hx rfl (hb hby at_43) rfl (l' := #[.val (.int ln), .val (.int la), .val (.int lb), .val (.int lc), .val (.int ld), .val (.int n), .val (.int r0), .val (.int r1), .val (.int r2), .val (.int rel), .unset, .unset, .unset, .unset, .unset, .unset, .unset, .unset, .unset]) rfl ?_
    exact k)
  obtain ⟨Z0', Z1', Z2'⟩ := own_ranks hr0 hr1 hr2
  rcases own_n4 ln n hn with rfl | rfl | rfl | rfl
  · have k102 : ∀ t, Steps p.tables e below (s₁.setTop (mkF m 51 #[.val (.int ln), .val (.int la), .val (.int lb), .val (.int lc), .val (.int ld), .val (.int (0 : Int32)), .val (.int r0), .val (.int r1), .val (.int r2), .val (.int rel), .unset, .unset, .unset, .unset, .unset, .unset, .unset, .unset, .unset] [(.int (0 : Int32))])) t → Steps p.tables e below (s₁.setTop (entryFrame m #[(.int ln), (.int la), (.int lb), (.int lc), (.int ld)] maxLocals)) t := fun t k => k101 t (by
      show Steps p.tables e below (s₁.setTop (mkF m 45 #[.val (.int ln), .val (.int la), .val (.int lb), .val (.int lc), .val (.int ld), .val (.int (0 : Int32)), .val (.int r0), .val (.int r1), .val (.int r2), .val (.int rel), .unset, .unset, .unset, .unset, .unset, .unset, .unset, .unset, .unset] [])) _
      refine XS.iload X0.here hx rfl (hb hby at_45) rfl ?_
      show Steps p.tables e below (s₁.setTop (mkF m 47 #[.val (.int ln), .val (.int la), .val (.int lb), .val (.int lc), .val (.int ld), .val (.int (0 : Int32)), .val (.int r0), .val (.int r1), .val (.int r2), .val (.int rel), .unset, .unset, .unset, .unset, .unset, .unset, .unset, .unset, .unset] [(.int (0 : Int32))])) _
      refine XS.ifNo X0.here hx rfl (hb hby at_47) rfl ((if0 _ _).trans (teq (by decide)).2) ?_
      show Steps p.tables e below (s₁.setTop (mkF m 50 #[.val (.int ln), .val (.int la), .val (.int lb), .val (.int lc), .val (.int ld), .val (.int (0 : Int32)), .val (.int r0), .val (.int r1), .val (.int r2), .val (.int rel), .unset, .unset, .unset, .unset, .unset, .unset, .unset, .unset, .unset] [])) _
      refine XS.iconst X0.here hx rfl (hb hby at_50) ?_
      exact k)
    obtain ⟨T103, h103, k103, X103, e103, E103, A103, st103⟩ := newP X0 hx hZ (hw _ (List.mem_of_getElem? (i := 2) rfl)) e0 (g := (mkF m 51 #[.val (.int ln), .val (.int la), .val (.int lb), .val (.int lc), .val (.int ld), .val (.int (0 : Int32)), .val (.int r0), .val (.int r1), .val (.int r2), .val (.int rel), .unset, .unset, .unset, .unset, .unset, .unset, .unset, .unset, .unset] [(.int (0 : Int32))])) rfl (hb hby at_51) rfl (by decide) (cap := 0) (by decide) (by decide) (by decide) (by decide)
    obtain ⟨b103, g103⟩ : ∃ z, z = h0.size := ⟨_, rfl⟩
    rw [← g103] at A103 st103
    have g104 : n0 ≤ b103 := Nat.le_trans Z0 (Nat.le_of_eq g103.symm)
    have Z105 : n0 ≤ h103.size := Nat.le_trans Z0 E103.1
    have hk106 : 0 ≤ h103.size := Nat.le_trans (Nat.zero_le _) E103.1
    have V107 : Arv Z h103 b103 k103 .int (0 : Int32) [] (.int (0 : Int32)) := (Arv.new A103 (by decide)).pad (pad_rep [] (.int (0 : Int32)) 0)
    have k108 : ∀ t, Steps p.tables e below (T103.setTop (mkF m 53 #[.val (.int ln), .val (.int la), .val (.int lb), .val (.int lc), .val (.int ld), .val (.int (0 : Int32)), .val (.int r0), .val (.int r1), .val (.int r2), .val (.int rel), .unset, .unset, .unset, .unset, .unset, .unset, .unset, .unset, .unset] [(.ref b103)])) t → Steps p.tables e below (s₁.setTop (entryFrame m #[(.int ln), (.int la), (.int lb), (.int lc), (.int ld)] maxLocals)) t := fun t k => k102 t (st103 t k)
    obtain ⟨i109, hi109⟩ : ∃ z : Int32, z = (r2 + (ld &&& (255 : Int32))) := ⟨_, rfl⟩
    have k110 : ∀ t, Steps p.tables e below (T103.setTop (mkF m 132 #[.val (.int ln), .val (.int la), .val (.int lb), .val (.int lc), .val (.int ld), .val (.int (0 : Int32)), .val (.int r0), .val (.int r1), .val (.int r2), .val (.int rel), .val (.ref b103), .val (.int i109), .unset, .unset, .unset, .unset, .unset, .unset, .unset] [])) t → Steps p.tables e below (s₁.setTop (entryFrame m #[(.int ln), (.int la), (.int lb), (.int lc), (.int ld)] maxLocals)) t := fun t k => k108 t (by
      show Steps p.tables e below (T103.setTop (mkF m 53 #[.val (.int ln), .val (.int la), .val (.int lb), .val (.int lc), .val (.int ld), .val (.int (0 : Int32)), .val (.int r0), .val (.int r1), .val (.int r2), .val (.int rel), .unset, .unset, .unset, .unset, .unset, .unset, .unset, .unset, .unset] [(.ref b103)])) _
      refine XS.astore X103.here hx rfl (hb hby at_53) rfl rfl (l' := #[.val (.int ln), .val (.int la), .val (.int lb), .val (.int lc), .val (.int ld), .val (.int (0 : Int32)), .val (.int r0), .val (.int r1), .val (.int r2), .val (.int rel), .val (.ref b103), .unset, .unset, .unset, .unset, .unset, .unset, .unset, .unset]) rfl ?_
      show Steps p.tables e below (T103.setTop (mkF m 55 #[.val (.int ln), .val (.int la), .val (.int lb), .val (.int lc), .val (.int ld), .val (.int (0 : Int32)), .val (.int r0), .val (.int r1), .val (.int r2), .val (.int rel), .val (.ref b103), .unset, .unset, .unset, .unset, .unset, .unset, .unset, .unset] [])) _
      refine XS.goto X103.here hx rfl (pc0 := 55) (pc' := 121) rfl (hb hby at_55) (by decide) (by decide) ?_
      show Steps p.tables e below (T103.setTop (mkF m 121 #[.val (.int ln), .val (.int la), .val (.int lb), .val (.int lc), .val (.int ld), .val (.int (0 : Int32)), .val (.int r0), .val (.int r1), .val (.int r2), .val (.int rel), .val (.ref b103), .unset, .unset, .unset, .unset, .unset, .unset, .unset, .unset] [])) _
      refine XS.iload X103.here hx rfl (hb hby at_121) rfl ?_
      show Steps p.tables e below (T103.setTop (mkF m 123 #[.val (.int ln), .val (.int la), .val (.int lb), .val (.int lc), .val (.int ld), .val (.int (0 : Int32)), .val (.int r0), .val (.int r1), .val (.int r2), .val (.int rel), .val (.ref b103), .unset, .unset, .unset, .unset, .unset, .unset, .unset, .unset] [(.int r2)])) _
      refine XS.iload X103.here hx rfl (hb hby at_123) rfl ?_
      show Steps p.tables e below (T103.setTop (mkF m 125 #[.val (.int ln), .val (.int la), .val (.int lb), .val (.int lc), .val (.int ld), .val (.int (0 : Int32)), .val (.int r0), .val (.int r1), .val (.int r2), .val (.int rel), .val (.ref b103), .unset, .unset, .unset, .unset, .unset, .unset, .unset, .unset] [(.int ld), (.int r2)])) _
      refine XS.sipush X103.here hx rfl (hb hby at_125) ?_
      show Steps p.tables e below (T103.setTop (mkF m 128 #[.val (.int ln), .val (.int la), .val (.int lb), .val (.int lc), .val (.int ld), .val (.int (0 : Int32)), .val (.int r0), .val (.int r1), .val (.int r2), .val (.int rel), .val (.ref b103), .unset, .unset, .unset, .unset, .unset, .unset, .unset, .unset] [(.int (255 : Int32)), (.int ld), (.int r2)])) _
      refine XS.iand X103.here hx rfl (hb hby at_128) rfl ?_
      show Steps p.tables e below (T103.setTop (mkF m 129 #[.val (.int ln), .val (.int la), .val (.int lb), .val (.int lc), .val (.int ld), .val (.int (0 : Int32)), .val (.int r0), .val (.int r1), .val (.int r2), .val (.int rel), .val (.ref b103), .unset, .unset, .unset, .unset, .unset, .unset, .unset, .unset] [(.int (ld &&& (255 : Int32))), (.int r2)])) _
      refine XS.iadd X103.here hx rfl (hb hby at_129) rfl ?_
      show Steps p.tables e below (T103.setTop (mkF m 130 #[.val (.int ln), .val (.int la), .val (.int lb), .val (.int lc), .val (.int ld), .val (.int (0 : Int32)), .val (.int r0), .val (.int r1), .val (.int r2), .val (.int rel), .val (.ref b103), .unset, .unset, .unset, .unset, .unset, .unset, .unset, .unset] [(.int (r2 + (ld &&& (255 : Int32))))])) _
      refine castTop (g' := (mkF m 130 #[.val (.int ln), .val (.int la), .val (.int lb), .val (.int lc), .val (.int ld), .val (.int (0 : Int32)), .val (.int r0), .val (.int r1), .val (.int r2), .val (.int rel), .val (.ref b103), .unset, .unset, .unset, .unset, .unset, .unset, .unset, .unset] [(.int i109)])) (by rw [hi109]) ?_
      show Steps p.tables e below (T103.setTop (mkF m 130 #[.val (.int ln), .val (.int la), .val (.int lb), .val (.int lc), .val (.int ld), .val (.int (0 : Int32)), .val (.int r0), .val (.int r1), .val (.int r2), .val (.int rel), .val (.ref b103), .unset, .unset, .unset, .unset, .unset, .unset, .unset, .unset] [(.int i109)])) _
      refine XS.istore X103.here hx rfl (hb hby at_130) rfl (l' := #[.val (.int ln), .val (.int la), .val (.int lb), .val (.int lc), .val (.int ld), .val (.int (0 : Int32)), .val (.int r0), .val (.int r1), .val (.int r2), .val (.int rel), .val (.ref b103), .val (.int i109), .unset, .unset, .unset, .unset, .unset, .unset, .unset]) rfl ?_
      exact k)
    obtain ⟨T111, h111, X111, e111, E111, A111, D111, -, st111⟩ := newO X103 hx hZ hown (hw _ (List.mem_of_getElem? (i := 3) rfl)) (hw _ (List.mem_of_getElem? (i := 4) rfl)) (hw _ (List.mem_of_getElem? (i := 5) rfl)) e103 (g := (mkF m 132 #[.val (.int ln), .val (.int la), .val (.int lb), .val (.int lc), .val (.int ld), .val (.int (0 : Int32)), .val (.int r0), .val (.int r1), .val (.int r2), .val (.int rel), .val (.ref b103), .val (.int i109), .unset, .unset, .unset, .unset, .unset, .unset, .unset] [])) rfl (hb hby at_132) (by decide) (by decide)
    obtain ⟨b111, g111⟩ : ∃ z, z = h103.size := ⟨_, rfl⟩
    rw [← g111] at A111 D111 st111
    have n112 : b103 ≠ b111 := Nat.ne_of_lt (Nat.lt_of_lt_of_le V107.lt (Nat.le_of_eq g111.symm))
    have g113 : n0 ≤ b111 := Nat.le_trans Z105 (Nat.le_of_eq g111.symm)
    have F114 := V107.ext E111
    have Z115 : n0 ≤ h111.size := Nat.le_trans Z105 E111.1
    have hk116 : 0 ≤ h111.size := Nat.le_trans hk106 E111.1
    have F117 : Fld Z h111 b111 "com/example/round2/round2/eval/TopicResult" "topic" "Ljava/lang/String;" .null := D111 (Or.inr (hw _ (List.mem_of_getElem? (i := 21) rfl))) (ty := (.object "java/lang/String")) (by decide)
    have F118 : Fld Z h111 b111 "com/example/round2/round2/eval/TopicResult" "retrieved" "I" (.int (0 : Int32)) := D111 (Or.inr (hw _ (List.mem_of_getElem? (i := 23) rfl))) (ty := .int) (by decide)
    have F119 : Fld Z h111 b111 "com/example/round2/round2/eval/TopicResult" "relevant" "I" (.int (0 : Int32)) := D111 (Or.inr (hw _ (List.mem_of_getElem? (i := 25) rfl))) (ty := .int) (by decide)
    have F120 : Fld Z h111 b111 "com/example/round2/round2/eval/TopicResult" "relevantRanks" "[I" .null := D111 (Or.inr (hw _ (List.mem_of_getElem? (i := 27) rfl))) (ty := (.array .int)) (by decide)
    have k121 : ∀ t, Steps p.tables e below (T111.setTop (mkF m 135 #[.val (.int ln), .val (.int la), .val (.int lb), .val (.int lc), .val (.int ld), .val (.int (0 : Int32)), .val (.int r0), .val (.int r1), .val (.int r2), .val (.int rel), .val (.ref b103), .val (.int i109), .unset, .unset, .unset, .unset, .unset, .unset, .unset] [(.ref b111)])) t → Steps p.tables e below (s₁.setTop (entryFrame m #[(.int ln), (.int la), (.int lb), (.int lc), (.int ld)] maxLocals)) t := fun t k => k110 t (st111 t k)
    have k122 : ∀ t, Steps p.tables e below (T111.setTop (mkF m 136 #[.val (.int ln), .val (.int la), .val (.int lb), .val (.int lc), .val (.int ld), .val (.int (0 : Int32)), .val (.int r0), .val (.int r1), .val (.int r2), .val (.int rel), .val (.ref b103), .val (.int i109), .unset, .unset, .unset, .unset, .unset, .unset, .unset] [(.ref b111), (.ref b111)])) t → Steps p.tables e below (s₁.setTop (entryFrame m #[(.int ln), (.int la), (.int lb), (.int lc), (.int ld)] maxLocals)) t := fun t k => k121 t (by
      show Steps p.tables e below (T111.setTop (mkF m 135 #[.val (.int ln), .val (.int la), .val (.int lb), .val (.int lc), .val (.int ld), .val (.int (0 : Int32)), .val (.int r0), .val (.int r1), .val (.int r2), .val (.int rel), .val (.ref b103), .val (.int i109), .unset, .unset, .unset, .unset, .unset, .unset, .unset] [(.ref b111)])) _
      refine XS.dup X111.here hx rfl (hb hby at_135) rfl rfl ?_
      exact k)
    obtain ⟨b123, T123, h123, kk123, X123, e123, E123, hS123, hk123, hZ123, hown123, st123⟩ := ldcS (s := s) (vm0 := s.vm) X111 hx hZ hown (hw _ (List.mem_of_getElem? (i := 6) rfl)) (own_strAtoms hw) e111 hS0 hk116 (g := (mkF m 136 #[.val (.int ln), .val (.int la), .val (.int lb), .val (.int lc), .val (.int ld), .val (.int (0 : Int32)), .val (.int r0), .val (.int r1), .val (.int r2), .val (.int rel), .val (.ref b103), .val (.int i109), .unset, .unset, .unset, .unset, .unset, .unset, .unset] [(.ref b111), (.ref b111)])) rfl (hb hby at_136) (n := 4) (by decide) (by decide) (by decide) (by decide)
    have F124 := F114.ext E123
    have F125 := A111.ext E123
    have F126 := F117.ext E123
    have F127 := F118.ext E123
    have F128 := F119.ext E123
    have F129 := F120.ext E123
    have Z130 : n0 ≤ h123.size := Nat.le_trans Z115 E123.1
    have k131 : ∀ t, Steps p.tables e below (T123.setTop (mkF m 138 #[.val (.int ln), .val (.int la), .val (.int lb), .val (.int lc), .val (.int ld), .val (.int (0 : Int32)), .val (.int r0), .val (.int r1), .val (.int r2), .val (.int rel), .val (.ref b103), .val (.int i109), .unset, .unset, .unset, .unset, .unset, .unset, .unset] [(.ref b123), (.ref b111), (.ref b111)])) t → Steps p.tables e below (s₁.setTop (entryFrame m #[(.int ln), (.int la), (.int lb), (.int lc), (.int ld)] maxLocals)) t := fun t k => k122 t (st123 t k)
    have k132 : ∀ t, Steps p.tables e below (T123.setTop (mkF m 144 #[.val (.int ln), .val (.int la), .val (.int lb), .val (.int lc), .val (.int ld), .val (.int (0 : Int32)), .val (.int r0), .val (.int r1), .val (.int r2), .val (.int rel), .val (.ref b103), .val (.int i109), .unset, .unset, .unset, .unset, .unset, .unset, .unset] [(.ref b103), (.int rel), (.int i109), (.ref b123), (.ref b111), (.ref b111)])) t → Steps p.tables e below (s₁.setTop (entryFrame m #[(.int ln), (.int la), (.int lb), (.int lc), (.int ld)] maxLocals)) t := fun t k => k131 t (by
      show Steps p.tables e below (T123.setTop (mkF m 138 #[.val (.int ln), .val (.int la), .val (.int lb), .val (.int lc), .val (.int ld), .val (.int (0 : Int32)), .val (.int r0), .val (.int r1), .val (.int r2), .val (.int rel), .val (.ref b103), .val (.int i109), .unset, .unset, .unset, .unset, .unset, .unset, .unset] [(.ref b123), (.ref b111), (.ref b111)])) _
      refine XS.iload X123.here hx rfl (hb hby at_138) rfl ?_
      show Steps p.tables e below (T123.setTop (mkF m 140 #[.val (.int ln), .val (.int la), .val (.int lb), .val (.int lc), .val (.int ld), .val (.int (0 : Int32)), .val (.int r0), .val (.int r1), .val (.int r2), .val (.int rel), .val (.ref b103), .val (.int i109), .unset, .unset, .unset, .unset, .unset, .unset, .unset] [(.int i109), (.ref b123), (.ref b111), (.ref b111)])) _
      refine XS.iload X123.here hx rfl (hb hby at_140) rfl ?_
      show Steps p.tables e below (T123.setTop (mkF m 142 #[.val (.int ln), .val (.int la), .val (.int lb), .val (.int lc), .val (.int ld), .val (.int (0 : Int32)), .val (.int r0), .val (.int r1), .val (.int r2), .val (.int rel), .val (.ref b103), .val (.int i109), .unset, .unset, .unset, .unset, .unset, .unset, .unset] [(.int rel), (.int i109), (.ref b123), (.ref b111), (.ref b111)])) _
      refine XS.aload X123.here hx rfl (hb hby at_142) rfl rfl ?_
      exact k)
    obtain ⟨_, _, ⟨T133, L133, k133, n133⟩, -, X133, ⟨Lc133, hQ133, l133, y133, z133⟩, st133⟩ := X123.specialBack hx (y := (⟨"com/example/round2/round2/eval/TopicResult", "<init>", "(Ljava/lang/String;II[I)V"⟩ : MethodName)) rfl hown123 (mvT hZ123 (hw _ (List.mem_of_getElem? (i := 14) rfl))) (mvT hZ123 (hw _ (List.mem_of_getElem? (i := 15) rfl))) (mvT hZ123 (hw _ (List.mem_of_getElem? (i := 16) rfl))) (by decide) (backOf (W := 1) (rm1 l Z a0 hw [] b111 b123 i109 rel b103 h123 n0 Z130 F126 F127 F128 F129 F125 g113) hZ123 (hw _ (List.mem_of_getElem? (i := 16) rfl)) (hw _ (List.mem_of_getElem? (i := 5) rfl)) (by decide) (by decide)) (g := (mkF m 144 #[.val (.int ln), .val (.int la), .val (.int lb), .val (.int lc), .val (.int ld), .val (.int (0 : Int32)), .val (.int r0), .val (.int r1), .val (.int r2), .val (.int rel), .val (.ref b103), .val (.int i109), .unset, .unset, .unset, .unset, .unset, .unset, .unset] [(.ref b103), (.int rel), (.int i109), (.ref b123), (.ref b111), (.ref b111)])) rfl (by rw [hml]; rfl) (Steps.refl _) (a := b111) (argsL := [(.ref b123), (.int i109), (.int rel), (.ref b103)]) (rest := [(.ref b111)]) (lenOf pd__28Ljava_2flang_2fString_3bII_5bI_29V rfl) rfl (by show 2 * 0 + _ ≤ _; exact Nat.le_of_eq rfl) (hb hby at_144) (fun _ _ => ⟨rfl, e123, (by decide : 4 + 0 ≤ _), (by decide : 12 + 0 ≤ _)⟩)
    dsimp only [Pt.U, Pt.locs, Pt.cells, Pt.slots] at X133 l133 y133 z133 st133 hQ133
    subst l133 y133 z133
    obtain ⟨h133, e133⟩ : ∃ h', T133.heap = h' := ⟨_, rfl⟩
    rw [e133] at hQ133
    obtain ⟨rfl, N133q, K133, G133a, G133b, G133c⟩ := hQ133
    have N134 := Fr.app N0 N133q
    have k135 : ∀ t, Steps p.tables e below (T133.setTop (mkF m 147 #[.val (.int ln), .val (.int la), .val (.int lb), .val (.int lc), .val (.int ld), .val (.int (0 : Int32)), .val (.int r0), .val (.int r1), .val (.int r2), .val (.int rel), .val (.ref b103), .val (.int i109), .unset, .unset, .unset, .unset, .unset, .unset, .unset] [(.ref b111)])) t → Steps p.tables e below (s₁.setTop (entryFrame m #[(.int ln), (.int la), (.int lb), (.int lc), (.int ld)] maxLocals)) t := fun t k => k132 t (st133.trans k)
    have F136 := F124.keep K133 (ninS n112 nin0)
    have F137 := F125.keep K133
    have Z138 : n0 ≤ h133.size := Nat.le_trans Z130 K133.1
    have hk139 : kk123 ≤ h133.size := Nat.le_trans hk123 K133.1
    have k140 : ∀ t, Steps p.tables e below (T133.setTop (mkF m 151 #[.val (.int ln), .val (.int la), .val (.int lb), .val (.int lc), .val (.int ld), .val (.int (0 : Int32)), .val (.int r0), .val (.int r1), .val (.int r2), .val (.int rel), .val (.ref b103), .val (.int i109), .val (.ref b111), .unset, .unset, .unset, .unset, .unset, .unset] [(.ref b111)])) t → Steps p.tables e below (s₁.setTop (entryFrame m #[(.int ln), (.int la), (.int lb), (.int lc), (.int ld)] maxLocals)) t := fun t k => k135 t (by
      show Steps p.tables e below (T133.setTop (mkF m 147 #[.val (.int ln), .val (.int la), .val (.int lb), .val (.int lc), .val (.int ld), .val (.int (0 : Int32)), .val (.int r0), .val (.int r1), .val (.int r2), .val (.int rel), .val (.ref b103), .val (.int i109), .unset, .unset, .unset, .unset, .unset, .unset, .unset] [(.ref b111)])) _
      refine XS.astore X133.here hx rfl (hb hby at_147) rfl rfl (l' := #[.val (.int ln), .val (.int la), .val (.int lb), .val (.int lc), .val (.int ld), .val (.int (0 : Int32)), .val (.int r0), .val (.int r1), .val (.int r2), .val (.int rel), .val (.ref b103), .val (.int i109), .val (.ref b111), .unset, .unset, .unset, .unset, .unset, .unset]) rfl ?_
      show Steps p.tables e below (T133.setTop (mkF m 149 #[.val (.int ln), .val (.int la), .val (.int lb), .val (.int lc), .val (.int ld), .val (.int (0 : Int32)), .val (.int r0), .val (.int r1), .val (.int r2), .val (.int rel), .val (.ref b103), .val (.int i109), .val (.ref b111), .unset, .unset, .unset, .unset, .unset, .unset] [])) _
      refine XS.aload X133.here hx rfl (hb hby at_149) rfl rfl ?_
      exact k)
    by_cases cz : rel = (0 : Int32)
    · obtain ⟨cq141, kq141, q141a, q141b, q141c⟩ := isOf hZ123 e133 G133a
      obtain ⟨_, _, ⟨T141, L141, k141, n141⟩, -, X141, ⟨Lc141, hQ141, l141, y141, z141⟩, st141⟩ := X133.virtualBack hx (y := (⟨"com/example/round2/round2/eval/TopicResult", "averagePrecision", "()D"⟩ : MethodName)) (z := (⟨"com/example/round2/round2/eval/TopicResult", "averagePrecision", "()D"⟩ : MethodName)) hown123 (mvT hZ123 (hw _ (List.mem_of_getElem? (i := 28) rfl))) (mvT hZ123 (hw _ (List.mem_of_getElem? (i := 29) rfl))) (notFace_of_selects (args := #[]) (mvT hZ123 (hw _ (List.mem_of_getElem? (i := 31) rfl)))) (mvT hZ123 (hw _ (List.mem_of_getElem? (i := 31) rfl))) (mvT hZ123 (hw _ (List.mem_of_getElem? (i := 30) rfl))) (by decide) (backOf (W := 0) (avp0_1 l Z a0 hw [] b111 b103 k103 rel h133 n0 Z138 G133c G133b F136 cz) hZ123 (hw _ (List.mem_of_getElem? (i := 32) rfl)) (hw _ (List.mem_of_getElem? (i := 5) rfl)) (by decide) (by decide)) q141a q141c (g := (mkF m 151 #[.val (.int ln), .val (.int la), .val (.int lb), .val (.int lc), .val (.int ld), .val (.int (0 : Int32)), .val (.int r0), .val (.int r1), .val (.int r2), .val (.int rel), .val (.ref b103), .val (.int i109), .val (.ref b111), .unset, .unset, .unset, .unset, .unset, .unset] [(.ref b111)])) rfl (by rw [hml]; rfl) (Steps.refl _) (argsL := []) (rest := []) (lenOf pd__28_29D rfl) rfl (by show 2 * 0 + _ ≤ _; exact Nat.le_of_eq rfl) (hb hby at_151) (fun _ _ => ⟨rfl, e133, (by decide : 4 + 0 ≤ _), (by decide : 12 + 0 ≤ _)⟩)
      dsimp only [Pt.U, Pt.locs, Pt.cells, Pt.slots] at X141 l141 y141 z141 st141 hQ141
      subst l141 y141 z141
      obtain ⟨rfl, N141q, e141⟩ := hQ141
      have N142 := Fr.app N134 N141q
      have k143 : ∀ t, Steps p.tables e below (T141.setTop (mkF m 154 #[.val (.int ln), .val (.int la), .val (.int lb), .val (.int lc), .val (.int ld), .val (.int (0 : Int32)), .val (.int r0), .val (.int r1), .val (.int r2), .val (.int rel), .val (.ref b103), .val (.int i109), .val (.ref b111), .unset, .unset, .unset, .unset, .unset, .unset] [(.double (0 : UInt64))])) t → Steps p.tables e below (s₁.setTop (entryFrame m #[(.int ln), (.int la), (.int lb), (.int lc), (.int ld)] maxLocals)) t := fun t k => k140 t (st141.trans k)
      have k144 : ∀ t, Steps p.tables e below (T141.setTop (mkF m 243 #[.val (.int ln), .val (.int la), .val (.int lb), .val (.int lc), .val (.int ld), .val (.int (0 : Int32)), .val (.int r0), .val (.int r1), .val (.int r2), .val (.int rel), .val (.ref b103), .val (.int i109), .val (.ref b111), .val (.double (0 : UInt64)), .second, .val (.double (0 : UInt64)), .second, .val (.double (0 : UInt64)), .second] [(.int (1 : Int32))])) t → Steps p.tables e below (s₁.setTop (entryFrame m #[(.int ln), (.int la), (.int lb), (.int lc), (.int ld)] maxLocals)) t := fun t k => k143 t (by
        show Steps p.tables e below (T141.setTop (mkF m 154 #[.val (.int ln), .val (.int la), .val (.int lb), .val (.int lc), .val (.int ld), .val (.int (0 : Int32)), .val (.int r0), .val (.int r1), .val (.int r2), .val (.int rel), .val (.ref b103), .val (.int i109), .val (.ref b111), .unset, .unset, .unset, .unset, .unset, .unset] [(.double (0 : UInt64))])) _
        refine XS.dstore X141.here hx rfl (hb hby at_154) rfl (l' := #[.val (.int ln), .val (.int la), .val (.int lb), .val (.int lc), .val (.int ld), .val (.int (0 : Int32)), .val (.int r0), .val (.int r1), .val (.int r2), .val (.int rel), .val (.ref b103), .val (.int i109), .val (.ref b111), .val (.double (0 : UInt64)), .second, .unset, .unset, .unset, .unset]) rfl ?_
        show Steps p.tables e below (T141.setTop (mkF m 156 #[.val (.int ln), .val (.int la), .val (.int lb), .val (.int lc), .val (.int ld), .val (.int (0 : Int32)), .val (.int r0), .val (.int r1), .val (.int r2), .val (.int rel), .val (.ref b103), .val (.int i109), .val (.ref b111), .val (.double (0 : UInt64)), .second, .unset, .unset, .unset, .unset] [])) _
        refine XS.dconst0 X141.here hx rfl (hb hby at_156) (v := (0 : UInt64)) rfl ?_
        show Steps p.tables e below (T141.setTop (mkF m 157 #[.val (.int ln), .val (.int la), .val (.int lb), .val (.int lc), .val (.int ld), .val (.int (0 : Int32)), .val (.int r0), .val (.int r1), .val (.int r2), .val (.int rel), .val (.ref b103), .val (.int i109), .val (.ref b111), .val (.double (0 : UInt64)), .second, .unset, .unset, .unset, .unset] [(.double (0 : UInt64))])) _
        refine XS.dstore X141.here hx rfl (hb hby at_157) rfl (l' := #[.val (.int ln), .val (.int la), .val (.int lb), .val (.int lc), .val (.int ld), .val (.int (0 : Int32)), .val (.int r0), .val (.int r1), .val (.int r2), .val (.int rel), .val (.ref b103), .val (.int i109), .val (.ref b111), .val (.double (0 : UInt64)), .second, .val (.double (0 : UInt64)), .second, .unset, .unset]) rfl ?_
        show Steps p.tables e below (T141.setTop (mkF m 159 #[.val (.int ln), .val (.int la), .val (.int lb), .val (.int lc), .val (.int ld), .val (.int (0 : Int32)), .val (.int r0), .val (.int r1), .val (.int r2), .val (.int rel), .val (.ref b103), .val (.int i109), .val (.ref b111), .val (.double (0 : UInt64)), .second, .val (.double (0 : UInt64)), .second, .unset, .unset] [])) _
        refine XS.iload X141.here hx rfl (hb hby at_159) rfl ?_
        show Steps p.tables e below (T141.setTop (mkF m 161 #[.val (.int ln), .val (.int la), .val (.int lb), .val (.int lc), .val (.int ld), .val (.int (0 : Int32)), .val (.int r0), .val (.int r1), .val (.int r2), .val (.int rel), .val (.ref b103), .val (.int i109), .val (.ref b111), .val (.double (0 : UInt64)), .second, .val (.double (0 : UInt64)), .second, .unset, .unset] [(.int (0 : Int32))])) _
        refine XS.iconst X141.here hx rfl (hb hby at_161) ?_
        show Steps p.tables e below (T141.setTop (mkF m 162 #[.val (.int ln), .val (.int la), .val (.int lb), .val (.int lc), .val (.int ld), .val (.int (0 : Int32)), .val (.int r0), .val (.int r1), .val (.int r2), .val (.int rel), .val (.ref b103), .val (.int i109), .val (.ref b111), .val (.double (0 : UInt64)), .second, .val (.double (0 : UInt64)), .second, .unset, .unset] [(.int (1 : Int32)), (.int (0 : Int32))])) _
        refine XS.icmpYes X141.here hx rfl (pc0 := 162) (pc' := 175) rfl (hb hby at_162) rfl (tlt (by decide)).1 (by decide) (by decide) ?_
        show Steps p.tables e below (T141.setTop (mkF m 175 #[.val (.int ln), .val (.int la), .val (.int lb), .val (.int lc), .val (.int ld), .val (.int (0 : Int32)), .val (.int r0), .val (.int r1), .val (.int r2), .val (.int rel), .val (.ref b103), .val (.int i109), .val (.ref b111), .val (.double (0 : UInt64)), .second, .val (.double (0 : UInt64)), .second, .unset, .unset] [])) _
        refine XS.iload X141.here hx rfl (hb hby at_175) rfl ?_
        show Steps p.tables e below (T141.setTop (mkF m 177 #[.val (.int ln), .val (.int la), .val (.int lb), .val (.int lc), .val (.int ld), .val (.int (0 : Int32)), .val (.int r0), .val (.int r1), .val (.int r2), .val (.int rel), .val (.ref b103), .val (.int i109), .val (.ref b111), .val (.double (0 : UInt64)), .second, .val (.double (0 : UInt64)), .second, .unset, .unset] [(.int (0 : Int32))])) _
        refine XS.iconst X141.here hx rfl (hb hby at_177) ?_
        show Steps p.tables e below (T141.setTop (mkF m 178 #[.val (.int ln), .val (.int la), .val (.int lb), .val (.int lc), .val (.int ld), .val (.int (0 : Int32)), .val (.int r0), .val (.int r1), .val (.int r2), .val (.int rel), .val (.ref b103), .val (.int i109), .val (.ref b111), .val (.double (0 : UInt64)), .second, .val (.double (0 : UInt64)), .second, .unset, .unset] [(.int (2 : Int32)), (.int (0 : Int32))])) _
        refine XS.icmpYes X141.here hx rfl (pc0 := 178) (pc' := 193) rfl (hb hby at_178) rfl (tlt (by decide)).1 (by decide) (by decide) ?_
        show Steps p.tables e below (T141.setTop (mkF m 193 #[.val (.int ln), .val (.int la), .val (.int lb), .val (.int lc), .val (.int ld), .val (.int (0 : Int32)), .val (.int r0), .val (.int r1), .val (.int r2), .val (.int rel), .val (.ref b103), .val (.int i109), .val (.ref b111), .val (.double (0 : UInt64)), .second, .val (.double (0 : UInt64)), .second, .unset, .unset] [])) _
        refine XS.iload X141.here hx rfl (hb hby at_193) rfl ?_
        show Steps p.tables e below (T141.setTop (mkF m 195 #[.val (.int ln), .val (.int la), .val (.int lb), .val (.int lc), .val (.int ld), .val (.int (0 : Int32)), .val (.int r0), .val (.int r1), .val (.int r2), .val (.int rel), .val (.ref b103), .val (.int i109), .val (.ref b111), .val (.double (0 : UInt64)), .second, .val (.double (0 : UInt64)), .second, .unset, .unset] [(.int (0 : Int32))])) _
        refine XS.iconst X141.here hx rfl (hb hby at_195) ?_
        show Steps p.tables e below (T141.setTop (mkF m 196 #[.val (.int ln), .val (.int la), .val (.int lb), .val (.int lc), .val (.int ld), .val (.int (0 : Int32)), .val (.int r0), .val (.int r1), .val (.int r2), .val (.int rel), .val (.ref b103), .val (.int i109), .val (.ref b111), .val (.double (0 : UInt64)), .second, .val (.double (0 : UInt64)), .second, .unset, .unset] [(.int (3 : Int32)), (.int (0 : Int32))])) _
        refine XS.icmpYes X141.here hx rfl (pc0 := 196) (pc' := 211) rfl (hb hby at_196) rfl (tlt (by decide)).1 (by decide) (by decide) ?_
        show Steps p.tables e below (T141.setTop (mkF m 211 #[.val (.int ln), .val (.int la), .val (.int lb), .val (.int lc), .val (.int ld), .val (.int (0 : Int32)), .val (.int r0), .val (.int r1), .val (.int r2), .val (.int rel), .val (.ref b103), .val (.int i109), .val (.ref b111), .val (.double (0 : UInt64)), .second, .val (.double (0 : UInt64)), .second, .unset, .unset] [])) _
        refine XS.iload X141.here hx rfl (hb hby at_211) rfl ?_
        show Steps p.tables e below (T141.setTop (mkF m 213 #[.val (.int ln), .val (.int la), .val (.int lb), .val (.int lc), .val (.int ld), .val (.int (0 : Int32)), .val (.int r0), .val (.int r1), .val (.int r2), .val (.int rel), .val (.ref b103), .val (.int i109), .val (.ref b111), .val (.double (0 : UInt64)), .second, .val (.double (0 : UInt64)), .second, .unset, .unset] [(.int rel)])) _
        refine XS.ifNo X141.here hx rfl (hb hby at_213) rfl ((if0 _ _).trans (teq cz).2) ?_
        show Steps p.tables e below (T141.setTop (mkF m 216 #[.val (.int ln), .val (.int la), .val (.int lb), .val (.int lc), .val (.int ld), .val (.int (0 : Int32)), .val (.int r0), .val (.int r1), .val (.int r2), .val (.int rel), .val (.ref b103), .val (.int i109), .val (.ref b111), .val (.double (0 : UInt64)), .second, .val (.double (0 : UInt64)), .second, .unset, .unset] [])) _
        refine XS.dconst0 X141.here hx rfl (hb hby at_216) (v := (0 : UInt64)) rfl ?_
        show Steps p.tables e below (T141.setTop (mkF m 217 #[.val (.int ln), .val (.int la), .val (.int lb), .val (.int lc), .val (.int ld), .val (.int (0 : Int32)), .val (.int r0), .val (.int r1), .val (.int r2), .val (.int rel), .val (.ref b103), .val (.int i109), .val (.ref b111), .val (.double (0 : UInt64)), .second, .val (.double (0 : UInt64)), .second, .unset, .unset] [(.double (0 : UInt64))])) _
        refine XS.dstore X141.here hx rfl (hb hby at_217) rfl (l' := #[.val (.int ln), .val (.int la), .val (.int lb), .val (.int lc), .val (.int ld), .val (.int (0 : Int32)), .val (.int r0), .val (.int r1), .val (.int r2), .val (.int rel), .val (.ref b103), .val (.int i109), .val (.ref b111), .val (.double (0 : UInt64)), .second, .val (.double (0 : UInt64)), .second, .val (.double (0 : UInt64)), .second]) rfl ?_
        show Steps p.tables e below (T141.setTop (mkF m 219 #[.val (.int ln), .val (.int la), .val (.int lb), .val (.int lc), .val (.int ld), .val (.int (0 : Int32)), .val (.int r0), .val (.int r1), .val (.int r2), .val (.int rel), .val (.ref b103), .val (.int i109), .val (.ref b111), .val (.double (0 : UInt64)), .second, .val (.double (0 : UInt64)), .second, .val (.double (0 : UInt64)), .second] [])) _
        refine XS.goto X141.here hx rfl (pc0 := 219) (pc' := 230) rfl (hb hby at_219) (by decide) (by decide) ?_
        show Steps p.tables e below (T141.setTop (mkF m 230 #[.val (.int ln), .val (.int la), .val (.int lb), .val (.int lc), .val (.int ld), .val (.int (0 : Int32)), .val (.int r0), .val (.int r1), .val (.int r2), .val (.int rel), .val (.ref b103), .val (.int i109), .val (.ref b111), .val (.double (0 : UInt64)), .second, .val (.double (0 : UInt64)), .second, .val (.double (0 : UInt64)), .second] [])) _
        refine XS.dload X141.here hx rfl (hb hby at_230) rfl ?_
        show Steps p.tables e below (T141.setTop (mkF m 232 #[.val (.int ln), .val (.int la), .val (.int lb), .val (.int lc), .val (.int ld), .val (.int (0 : Int32)), .val (.int r0), .val (.int r1), .val (.int r2), .val (.int rel), .val (.ref b103), .val (.int i109), .val (.ref b111), .val (.double (0 : UInt64)), .second, .val (.double (0 : UInt64)), .second, .val (.double (0 : UInt64)), .second] [(.double (0 : UInt64))])) _
        refine XS.dload X141.here hx rfl (hb hby at_232) rfl ?_
        show Steps p.tables e below (T141.setTop (mkF m 234 #[.val (.int ln), .val (.int la), .val (.int lb), .val (.int lc), .val (.int ld), .val (.int (0 : Int32)), .val (.int r0), .val (.int r1), .val (.int r2), .val (.int rel), .val (.ref b103), .val (.int i109), .val (.ref b111), .val (.double (0 : UInt64)), .second, .val (.double (0 : UInt64)), .second, .val (.double (0 : UInt64)), .second] [(.double (0 : UInt64)), (.double (0 : UInt64))])) _
        refine XS.dcmpS X141.here hx rfl (hb hby at_234) rfl rfl ?_
        show Steps p.tables e below (T141.setTop (mkF m 235 #[.val (.int ln), .val (.int la), .val (.int lb), .val (.int lc), .val (.int ld), .val (.int (0 : Int32)), .val (.int r0), .val (.int r1), .val (.int r2), .val (.int rel), .val (.ref b103), .val (.int i109), .val (.ref b111), .val (.double (0 : UInt64)), .second, .val (.double (0 : UInt64)), .second, .val (.double (0 : UInt64)), .second] [(.int (cmpValue (FP.dcmp (0 : UInt64) (0 : UInt64)) .l))])) _
        refine XS.ifNo X141.here hx rfl (hb hby at_235) rfl ((if0 _ _).trans (teq (Dy.cmp_eq (dy0 0) (dy0 0) rfl .l)).2) ?_
        show Steps p.tables e below (T141.setTop (mkF m 238 #[.val (.int ln), .val (.int la), .val (.int lb), .val (.int lc), .val (.int ld), .val (.int (0 : Int32)), .val (.int r0), .val (.int r1), .val (.int r2), .val (.int rel), .val (.ref b103), .val (.int i109), .val (.ref b111), .val (.double (0 : UInt64)), .second, .val (.double (0 : UInt64)), .second, .val (.double (0 : UInt64)), .second] [])) _
        refine XS.iconst X141.here hx rfl (hb hby at_238) ?_
        show Steps p.tables e below (T141.setTop (mkF m 239 #[.val (.int ln), .val (.int la), .val (.int lb), .val (.int lc), .val (.int ld), .val (.int (0 : Int32)), .val (.int r0), .val (.int r1), .val (.int r2), .val (.int rel), .val (.ref b103), .val (.int i109), .val (.ref b111), .val (.double (0 : UInt64)), .second, .val (.double (0 : UInt64)), .second, .val (.double (0 : UInt64)), .second] [(.int (1 : Int32))])) _
        refine XS.goto X141.here hx rfl (pc0 := 239) (pc' := 243) rfl (hb hby at_239) (by decide) (by decide) ?_
        exact k)
      obtain ⟨fs, hr, hrun, hended, hRE⟩ := Stand.leaveW (s := s) (vm₁ := T123.vm) X141 hS123 (by rw [e141]; exact hk139) (v := some (.int (1 : Int32))) (fun h => by rw [Bd.returns] at h; cases h)
      refine ⟨_, _, k144 _ (retOut X141 hx (t := .boolean) Bd.returns rfl (Or.inl ⟨rfl, Or.inr (Or.inl rfl), _, rfl⟩) (hb hby at_243) hr), hrun, hended, _, _, rfl, ?_, hRE.1, hRE.2.1, hRE.2.2.1, hRE.2.2.2.mono (by decide) (by decide)⟩
      show Q_rm0 Z ln la lb lc ld h0 n0 _ T141.heap _
      rw [e141]
      exact ⟨rfl, N142⟩
    · obtain ⟨cq145, kq145, q145a, q145b, q145c⟩ := isOf hZ123 e133 G133a
      obtain ⟨_, _, ⟨T145, L145, k145, n145⟩, -, X145, ⟨Lc145, hQ145, l145, y145, z145⟩, st145⟩ := X133.virtualBack hx (y := (⟨"com/example/round2/round2/eval/TopicResult", "averagePrecision", "()D"⟩ : MethodName)) (z := (⟨"com/example/round2/round2/eval/TopicResult", "averagePrecision", "()D"⟩ : MethodName)) hown123 (mvT hZ123 (hw _ (List.mem_of_getElem? (i := 28) rfl))) (mvT hZ123 (hw _ (List.mem_of_getElem? (i := 29) rfl))) (notFace_of_selects (args := #[]) (mvT hZ123 (hw _ (List.mem_of_getElem? (i := 31) rfl)))) (mvT hZ123 (hw _ (List.mem_of_getElem? (i := 31) rfl))) (mvT hZ123 (hw _ (List.mem_of_getElem? (i := 30) rfl))) (by decide) (backOf (W := 0) (avp0_0 l Z a0 hw [] b111 b103 k103 rel h133 n0 Z138 G133c G133b F136 cz (nn_div (by decide +kernel) cz)) hZ123 (hw _ (List.mem_of_getElem? (i := 32) rfl)) (hw _ (List.mem_of_getElem? (i := 5) rfl)) (by decide) (by decide)) q145a q145c (g := (mkF m 151 #[.val (.int ln), .val (.int la), .val (.int lb), .val (.int lc), .val (.int ld), .val (.int (0 : Int32)), .val (.int r0), .val (.int r1), .val (.int r2), .val (.int rel), .val (.ref b103), .val (.int i109), .val (.ref b111), .unset, .unset, .unset, .unset, .unset, .unset] [(.ref b111)])) rfl (by rw [hml]; rfl) (Steps.refl _) (argsL := []) (rest := []) (lenOf pd__28_29D rfl) rfl (by show 2 * 0 + _ ≤ _; exact Nat.le_of_eq rfl) (hb hby at_151) (fun _ _ => ⟨rfl, e133, (by decide : 4 + 0 ≤ _), (by decide : 12 + 0 ≤ _)⟩)
      dsimp only [Pt.U, Pt.locs, Pt.cells, Pt.slots] at X145 l145 y145 z145 st145 hQ145
      subst l145 y145 z145
      obtain ⟨rfl, N145q, e145⟩ := hQ145
      have N146 := Fr.app N134 N145q
      have k147 : ∀ t, Steps p.tables e below (T145.setTop (mkF m 154 #[.val (.int ln), .val (.int la), .val (.int lb), .val (.int lc), .val (.int ld), .val (.int (0 : Int32)), .val (.int r0), .val (.int r1), .val (.int r2), .val (.int rel), .val (.ref b103), .val (.int i109), .val (.ref b111), .unset, .unset, .unset, .unset, .unset, .unset] [(.double (FP.ddiv (0 : UInt64) (FP.i2d rel)))])) t → Steps p.tables e below (s₁.setTop (entryFrame m #[(.int ln), (.int la), (.int lb), (.int lc), (.int ld)] maxLocals)) t := fun t k => k140 t (st145.trans k)
      obtain ⟨got, hgot⟩ : ∃ z : UInt64, z = (FP.ddiv (0 : UInt64) (FP.i2d rel)) := ⟨_, rfl⟩
      obtain ⟨xr, hxr⟩ : ∃ z : UInt64, FP.i2d rel = z := ⟨_, rfl⟩
      obtain ⟨want, hwant⟩ : ∃ z : UInt64, FP.ddiv (0 : UInt64) xr = z := ⟨_, rfl⟩
      have ew : want = (FP.ddiv (0 : UInt64) (FP.i2d rel)) := by rw [← hwant, ← hxr]
      have hfin : cmpValue (FP.dcmp got want) .l = (0 : Int32) := by rw [hgot, ew]; exact dcmpV_self (nn_div (by decide +kernel) cz) .l
      have k148 : ∀ t, Steps p.tables e below (T145.setTop (mkF m 243 #[.val (.int ln), .val (.int la), .val (.int lb), .val (.int lc), .val (.int ld), .val (.int (0 : Int32)), .val (.int r0), .val (.int r1), .val (.int r2), .val (.int rel), .val (.ref b103), .val (.int i109), .val (.ref b111), .val (.double got), .second, .val (.double (0 : UInt64)), .second, .val (.double want), .second] [(.int (1 : Int32))])) t → Steps p.tables e below (s₁.setTop (entryFrame m #[(.int ln), (.int la), (.int lb), (.int lc), (.int ld)] maxLocals)) t := fun t k => k147 t (by
        show Steps p.tables e below (T145.setTop (mkF m 154 #[.val (.int ln), .val (.int la), .val (.int lb), .val (.int lc), .val (.int ld), .val (.int (0 : Int32)), .val (.int r0), .val (.int r1), .val (.int r2), .val (.int rel), .val (.ref b103), .val (.int i109), .val (.ref b111), .unset, .unset, .unset, .unset, .unset, .unset] [(.double (FP.ddiv (0 : UInt64) (FP.i2d rel)))])) _
        refine castTop (g' := (mkF m 154 #[.val (.int ln), .val (.int la), .val (.int lb), .val (.int lc), .val (.int ld), .val (.int (0 : Int32)), .val (.int r0), .val (.int r1), .val (.int r2), .val (.int rel), .val (.ref b103), .val (.int i109), .val (.ref b111), .unset, .unset, .unset, .unset, .unset, .unset] [(.double got)])) (by rw [hgot]) ?_
        show Steps p.tables e below (T145.setTop (mkF m 154 #[.val (.int ln), .val (.int la), .val (.int lb), .val (.int lc), .val (.int ld), .val (.int (0 : Int32)), .val (.int r0), .val (.int r1), .val (.int r2), .val (.int rel), .val (.ref b103), .val (.int i109), .val (.ref b111), .unset, .unset, .unset, .unset, .unset, .unset] [(.double got)])) _
        refine XS.dstore X145.here hx rfl (hb hby at_154) rfl (l' := #[.val (.int ln), .val (.int la), .val (.int lb), .val (.int lc), .val (.int ld), .val (.int (0 : Int32)), .val (.int r0), .val (.int r1), .val (.int r2), .val (.int rel), .val (.ref b103), .val (.int i109), .val (.ref b111), .val (.double got), .second, .unset, .unset, .unset, .unset]) rfl ?_
        show Steps p.tables e below (T145.setTop (mkF m 156 #[.val (.int ln), .val (.int la), .val (.int lb), .val (.int lc), .val (.int ld), .val (.int (0 : Int32)), .val (.int r0), .val (.int r1), .val (.int r2), .val (.int rel), .val (.ref b103), .val (.int i109), .val (.ref b111), .val (.double got), .second, .unset, .unset, .unset, .unset] [])) _
        refine XS.dconst0 X145.here hx rfl (hb hby at_156) (v := (0 : UInt64)) rfl ?_
        show Steps p.tables e below (T145.setTop (mkF m 157 #[.val (.int ln), .val (.int la), .val (.int lb), .val (.int lc), .val (.int ld), .val (.int (0 : Int32)), .val (.int r0), .val (.int r1), .val (.int r2), .val (.int rel), .val (.ref b103), .val (.int i109), .val (.ref b111), .val (.double got), .second, .unset, .unset, .unset, .unset] [(.double (0 : UInt64))])) _
        refine XS.dstore X145.here hx rfl (hb hby at_157) rfl (l' := #[.val (.int ln), .val (.int la), .val (.int lb), .val (.int lc), .val (.int ld), .val (.int (0 : Int32)), .val (.int r0), .val (.int r1), .val (.int r2), .val (.int rel), .val (.ref b103), .val (.int i109), .val (.ref b111), .val (.double got), .second, .val (.double (0 : UInt64)), .second, .unset, .unset]) rfl ?_
        show Steps p.tables e below (T145.setTop (mkF m 159 #[.val (.int ln), .val (.int la), .val (.int lb), .val (.int lc), .val (.int ld), .val (.int (0 : Int32)), .val (.int r0), .val (.int r1), .val (.int r2), .val (.int rel), .val (.ref b103), .val (.int i109), .val (.ref b111), .val (.double got), .second, .val (.double (0 : UInt64)), .second, .unset, .unset] [])) _
        refine XS.iload X145.here hx rfl (hb hby at_159) rfl ?_
        show Steps p.tables e below (T145.setTop (mkF m 161 #[.val (.int ln), .val (.int la), .val (.int lb), .val (.int lc), .val (.int ld), .val (.int (0 : Int32)), .val (.int r0), .val (.int r1), .val (.int r2), .val (.int rel), .val (.ref b103), .val (.int i109), .val (.ref b111), .val (.double got), .second, .val (.double (0 : UInt64)), .second, .unset, .unset] [(.int (0 : Int32))])) _
        refine XS.iconst X145.here hx rfl (hb hby at_161) ?_
        show Steps p.tables e below (T145.setTop (mkF m 162 #[.val (.int ln), .val (.int la), .val (.int lb), .val (.int lc), .val (.int ld), .val (.int (0 : Int32)), .val (.int r0), .val (.int r1), .val (.int r2), .val (.int rel), .val (.ref b103), .val (.int i109), .val (.ref b111), .val (.double got), .second, .val (.double (0 : UInt64)), .second, .unset, .unset] [(.int (1 : Int32)), (.int (0 : Int32))])) _
        refine XS.icmpYes X145.here hx rfl (pc0 := 162) (pc' := 175) rfl (hb hby at_162) rfl (tlt (by decide)).1 (by decide) (by decide) ?_
        show Steps p.tables e below (T145.setTop (mkF m 175 #[.val (.int ln), .val (.int la), .val (.int lb), .val (.int lc), .val (.int ld), .val (.int (0 : Int32)), .val (.int r0), .val (.int r1), .val (.int r2), .val (.int rel), .val (.ref b103), .val (.int i109), .val (.ref b111), .val (.double got), .second, .val (.double (0 : UInt64)), .second, .unset, .unset] [])) _
        refine XS.iload X145.here hx rfl (hb hby at_175) rfl ?_
        show Steps p.tables e below (T145.setTop (mkF m 177 #[.val (.int ln), .val (.int la), .val (.int lb), .val (.int lc), .val (.int ld), .val (.int (0 : Int32)), .val (.int r0), .val (.int r1), .val (.int r2), .val (.int rel), .val (.ref b103), .val (.int i109), .val (.ref b111), .val (.double got), .second, .val (.double (0 : UInt64)), .second, .unset, .unset] [(.int (0 : Int32))])) _
        refine XS.iconst X145.here hx rfl (hb hby at_177) ?_
        show Steps p.tables e below (T145.setTop (mkF m 178 #[.val (.int ln), .val (.int la), .val (.int lb), .val (.int lc), .val (.int ld), .val (.int (0 : Int32)), .val (.int r0), .val (.int r1), .val (.int r2), .val (.int rel), .val (.ref b103), .val (.int i109), .val (.ref b111), .val (.double got), .second, .val (.double (0 : UInt64)), .second, .unset, .unset] [(.int (2 : Int32)), (.int (0 : Int32))])) _
        refine XS.icmpYes X145.here hx rfl (pc0 := 178) (pc' := 193) rfl (hb hby at_178) rfl (tlt (by decide)).1 (by decide) (by decide) ?_
        show Steps p.tables e below (T145.setTop (mkF m 193 #[.val (.int ln), .val (.int la), .val (.int lb), .val (.int lc), .val (.int ld), .val (.int (0 : Int32)), .val (.int r0), .val (.int r1), .val (.int r2), .val (.int rel), .val (.ref b103), .val (.int i109), .val (.ref b111), .val (.double got), .second, .val (.double (0 : UInt64)), .second, .unset, .unset] [])) _
        refine XS.iload X145.here hx rfl (hb hby at_193) rfl ?_
        show Steps p.tables e below (T145.setTop (mkF m 195 #[.val (.int ln), .val (.int la), .val (.int lb), .val (.int lc), .val (.int ld), .val (.int (0 : Int32)), .val (.int r0), .val (.int r1), .val (.int r2), .val (.int rel), .val (.ref b103), .val (.int i109), .val (.ref b111), .val (.double got), .second, .val (.double (0 : UInt64)), .second, .unset, .unset] [(.int (0 : Int32))])) _
        refine XS.iconst X145.here hx rfl (hb hby at_195) ?_
        show Steps p.tables e below (T145.setTop (mkF m 196 #[.val (.int ln), .val (.int la), .val (.int lb), .val (.int lc), .val (.int ld), .val (.int (0 : Int32)), .val (.int r0), .val (.int r1), .val (.int r2), .val (.int rel), .val (.ref b103), .val (.int i109), .val (.ref b111), .val (.double got), .second, .val (.double (0 : UInt64)), .second, .unset, .unset] [(.int (3 : Int32)), (.int (0 : Int32))])) _
        refine XS.icmpYes X145.here hx rfl (pc0 := 196) (pc' := 211) rfl (hb hby at_196) rfl (tlt (by decide)).1 (by decide) (by decide) ?_
        show Steps p.tables e below (T145.setTop (mkF m 211 #[.val (.int ln), .val (.int la), .val (.int lb), .val (.int lc), .val (.int ld), .val (.int (0 : Int32)), .val (.int r0), .val (.int r1), .val (.int r2), .val (.int rel), .val (.ref b103), .val (.int i109), .val (.ref b111), .val (.double got), .second, .val (.double (0 : UInt64)), .second, .unset, .unset] [])) _
        refine XS.iload X145.here hx rfl (hb hby at_211) rfl ?_
        show Steps p.tables e below (T145.setTop (mkF m 213 #[.val (.int ln), .val (.int la), .val (.int lb), .val (.int lc), .val (.int ld), .val (.int (0 : Int32)), .val (.int r0), .val (.int r1), .val (.int r2), .val (.int rel), .val (.ref b103), .val (.int i109), .val (.ref b111), .val (.double got), .second, .val (.double (0 : UInt64)), .second, .unset, .unset] [(.int rel)])) _
        refine XS.ifYes X145.here hx rfl (pc0 := 213) (pc' := 222) rfl (hb hby at_213) rfl ((if0 _ _).trans (feq cz).2) (by decide) (by decide) ?_
        show Steps p.tables e below (T145.setTop (mkF m 222 #[.val (.int ln), .val (.int la), .val (.int lb), .val (.int lc), .val (.int ld), .val (.int (0 : Int32)), .val (.int r0), .val (.int r1), .val (.int r2), .val (.int rel), .val (.ref b103), .val (.int i109), .val (.ref b111), .val (.double got), .second, .val (.double (0 : UInt64)), .second, .unset, .unset] [])) _
        refine XS.dload X145.here hx rfl (hb hby at_222) rfl ?_
        show Steps p.tables e below (T145.setTop (mkF m 224 #[.val (.int ln), .val (.int la), .val (.int lb), .val (.int lc), .val (.int ld), .val (.int (0 : Int32)), .val (.int r0), .val (.int r1), .val (.int r2), .val (.int rel), .val (.ref b103), .val (.int i109), .val (.ref b111), .val (.double got), .second, .val (.double (0 : UInt64)), .second, .unset, .unset] [(.double (0 : UInt64))])) _
        refine XS.iload X145.here hx rfl (hb hby at_224) rfl ?_
        show Steps p.tables e below (T145.setTop (mkF m 226 #[.val (.int ln), .val (.int la), .val (.int lb), .val (.int lc), .val (.int ld), .val (.int (0 : Int32)), .val (.int r0), .val (.int r1), .val (.int r2), .val (.int rel), .val (.ref b103), .val (.int i109), .val (.ref b111), .val (.double got), .second, .val (.double (0 : UInt64)), .second, .unset, .unset] [(.int rel), (.double (0 : UInt64))])) _
        refine XS.i2dS X145.here hx rfl (hb hby at_226) rfl hxr ?_
        show Steps p.tables e below (T145.setTop (mkF m 227 #[.val (.int ln), .val (.int la), .val (.int lb), .val (.int lc), .val (.int ld), .val (.int (0 : Int32)), .val (.int r0), .val (.int r1), .val (.int r2), .val (.int rel), .val (.ref b103), .val (.int i109), .val (.ref b111), .val (.double got), .second, .val (.double (0 : UInt64)), .second, .unset, .unset] [(.double xr), (.double (0 : UInt64))])) _
        refine XS.ddivS X145.here hx rfl (hb hby at_227) rfl ((by rw [← hxr]; exact nn_div (by decide +kernel) cz)) hwant ?_
        show Steps p.tables e below (T145.setTop (mkF m 228 #[.val (.int ln), .val (.int la), .val (.int lb), .val (.int lc), .val (.int ld), .val (.int (0 : Int32)), .val (.int r0), .val (.int r1), .val (.int r2), .val (.int rel), .val (.ref b103), .val (.int i109), .val (.ref b111), .val (.double got), .second, .val (.double (0 : UInt64)), .second, .unset, .unset] [(.double want)])) _
        refine XS.dstore X145.here hx rfl (hb hby at_228) rfl (l' := #[.val (.int ln), .val (.int la), .val (.int lb), .val (.int lc), .val (.int ld), .val (.int (0 : Int32)), .val (.int r0), .val (.int r1), .val (.int r2), .val (.int rel), .val (.ref b103), .val (.int i109), .val (.ref b111), .val (.double got), .second, .val (.double (0 : UInt64)), .second, .val (.double want), .second]) rfl ?_
        show Steps p.tables e below (T145.setTop (mkF m 230 #[.val (.int ln), .val (.int la), .val (.int lb), .val (.int lc), .val (.int ld), .val (.int (0 : Int32)), .val (.int r0), .val (.int r1), .val (.int r2), .val (.int rel), .val (.ref b103), .val (.int i109), .val (.ref b111), .val (.double got), .second, .val (.double (0 : UInt64)), .second, .val (.double want), .second] [])) _
        refine XS.dload X145.here hx rfl (hb hby at_230) rfl ?_
        show Steps p.tables e below (T145.setTop (mkF m 232 #[.val (.int ln), .val (.int la), .val (.int lb), .val (.int lc), .val (.int ld), .val (.int (0 : Int32)), .val (.int r0), .val (.int r1), .val (.int r2), .val (.int rel), .val (.ref b103), .val (.int i109), .val (.ref b111), .val (.double got), .second, .val (.double (0 : UInt64)), .second, .val (.double want), .second] [(.double got)])) _
        refine XS.dload X145.here hx rfl (hb hby at_232) rfl ?_
        show Steps p.tables e below (T145.setTop (mkF m 234 #[.val (.int ln), .val (.int la), .val (.int lb), .val (.int lc), .val (.int ld), .val (.int (0 : Int32)), .val (.int r0), .val (.int r1), .val (.int r2), .val (.int rel), .val (.ref b103), .val (.int i109), .val (.ref b111), .val (.double got), .second, .val (.double (0 : UInt64)), .second, .val (.double want), .second] [(.double want), (.double got)])) _
        refine XS.dcmpS X145.here hx rfl (hb hby at_234) rfl rfl ?_
        show Steps p.tables e below (T145.setTop (mkF m 235 #[.val (.int ln), .val (.int la), .val (.int lb), .val (.int lc), .val (.int ld), .val (.int (0 : Int32)), .val (.int r0), .val (.int r1), .val (.int r2), .val (.int rel), .val (.ref b103), .val (.int i109), .val (.ref b111), .val (.double got), .second, .val (.double (0 : UInt64)), .second, .val (.double want), .second] [(.int (cmpValue (FP.dcmp got want) .l))])) _
        refine XS.ifNo X145.here hx rfl (hb hby at_235) rfl ((if0 _ _).trans (teq hfin).2) ?_
        show Steps p.tables e below (T145.setTop (mkF m 238 #[.val (.int ln), .val (.int la), .val (.int lb), .val (.int lc), .val (.int ld), .val (.int (0 : Int32)), .val (.int r0), .val (.int r1), .val (.int r2), .val (.int rel), .val (.ref b103), .val (.int i109), .val (.ref b111), .val (.double got), .second, .val (.double (0 : UInt64)), .second, .val (.double want), .second] [])) _
        refine XS.iconst X145.here hx rfl (hb hby at_238) ?_
        show Steps p.tables e below (T145.setTop (mkF m 239 #[.val (.int ln), .val (.int la), .val (.int lb), .val (.int lc), .val (.int ld), .val (.int (0 : Int32)), .val (.int r0), .val (.int r1), .val (.int r2), .val (.int rel), .val (.ref b103), .val (.int i109), .val (.ref b111), .val (.double got), .second, .val (.double (0 : UInt64)), .second, .val (.double want), .second] [(.int (1 : Int32))])) _
        refine XS.goto X145.here hx rfl (pc0 := 239) (pc' := 243) rfl (hb hby at_239) (by decide) (by decide) ?_
        exact k)
      obtain ⟨fs, hr, hrun, hended, hRE⟩ := Stand.leaveW (s := s) (vm₁ := T123.vm) X145 hS123 (by rw [e145]; exact hk139) (v := some (.int (1 : Int32))) (fun h => by rw [Bd.returns] at h; cases h)
      refine ⟨_, _, k148 _ (retOut X145 hx (t := .boolean) Bd.returns rfl (Or.inl ⟨rfl, Or.inr (Or.inl rfl), _, rfl⟩) (hb hby at_243) hr), hrun, hended, _, _, rfl, ?_, hRE.1, hRE.2.1, hRE.2.2.1, hRE.2.2.2.mono (by decide) (by decide)⟩
      show Q_rm0 Z ln la lb lc ld h0 n0 _ T145.heap _
      rw [e145]
      exact ⟨rfl, N146⟩
  · have k149 : ∀ t, Steps p.tables e below (s₁.setTop (mkF m 65 #[.val (.int ln), .val (.int la), .val (.int lb), .val (.int lc), .val (.int ld), .val (.int (1 : Int32)), .val (.int r0), .val (.int r1), .val (.int r2), .val (.int rel), .unset, .unset, .unset, .unset, .unset, .unset, .unset, .unset, .unset] [(.int (1 : Int32))])) t → Steps p.tables e below (s₁.setTop (entryFrame m #[(.int ln), (.int la), (.int lb), (.int lc), (.int ld)] maxLocals)) t := fun t k => k101 t (by
      show Steps p.tables e below (s₁.setTop (mkF m 45 #[.val (.int ln), .val (.int la), .val (.int lb), .val (.int lc), .val (.int ld), .val (.int (1 : Int32)), .val (.int r0), .val (.int r1), .val (.int r2), .val (.int rel), .unset, .unset, .unset, .unset, .unset, .unset, .unset, .unset, .unset] [])) _
      refine XS.iload X0.here hx rfl (hb hby at_45) rfl ?_
      show Steps p.tables e below (s₁.setTop (mkF m 47 #[.val (.int ln), .val (.int la), .val (.int lb), .val (.int lc), .val (.int ld), .val (.int (1 : Int32)), .val (.int r0), .val (.int r1), .val (.int r2), .val (.int rel), .unset, .unset, .unset, .unset, .unset, .unset, .unset, .unset, .unset] [(.int (1 : Int32))])) _
      refine XS.ifYes X0.here hx rfl (pc0 := 47) (pc' := 58) rfl (hb hby at_47) rfl ((if0 _ _).trans (feq (by decide)).2) (by decide) (by decide) ?_
      show Steps p.tables e below (s₁.setTop (mkF m 58 #[.val (.int ln), .val (.int la), .val (.int lb), .val (.int lc), .val (.int ld), .val (.int (1 : Int32)), .val (.int r0), .val (.int r1), .val (.int r2), .val (.int rel), .unset, .unset, .unset, .unset, .unset, .unset, .unset, .unset, .unset] [])) _
      refine XS.iload X0.here hx rfl (hb hby at_58) rfl ?_
      show Steps p.tables e below (s₁.setTop (mkF m 60 #[.val (.int ln), .val (.int la), .val (.int lb), .val (.int lc), .val (.int ld), .val (.int (1 : Int32)), .val (.int r0), .val (.int r1), .val (.int r2), .val (.int rel), .unset, .unset, .unset, .unset, .unset, .unset, .unset, .unset, .unset] [(.int (1 : Int32))])) _
      refine XS.iconst X0.here hx rfl (hb hby at_60) ?_
      show Steps p.tables e below (s₁.setTop (mkF m 61 #[.val (.int ln), .val (.int la), .val (.int lb), .val (.int lc), .val (.int ld), .val (.int (1 : Int32)), .val (.int r0), .val (.int r1), .val (.int r2), .val (.int rel), .unset, .unset, .unset, .unset, .unset, .unset, .unset, .unset, .unset] [(.int (1 : Int32)), (.int (1 : Int32))])) _
      refine XS.icmpNo X0.here hx rfl (hb hby at_61) rfl (teq (by decide)).2 ?_
      show Steps p.tables e below (s₁.setTop (mkF m 64 #[.val (.int ln), .val (.int la), .val (.int lb), .val (.int lc), .val (.int ld), .val (.int (1 : Int32)), .val (.int r0), .val (.int r1), .val (.int r2), .val (.int rel), .unset, .unset, .unset, .unset, .unset, .unset, .unset, .unset, .unset] [])) _
      refine XS.iconst X0.here hx rfl (hb hby at_64) ?_
      exact k)
    obtain ⟨T150, h150, k150, X150, e150, E150, A150, st150⟩ := newP X0 hx hZ (hw _ (List.mem_of_getElem? (i := 2) rfl)) e0 (g := (mkF m 65 #[.val (.int ln), .val (.int la), .val (.int lb), .val (.int lc), .val (.int ld), .val (.int (1 : Int32)), .val (.int r0), .val (.int r1), .val (.int r2), .val (.int rel), .unset, .unset, .unset, .unset, .unset, .unset, .unset, .unset, .unset] [(.int (1 : Int32))])) rfl (hb hby at_65) rfl (by decide) (cap := 1) (by decide) (by decide) (by decide) (by decide)
    obtain ⟨b150, g150⟩ : ∃ z, z = h0.size := ⟨_, rfl⟩
    rw [← g150] at A150 st150
    have g151 : n0 ≤ b150 := Nat.le_trans Z0 (Nat.le_of_eq g150.symm)
    have Z152 : n0 ≤ h150.size := Nat.le_trans Z0 E150.1
    have hk153 : 0 ≤ h150.size := Nat.le_trans (Nat.zero_le _) E150.1
    have V154 : Arv Z h150 b150 k150 .int (1 : Int32) [(.int (0 : Int32))] (.int (0 : Int32)) := (Arv.new A150 (by decide)).pad (pad_rep [] (.int (0 : Int32)) 1)
    have k155 : ∀ t, Steps p.tables e below (T150.setTop (mkF m 67 #[.val (.int ln), .val (.int la), .val (.int lb), .val (.int lc), .val (.int ld), .val (.int (1 : Int32)), .val (.int r0), .val (.int r1), .val (.int r2), .val (.int rel), .unset, .unset, .unset, .unset, .unset, .unset, .unset, .unset, .unset] [(.ref b150)])) t → Steps p.tables e below (s₁.setTop (entryFrame m #[(.int ln), (.int la), (.int lb), (.int lc), (.int ld)] maxLocals)) t := fun t k => k149 t (st150 t k)
    have k156 : ∀ t, Steps p.tables e below (T150.setTop (mkF m 71 #[.val (.int ln), .val (.int la), .val (.int lb), .val (.int lc), .val (.int ld), .val (.int (1 : Int32)), .val (.int r0), .val (.int r1), .val (.int r2), .val (.int rel), .unset, .unset, .unset, .unset, .unset, .unset, .unset, .unset, .unset] [(.int r0), (.int (0 : Int32)), (.ref b150), (.ref b150)])) t → Steps p.tables e below (s₁.setTop (entryFrame m #[(.int ln), (.int la), (.int lb), (.int lc), (.int ld)] maxLocals)) t := fun t k => k155 t (by
      show Steps p.tables e below (T150.setTop (mkF m 67 #[.val (.int ln), .val (.int la), .val (.int lb), .val (.int lc), .val (.int ld), .val (.int (1 : Int32)), .val (.int r0), .val (.int r1), .val (.int r2), .val (.int rel), .unset, .unset, .unset, .unset, .unset, .unset, .unset, .unset, .unset] [(.ref b150)])) _
      refine XS.dup X150.here hx rfl (hb hby at_67) rfl rfl ?_
      show Steps p.tables e below (T150.setTop (mkF m 68 #[.val (.int ln), .val (.int la), .val (.int lb), .val (.int lc), .val (.int ld), .val (.int (1 : Int32)), .val (.int r0), .val (.int r1), .val (.int r2), .val (.int rel), .unset, .unset, .unset, .unset, .unset, .unset, .unset, .unset, .unset] [(.ref b150), (.ref b150)])) _
      refine XS.iconst X150.here hx rfl (hb hby at_68) ?_
      show Steps p.tables e below (T150.setTop (mkF m 69 #[.val (.int ln), .val (.int la), .val (.int lb), .val (.int lc), .val (.int ld), .val (.int (1 : Int32)), .val (.int r0), .val (.int r1), .val (.int r2), .val (.int rel), .unset, .unset, .unset, .unset, .unset, .unset, .unset, .unset, .unset] [(.int (0 : Int32)), (.ref b150), (.ref b150)])) _
      refine XS.iload X150.here hx rfl (hb hby at_69) rfl ?_
      exact k)
    obtain ⟨c157, Ar157, Aq157, As157, An157, Ah157, Ag157⟩ := id V154
    have hin157 : ¬ ((0 : Int32) < 0 ∨ c157.slots.size ≤ ((0 : Int32)).toNatClampNeg) := inb_of As157 ⟨by decide, by decide⟩
    obtain ⟨T157, h157, X157, e157, W157, st157⟩ := stI X150 hx hZ e150 Ar157 (j := (0 : Int32)) hin157 (g := (mkF m 71 #[.val (.int ln), .val (.int la), .val (.int lb), .val (.int lc), .val (.int ld), .val (.int (1 : Int32)), .val (.int r0), .val (.int r1), .val (.int r2), .val (.int rel), .unset, .unset, .unset, .unset, .unset, .unset, .unset, .unset, .unset] [(.int r0), (.int (0 : Int32)), (.ref b150), (.ref b150)])) rfl rfl (hb hby at_71)
    have V158 := Arv.set Ar157 Aq157 As157 An157 Ah157 Ag157 rfl W157 0 rfl (Nat.le_of_ble_eq_true rfl)
    have Z159 : n0 ≤ h157.size := Nat.le_trans Z152 (Nat.le_of_eq W157.size.symm)
    have N160 := Fr.snoc X157 N0 g151
    have hk161 : 0 ≤ h157.size := Nat.le_trans hk153 (Nat.le_of_eq W157.size.symm)
    have k162 : ∀ t, Steps p.tables e below (T157.setTop (mkF m 72 #[.val (.int ln), .val (.int la), .val (.int lb), .val (.int lc), .val (.int ld), .val (.int (1 : Int32)), .val (.int r0), .val (.int r1), .val (.int r2), .val (.int rel), .unset, .unset, .unset, .unset, .unset, .unset, .unset, .unset, .unset] [(.ref b150)])) t → Steps p.tables e below (s₁.setTop (entryFrame m #[(.int ln), (.int la), (.int lb), (.int lc), (.int ld)] maxLocals)) t := fun t k => k156 t (st157 t k)
    obtain ⟨i163, hi163⟩ : ∃ z : Int32, z = (r2 + (ld &&& (255 : Int32))) := ⟨_, rfl⟩
    have k164 : ∀ t, Steps p.tables e below (T157.setTop (mkF m 132 #[.val (.int ln), .val (.int la), .val (.int lb), .val (.int lc), .val (.int ld), .val (.int (1 : Int32)), .val (.int r0), .val (.int r1), .val (.int r2), .val (.int rel), .val (.ref b150), .val (.int i163), .unset, .unset, .unset, .unset, .unset, .unset, .unset] [])) t → Steps p.tables e below (s₁.setTop (entryFrame m #[(.int ln), (.int la), (.int lb), (.int lc), (.int ld)] maxLocals)) t := fun t k => k162 t (by
      show Steps p.tables e below (T157.setTop (mkF m 72 #[.val (.int ln), .val (.int la), .val (.int lb), .val (.int lc), .val (.int ld), .val (.int (1 : Int32)), .val (.int r0), .val (.int r1), .val (.int r2), .val (.int rel), .unset, .unset, .unset, .unset, .unset, .unset, .unset, .unset, .unset] [(.ref b150)])) _
      refine XS.astore X157.here hx rfl (hb hby at_72) rfl rfl (l' := #[.val (.int ln), .val (.int la), .val (.int lb), .val (.int lc), .val (.int ld), .val (.int (1 : Int32)), .val (.int r0), .val (.int r1), .val (.int r2), .val (.int rel), .val (.ref b150), .unset, .unset, .unset, .unset, .unset, .unset, .unset, .unset]) rfl ?_
      show Steps p.tables e below (T157.setTop (mkF m 74 #[.val (.int ln), .val (.int la), .val (.int lb), .val (.int lc), .val (.int ld), .val (.int (1 : Int32)), .val (.int r0), .val (.int r1), .val (.int r2), .val (.int rel), .val (.ref b150), .unset, .unset, .unset, .unset, .unset, .unset, .unset, .unset] [])) _
      refine XS.goto X157.here hx rfl (pc0 := 74) (pc' := 121) rfl (hb hby at_74) (by decide) (by decide) ?_
      show Steps p.tables e below (T157.setTop (mkF m 121 #[.val (.int ln), .val (.int la), .val (.int lb), .val (.int lc), .val (.int ld), .val (.int (1 : Int32)), .val (.int r0), .val (.int r1), .val (.int r2), .val (.int rel), .val (.ref b150), .unset, .unset, .unset, .unset, .unset, .unset, .unset, .unset] [])) _
      refine XS.iload X157.here hx rfl (hb hby at_121) rfl ?_
      show Steps p.tables e below (T157.setTop (mkF m 123 #[.val (.int ln), .val (.int la), .val (.int lb), .val (.int lc), .val (.int ld), .val (.int (1 : Int32)), .val (.int r0), .val (.int r1), .val (.int r2), .val (.int rel), .val (.ref b150), .unset, .unset, .unset, .unset, .unset, .unset, .unset, .unset] [(.int r2)])) _
      refine XS.iload X157.here hx rfl (hb hby at_123) rfl ?_
      show Steps p.tables e below (T157.setTop (mkF m 125 #[.val (.int ln), .val (.int la), .val (.int lb), .val (.int lc), .val (.int ld), .val (.int (1 : Int32)), .val (.int r0), .val (.int r1), .val (.int r2), .val (.int rel), .val (.ref b150), .unset, .unset, .unset, .unset, .unset, .unset, .unset, .unset] [(.int ld), (.int r2)])) _
      refine XS.sipush X157.here hx rfl (hb hby at_125) ?_
      show Steps p.tables e below (T157.setTop (mkF m 128 #[.val (.int ln), .val (.int la), .val (.int lb), .val (.int lc), .val (.int ld), .val (.int (1 : Int32)), .val (.int r0), .val (.int r1), .val (.int r2), .val (.int rel), .val (.ref b150), .unset, .unset, .unset, .unset, .unset, .unset, .unset, .unset] [(.int (255 : Int32)), (.int ld), (.int r2)])) _
      refine XS.iand X157.here hx rfl (hb hby at_128) rfl ?_
      show Steps p.tables e below (T157.setTop (mkF m 129 #[.val (.int ln), .val (.int la), .val (.int lb), .val (.int lc), .val (.int ld), .val (.int (1 : Int32)), .val (.int r0), .val (.int r1), .val (.int r2), .val (.int rel), .val (.ref b150), .unset, .unset, .unset, .unset, .unset, .unset, .unset, .unset] [(.int (ld &&& (255 : Int32))), (.int r2)])) _
      refine XS.iadd X157.here hx rfl (hb hby at_129) rfl ?_
      show Steps p.tables e below (T157.setTop (mkF m 130 #[.val (.int ln), .val (.int la), .val (.int lb), .val (.int lc), .val (.int ld), .val (.int (1 : Int32)), .val (.int r0), .val (.int r1), .val (.int r2), .val (.int rel), .val (.ref b150), .unset, .unset, .unset, .unset, .unset, .unset, .unset, .unset] [(.int (r2 + (ld &&& (255 : Int32))))])) _
      refine castTop (g' := (mkF m 130 #[.val (.int ln), .val (.int la), .val (.int lb), .val (.int lc), .val (.int ld), .val (.int (1 : Int32)), .val (.int r0), .val (.int r1), .val (.int r2), .val (.int rel), .val (.ref b150), .unset, .unset, .unset, .unset, .unset, .unset, .unset, .unset] [(.int i163)])) (by rw [hi163]) ?_
      show Steps p.tables e below (T157.setTop (mkF m 130 #[.val (.int ln), .val (.int la), .val (.int lb), .val (.int lc), .val (.int ld), .val (.int (1 : Int32)), .val (.int r0), .val (.int r1), .val (.int r2), .val (.int rel), .val (.ref b150), .unset, .unset, .unset, .unset, .unset, .unset, .unset, .unset] [(.int i163)])) _
      refine XS.istore X157.here hx rfl (hb hby at_130) rfl (l' := #[.val (.int ln), .val (.int la), .val (.int lb), .val (.int lc), .val (.int ld), .val (.int (1 : Int32)), .val (.int r0), .val (.int r1), .val (.int r2), .val (.int rel), .val (.ref b150), .val (.int i163), .unset, .unset, .unset, .unset, .unset, .unset, .unset]) rfl ?_
      exact k)
    obtain ⟨T165, h165, X165, e165, E165, A165, D165, -, st165⟩ := newO X157 hx hZ hown (hw _ (List.mem_of_getElem? (i := 3) rfl)) (hw _ (List.mem_of_getElem? (i := 4) rfl)) (hw _ (List.mem_of_getElem? (i := 5) rfl)) e157 (g := (mkF m 132 #[.val (.int ln), .val (.int la), .val (.int lb), .val (.int lc), .val (.int ld), .val (.int (1 : Int32)), .val (.int r0), .val (.int r1), .val (.int r2), .val (.int rel), .val (.ref b150), .val (.int i163), .unset, .unset, .unset, .unset, .unset, .unset, .unset] [])) rfl (hb hby at_132) (by decide) (by decide)
    obtain ⟨b165, g165⟩ : ∃ z, z = h157.size := ⟨_, rfl⟩
    rw [← g165] at A165 D165 st165
    have n166 : b150 ≠ b165 := Nat.ne_of_lt (Nat.lt_of_lt_of_le V158.lt (Nat.le_of_eq g165.symm))
    have g167 : n0 ≤ b165 := Nat.le_trans Z159 (Nat.le_of_eq g165.symm)
    have F168 := V158.ext E165
    have Z169 : n0 ≤ h165.size := Nat.le_trans Z159 E165.1
    have hk170 : 0 ≤ h165.size := Nat.le_trans hk161 E165.1
    have F171 : Fld Z h165 b165 "com/example/round2/round2/eval/TopicResult" "topic" "Ljava/lang/String;" .null := D165 (Or.inr (hw _ (List.mem_of_getElem? (i := 21) rfl))) (ty := (.object "java/lang/String")) (by decide)
    have F172 : Fld Z h165 b165 "com/example/round2/round2/eval/TopicResult" "retrieved" "I" (.int (0 : Int32)) := D165 (Or.inr (hw _ (List.mem_of_getElem? (i := 23) rfl))) (ty := .int) (by decide)
    have F173 : Fld Z h165 b165 "com/example/round2/round2/eval/TopicResult" "relevant" "I" (.int (0 : Int32)) := D165 (Or.inr (hw _ (List.mem_of_getElem? (i := 25) rfl))) (ty := .int) (by decide)
    have F174 : Fld Z h165 b165 "com/example/round2/round2/eval/TopicResult" "relevantRanks" "[I" .null := D165 (Or.inr (hw _ (List.mem_of_getElem? (i := 27) rfl))) (ty := (.array .int)) (by decide)
    have k175 : ∀ t, Steps p.tables e below (T165.setTop (mkF m 135 #[.val (.int ln), .val (.int la), .val (.int lb), .val (.int lc), .val (.int ld), .val (.int (1 : Int32)), .val (.int r0), .val (.int r1), .val (.int r2), .val (.int rel), .val (.ref b150), .val (.int i163), .unset, .unset, .unset, .unset, .unset, .unset, .unset] [(.ref b165)])) t → Steps p.tables e below (s₁.setTop (entryFrame m #[(.int ln), (.int la), (.int lb), (.int lc), (.int ld)] maxLocals)) t := fun t k => k164 t (st165 t k)
    have k176 : ∀ t, Steps p.tables e below (T165.setTop (mkF m 136 #[.val (.int ln), .val (.int la), .val (.int lb), .val (.int lc), .val (.int ld), .val (.int (1 : Int32)), .val (.int r0), .val (.int r1), .val (.int r2), .val (.int rel), .val (.ref b150), .val (.int i163), .unset, .unset, .unset, .unset, .unset, .unset, .unset] [(.ref b165), (.ref b165)])) t → Steps p.tables e below (s₁.setTop (entryFrame m #[(.int ln), (.int la), (.int lb), (.int lc), (.int ld)] maxLocals)) t := fun t k => k175 t (by
      show Steps p.tables e below (T165.setTop (mkF m 135 #[.val (.int ln), .val (.int la), .val (.int lb), .val (.int lc), .val (.int ld), .val (.int (1 : Int32)), .val (.int r0), .val (.int r1), .val (.int r2), .val (.int rel), .val (.ref b150), .val (.int i163), .unset, .unset, .unset, .unset, .unset, .unset, .unset] [(.ref b165)])) _
      refine XS.dup X165.here hx rfl (hb hby at_135) rfl rfl ?_
      exact k)
    obtain ⟨b177, T177, h177, kk177, X177, e177, E177, hS177, hk177, hZ177, hown177, st177⟩ := ldcS (s := s) (vm0 := s.vm) X165 hx hZ hown (hw _ (List.mem_of_getElem? (i := 6) rfl)) (own_strAtoms hw) e165 hS0 hk170 (g := (mkF m 136 #[.val (.int ln), .val (.int la), .val (.int lb), .val (.int lc), .val (.int ld), .val (.int (1 : Int32)), .val (.int r0), .val (.int r1), .val (.int r2), .val (.int rel), .val (.ref b150), .val (.int i163), .unset, .unset, .unset, .unset, .unset, .unset, .unset] [(.ref b165), (.ref b165)])) rfl (hb hby at_136) (n := 4) (by decide) (by decide) (by decide) (by decide)
    have F178 := F168.ext E177
    have F179 := A165.ext E177
    have F180 := F171.ext E177
    have F181 := F172.ext E177
    have F182 := F173.ext E177
    have F183 := F174.ext E177
    have Z184 : n0 ≤ h177.size := Nat.le_trans Z169 E177.1
    have k185 : ∀ t, Steps p.tables e below (T177.setTop (mkF m 138 #[.val (.int ln), .val (.int la), .val (.int lb), .val (.int lc), .val (.int ld), .val (.int (1 : Int32)), .val (.int r0), .val (.int r1), .val (.int r2), .val (.int rel), .val (.ref b150), .val (.int i163), .unset, .unset, .unset, .unset, .unset, .unset, .unset] [(.ref b177), (.ref b165), (.ref b165)])) t → Steps p.tables e below (s₁.setTop (entryFrame m #[(.int ln), (.int la), (.int lb), (.int lc), (.int ld)] maxLocals)) t := fun t k => k176 t (st177 t k)
    have k186 : ∀ t, Steps p.tables e below (T177.setTop (mkF m 144 #[.val (.int ln), .val (.int la), .val (.int lb), .val (.int lc), .val (.int ld), .val (.int (1 : Int32)), .val (.int r0), .val (.int r1), .val (.int r2), .val (.int rel), .val (.ref b150), .val (.int i163), .unset, .unset, .unset, .unset, .unset, .unset, .unset] [(.ref b150), (.int rel), (.int i163), (.ref b177), (.ref b165), (.ref b165)])) t → Steps p.tables e below (s₁.setTop (entryFrame m #[(.int ln), (.int la), (.int lb), (.int lc), (.int ld)] maxLocals)) t := fun t k => k185 t (by
      show Steps p.tables e below (T177.setTop (mkF m 138 #[.val (.int ln), .val (.int la), .val (.int lb), .val (.int lc), .val (.int ld), .val (.int (1 : Int32)), .val (.int r0), .val (.int r1), .val (.int r2), .val (.int rel), .val (.ref b150), .val (.int i163), .unset, .unset, .unset, .unset, .unset, .unset, .unset] [(.ref b177), (.ref b165), (.ref b165)])) _
      refine XS.iload X177.here hx rfl (hb hby at_138) rfl ?_
      show Steps p.tables e below (T177.setTop (mkF m 140 #[.val (.int ln), .val (.int la), .val (.int lb), .val (.int lc), .val (.int ld), .val (.int (1 : Int32)), .val (.int r0), .val (.int r1), .val (.int r2), .val (.int rel), .val (.ref b150), .val (.int i163), .unset, .unset, .unset, .unset, .unset, .unset, .unset] [(.int i163), (.ref b177), (.ref b165), (.ref b165)])) _
      refine XS.iload X177.here hx rfl (hb hby at_140) rfl ?_
      show Steps p.tables e below (T177.setTop (mkF m 142 #[.val (.int ln), .val (.int la), .val (.int lb), .val (.int lc), .val (.int ld), .val (.int (1 : Int32)), .val (.int r0), .val (.int r1), .val (.int r2), .val (.int rel), .val (.ref b150), .val (.int i163), .unset, .unset, .unset, .unset, .unset, .unset, .unset] [(.int rel), (.int i163), (.ref b177), (.ref b165), (.ref b165)])) _
      refine XS.aload X177.here hx rfl (hb hby at_142) rfl rfl ?_
      exact k)
    obtain ⟨_, _, ⟨T187, L187, k187, n187⟩, -, X187, ⟨Lc187, hQ187, l187, y187, z187⟩, st187⟩ := X177.specialBack hx (y := (⟨"com/example/round2/round2/eval/TopicResult", "<init>", "(Ljava/lang/String;II[I)V"⟩ : MethodName)) rfl hown177 (mvT hZ177 (hw _ (List.mem_of_getElem? (i := 14) rfl))) (mvT hZ177 (hw _ (List.mem_of_getElem? (i := 15) rfl))) (mvT hZ177 (hw _ (List.mem_of_getElem? (i := 16) rfl))) (by decide) (backOf (W := 1) (rm1 l Z a0 hw [] b165 b177 i163 rel b150 h177 n0 Z184 F180 F181 F182 F183 F179 g167) hZ177 (hw _ (List.mem_of_getElem? (i := 16) rfl)) (hw _ (List.mem_of_getElem? (i := 5) rfl)) (by decide) (by decide)) (g := (mkF m 144 #[.val (.int ln), .val (.int la), .val (.int lb), .val (.int lc), .val (.int ld), .val (.int (1 : Int32)), .val (.int r0), .val (.int r1), .val (.int r2), .val (.int rel), .val (.ref b150), .val (.int i163), .unset, .unset, .unset, .unset, .unset, .unset, .unset] [(.ref b150), (.int rel), (.int i163), (.ref b177), (.ref b165), (.ref b165)])) rfl (by rw [hml]; rfl) (Steps.refl _) (a := b165) (argsL := [(.ref b177), (.int i163), (.int rel), (.ref b150)]) (rest := [(.ref b165)]) (lenOf pd__28Ljava_2flang_2fString_3bII_5bI_29V rfl) rfl (by show 2 * 0 + _ ≤ _; exact Nat.le_of_eq rfl) (hb hby at_144) (fun _ _ => ⟨rfl, e177, (by decide : 4 + 0 ≤ _), (by decide : 13 + 0 ≤ _)⟩)
    dsimp only [Pt.U, Pt.locs, Pt.cells, Pt.slots] at X187 l187 y187 z187 st187 hQ187
    subst l187 y187 z187
    obtain ⟨h187, e187⟩ : ∃ h', T187.heap = h' := ⟨_, rfl⟩
    rw [e187] at hQ187
    obtain ⟨rfl, N187q, K187, G187a, G187b, G187c⟩ := hQ187
    have N188 := Fr.app N160 N187q
    have k189 : ∀ t, Steps p.tables e below (T187.setTop (mkF m 147 #[.val (.int ln), .val (.int la), .val (.int lb), .val (.int lc), .val (.int ld), .val (.int (1 : Int32)), .val (.int r0), .val (.int r1), .val (.int r2), .val (.int rel), .val (.ref b150), .val (.int i163), .unset, .unset, .unset, .unset, .unset, .unset, .unset] [(.ref b165)])) t → Steps p.tables e below (s₁.setTop (entryFrame m #[(.int ln), (.int la), (.int lb), (.int lc), (.int ld)] maxLocals)) t := fun t k => k186 t (st187.trans k)
    have F190 := F178.keep K187 (ninS n166 nin0)
    have F191 := F179.keep K187
    have Z192 : n0 ≤ h187.size := Nat.le_trans Z184 K187.1
    have hk193 : kk177 ≤ h187.size := Nat.le_trans hk177 K187.1
    have U0 : Jvm.FP.Core.dIsNaN (FP.dadd (0 : UInt64) (FP.ddiv (FP.i2d (1 : Int32)) (FP.i2d r0))) = false := Jvm.FP.Core.dadd_out (by decide +kernel) (fin_div _ Z0')
    have k194 : ∀ t, Steps p.tables e below (T187.setTop (mkF m 151 #[.val (.int ln), .val (.int la), .val (.int lb), .val (.int lc), .val (.int ld), .val (.int (1 : Int32)), .val (.int r0), .val (.int r1), .val (.int r2), .val (.int rel), .val (.ref b150), .val (.int i163), .val (.ref b165), .unset, .unset, .unset, .unset, .unset, .unset] [(.ref b165)])) t → Steps p.tables e below (s₁.setTop (entryFrame m #[(.int ln), (.int la), (.int lb), (.int lc), (.int ld)] maxLocals)) t := fun t k => k189 t (by
      show Steps p.tables e below (T187.setTop (mkF m 147 #[.val (.int ln), .val (.int la), .val (.int lb), .val (.int lc), .val (.int ld), .val (.int (1 : Int32)), .val (.int r0), .val (.int r1), .val (.int r2), .val (.int rel), .val (.ref b150), .val (.int i163), .unset, .unset, .unset, .unset, .unset, .unset, .unset] [(.ref b165)])) _
      refine XS.astore X187.here hx rfl (hb hby at_147) rfl rfl (l' := #[.val (.int ln), .val (.int la), .val (.int lb), .val (.int lc), .val (.int ld), .val (.int (1 : Int32)), .val (.int r0), .val (.int r1), .val (.int r2), .val (.int rel), .val (.ref b150), .val (.int i163), .val (.ref b165), .unset, .unset, .unset, .unset, .unset, .unset]) rfl ?_
      show Steps p.tables e below (T187.setTop (mkF m 149 #[.val (.int ln), .val (.int la), .val (.int lb), .val (.int lc), .val (.int ld), .val (.int (1 : Int32)), .val (.int r0), .val (.int r1), .val (.int r2), .val (.int rel), .val (.ref b150), .val (.int i163), .val (.ref b165), .unset, .unset, .unset, .unset, .unset, .unset] [])) _
      refine XS.aload X187.here hx rfl (hb hby at_149) rfl rfl ?_
      exact k)
    by_cases cz : rel = (0 : Int32)
    · obtain ⟨cq195, kq195, q195a, q195b, q195c⟩ := isOf hZ177 e187 G187a
      obtain ⟨_, _, ⟨T195, L195, k195, n195⟩, -, X195, ⟨Lc195, hQ195, l195, y195, z195⟩, st195⟩ := X187.virtualBack hx (y := (⟨"com/example/round2/round2/eval/TopicResult", "averagePrecision", "()D"⟩ : MethodName)) (z := (⟨"com/example/round2/round2/eval/TopicResult", "averagePrecision", "()D"⟩ : MethodName)) hown177 (mvT hZ177 (hw _ (List.mem_of_getElem? (i := 28) rfl))) (mvT hZ177 (hw _ (List.mem_of_getElem? (i := 29) rfl))) (notFace_of_selects (args := #[]) (mvT hZ177 (hw _ (List.mem_of_getElem? (i := 31) rfl)))) (mvT hZ177 (hw _ (List.mem_of_getElem? (i := 31) rfl))) (mvT hZ177 (hw _ (List.mem_of_getElem? (i := 30) rfl))) (by decide) (backOf (W := 0) (avp1_1 l Z a0 hw [] b165 b150 k150 rel r0 h187 n0 Z192 G187c G187b F190 cz (nn_of (no_fin (fin_div _ Z0'))) (nn_of U0)) hZ177 (hw _ (List.mem_of_getElem? (i := 32) rfl)) (hw _ (List.mem_of_getElem? (i := 5) rfl)) (by decide) (by decide)) q195a q195c (g := (mkF m 151 #[.val (.int ln), .val (.int la), .val (.int lb), .val (.int lc), .val (.int ld), .val (.int (1 : Int32)), .val (.int r0), .val (.int r1), .val (.int r2), .val (.int rel), .val (.ref b150), .val (.int i163), .val (.ref b165), .unset, .unset, .unset, .unset, .unset, .unset] [(.ref b165)])) rfl (by rw [hml]; rfl) (Steps.refl _) (argsL := []) (rest := []) (lenOf pd__28_29D rfl) rfl (by show 2 * 0 + _ ≤ _; exact Nat.le_of_eq rfl) (hb hby at_151) (fun _ _ => ⟨rfl, e187, (by decide : 4 + 0 ≤ _), (by decide : 13 + 0 ≤ _)⟩)
      dsimp only [Pt.U, Pt.locs, Pt.cells, Pt.slots] at X195 l195 y195 z195 st195 hQ195
      subst l195 y195 z195
      obtain ⟨rfl, N195q, e195⟩ := hQ195
      have N196 := Fr.app N188 N195q
      have k197 : ∀ t, Steps p.tables e below (T195.setTop (mkF m 154 #[.val (.int ln), .val (.int la), .val (.int lb), .val (.int lc), .val (.int ld), .val (.int (1 : Int32)), .val (.int r0), .val (.int r1), .val (.int r2), .val (.int rel), .val (.ref b150), .val (.int i163), .val (.ref b165), .unset, .unset, .unset, .unset, .unset, .unset] [(.double (0 : UInt64))])) t → Steps p.tables e below (s₁.setTop (entryFrame m #[(.int ln), (.int la), (.int lb), (.int lc), (.int ld)] maxLocals)) t := fun t k => k194 t (st195.trans k)
      obtain ⟨x0, hx0⟩ : ∃ z : UInt64, FP.i2d r0 = z := ⟨_, rfl⟩
      obtain ⟨q0, hq0⟩ : ∃ z : UInt64, FP.ddiv (4607182418800017408 : UInt64) x0 = z := ⟨_, rfl⟩
      have eq0 : q0 = (FP.ddiv (FP.i2d (1 : Int32)) (FP.i2d r0)) := by rw [← hq0, ← hx0, ← own_c0]
      obtain ⟨t0, ht0⟩ : ∃ z : UInt64, FP.dadd (0 : UInt64) q0 = z := ⟨_, rfl⟩
      have et0 : t0 = (FP.dadd (0 : UInt64) (FP.ddiv (FP.i2d (1 : Int32)) (FP.i2d r0))) := by rw [← ht0, eq0]
      have k198 : ∀ t, Steps p.tables e below (T195.setTop (mkF m 243 #[.val (.int ln), .val (.int la), .val (.int lb), .val (.int lc), .val (.int ld), .val (.int (1 : Int32)), .val (.int r0), .val (.int r1), .val (.int r2), .val (.int rel), .val (.ref b150), .val (.int i163), .val (.ref b165), .val (.double (0 : UInt64)), .second, .val (.double t0), .second, .val (.double (0 : UInt64)), .second] [(.int (1 : Int32))])) t → Steps p.tables e below (s₁.setTop (entryFrame m #[(.int ln), (.int la), (.int lb), (.int lc), (.int ld)] maxLocals)) t := fun t k => k197 t (by
        show Steps p.tables e below (T195.setTop (mkF m 154 #[.val (.int ln), .val (.int la), .val (.int lb), .val (.int lc), .val (.int ld), .val (.int (1 : Int32)), .val (.int r0), .val (.int r1), .val (.int r2), .val (.int rel), .val (.ref b150), .val (.int i163), .val (.ref b165), .unset, .unset, .unset, .unset, .unset, .unset] [(.double (0 : UInt64))])) _
        refine XS.dstore X195.here hx rfl (hb hby at_154) rfl (l' := #[.val (.int ln), .val (.int la), .val (.int lb), .val (.int lc), .val (.int ld), .val (.int (1 : Int32)), .val (.int r0), .val (.int r1), .val (.int r2), .val (.int rel), .val (.ref b150), .val (.int i163), .val (.ref b165), .val (.double (0 : UInt64)), .second, .unset, .unset, .unset, .unset]) rfl ?_
        show Steps p.tables e below (T195.setTop (mkF m 156 #[.val (.int ln), .val (.int la), .val (.int lb), .val (.int lc), .val (.int ld), .val (.int (1 : Int32)), .val (.int r0), .val (.int r1), .val (.int r2), .val (.int rel), .val (.ref b150), .val (.int i163), .val (.ref b165), .val (.double (0 : UInt64)), .second, .unset, .unset, .unset, .unset] [])) _
        refine XS.dconst0 X195.here hx rfl (hb hby at_156) (v := (0 : UInt64)) rfl ?_
        show Steps p.tables e below (T195.setTop (mkF m 157 #[.val (.int ln), .val (.int la), .val (.int lb), .val (.int lc), .val (.int ld), .val (.int (1 : Int32)), .val (.int r0), .val (.int r1), .val (.int r2), .val (.int rel), .val (.ref b150), .val (.int i163), .val (.ref b165), .val (.double (0 : UInt64)), .second, .unset, .unset, .unset, .unset] [(.double (0 : UInt64))])) _
        refine XS.dstore X195.here hx rfl (hb hby at_157) rfl (l' := #[.val (.int ln), .val (.int la), .val (.int lb), .val (.int lc), .val (.int ld), .val (.int (1 : Int32)), .val (.int r0), .val (.int r1), .val (.int r2), .val (.int rel), .val (.ref b150), .val (.int i163), .val (.ref b165), .val (.double (0 : UInt64)), .second, .val (.double (0 : UInt64)), .second, .unset, .unset]) rfl ?_
        show Steps p.tables e below (T195.setTop (mkF m 159 #[.val (.int ln), .val (.int la), .val (.int lb), .val (.int lc), .val (.int ld), .val (.int (1 : Int32)), .val (.int r0), .val (.int r1), .val (.int r2), .val (.int rel), .val (.ref b150), .val (.int i163), .val (.ref b165), .val (.double (0 : UInt64)), .second, .val (.double (0 : UInt64)), .second, .unset, .unset] [])) _
        refine XS.iload X195.here hx rfl (hb hby at_159) rfl ?_
        show Steps p.tables e below (T195.setTop (mkF m 161 #[.val (.int ln), .val (.int la), .val (.int lb), .val (.int lc), .val (.int ld), .val (.int (1 : Int32)), .val (.int r0), .val (.int r1), .val (.int r2), .val (.int rel), .val (.ref b150), .val (.int i163), .val (.ref b165), .val (.double (0 : UInt64)), .second, .val (.double (0 : UInt64)), .second, .unset, .unset] [(.int (1 : Int32))])) _
        refine XS.iconst X195.here hx rfl (hb hby at_161) ?_
        show Steps p.tables e below (T195.setTop (mkF m 162 #[.val (.int ln), .val (.int la), .val (.int lb), .val (.int lc), .val (.int ld), .val (.int (1 : Int32)), .val (.int r0), .val (.int r1), .val (.int r2), .val (.int rel), .val (.ref b150), .val (.int i163), .val (.ref b165), .val (.double (0 : UInt64)), .second, .val (.double (0 : UInt64)), .second, .unset, .unset] [(.int (1 : Int32)), (.int (1 : Int32))])) _
        refine XS.icmpNo X195.here hx rfl (hb hby at_162) rfl (flt (by decide)).1 ?_
        show Steps p.tables e below (T195.setTop (mkF m 165 #[.val (.int ln), .val (.int la), .val (.int lb), .val (.int lc), .val (.int ld), .val (.int (1 : Int32)), .val (.int r0), .val (.int r1), .val (.int r2), .val (.int rel), .val (.ref b150), .val (.int i163), .val (.ref b165), .val (.double (0 : UInt64)), .second, .val (.double (0 : UInt64)), .second, .unset, .unset] [])) _
        refine XS.dload X195.here hx rfl (hb hby at_165) rfl ?_
        show Steps p.tables e below (T195.setTop (mkF m 167 #[.val (.int ln), .val (.int la), .val (.int lb), .val (.int lc), .val (.int ld), .val (.int (1 : Int32)), .val (.int r0), .val (.int r1), .val (.int r2), .val (.int rel), .val (.ref b150), .val (.int i163), .val (.ref b165), .val (.double (0 : UInt64)), .second, .val (.double (0 : UInt64)), .second, .unset, .unset] [(.double (0 : UInt64))])) _
        refine XS.dconst1 X195.here hx rfl (hb hby at_167) (v := (4607182418800017408 : UInt64)) rfl ?_
        show Steps p.tables e below (T195.setTop (mkF m 168 #[.val (.int ln), .val (.int la), .val (.int lb), .val (.int lc), .val (.int ld), .val (.int (1 : Int32)), .val (.int r0), .val (.int r1), .val (.int r2), .val (.int rel), .val (.ref b150), .val (.int i163), .val (.ref b165), .val (.double (0 : UInt64)), .second, .val (.double (0 : UInt64)), .second, .unset, .unset] [(.double (4607182418800017408 : UInt64)), (.double (0 : UInt64))])) _
        refine XS.iload X195.here hx rfl (hb hby at_168) rfl ?_
        show Steps p.tables e below (T195.setTop (mkF m 170 #[.val (.int ln), .val (.int la), .val (.int lb), .val (.int lc), .val (.int ld), .val (.int (1 : Int32)), .val (.int r0), .val (.int r1), .val (.int r2), .val (.int rel), .val (.ref b150), .val (.int i163), .val (.ref b165), .val (.double (0 : UInt64)), .second, .val (.double (0 : UInt64)), .second, .unset, .unset] [(.int r0), (.double (4607182418800017408 : UInt64)), (.double (0 : UInt64))])) _
        refine XS.i2dS X195.here hx rfl (hb hby at_170) rfl hx0 ?_
        show Steps p.tables e below (T195.setTop (mkF m 171 #[.val (.int ln), .val (.int la), .val (.int lb), .val (.int lc), .val (.int ld), .val (.int (1 : Int32)), .val (.int r0), .val (.int r1), .val (.int r2), .val (.int rel), .val (.ref b150), .val (.int i163), .val (.ref b165), .val (.double (0 : UInt64)), .second, .val (.double (0 : UInt64)), .second, .unset, .unset] [(.double x0), (.double (4607182418800017408 : UInt64)), (.double (0 : UInt64))])) _
        refine XS.ddivS X195.here hx rfl (hb hby at_171) rfl ((by rw [← hx0, ← own_c0]; exact nn_of (no_fin (fin_div _ Z0')))) hq0 ?_
        show Steps p.tables e below (T195.setTop (mkF m 172 #[.val (.int ln), .val (.int la), .val (.int lb), .val (.int lc), .val (.int ld), .val (.int (1 : Int32)), .val (.int r0), .val (.int r1), .val (.int r2), .val (.int rel), .val (.ref b150), .val (.int i163), .val (.ref b165), .val (.double (0 : UInt64)), .second, .val (.double (0 : UInt64)), .second, .unset, .unset] [(.double q0), (.double (0 : UInt64))])) _
        refine XS.daddS X195.here hx rfl (hb hby at_172) rfl ((by rw [eq0]; exact nn_of U0)) ht0 ?_
        show Steps p.tables e below (T195.setTop (mkF m 173 #[.val (.int ln), .val (.int la), .val (.int lb), .val (.int lc), .val (.int ld), .val (.int (1 : Int32)), .val (.int r0), .val (.int r1), .val (.int r2), .val (.int rel), .val (.ref b150), .val (.int i163), .val (.ref b165), .val (.double (0 : UInt64)), .second, .val (.double (0 : UInt64)), .second, .unset, .unset] [(.double t0)])) _
        refine XS.dstore X195.here hx rfl (hb hby at_173) rfl (l' := #[.val (.int ln), .val (.int la), .val (.int lb), .val (.int lc), .val (.int ld), .val (.int (1 : Int32)), .val (.int r0), .val (.int r1), .val (.int r2), .val (.int rel), .val (.ref b150), .val (.int i163), .val (.ref b165), .val (.double (0 : UInt64)), .second, .val (.double t0), .second, .unset, .unset]) rfl ?_
        show Steps p.tables e below (T195.setTop (mkF m 175 #[.val (.int ln), .val (.int la), .val (.int lb), .val (.int lc), .val (.int ld), .val (.int (1 : Int32)), .val (.int r0), .val (.int r1), .val (.int r2), .val (.int rel), .val (.ref b150), .val (.int i163), .val (.ref b165), .val (.double (0 : UInt64)), .second, .val (.double t0), .second, .unset, .unset] [])) _
        refine XS.iload X195.here hx rfl (hb hby at_175) rfl ?_
        show Steps p.tables e below (T195.setTop (mkF m 177 #[.val (.int ln), .val (.int la), .val (.int lb), .val (.int lc), .val (.int ld), .val (.int (1 : Int32)), .val (.int r0), .val (.int r1), .val (.int r2), .val (.int rel), .val (.ref b150), .val (.int i163), .val (.ref b165), .val (.double (0 : UInt64)), .second, .val (.double t0), .second, .unset, .unset] [(.int (1 : Int32))])) _
        refine XS.iconst X195.here hx rfl (hb hby at_177) ?_
        show Steps p.tables e below (T195.setTop (mkF m 178 #[.val (.int ln), .val (.int la), .val (.int lb), .val (.int lc), .val (.int ld), .val (.int (1 : Int32)), .val (.int r0), .val (.int r1), .val (.int r2), .val (.int rel), .val (.ref b150), .val (.int i163), .val (.ref b165), .val (.double (0 : UInt64)), .second, .val (.double t0), .second, .unset, .unset] [(.int (2 : Int32)), (.int (1 : Int32))])) _
        refine XS.icmpYes X195.here hx rfl (pc0 := 178) (pc' := 193) rfl (hb hby at_178) rfl (tlt (by decide)).1 (by decide) (by decide) ?_
        show Steps p.tables e below (T195.setTop (mkF m 193 #[.val (.int ln), .val (.int la), .val (.int lb), .val (.int lc), .val (.int ld), .val (.int (1 : Int32)), .val (.int r0), .val (.int r1), .val (.int r2), .val (.int rel), .val (.ref b150), .val (.int i163), .val (.ref b165), .val (.double (0 : UInt64)), .second, .val (.double t0), .second, .unset, .unset] [])) _
        refine XS.iload X195.here hx rfl (hb hby at_193) rfl ?_
        show Steps p.tables e below (T195.setTop (mkF m 195 #[.val (.int ln), .val (.int la), .val (.int lb), .val (.int lc), .val (.int ld), .val (.int (1 : Int32)), .val (.int r0), .val (.int r1), .val (.int r2), .val (.int rel), .val (.ref b150), .val (.int i163), .val (.ref b165), .val (.double (0 : UInt64)), .second, .val (.double t0), .second, .unset, .unset] [(.int (1 : Int32))])) _
        refine XS.iconst X195.here hx rfl (hb hby at_195) ?_
        show Steps p.tables e below (T195.setTop (mkF m 196 #[.val (.int ln), .val (.int la), .val (.int lb), .val (.int lc), .val (.int ld), .val (.int (1 : Int32)), .val (.int r0), .val (.int r1), .val (.int r2), .val (.int rel), .val (.ref b150), .val (.int i163), .val (.ref b165), .val (.double (0 : UInt64)), .second, .val (.double t0), .second, .unset, .unset] [(.int (3 : Int32)), (.int (1 : Int32))])) _
        refine XS.icmpYes X195.here hx rfl (pc0 := 196) (pc' := 211) rfl (hb hby at_196) rfl (tlt (by decide)).1 (by decide) (by decide) ?_
        show Steps p.tables e below (T195.setTop (mkF m 211 #[.val (.int ln), .val (.int la), .val (.int lb), .val (.int lc), .val (.int ld), .val (.int (1 : Int32)), .val (.int r0), .val (.int r1), .val (.int r2), .val (.int rel), .val (.ref b150), .val (.int i163), .val (.ref b165), .val (.double (0 : UInt64)), .second, .val (.double t0), .second, .unset, .unset] [])) _
        refine XS.iload X195.here hx rfl (hb hby at_211) rfl ?_
        show Steps p.tables e below (T195.setTop (mkF m 213 #[.val (.int ln), .val (.int la), .val (.int lb), .val (.int lc), .val (.int ld), .val (.int (1 : Int32)), .val (.int r0), .val (.int r1), .val (.int r2), .val (.int rel), .val (.ref b150), .val (.int i163), .val (.ref b165), .val (.double (0 : UInt64)), .second, .val (.double t0), .second, .unset, .unset] [(.int rel)])) _
        refine XS.ifNo X195.here hx rfl (hb hby at_213) rfl ((if0 _ _).trans (teq cz).2) ?_
        show Steps p.tables e below (T195.setTop (mkF m 216 #[.val (.int ln), .val (.int la), .val (.int lb), .val (.int lc), .val (.int ld), .val (.int (1 : Int32)), .val (.int r0), .val (.int r1), .val (.int r2), .val (.int rel), .val (.ref b150), .val (.int i163), .val (.ref b165), .val (.double (0 : UInt64)), .second, .val (.double t0), .second, .unset, .unset] [])) _
        refine XS.dconst0 X195.here hx rfl (hb hby at_216) (v := (0 : UInt64)) rfl ?_
        show Steps p.tables e below (T195.setTop (mkF m 217 #[.val (.int ln), .val (.int la), .val (.int lb), .val (.int lc), .val (.int ld), .val (.int (1 : Int32)), .val (.int r0), .val (.int r1), .val (.int r2), .val (.int rel), .val (.ref b150), .val (.int i163), .val (.ref b165), .val (.double (0 : UInt64)), .second, .val (.double t0), .second, .unset, .unset] [(.double (0 : UInt64))])) _
        refine XS.dstore X195.here hx rfl (hb hby at_217) rfl (l' := #[.val (.int ln), .val (.int la), .val (.int lb), .val (.int lc), .val (.int ld), .val (.int (1 : Int32)), .val (.int r0), .val (.int r1), .val (.int r2), .val (.int rel), .val (.ref b150), .val (.int i163), .val (.ref b165), .val (.double (0 : UInt64)), .second, .val (.double t0), .second, .val (.double (0 : UInt64)), .second]) rfl ?_
        show Steps p.tables e below (T195.setTop (mkF m 219 #[.val (.int ln), .val (.int la), .val (.int lb), .val (.int lc), .val (.int ld), .val (.int (1 : Int32)), .val (.int r0), .val (.int r1), .val (.int r2), .val (.int rel), .val (.ref b150), .val (.int i163), .val (.ref b165), .val (.double (0 : UInt64)), .second, .val (.double t0), .second, .val (.double (0 : UInt64)), .second] [])) _
        refine XS.goto X195.here hx rfl (pc0 := 219) (pc' := 230) rfl (hb hby at_219) (by decide) (by decide) ?_
        show Steps p.tables e below (T195.setTop (mkF m 230 #[.val (.int ln), .val (.int la), .val (.int lb), .val (.int lc), .val (.int ld), .val (.int (1 : Int32)), .val (.int r0), .val (.int r1), .val (.int r2), .val (.int rel), .val (.ref b150), .val (.int i163), .val (.ref b165), .val (.double (0 : UInt64)), .second, .val (.double t0), .second, .val (.double (0 : UInt64)), .second] [])) _
        refine XS.dload X195.here hx rfl (hb hby at_230) rfl ?_
        show Steps p.tables e below (T195.setTop (mkF m 232 #[.val (.int ln), .val (.int la), .val (.int lb), .val (.int lc), .val (.int ld), .val (.int (1 : Int32)), .val (.int r0), .val (.int r1), .val (.int r2), .val (.int rel), .val (.ref b150), .val (.int i163), .val (.ref b165), .val (.double (0 : UInt64)), .second, .val (.double t0), .second, .val (.double (0 : UInt64)), .second] [(.double (0 : UInt64))])) _
        refine XS.dload X195.here hx rfl (hb hby at_232) rfl ?_
        show Steps p.tables e below (T195.setTop (mkF m 234 #[.val (.int ln), .val (.int la), .val (.int lb), .val (.int lc), .val (.int ld), .val (.int (1 : Int32)), .val (.int r0), .val (.int r1), .val (.int r2), .val (.int rel), .val (.ref b150), .val (.int i163), .val (.ref b165), .val (.double (0 : UInt64)), .second, .val (.double t0), .second, .val (.double (0 : UInt64)), .second] [(.double (0 : UInt64)), (.double (0 : UInt64))])) _
        refine XS.dcmpS X195.here hx rfl (hb hby at_234) rfl rfl ?_
        show Steps p.tables e below (T195.setTop (mkF m 235 #[.val (.int ln), .val (.int la), .val (.int lb), .val (.int lc), .val (.int ld), .val (.int (1 : Int32)), .val (.int r0), .val (.int r1), .val (.int r2), .val (.int rel), .val (.ref b150), .val (.int i163), .val (.ref b165), .val (.double (0 : UInt64)), .second, .val (.double t0), .second, .val (.double (0 : UInt64)), .second] [(.int (cmpValue (FP.dcmp (0 : UInt64) (0 : UInt64)) .l))])) _
        refine XS.ifNo X195.here hx rfl (hb hby at_235) rfl ((if0 _ _).trans (teq (Dy.cmp_eq (dy0 0) (dy0 0) rfl .l)).2) ?_
        show Steps p.tables e below (T195.setTop (mkF m 238 #[.val (.int ln), .val (.int la), .val (.int lb), .val (.int lc), .val (.int ld), .val (.int (1 : Int32)), .val (.int r0), .val (.int r1), .val (.int r2), .val (.int rel), .val (.ref b150), .val (.int i163), .val (.ref b165), .val (.double (0 : UInt64)), .second, .val (.double t0), .second, .val (.double (0 : UInt64)), .second] [])) _
        refine XS.iconst X195.here hx rfl (hb hby at_238) ?_
        show Steps p.tables e below (T195.setTop (mkF m 239 #[.val (.int ln), .val (.int la), .val (.int lb), .val (.int lc), .val (.int ld), .val (.int (1 : Int32)), .val (.int r0), .val (.int r1), .val (.int r2), .val (.int rel), .val (.ref b150), .val (.int i163), .val (.ref b165), .val (.double (0 : UInt64)), .second, .val (.double t0), .second, .val (.double (0 : UInt64)), .second] [(.int (1 : Int32))])) _
        refine XS.goto X195.here hx rfl (pc0 := 239) (pc' := 243) rfl (hb hby at_239) (by decide) (by decide) ?_
        exact k)
      obtain ⟨fs, hr, hrun, hended, hRE⟩ := Stand.leaveW (s := s) (vm₁ := T177.vm) X195 hS177 (by rw [e195]; exact hk193) (v := some (.int (1 : Int32))) (fun h => by rw [Bd.returns] at h; cases h)
      refine ⟨_, _, k198 _ (retOut X195 hx (t := .boolean) Bd.returns rfl (Or.inl ⟨rfl, Or.inr (Or.inl rfl), _, rfl⟩) (hb hby at_243) hr), hrun, hended, _, _, rfl, ?_, hRE.1, hRE.2.1, hRE.2.2.1, hRE.2.2.2.mono (by decide) (by decide)⟩
      show Q_rm0 Z ln la lb lc ld h0 n0 _ T195.heap _
      rw [e195]
      exact ⟨rfl, N196⟩
    · obtain ⟨cq199, kq199, q199a, q199b, q199c⟩ := isOf hZ177 e187 G187a
      obtain ⟨_, _, ⟨T199, L199, k199, n199⟩, -, X199, ⟨Lc199, hQ199, l199, y199, z199⟩, st199⟩ := X187.virtualBack hx (y := (⟨"com/example/round2/round2/eval/TopicResult", "averagePrecision", "()D"⟩ : MethodName)) (z := (⟨"com/example/round2/round2/eval/TopicResult", "averagePrecision", "()D"⟩ : MethodName)) hown177 (mvT hZ177 (hw _ (List.mem_of_getElem? (i := 28) rfl))) (mvT hZ177 (hw _ (List.mem_of_getElem? (i := 29) rfl))) (notFace_of_selects (args := #[]) (mvT hZ177 (hw _ (List.mem_of_getElem? (i := 31) rfl)))) (mvT hZ177 (hw _ (List.mem_of_getElem? (i := 31) rfl))) (mvT hZ177 (hw _ (List.mem_of_getElem? (i := 30) rfl))) (by decide) (backOf (W := 0) (avp1_0 l Z a0 hw [] b165 b150 k150 rel r0 h187 n0 Z192 G187c G187b F190 cz (nn_of (no_fin (fin_div _ Z0'))) (nn_of U0) (nn_div U0 cz)) hZ177 (hw _ (List.mem_of_getElem? (i := 32) rfl)) (hw _ (List.mem_of_getElem? (i := 5) rfl)) (by decide) (by decide)) q199a q199c (g := (mkF m 151 #[.val (.int ln), .val (.int la), .val (.int lb), .val (.int lc), .val (.int ld), .val (.int (1 : Int32)), .val (.int r0), .val (.int r1), .val (.int r2), .val (.int rel), .val (.ref b150), .val (.int i163), .val (.ref b165), .unset, .unset, .unset, .unset, .unset, .unset] [(.ref b165)])) rfl (by rw [hml]; rfl) (Steps.refl _) (argsL := []) (rest := []) (lenOf pd__28_29D rfl) rfl (by show 2 * 0 + _ ≤ _; exact Nat.le_of_eq rfl) (hb hby at_151) (fun _ _ => ⟨rfl, e187, (by decide : 4 + 0 ≤ _), (by decide : 13 + 0 ≤ _)⟩)
      dsimp only [Pt.U, Pt.locs, Pt.cells, Pt.slots] at X199 l199 y199 z199 st199 hQ199
      subst l199 y199 z199
      obtain ⟨rfl, N199q, e199⟩ := hQ199
      have N200 := Fr.app N188 N199q
      have k201 : ∀ t, Steps p.tables e below (T199.setTop (mkF m 154 #[.val (.int ln), .val (.int la), .val (.int lb), .val (.int lc), .val (.int ld), .val (.int (1 : Int32)), .val (.int r0), .val (.int r1), .val (.int r2), .val (.int rel), .val (.ref b150), .val (.int i163), .val (.ref b165), .unset, .unset, .unset, .unset, .unset, .unset] [(.double (FP.ddiv (FP.dadd (0 : UInt64) (FP.ddiv (FP.i2d (1 : Int32)) (FP.i2d r0))) (FP.i2d rel)))])) t → Steps p.tables e below (s₁.setTop (entryFrame m #[(.int ln), (.int la), (.int lb), (.int lc), (.int ld)] maxLocals)) t := fun t k => k194 t (st199.trans k)
      obtain ⟨got, hgot⟩ : ∃ z : UInt64, z = (FP.ddiv (FP.dadd (0 : UInt64) (FP.ddiv (FP.i2d (1 : Int32)) (FP.i2d r0))) (FP.i2d rel)) := ⟨_, rfl⟩
      obtain ⟨x0, hx0⟩ : ∃ z : UInt64, FP.i2d r0 = z := ⟨_, rfl⟩
      obtain ⟨q0, hq0⟩ : ∃ z : UInt64, FP.ddiv (4607182418800017408 : UInt64) x0 = z := ⟨_, rfl⟩
      have eq0 : q0 = (FP.ddiv (FP.i2d (1 : Int32)) (FP.i2d r0)) := by rw [← hq0, ← hx0, ← own_c0]
      obtain ⟨t0, ht0⟩ : ∃ z : UInt64, FP.dadd (0 : UInt64) q0 = z := ⟨_, rfl⟩
      have et0 : t0 = (FP.dadd (0 : UInt64) (FP.ddiv (FP.i2d (1 : Int32)) (FP.i2d r0))) := by rw [← ht0, eq0]
      obtain ⟨xr, hxr⟩ : ∃ z : UInt64, FP.i2d rel = z := ⟨_, rfl⟩
      obtain ⟨want, hwant⟩ : ∃ z : UInt64, FP.ddiv t0 xr = z := ⟨_, rfl⟩
      have ew : want = (FP.ddiv (FP.dadd (0 : UInt64) (FP.ddiv (FP.i2d (1 : Int32)) (FP.i2d r0))) (FP.i2d rel)) := by rw [← hwant, ← hxr, et0]
      have hfin : cmpValue (FP.dcmp got want) .l = (0 : Int32) := by rw [hgot, ew]; exact dcmpV_self (nn_div U0 cz) .l
      have k202 : ∀ t, Steps p.tables e below (T199.setTop (mkF m 243 #[.val (.int ln), .val (.int la), .val (.int lb), .val (.int lc), .val (.int ld), .val (.int (1 : Int32)), .val (.int r0), .val (.int r1), .val (.int r2), .val (.int rel), .val (.ref b150), .val (.int i163), .val (.ref b165), .val (.double got), .second, .val (.double t0), .second, .val (.double want), .second] [(.int (1 : Int32))])) t → Steps p.tables e below (s₁.setTop (entryFrame m #[(.int ln), (.int la), (.int lb), (.int lc), (.int ld)] maxLocals)) t := fun t k => k201 t (by
        show Steps p.tables e below (T199.setTop (mkF m 154 #[.val (.int ln), .val (.int la), .val (.int lb), .val (.int lc), .val (.int ld), .val (.int (1 : Int32)), .val (.int r0), .val (.int r1), .val (.int r2), .val (.int rel), .val (.ref b150), .val (.int i163), .val (.ref b165), .unset, .unset, .unset, .unset, .unset, .unset] [(.double (FP.ddiv (FP.dadd (0 : UInt64) (FP.ddiv (FP.i2d (1 : Int32)) (FP.i2d r0))) (FP.i2d rel)))])) _
        refine castTop (g' := (mkF m 154 #[.val (.int ln), .val (.int la), .val (.int lb), .val (.int lc), .val (.int ld), .val (.int (1 : Int32)), .val (.int r0), .val (.int r1), .val (.int r2), .val (.int rel), .val (.ref b150), .val (.int i163), .val (.ref b165), .unset, .unset, .unset, .unset, .unset, .unset] [(.double got)])) (by rw [hgot]) ?_
        show Steps p.tables e below (T199.setTop (mkF m 154 #[.val (.int ln), .val (.int la), .val (.int lb), .val (.int lc), .val (.int ld), .val (.int (1 : Int32)), .val (.int r0), .val (.int r1), .val (.int r2), .val (.int rel), .val (.ref b150), .val (.int i163), .val (.ref b165), .unset, .unset, .unset, .unset, .unset, .unset] [(.double got)])) _
        refine XS.dstore X199.here hx rfl (hb hby at_154) rfl (l' := #[.val (.int ln), .val (.int la), .val (.int lb), .val (.int lc), .val (.int ld), .val (.int (1 : Int32)), .val (.int r0), .val (.int r1), .val (.int r2), .val (.int rel), .val (.ref b150), .val (.int i163), .val (.ref b165), .val (.double got), .second, .unset, .unset, .unset, .unset]) rfl ?_
        show Steps p.tables e below (T199.setTop (mkF m 156 #[.val (.int ln), .val (.int la), .val (.int lb), .val (.int lc), .val (.int ld), .val (.int (1 : Int32)), .val (.int r0), .val (.int r1), .val (.int r2), .val (.int rel), .val (.ref b150), .val (.int i163), .val (.ref b165), .val (.double got), .second, .unset, .unset, .unset, .unset] [])) _
        refine XS.dconst0 X199.here hx rfl (hb hby at_156) (v := (0 : UInt64)) rfl ?_
        show Steps p.tables e below (T199.setTop (mkF m 157 #[.val (.int ln), .val (.int la), .val (.int lb), .val (.int lc), .val (.int ld), .val (.int (1 : Int32)), .val (.int r0), .val (.int r1), .val (.int r2), .val (.int rel), .val (.ref b150), .val (.int i163), .val (.ref b165), .val (.double got), .second, .unset, .unset, .unset, .unset] [(.double (0 : UInt64))])) _
        refine XS.dstore X199.here hx rfl (hb hby at_157) rfl (l' := #[.val (.int ln), .val (.int la), .val (.int lb), .val (.int lc), .val (.int ld), .val (.int (1 : Int32)), .val (.int r0), .val (.int r1), .val (.int r2), .val (.int rel), .val (.ref b150), .val (.int i163), .val (.ref b165), .val (.double got), .second, .val (.double (0 : UInt64)), .second, .unset, .unset]) rfl ?_
        show Steps p.tables e below (T199.setTop (mkF m 159 #[.val (.int ln), .val (.int la), .val (.int lb), .val (.int lc), .val (.int ld), .val (.int (1 : Int32)), .val (.int r0), .val (.int r1), .val (.int r2), .val (.int rel), .val (.ref b150), .val (.int i163), .val (.ref b165), .val (.double got), .second, .val (.double (0 : UInt64)), .second, .unset, .unset] [])) _
        refine XS.iload X199.here hx rfl (hb hby at_159) rfl ?_
        show Steps p.tables e below (T199.setTop (mkF m 161 #[.val (.int ln), .val (.int la), .val (.int lb), .val (.int lc), .val (.int ld), .val (.int (1 : Int32)), .val (.int r0), .val (.int r1), .val (.int r2), .val (.int rel), .val (.ref b150), .val (.int i163), .val (.ref b165), .val (.double got), .second, .val (.double (0 : UInt64)), .second, .unset, .unset] [(.int (1 : Int32))])) _
        refine XS.iconst X199.here hx rfl (hb hby at_161) ?_
        show Steps p.tables e below (T199.setTop (mkF m 162 #[.val (.int ln), .val (.int la), .val (.int lb), .val (.int lc), .val (.int ld), .val (.int (1 : Int32)), .val (.int r0), .val (.int r1), .val (.int r2), .val (.int rel), .val (.ref b150), .val (.int i163), .val (.ref b165), .val (.double got), .second, .val (.double (0 : UInt64)), .second, .unset, .unset] [(.int (1 : Int32)), (.int (1 : Int32))])) _
        refine XS.icmpNo X199.here hx rfl (hb hby at_162) rfl (flt (by decide)).1 ?_
        show Steps p.tables e below (T199.setTop (mkF m 165 #[.val (.int ln), .val (.int la), .val (.int lb), .val (.int lc), .val (.int ld), .val (.int (1 : Int32)), .val (.int r0), .val (.int r1), .val (.int r2), .val (.int rel), .val (.ref b150), .val (.int i163), .val (.ref b165), .val (.double got), .second, .val (.double (0 : UInt64)), .second, .unset, .unset] [])) _
        refine XS.dload X199.here hx rfl (hb hby at_165) rfl ?_
        show Steps p.tables e below (T199.setTop (mkF m 167 #[.val (.int ln), .val (.int la), .val (.int lb), .val (.int lc), .val (.int ld), .val (.int (1 : Int32)), .val (.int r0), .val (.int r1), .val (.int r2), .val (.int rel), .val (.ref b150), .val (.int i163), .val (.ref b165), .val (.double got), .second, .val (.double (0 : UInt64)), .second, .unset, .unset] [(.double (0 : UInt64))])) _
        refine XS.dconst1 X199.here hx rfl (hb hby at_167) (v := (4607182418800017408 : UInt64)) rfl ?_
        show Steps p.tables e below (T199.setTop (mkF m 168 #[.val (.int ln), .val (.int la), .val (.int lb), .val (.int lc), .val (.int ld), .val (.int (1 : Int32)), .val (.int r0), .val (.int r1), .val (.int r2), .val (.int rel), .val (.ref b150), .val (.int i163), .val (.ref b165), .val (.double got), .second, .val (.double (0 : UInt64)), .second, .unset, .unset] [(.double (4607182418800017408 : UInt64)), (.double (0 : UInt64))])) _
        refine XS.iload X199.here hx rfl (hb hby at_168) rfl ?_
        show Steps p.tables e below (T199.setTop (mkF m 170 #[.val (.int ln), .val (.int la), .val (.int lb), .val (.int lc), .val (.int ld), .val (.int (1 : Int32)), .val (.int r0), .val (.int r1), .val (.int r2), .val (.int rel), .val (.ref b150), .val (.int i163), .val (.ref b165), .val (.double got), .second, .val (.double (0 : UInt64)), .second, .unset, .unset] [(.int r0), (.double (4607182418800017408 : UInt64)), (.double (0 : UInt64))])) _
        refine XS.i2dS X199.here hx rfl (hb hby at_170) rfl hx0 ?_
        show Steps p.tables e below (T199.setTop (mkF m 171 #[.val (.int ln), .val (.int la), .val (.int lb), .val (.int lc), .val (.int ld), .val (.int (1 : Int32)), .val (.int r0), .val (.int r1), .val (.int r2), .val (.int rel), .val (.ref b150), .val (.int i163), .val (.ref b165), .val (.double got), .second, .val (.double (0 : UInt64)), .second, .unset, .unset] [(.double x0), (.double (4607182418800017408 : UInt64)), (.double (0 : UInt64))])) _
        refine XS.ddivS X199.here hx rfl (hb hby at_171) rfl ((by rw [← hx0, ← own_c0]; exact nn_of (no_fin (fin_div _ Z0')))) hq0 ?_
        show Steps p.tables e below (T199.setTop (mkF m 172 #[.val (.int ln), .val (.int la), .val (.int lb), .val (.int lc), .val (.int ld), .val (.int (1 : Int32)), .val (.int r0), .val (.int r1), .val (.int r2), .val (.int rel), .val (.ref b150), .val (.int i163), .val (.ref b165), .val (.double got), .second, .val (.double (0 : UInt64)), .second, .unset, .unset] [(.double q0), (.double (0 : UInt64))])) _
        refine XS.daddS X199.here hx rfl (hb hby at_172) rfl ((by rw [eq0]; exact nn_of U0)) ht0 ?_
        show Steps p.tables e below (T199.setTop (mkF m 173 #[.val (.int ln), .val (.int la), .val (.int lb), .val (.int lc), .val (.int ld), .val (.int (1 : Int32)), .val (.int r0), .val (.int r1), .val (.int r2), .val (.int rel), .val (.ref b150), .val (.int i163), .val (.ref b165), .val (.double got), .second, .val (.double (0 : UInt64)), .second, .unset, .unset] [(.double t0)])) _
        refine XS.dstore X199.here hx rfl (hb hby at_173) rfl (l' := #[.val (.int ln), .val (.int la), .val (.int lb), .val (.int lc), .val (.int ld), .val (.int (1 : Int32)), .val (.int r0), .val (.int r1), .val (.int r2), .val (.int rel), .val (.ref b150), .val (.int i163), .val (.ref b165), .val (.double got), .second, .val (.double t0), .second, .unset, .unset]) rfl ?_
        show Steps p.tables e below (T199.setTop (mkF m 175 #[.val (.int ln), .val (.int la), .val (.int lb), .val (.int lc), .val (.int ld), .val (.int (1 : Int32)), .val (.int r0), .val (.int r1), .val (.int r2), .val (.int rel), .val (.ref b150), .val (.int i163), .val (.ref b165), .val (.double got), .second, .val (.double t0), .second, .unset, .unset] [])) _
        refine XS.iload X199.here hx rfl (hb hby at_175) rfl ?_
        show Steps p.tables e below (T199.setTop (mkF m 177 #[.val (.int ln), .val (.int la), .val (.int lb), .val (.int lc), .val (.int ld), .val (.int (1 : Int32)), .val (.int r0), .val (.int r1), .val (.int r2), .val (.int rel), .val (.ref b150), .val (.int i163), .val (.ref b165), .val (.double got), .second, .val (.double t0), .second, .unset, .unset] [(.int (1 : Int32))])) _
        refine XS.iconst X199.here hx rfl (hb hby at_177) ?_
        show Steps p.tables e below (T199.setTop (mkF m 178 #[.val (.int ln), .val (.int la), .val (.int lb), .val (.int lc), .val (.int ld), .val (.int (1 : Int32)), .val (.int r0), .val (.int r1), .val (.int r2), .val (.int rel), .val (.ref b150), .val (.int i163), .val (.ref b165), .val (.double got), .second, .val (.double t0), .second, .unset, .unset] [(.int (2 : Int32)), (.int (1 : Int32))])) _
        refine XS.icmpYes X199.here hx rfl (pc0 := 178) (pc' := 193) rfl (hb hby at_178) rfl (tlt (by decide)).1 (by decide) (by decide) ?_
        show Steps p.tables e below (T199.setTop (mkF m 193 #[.val (.int ln), .val (.int la), .val (.int lb), .val (.int lc), .val (.int ld), .val (.int (1 : Int32)), .val (.int r0), .val (.int r1), .val (.int r2), .val (.int rel), .val (.ref b150), .val (.int i163), .val (.ref b165), .val (.double got), .second, .val (.double t0), .second, .unset, .unset] [])) _
        refine XS.iload X199.here hx rfl (hb hby at_193) rfl ?_
        show Steps p.tables e below (T199.setTop (mkF m 195 #[.val (.int ln), .val (.int la), .val (.int lb), .val (.int lc), .val (.int ld), .val (.int (1 : Int32)), .val (.int r0), .val (.int r1), .val (.int r2), .val (.int rel), .val (.ref b150), .val (.int i163), .val (.ref b165), .val (.double got), .second, .val (.double t0), .second, .unset, .unset] [(.int (1 : Int32))])) _
        refine XS.iconst X199.here hx rfl (hb hby at_195) ?_
        show Steps p.tables e below (T199.setTop (mkF m 196 #[.val (.int ln), .val (.int la), .val (.int lb), .val (.int lc), .val (.int ld), .val (.int (1 : Int32)), .val (.int r0), .val (.int r1), .val (.int r2), .val (.int rel), .val (.ref b150), .val (.int i163), .val (.ref b165), .val (.double got), .second, .val (.double t0), .second, .unset, .unset] [(.int (3 : Int32)), (.int (1 : Int32))])) _
        refine XS.icmpYes X199.here hx rfl (pc0 := 196) (pc' := 211) rfl (hb hby at_196) rfl (tlt (by decide)).1 (by decide) (by decide) ?_
        show Steps p.tables e below (T199.setTop (mkF m 211 #[.val (.int ln), .val (.int la), .val (.int lb), .val (.int lc), .val (.int ld), .val (.int (1 : Int32)), .val (.int r0), .val (.int r1), .val (.int r2), .val (.int rel), .val (.ref b150), .val (.int i163), .val (.ref b165), .val (.double got), .second, .val (.double t0), .second, .unset, .unset] [])) _
        refine XS.iload X199.here hx rfl (hb hby at_211) rfl ?_
        show Steps p.tables e below (T199.setTop (mkF m 213 #[.val (.int ln), .val (.int la), .val (.int lb), .val (.int lc), .val (.int ld), .val (.int (1 : Int32)), .val (.int r0), .val (.int r1), .val (.int r2), .val (.int rel), .val (.ref b150), .val (.int i163), .val (.ref b165), .val (.double got), .second, .val (.double t0), .second, .unset, .unset] [(.int rel)])) _
        refine XS.ifYes X199.here hx rfl (pc0 := 213) (pc' := 222) rfl (hb hby at_213) rfl ((if0 _ _).trans (feq cz).2) (by decide) (by decide) ?_
        show Steps p.tables e below (T199.setTop (mkF m 222 #[.val (.int ln), .val (.int la), .val (.int lb), .val (.int lc), .val (.int ld), .val (.int (1 : Int32)), .val (.int r0), .val (.int r1), .val (.int r2), .val (.int rel), .val (.ref b150), .val (.int i163), .val (.ref b165), .val (.double got), .second, .val (.double t0), .second, .unset, .unset] [])) _
        refine XS.dload X199.here hx rfl (hb hby at_222) rfl ?_
        show Steps p.tables e below (T199.setTop (mkF m 224 #[.val (.int ln), .val (.int la), .val (.int lb), .val (.int lc), .val (.int ld), .val (.int (1 : Int32)), .val (.int r0), .val (.int r1), .val (.int r2), .val (.int rel), .val (.ref b150), .val (.int i163), .val (.ref b165), .val (.double got), .second, .val (.double t0), .second, .unset, .unset] [(.double t0)])) _
        refine XS.iload X199.here hx rfl (hb hby at_224) rfl ?_
        show Steps p.tables e below (T199.setTop (mkF m 226 #[.val (.int ln), .val (.int la), .val (.int lb), .val (.int lc), .val (.int ld), .val (.int (1 : Int32)), .val (.int r0), .val (.int r1), .val (.int r2), .val (.int rel), .val (.ref b150), .val (.int i163), .val (.ref b165), .val (.double got), .second, .val (.double t0), .second, .unset, .unset] [(.int rel), (.double t0)])) _
        refine XS.i2dS X199.here hx rfl (hb hby at_226) rfl hxr ?_
        show Steps p.tables e below (T199.setTop (mkF m 227 #[.val (.int ln), .val (.int la), .val (.int lb), .val (.int lc), .val (.int ld), .val (.int (1 : Int32)), .val (.int r0), .val (.int r1), .val (.int r2), .val (.int rel), .val (.ref b150), .val (.int i163), .val (.ref b165), .val (.double got), .second, .val (.double t0), .second, .unset, .unset] [(.double xr), (.double t0)])) _
        refine XS.ddivS X199.here hx rfl (hb hby at_227) rfl ((by rw [← hxr, et0]; exact nn_div U0 cz)) hwant ?_
        show Steps p.tables e below (T199.setTop (mkF m 228 #[.val (.int ln), .val (.int la), .val (.int lb), .val (.int lc), .val (.int ld), .val (.int (1 : Int32)), .val (.int r0), .val (.int r1), .val (.int r2), .val (.int rel), .val (.ref b150), .val (.int i163), .val (.ref b165), .val (.double got), .second, .val (.double t0), .second, .unset, .unset] [(.double want)])) _
        refine XS.dstore X199.here hx rfl (hb hby at_228) rfl (l' := #[.val (.int ln), .val (.int la), .val (.int lb), .val (.int lc), .val (.int ld), .val (.int (1 : Int32)), .val (.int r0), .val (.int r1), .val (.int r2), .val (.int rel), .val (.ref b150), .val (.int i163), .val (.ref b165), .val (.double got), .second, .val (.double t0), .second, .val (.double want), .second]) rfl ?_
        show Steps p.tables e below (T199.setTop (mkF m 230 #[.val (.int ln), .val (.int la), .val (.int lb), .val (.int lc), .val (.int ld), .val (.int (1 : Int32)), .val (.int r0), .val (.int r1), .val (.int r2), .val (.int rel), .val (.ref b150), .val (.int i163), .val (.ref b165), .val (.double got), .second, .val (.double t0), .second, .val (.double want), .second] [])) _
        refine XS.dload X199.here hx rfl (hb hby at_230) rfl ?_
        show Steps p.tables e below (T199.setTop (mkF m 232 #[.val (.int ln), .val (.int la), .val (.int lb), .val (.int lc), .val (.int ld), .val (.int (1 : Int32)), .val (.int r0), .val (.int r1), .val (.int r2), .val (.int rel), .val (.ref b150), .val (.int i163), .val (.ref b165), .val (.double got), .second, .val (.double t0), .second, .val (.double want), .second] [(.double got)])) _
        refine XS.dload X199.here hx rfl (hb hby at_232) rfl ?_
        show Steps p.tables e below (T199.setTop (mkF m 234 #[.val (.int ln), .val (.int la), .val (.int lb), .val (.int lc), .val (.int ld), .val (.int (1 : Int32)), .val (.int r0), .val (.int r1), .val (.int r2), .val (.int rel), .val (.ref b150), .val (.int i163), .val (.ref b165), .val (.double got), .second, .val (.double t0), .second, .val (.double want), .second] [(.double want), (.double got)])) _
        refine XS.dcmpS X199.here hx rfl (hb hby at_234) rfl rfl ?_
        show Steps p.tables e below (T199.setTop (mkF m 235 #[.val (.int ln), .val (.int la), .val (.int lb), .val (.int lc), .val (.int ld), .val (.int (1 : Int32)), .val (.int r0), .val (.int r1), .val (.int r2), .val (.int rel), .val (.ref b150), .val (.int i163), .val (.ref b165), .val (.double got), .second, .val (.double t0), .second, .val (.double want), .second] [(.int (cmpValue (FP.dcmp got want) .l))])) _
        refine XS.ifNo X199.here hx rfl (hb hby at_235) rfl ((if0 _ _).trans (teq hfin).2) ?_
        show Steps p.tables e below (T199.setTop (mkF m 238 #[.val (.int ln), .val (.int la), .val (.int lb), .val (.int lc), .val (.int ld), .val (.int (1 : Int32)), .val (.int r0), .val (.int r1), .val (.int r2), .val (.int rel), .val (.ref b150), .val (.int i163), .val (.ref b165), .val (.double got), .second, .val (.double t0), .second, .val (.double want), .second] [])) _
        refine XS.iconst X199.here hx rfl (hb hby at_238) ?_
        show Steps p.tables e below (T199.setTop (mkF m 239 #[.val (.int ln), .val (.int la), .val (.int lb), .val (.int lc), .val (.int ld), .val (.int (1 : Int32)), .val (.int r0), .val (.int r1), .val (.int r2), .val (.int rel), .val (.ref b150), .val (.int i163), .val (.ref b165), .val (.double got), .second, .val (.double t0), .second, .val (.double want), .second] [(.int (1 : Int32))])) _
        refine XS.goto X199.here hx rfl (pc0 := 239) (pc' := 243) rfl (hb hby at_239) (by decide) (by decide) ?_
        exact k)
      obtain ⟨fs, hr, hrun, hended, hRE⟩ := Stand.leaveW (s := s) (vm₁ := T177.vm) X199 hS177 (by rw [e199]; exact hk193) (v := some (.int (1 : Int32))) (fun h => by rw [Bd.returns] at h; cases h)
      refine ⟨_, _, k202 _ (retOut X199 hx (t := .boolean) Bd.returns rfl (Or.inl ⟨rfl, Or.inr (Or.inl rfl), _, rfl⟩) (hb hby at_243) hr), hrun, hended, _, _, rfl, ?_, hRE.1, hRE.2.1, hRE.2.2.1, hRE.2.2.2.mono (by decide) (by decide)⟩
      show Q_rm0 Z ln la lb lc ld h0 n0 _ T199.heap _
      rw [e199]
      exact ⟨rfl, N200⟩
  · have k203 : ∀ t, Steps p.tables e below (s₁.setTop (mkF m 84 #[.val (.int ln), .val (.int la), .val (.int lb), .val (.int lc), .val (.int ld), .val (.int (2 : Int32)), .val (.int r0), .val (.int r1), .val (.int r2), .val (.int rel), .unset, .unset, .unset, .unset, .unset, .unset, .unset, .unset, .unset] [(.int (2 : Int32))])) t → Steps p.tables e below (s₁.setTop (entryFrame m #[(.int ln), (.int la), (.int lb), (.int lc), (.int ld)] maxLocals)) t := fun t k => k101 t (by
      show Steps p.tables e below (s₁.setTop (mkF m 45 #[.val (.int ln), .val (.int la), .val (.int lb), .val (.int lc), .val (.int ld), .val (.int (2 : Int32)), .val (.int r0), .val (.int r1), .val (.int r2), .val (.int rel), .unset, .unset, .unset, .unset, .unset, .unset, .unset, .unset, .unset] [])) _
      refine XS.iload X0.here hx rfl (hb hby at_45) rfl ?_
      show Steps p.tables e below (s₁.setTop (mkF m 47 #[.val (.int ln), .val (.int la), .val (.int lb), .val (.int lc), .val (.int ld), .val (.int (2 : Int32)), .val (.int r0), .val (.int r1), .val (.int r2), .val (.int rel), .unset, .unset, .unset, .unset, .unset, .unset, .unset, .unset, .unset] [(.int (2 : Int32))])) _
      refine XS.ifYes X0.here hx rfl (pc0 := 47) (pc' := 58) rfl (hb hby at_47) rfl ((if0 _ _).trans (feq (by decide)).2) (by decide) (by decide) ?_
      show Steps p.tables e below (s₁.setTop (mkF m 58 #[.val (.int ln), .val (.int la), .val (.int lb), .val (.int lc), .val (.int ld), .val (.int (2 : Int32)), .val (.int r0), .val (.int r1), .val (.int r2), .val (.int rel), .unset, .unset, .unset, .unset, .unset, .unset, .unset, .unset, .unset] [])) _
      refine XS.iload X0.here hx rfl (hb hby at_58) rfl ?_
      show Steps p.tables e below (s₁.setTop (mkF m 60 #[.val (.int ln), .val (.int la), .val (.int lb), .val (.int lc), .val (.int ld), .val (.int (2 : Int32)), .val (.int r0), .val (.int r1), .val (.int r2), .val (.int rel), .unset, .unset, .unset, .unset, .unset, .unset, .unset, .unset, .unset] [(.int (2 : Int32))])) _
      refine XS.iconst X0.here hx rfl (hb hby at_60) ?_
      show Steps p.tables e below (s₁.setTop (mkF m 61 #[.val (.int ln), .val (.int la), .val (.int lb), .val (.int lc), .val (.int ld), .val (.int (2 : Int32)), .val (.int r0), .val (.int r1), .val (.int r2), .val (.int rel), .unset, .unset, .unset, .unset, .unset, .unset, .unset, .unset, .unset] [(.int (1 : Int32)), (.int (2 : Int32))])) _
      refine XS.icmpYes X0.here hx rfl (pc0 := 61) (pc' := 77) rfl (hb hby at_61) rfl (feq (by decide)).2 (by decide) (by decide) ?_
      show Steps p.tables e below (s₁.setTop (mkF m 77 #[.val (.int ln), .val (.int la), .val (.int lb), .val (.int lc), .val (.int ld), .val (.int (2 : Int32)), .val (.int r0), .val (.int r1), .val (.int r2), .val (.int rel), .unset, .unset, .unset, .unset, .unset, .unset, .unset, .unset, .unset] [])) _
      refine XS.iload X0.here hx rfl (hb hby at_77) rfl ?_
      show Steps p.tables e below (s₁.setTop (mkF m 79 #[.val (.int ln), .val (.int la), .val (.int lb), .val (.int lc), .val (.int ld), .val (.int (2 : Int32)), .val (.int r0), .val (.int r1), .val (.int r2), .val (.int rel), .unset, .unset, .unset, .unset, .unset, .unset, .unset, .unset, .unset] [(.int (2 : Int32))])) _
      refine XS.iconst X0.here hx rfl (hb hby at_79) ?_
      show Steps p.tables e below (s₁.setTop (mkF m 80 #[.val (.int ln), .val (.int la), .val (.int lb), .val (.int lc), .val (.int ld), .val (.int (2 : Int32)), .val (.int r0), .val (.int r1), .val (.int r2), .val (.int rel), .unset, .unset, .unset, .unset, .unset, .unset, .unset, .unset, .unset] [(.int (2 : Int32)), (.int (2 : Int32))])) _
      refine XS.icmpNo X0.here hx rfl (hb hby at_80) rfl (teq (by decide)).2 ?_
      show Steps p.tables e below (s₁.setTop (mkF m 83 #[.val (.int ln), .val (.int la), .val (.int lb), .val (.int lc), .val (.int ld), .val (.int (2 : Int32)), .val (.int r0), .val (.int r1), .val (.int r2), .val (.int rel), .unset, .unset, .unset, .unset, .unset, .unset, .unset, .unset, .unset] [])) _
      refine XS.iconst X0.here hx rfl (hb hby at_83) ?_
      exact k)
    obtain ⟨T204, h204, k204, X204, e204, E204, A204, st204⟩ := newP X0 hx hZ (hw _ (List.mem_of_getElem? (i := 2) rfl)) e0 (g := (mkF m 84 #[.val (.int ln), .val (.int la), .val (.int lb), .val (.int lc), .val (.int ld), .val (.int (2 : Int32)), .val (.int r0), .val (.int r1), .val (.int r2), .val (.int rel), .unset, .unset, .unset, .unset, .unset, .unset, .unset, .unset, .unset] [(.int (2 : Int32))])) rfl (hb hby at_84) rfl (by decide) (cap := 2) (by decide) (by decide) (by decide) (by decide)
    obtain ⟨b204, g204⟩ : ∃ z, z = h0.size := ⟨_, rfl⟩
    rw [← g204] at A204 st204
    have g205 : n0 ≤ b204 := Nat.le_trans Z0 (Nat.le_of_eq g204.symm)
    have Z206 : n0 ≤ h204.size := Nat.le_trans Z0 E204.1
    have hk207 : 0 ≤ h204.size := Nat.le_trans (Nat.zero_le _) E204.1
    have V208 : Arv Z h204 b204 k204 .int (2 : Int32) [(.int (0 : Int32)), (.int (0 : Int32))] (.int (0 : Int32)) := (Arv.new A204 (by decide)).pad (pad_rep [] (.int (0 : Int32)) 2)
    have k209 : ∀ t, Steps p.tables e below (T204.setTop (mkF m 86 #[.val (.int ln), .val (.int la), .val (.int lb), .val (.int lc), .val (.int ld), .val (.int (2 : Int32)), .val (.int r0), .val (.int r1), .val (.int r2), .val (.int rel), .unset, .unset, .unset, .unset, .unset, .unset, .unset, .unset, .unset] [(.ref b204)])) t → Steps p.tables e below (s₁.setTop (entryFrame m #[(.int ln), (.int la), (.int lb), (.int lc), (.int ld)] maxLocals)) t := fun t k => k203 t (st204 t k)
    have k210 : ∀ t, Steps p.tables e below (T204.setTop (mkF m 90 #[.val (.int ln), .val (.int la), .val (.int lb), .val (.int lc), .val (.int ld), .val (.int (2 : Int32)), .val (.int r0), .val (.int r1), .val (.int r2), .val (.int rel), .unset, .unset, .unset, .unset, .unset, .unset, .unset, .unset, .unset] [(.int r0), (.int (0 : Int32)), (.ref b204), (.ref b204)])) t → Steps p.tables e below (s₁.setTop (entryFrame m #[(.int ln), (.int la), (.int lb), (.int lc), (.int ld)] maxLocals)) t := fun t k => k209 t (by
      show Steps p.tables e below (T204.setTop (mkF m 86 #[.val (.int ln), .val (.int la), .val (.int lb), .val (.int lc), .val (.int ld), .val (.int (2 : Int32)), .val (.int r0), .val (.int r1), .val (.int r2), .val (.int rel), .unset, .unset, .unset, .unset, .unset, .unset, .unset, .unset, .unset] [(.ref b204)])) _
      refine XS.dup X204.here hx rfl (hb hby at_86) rfl rfl ?_
      show Steps p.tables e below (T204.setTop (mkF m 87 #[.val (.int ln), .val (.int la), .val (.int lb), .val (.int lc), .val (.int ld), .val (.int (2 : Int32)), .val (.int r0), .val (.int r1), .val (.int r2), .val (.int rel), .unset, .unset, .unset, .unset, .unset, .unset, .unset, .unset, .unset] [(.ref b204), (.ref b204)])) _
      refine XS.iconst X204.here hx rfl (hb hby at_87) ?_
      show Steps p.tables e below (T204.setTop (mkF m 88 #[.val (.int ln), .val (.int la), .val (.int lb), .val (.int lc), .val (.int ld), .val (.int (2 : Int32)), .val (.int r0), .val (.int r1), .val (.int r2), .val (.int rel), .unset, .unset, .unset, .unset, .unset, .unset, .unset, .unset, .unset] [(.int (0 : Int32)), (.ref b204), (.ref b204)])) _
      refine XS.iload X204.here hx rfl (hb hby at_88) rfl ?_
      exact k)
    obtain ⟨c211, Ar211, Aq211, As211, An211, Ah211, Ag211⟩ := id V208
    have hin211 : ¬ ((0 : Int32) < 0 ∨ c211.slots.size ≤ ((0 : Int32)).toNatClampNeg) := inb_of As211 ⟨by decide, by decide⟩
    obtain ⟨T211, h211, X211, e211, W211, st211⟩ := stI X204 hx hZ e204 Ar211 (j := (0 : Int32)) hin211 (g := (mkF m 90 #[.val (.int ln), .val (.int la), .val (.int lb), .val (.int lc), .val (.int ld), .val (.int (2 : Int32)), .val (.int r0), .val (.int r1), .val (.int r2), .val (.int rel), .unset, .unset, .unset, .unset, .unset, .unset, .unset, .unset, .unset] [(.int r0), (.int (0 : Int32)), (.ref b204), (.ref b204)])) rfl rfl (hb hby at_90)
    have V212 := Arv.set Ar211 Aq211 As211 An211 Ah211 Ag211 rfl W211 0 rfl (Nat.le_of_ble_eq_true rfl)
    have Z213 : n0 ≤ h211.size := Nat.le_trans Z206 (Nat.le_of_eq W211.size.symm)
    have N214 := Fr.snoc X211 N0 g205
    have hk215 : 0 ≤ h211.size := Nat.le_trans hk207 (Nat.le_of_eq W211.size.symm)
    have k216 : ∀ t, Steps p.tables e below (T211.setTop (mkF m 91 #[.val (.int ln), .val (.int la), .val (.int lb), .val (.int lc), .val (.int ld), .val (.int (2 : Int32)), .val (.int r0), .val (.int r1), .val (.int r2), .val (.int rel), .unset, .unset, .unset, .unset, .unset, .unset, .unset, .unset, .unset] [(.ref b204)])) t → Steps p.tables e below (s₁.setTop (entryFrame m #[(.int ln), (.int la), (.int lb), (.int lc), (.int ld)] maxLocals)) t := fun t k => k210 t (st211 t k)
    have k217 : ∀ t, Steps p.tables e below (T211.setTop (mkF m 95 #[.val (.int ln), .val (.int la), .val (.int lb), .val (.int lc), .val (.int ld), .val (.int (2 : Int32)), .val (.int r0), .val (.int r1), .val (.int r2), .val (.int rel), .unset, .unset, .unset, .unset, .unset, .unset, .unset, .unset, .unset] [(.int r1), (.int (1 : Int32)), (.ref b204), (.ref b204)])) t → Steps p.tables e below (s₁.setTop (entryFrame m #[(.int ln), (.int la), (.int lb), (.int lc), (.int ld)] maxLocals)) t := fun t k => k216 t (by
      show Steps p.tables e below (T211.setTop (mkF m 91 #[.val (.int ln), .val (.int la), .val (.int lb), .val (.int lc), .val (.int ld), .val (.int (2 : Int32)), .val (.int r0), .val (.int r1), .val (.int r2), .val (.int rel), .unset, .unset, .unset, .unset, .unset, .unset, .unset, .unset, .unset] [(.ref b204)])) _
      refine XS.dup X211.here hx rfl (hb hby at_91) rfl rfl ?_
      show Steps p.tables e below (T211.setTop (mkF m 92 #[.val (.int ln), .val (.int la), .val (.int lb), .val (.int lc), .val (.int ld), .val (.int (2 : Int32)), .val (.int r0), .val (.int r1), .val (.int r2), .val (.int rel), .unset, .unset, .unset, .unset, .unset, .unset, .unset, .unset, .unset] [(.ref b204), (.ref b204)])) _
      refine XS.iconst X211.here hx rfl (hb hby at_92) ?_
      show Steps p.tables e below (T211.setTop (mkF m 93 #[.val (.int ln), .val (.int la), .val (.int lb), .val (.int lc), .val (.int ld), .val (.int (2 : Int32)), .val (.int r0), .val (.int r1), .val (.int r2), .val (.int rel), .unset, .unset, .unset, .unset, .unset, .unset, .unset, .unset, .unset] [(.int (1 : Int32)), (.ref b204), (.ref b204)])) _
      refine XS.iload X211.here hx rfl (hb hby at_93) rfl ?_
      exact k)
    obtain ⟨c218, Ar218, Aq218, As218, An218, Ah218, Ag218⟩ := id V212
    have hin218 : ¬ ((1 : Int32) < 0 ∨ c218.slots.size ≤ ((1 : Int32)).toNatClampNeg) := inb_of As218 ⟨by decide, by decide⟩
    obtain ⟨T218, h218, X218, e218, W218, st218⟩ := stI X211 hx hZ e211 Ar218 (j := (1 : Int32)) hin218 (g := (mkF m 95 #[.val (.int ln), .val (.int la), .val (.int lb), .val (.int lc), .val (.int ld), .val (.int (2 : Int32)), .val (.int r0), .val (.int r1), .val (.int r2), .val (.int rel), .unset, .unset, .unset, .unset, .unset, .unset, .unset, .unset, .unset] [(.int r1), (.int (1 : Int32)), (.ref b204), (.ref b204)])) rfl rfl (hb hby at_95)
    have V219 := Arv.set Ar218 Aq218 As218 An218 Ah218 Ag218 rfl W218 1 rfl (Nat.le_of_ble_eq_true rfl)
    have Z220 : n0 ≤ h218.size := Nat.le_trans Z213 (Nat.le_of_eq W218.size.symm)
    have N221 := Fr.snoc X218 N214 g205
    have hk222 : 0 ≤ h218.size := Nat.le_trans hk215 (Nat.le_of_eq W218.size.symm)
    have k223 : ∀ t, Steps p.tables e below (T218.setTop (mkF m 96 #[.val (.int ln), .val (.int la), .val (.int lb), .val (.int lc), .val (.int ld), .val (.int (2 : Int32)), .val (.int r0), .val (.int r1), .val (.int r2), .val (.int rel), .unset, .unset, .unset, .unset, .unset, .unset, .unset, .unset, .unset] [(.ref b204)])) t → Steps p.tables e below (s₁.setTop (entryFrame m #[(.int ln), (.int la), (.int lb), (.int lc), (.int ld)] maxLocals)) t := fun t k => k217 t (st218 t k)
    obtain ⟨i224, hi224⟩ : ∃ z : Int32, z = (r2 + (ld &&& (255 : Int32))) := ⟨_, rfl⟩
    have k225 : ∀ t, Steps p.tables e below (T218.setTop (mkF m 132 #[.val (.int ln), .val (.int la), .val (.int lb), .val (.int lc), .val (.int ld), .val (.int (2 : Int32)), .val (.int r0), .val (.int r1), .val (.int r2), .val (.int rel), .val (.ref b204), .val (.int i224), .unset, .unset, .unset, .unset, .unset, .unset, .unset] [])) t → Steps p.tables e below (s₁.setTop (entryFrame m #[(.int ln), (.int la), (.int lb), (.int lc), (.int ld)] maxLocals)) t := fun t k => k223 t (by
      show Steps p.tables e below (T218.setTop (mkF m 96 #[.val (.int ln), .val (.int la), .val (.int lb), .val (.int lc), .val (.int ld), .val (.int (2 : Int32)), .val (.int r0), .val (.int r1), .val (.int r2), .val (.int rel), .unset, .unset, .unset, .unset, .unset, .unset, .unset, .unset, .unset] [(.ref b204)])) _
      refine XS.astore X218.here hx rfl (hb hby at_96) rfl rfl (l' := #[.val (.int ln), .val (.int la), .val (.int lb), .val (.int lc), .val (.int ld), .val (.int (2 : Int32)), .val (.int r0), .val (.int r1), .val (.int r2), .val (.int rel), .val (.ref b204), .unset, .unset, .unset, .unset, .unset, .unset, .unset, .unset]) rfl ?_
      show Steps p.tables e below (T218.setTop (mkF m 98 #[.val (.int ln), .val (.int la), .val (.int lb), .val (.int lc), .val (.int ld), .val (.int (2 : Int32)), .val (.int r0), .val (.int r1), .val (.int r2), .val (.int rel), .val (.ref b204), .unset, .unset, .unset, .unset, .unset, .unset, .unset, .unset] [])) _
      refine XS.goto X218.here hx rfl (pc0 := 98) (pc' := 121) rfl (hb hby at_98) (by decide) (by decide) ?_
      show Steps p.tables e below (T218.setTop (mkF m 121 #[.val (.int ln), .val (.int la), .val (.int lb), .val (.int lc), .val (.int ld), .val (.int (2 : Int32)), .val (.int r0), .val (.int r1), .val (.int r2), .val (.int rel), .val (.ref b204), .unset, .unset, .unset, .unset, .unset, .unset, .unset, .unset] [])) _
      refine XS.iload X218.here hx rfl (hb hby at_121) rfl ?_
      show Steps p.tables e below (T218.setTop (mkF m 123 #[.val (.int ln), .val (.int la), .val (.int lb), .val (.int lc), .val (.int ld), .val (.int (2 : Int32)), .val (.int r0), .val (.int r1), .val (.int r2), .val (.int rel), .val (.ref b204), .unset, .unset, .unset, .unset, .unset, .unset, .unset, .unset] [(.int r2)])) _
      refine XS.iload X218.here hx rfl (hb hby at_123) rfl ?_
      show Steps p.tables e below (T218.setTop (mkF m 125 #[.val (.int ln), .val (.int la), .val (.int lb), .val (.int lc), .val (.int ld), .val (.int (2 : Int32)), .val (.int r0), .val (.int r1), .val (.int r2), .val (.int rel), .val (.ref b204), .unset, .unset, .unset, .unset, .unset, .unset, .unset, .unset] [(.int ld), (.int r2)])) _
      refine XS.sipush X218.here hx rfl (hb hby at_125) ?_
      show Steps p.tables e below (T218.setTop (mkF m 128 #[.val (.int ln), .val (.int la), .val (.int lb), .val (.int lc), .val (.int ld), .val (.int (2 : Int32)), .val (.int r0), .val (.int r1), .val (.int r2), .val (.int rel), .val (.ref b204), .unset, .unset, .unset, .unset, .unset, .unset, .unset, .unset] [(.int (255 : Int32)), (.int ld), (.int r2)])) _
      refine XS.iand X218.here hx rfl (hb hby at_128) rfl ?_
      show Steps p.tables e below (T218.setTop (mkF m 129 #[.val (.int ln), .val (.int la), .val (.int lb), .val (.int lc), .val (.int ld), .val (.int (2 : Int32)), .val (.int r0), .val (.int r1), .val (.int r2), .val (.int rel), .val (.ref b204), .unset, .unset, .unset, .unset, .unset, .unset, .unset, .unset] [(.int (ld &&& (255 : Int32))), (.int r2)])) _
      refine XS.iadd X218.here hx rfl (hb hby at_129) rfl ?_
      show Steps p.tables e below (T218.setTop (mkF m 130 #[.val (.int ln), .val (.int la), .val (.int lb), .val (.int lc), .val (.int ld), .val (.int (2 : Int32)), .val (.int r0), .val (.int r1), .val (.int r2), .val (.int rel), .val (.ref b204), .unset, .unset, .unset, .unset, .unset, .unset, .unset, .unset] [(.int (r2 + (ld &&& (255 : Int32))))])) _
      refine castTop (g' := (mkF m 130 #[.val (.int ln), .val (.int la), .val (.int lb), .val (.int lc), .val (.int ld), .val (.int (2 : Int32)), .val (.int r0), .val (.int r1), .val (.int r2), .val (.int rel), .val (.ref b204), .unset, .unset, .unset, .unset, .unset, .unset, .unset, .unset] [(.int i224)])) (by rw [hi224]) ?_
      show Steps p.tables e below (T218.setTop (mkF m 130 #[.val (.int ln), .val (.int la), .val (.int lb), .val (.int lc), .val (.int ld), .val (.int (2 : Int32)), .val (.int r0), .val (.int r1), .val (.int r2), .val (.int rel), .val (.ref b204), .unset, .unset, .unset, .unset, .unset, .unset, .unset, .unset] [(.int i224)])) _
      refine XS.istore X218.here hx rfl (hb hby at_130) rfl (l' := #[.val (.int ln), .val (.int la), .val (.int lb), .val (.int lc), .val (.int ld), .val (.int (2 : Int32)), .val (.int r0), .val (.int r1), .val (.int r2), .val (.int rel), .val (.ref b204), .val (.int i224), .unset, .unset, .unset, .unset, .unset, .unset, .unset]) rfl ?_
      exact k)
    obtain ⟨T226, h226, X226, e226, E226, A226, D226, -, st226⟩ := newO X218 hx hZ hown (hw _ (List.mem_of_getElem? (i := 3) rfl)) (hw _ (List.mem_of_getElem? (i := 4) rfl)) (hw _ (List.mem_of_getElem? (i := 5) rfl)) e218 (g := (mkF m 132 #[.val (.int ln), .val (.int la), .val (.int lb), .val (.int lc), .val (.int ld), .val (.int (2 : Int32)), .val (.int r0), .val (.int r1), .val (.int r2), .val (.int rel), .val (.ref b204), .val (.int i224), .unset, .unset, .unset, .unset, .unset, .unset, .unset] [])) rfl (hb hby at_132) (by decide) (by decide)
    obtain ⟨b226, g226⟩ : ∃ z, z = h218.size := ⟨_, rfl⟩
    rw [← g226] at A226 D226 st226
    have n227 : b204 ≠ b226 := Nat.ne_of_lt (Nat.lt_of_lt_of_le V219.lt (Nat.le_of_eq g226.symm))
    have g228 : n0 ≤ b226 := Nat.le_trans Z220 (Nat.le_of_eq g226.symm)
    have F229 := V219.ext E226
    have Z230 : n0 ≤ h226.size := Nat.le_trans Z220 E226.1
    have hk231 : 0 ≤ h226.size := Nat.le_trans hk222 E226.1
    have F232 : Fld Z h226 b226 "com/example/round2/round2/eval/TopicResult" "topic" "Ljava/lang/String;" .null := D226 (Or.inr (hw _ (List.mem_of_getElem? (i := 21) rfl))) (ty := (.object "java/lang/String")) (by decide)
    have F233 : Fld Z h226 b226 "com/example/round2/round2/eval/TopicResult" "retrieved" "I" (.int (0 : Int32)) := D226 (Or.inr (hw _ (List.mem_of_getElem? (i := 23) rfl))) (ty := .int) (by decide)
    have F234 : Fld Z h226 b226 "com/example/round2/round2/eval/TopicResult" "relevant" "I" (.int (0 : Int32)) := D226 (Or.inr (hw _ (List.mem_of_getElem? (i := 25) rfl))) (ty := .int) (by decide)
    have F235 : Fld Z h226 b226 "com/example/round2/round2/eval/TopicResult" "relevantRanks" "[I" .null := D226 (Or.inr (hw _ (List.mem_of_getElem? (i := 27) rfl))) (ty := (.array .int)) (by decide)
    have k236 : ∀ t, Steps p.tables e below (T226.setTop (mkF m 135 #[.val (.int ln), .val (.int la), .val (.int lb), .val (.int lc), .val (.int ld), .val (.int (2 : Int32)), .val (.int r0), .val (.int r1), .val (.int r2), .val (.int rel), .val (.ref b204), .val (.int i224), .unset, .unset, .unset, .unset, .unset, .unset, .unset] [(.ref b226)])) t → Steps p.tables e below (s₁.setTop (entryFrame m #[(.int ln), (.int la), (.int lb), (.int lc), (.int ld)] maxLocals)) t := fun t k => k225 t (st226 t k)
    have k237 : ∀ t, Steps p.tables e below (T226.setTop (mkF m 136 #[.val (.int ln), .val (.int la), .val (.int lb), .val (.int lc), .val (.int ld), .val (.int (2 : Int32)), .val (.int r0), .val (.int r1), .val (.int r2), .val (.int rel), .val (.ref b204), .val (.int i224), .unset, .unset, .unset, .unset, .unset, .unset, .unset] [(.ref b226), (.ref b226)])) t → Steps p.tables e below (s₁.setTop (entryFrame m #[(.int ln), (.int la), (.int lb), (.int lc), (.int ld)] maxLocals)) t := fun t k => k236 t (by
      show Steps p.tables e below (T226.setTop (mkF m 135 #[.val (.int ln), .val (.int la), .val (.int lb), .val (.int lc), .val (.int ld), .val (.int (2 : Int32)), .val (.int r0), .val (.int r1), .val (.int r2), .val (.int rel), .val (.ref b204), .val (.int i224), .unset, .unset, .unset, .unset, .unset, .unset, .unset] [(.ref b226)])) _
      refine XS.dup X226.here hx rfl (hb hby at_135) rfl rfl ?_
      exact k)
    obtain ⟨b238, T238, h238, kk238, X238, e238, E238, hS238, hk238, hZ238, hown238, st238⟩ := ldcS (s := s) (vm0 := s.vm) X226 hx hZ hown (hw _ (List.mem_of_getElem? (i := 6) rfl)) (own_strAtoms hw) e226 hS0 hk231 (g := (mkF m 136 #[.val (.int ln), .val (.int la), .val (.int lb), .val (.int lc), .val (.int ld), .val (.int (2 : Int32)), .val (.int r0), .val (.int r1), .val (.int r2), .val (.int rel), .val (.ref b204), .val (.int i224), .unset, .unset, .unset, .unset, .unset, .unset, .unset] [(.ref b226), (.ref b226)])) rfl (hb hby at_136) (n := 4) (by decide) (by decide) (by decide) (by decide)
    have F239 := F229.ext E238
    have F240 := A226.ext E238
    have F241 := F232.ext E238
    have F242 := F233.ext E238
    have F243 := F234.ext E238
    have F244 := F235.ext E238
    have Z245 : n0 ≤ h238.size := Nat.le_trans Z230 E238.1
    have k246 : ∀ t, Steps p.tables e below (T238.setTop (mkF m 138 #[.val (.int ln), .val (.int la), .val (.int lb), .val (.int lc), .val (.int ld), .val (.int (2 : Int32)), .val (.int r0), .val (.int r1), .val (.int r2), .val (.int rel), .val (.ref b204), .val (.int i224), .unset, .unset, .unset, .unset, .unset, .unset, .unset] [(.ref b238), (.ref b226), (.ref b226)])) t → Steps p.tables e below (s₁.setTop (entryFrame m #[(.int ln), (.int la), (.int lb), (.int lc), (.int ld)] maxLocals)) t := fun t k => k237 t (st238 t k)
    have k247 : ∀ t, Steps p.tables e below (T238.setTop (mkF m 144 #[.val (.int ln), .val (.int la), .val (.int lb), .val (.int lc), .val (.int ld), .val (.int (2 : Int32)), .val (.int r0), .val (.int r1), .val (.int r2), .val (.int rel), .val (.ref b204), .val (.int i224), .unset, .unset, .unset, .unset, .unset, .unset, .unset] [(.ref b204), (.int rel), (.int i224), (.ref b238), (.ref b226), (.ref b226)])) t → Steps p.tables e below (s₁.setTop (entryFrame m #[(.int ln), (.int la), (.int lb), (.int lc), (.int ld)] maxLocals)) t := fun t k => k246 t (by
      show Steps p.tables e below (T238.setTop (mkF m 138 #[.val (.int ln), .val (.int la), .val (.int lb), .val (.int lc), .val (.int ld), .val (.int (2 : Int32)), .val (.int r0), .val (.int r1), .val (.int r2), .val (.int rel), .val (.ref b204), .val (.int i224), .unset, .unset, .unset, .unset, .unset, .unset, .unset] [(.ref b238), (.ref b226), (.ref b226)])) _
      refine XS.iload X238.here hx rfl (hb hby at_138) rfl ?_
      show Steps p.tables e below (T238.setTop (mkF m 140 #[.val (.int ln), .val (.int la), .val (.int lb), .val (.int lc), .val (.int ld), .val (.int (2 : Int32)), .val (.int r0), .val (.int r1), .val (.int r2), .val (.int rel), .val (.ref b204), .val (.int i224), .unset, .unset, .unset, .unset, .unset, .unset, .unset] [(.int i224), (.ref b238), (.ref b226), (.ref b226)])) _
      refine XS.iload X238.here hx rfl (hb hby at_140) rfl ?_
      show Steps p.tables e below (T238.setTop (mkF m 142 #[.val (.int ln), .val (.int la), .val (.int lb), .val (.int lc), .val (.int ld), .val (.int (2 : Int32)), .val (.int r0), .val (.int r1), .val (.int r2), .val (.int rel), .val (.ref b204), .val (.int i224), .unset, .unset, .unset, .unset, .unset, .unset, .unset] [(.int rel), (.int i224), (.ref b238), (.ref b226), (.ref b226)])) _
      refine XS.aload X238.here hx rfl (hb hby at_142) rfl rfl ?_
      exact k)
    obtain ⟨_, _, ⟨T248, L248, k248, n248⟩, -, X248, ⟨Lc248, hQ248, l248, y248, z248⟩, st248⟩ := X238.specialBack hx (y := (⟨"com/example/round2/round2/eval/TopicResult", "<init>", "(Ljava/lang/String;II[I)V"⟩ : MethodName)) rfl hown238 (mvT hZ238 (hw _ (List.mem_of_getElem? (i := 14) rfl))) (mvT hZ238 (hw _ (List.mem_of_getElem? (i := 15) rfl))) (mvT hZ238 (hw _ (List.mem_of_getElem? (i := 16) rfl))) (by decide) (backOf (W := 1) (rm1 l Z a0 hw [] b226 b238 i224 rel b204 h238 n0 Z245 F241 F242 F243 F244 F240 g228) hZ238 (hw _ (List.mem_of_getElem? (i := 16) rfl)) (hw _ (List.mem_of_getElem? (i := 5) rfl)) (by decide) (by decide)) (g := (mkF m 144 #[.val (.int ln), .val (.int la), .val (.int lb), .val (.int lc), .val (.int ld), .val (.int (2 : Int32)), .val (.int r0), .val (.int r1), .val (.int r2), .val (.int rel), .val (.ref b204), .val (.int i224), .unset, .unset, .unset, .unset, .unset, .unset, .unset] [(.ref b204), (.int rel), (.int i224), (.ref b238), (.ref b226), (.ref b226)])) rfl (by rw [hml]; rfl) (Steps.refl _) (a := b226) (argsL := [(.ref b238), (.int i224), (.int rel), (.ref b204)]) (rest := [(.ref b226)]) (lenOf pd__28Ljava_2flang_2fString_3bII_5bI_29V rfl) rfl (by show 2 * 0 + _ ≤ _; exact Nat.le_of_eq rfl) (hb hby at_144) (fun _ _ => ⟨rfl, e238, (by decide : 4 + 0 ≤ _), (by decide : 14 + 0 ≤ _)⟩)
    dsimp only [Pt.U, Pt.locs, Pt.cells, Pt.slots] at X248 l248 y248 z248 st248 hQ248
    subst l248 y248 z248
    obtain ⟨h248, e248⟩ : ∃ h', T248.heap = h' := ⟨_, rfl⟩
    rw [e248] at hQ248
    obtain ⟨rfl, N248q, K248, G248a, G248b, G248c⟩ := hQ248
    have N249 := Fr.app N221 N248q
    have k250 : ∀ t, Steps p.tables e below (T248.setTop (mkF m 147 #[.val (.int ln), .val (.int la), .val (.int lb), .val (.int lc), .val (.int ld), .val (.int (2 : Int32)), .val (.int r0), .val (.int r1), .val (.int r2), .val (.int rel), .val (.ref b204), .val (.int i224), .unset, .unset, .unset, .unset, .unset, .unset, .unset] [(.ref b226)])) t → Steps p.tables e below (s₁.setTop (entryFrame m #[(.int ln), (.int la), (.int lb), (.int lc), (.int ld)] maxLocals)) t := fun t k => k247 t (st248.trans k)
    have F251 := F239.keep K248 (ninS n227 nin0)
    have F252 := F240.keep K248
    have Z253 : n0 ≤ h248.size := Nat.le_trans Z245 K248.1
    have hk254 : kk238 ≤ h248.size := Nat.le_trans hk238 K248.1
    have U0 : Jvm.FP.Core.dIsNaN (FP.dadd (0 : UInt64) (FP.ddiv (FP.i2d (1 : Int32)) (FP.i2d r0))) = false := Jvm.FP.Core.dadd_out (by decide +kernel) (fin_div _ Z0')
    have U1 : Jvm.FP.Core.dIsNaN (FP.dadd (FP.dadd (0 : UInt64) (FP.ddiv (FP.i2d (1 : Int32)) (FP.i2d r0))) (FP.ddiv (FP.i2d (2 : Int32)) (FP.i2d r1))) = false := Jvm.FP.Core.dadd_out U0 (fin_div _ Z1')
    have k255 : ∀ t, Steps p.tables e below (T248.setTop (mkF m 151 #[.val (.int ln), .val (.int la), .val (.int lb), .val (.int lc), .val (.int ld), .val (.int (2 : Int32)), .val (.int r0), .val (.int r1), .val (.int r2), .val (.int rel), .val (.ref b204), .val (.int i224), .val (.ref b226), .unset, .unset, .unset, .unset, .unset, .unset] [(.ref b226)])) t → Steps p.tables e below (s₁.setTop (entryFrame m #[(.int ln), (.int la), (.int lb), (.int lc), (.int ld)] maxLocals)) t := fun t k => k250 t (by
      show Steps p.tables e below (T248.setTop (mkF m 147 #[.val (.int ln), .val (.int la), .val (.int lb), .val (.int lc), .val (.int ld), .val (.int (2 : Int32)), .val (.int r0), .val (.int r1), .val (.int r2), .val (.int rel), .val (.ref b204), .val (.int i224), .unset, .unset, .unset, .unset, .unset, .unset, .unset] [(.ref b226)])) _
      refine XS.astore X248.here hx rfl (hb hby at_147) rfl rfl (l' := #[.val (.int ln), .val (.int la), .val (.int lb), .val (.int lc), .val (.int ld), .val (.int (2 : Int32)), .val (.int r0), .val (.int r1), .val (.int r2), .val (.int rel), .val (.ref b204), .val (.int i224), .val (.ref b226), .unset, .unset, .unset, .unset, .unset, .unset]) rfl ?_
      show Steps p.tables e below (T248.setTop (mkF m 149 #[.val (.int ln), .val (.int la), .val (.int lb), .val (.int lc), .val (.int ld), .val (.int (2 : Int32)), .val (.int r0), .val (.int r1), .val (.int r2), .val (.int rel), .val (.ref b204), .val (.int i224), .val (.ref b226), .unset, .unset, .unset, .unset, .unset, .unset] [])) _
      refine XS.aload X248.here hx rfl (hb hby at_149) rfl rfl ?_
      exact k)
    by_cases cz : rel = (0 : Int32)
    · obtain ⟨cq256, kq256, q256a, q256b, q256c⟩ := isOf hZ238 e248 G248a
      obtain ⟨_, _, ⟨T256, L256, k256, n256⟩, -, X256, ⟨Lc256, hQ256, l256, y256, z256⟩, st256⟩ := X248.virtualBack hx (y := (⟨"com/example/round2/round2/eval/TopicResult", "averagePrecision", "()D"⟩ : MethodName)) (z := (⟨"com/example/round2/round2/eval/TopicResult", "averagePrecision", "()D"⟩ : MethodName)) hown238 (mvT hZ238 (hw _ (List.mem_of_getElem? (i := 28) rfl))) (mvT hZ238 (hw _ (List.mem_of_getElem? (i := 29) rfl))) (notFace_of_selects (args := #[]) (mvT hZ238 (hw _ (List.mem_of_getElem? (i := 31) rfl)))) (mvT hZ238 (hw _ (List.mem_of_getElem? (i := 31) rfl))) (mvT hZ238 (hw _ (List.mem_of_getElem? (i := 30) rfl))) (by decide) (backOf (W := 0) (avp2_1 l Z a0 hw [] b226 b204 k204 rel r0 r1 h248 n0 Z253 G248c G248b F251 cz (nn_of (no_fin (fin_div _ Z0'))) (nn_of U0) (nn_of (no_fin (fin_div _ Z1'))) (nn_of U1)) hZ238 (hw _ (List.mem_of_getElem? (i := 32) rfl)) (hw _ (List.mem_of_getElem? (i := 5) rfl)) (by decide) (by decide)) q256a q256c (g := (mkF m 151 #[.val (.int ln), .val (.int la), .val (.int lb), .val (.int lc), .val (.int ld), .val (.int (2 : Int32)), .val (.int r0), .val (.int r1), .val (.int r2), .val (.int rel), .val (.ref b204), .val (.int i224), .val (.ref b226), .unset, .unset, .unset, .unset, .unset, .unset] [(.ref b226)])) rfl (by rw [hml]; rfl) (Steps.refl _) (argsL := []) (rest := []) (lenOf pd__28_29D rfl) rfl (by show 2 * 0 + _ ≤ _; exact Nat.le_of_eq rfl) (hb hby at_151) (fun _ _ => ⟨rfl, e248, (by decide : 4 + 0 ≤ _), (by decide : 14 + 0 ≤ _)⟩)
      dsimp only [Pt.U, Pt.locs, Pt.cells, Pt.slots] at X256 l256 y256 z256 st256 hQ256
      subst l256 y256 z256
      obtain ⟨rfl, N256q, e256⟩ := hQ256
      have N257 := Fr.app N249 N256q
      have k258 : ∀ t, Steps p.tables e below (T256.setTop (mkF m 154 #[.val (.int ln), .val (.int la), .val (.int lb), .val (.int lc), .val (.int ld), .val (.int (2 : Int32)), .val (.int r0), .val (.int r1), .val (.int r2), .val (.int rel), .val (.ref b204), .val (.int i224), .val (.ref b226), .unset, .unset, .unset, .unset, .unset, .unset] [(.double (0 : UInt64))])) t → Steps p.tables e below (s₁.setTop (entryFrame m #[(.int ln), (.int la), (.int lb), (.int lc), (.int ld)] maxLocals)) t := fun t k => k255 t (st256.trans k)
      obtain ⟨x0, hx0⟩ : ∃ z : UInt64, FP.i2d r0 = z := ⟨_, rfl⟩
      obtain ⟨q0, hq0⟩ : ∃ z : UInt64, FP.ddiv (4607182418800017408 : UInt64) x0 = z := ⟨_, rfl⟩
      have eq0 : q0 = (FP.ddiv (FP.i2d (1 : Int32)) (FP.i2d r0)) := by rw [← hq0, ← hx0, ← own_c0]
      obtain ⟨t0, ht0⟩ : ∃ z : UInt64, FP.dadd (0 : UInt64) q0 = z := ⟨_, rfl⟩
      have et0 : t0 = (FP.dadd (0 : UInt64) (FP.ddiv (FP.i2d (1 : Int32)) (FP.i2d r0))) := by rw [← ht0, eq0]
      obtain ⟨x1, hx1⟩ : ∃ z : UInt64, FP.i2d r1 = z := ⟨_, rfl⟩
      obtain ⟨q1, hq1⟩ : ∃ z : UInt64, FP.ddiv (4611686018427387904 : UInt64) x1 = z := ⟨_, rfl⟩
      have eq1 : q1 = (FP.ddiv (FP.i2d (2 : Int32)) (FP.i2d r1)) := by rw [← hq1, ← hx1, ← own_c1]
      obtain ⟨t1, ht1⟩ : ∃ z : UInt64, FP.dadd t0 q1 = z := ⟨_, rfl⟩
      have et1 : t1 = (FP.dadd (FP.dadd (0 : UInt64) (FP.ddiv (FP.i2d (1 : Int32)) (FP.i2d r0))) (FP.ddiv (FP.i2d (2 : Int32)) (FP.i2d r1))) := by rw [← ht1, eq1, et0]
      have k259 : ∀ t, Steps p.tables e below (T256.setTop (mkF m 243 #[.val (.int ln), .val (.int la), .val (.int lb), .val (.int lc), .val (.int ld), .val (.int (2 : Int32)), .val (.int r0), .val (.int r1), .val (.int r2), .val (.int rel), .val (.ref b204), .val (.int i224), .val (.ref b226), .val (.double (0 : UInt64)), .second, .val (.double t1), .second, .val (.double (0 : UInt64)), .second] [(.int (1 : Int32))])) t → Steps p.tables e below (s₁.setTop (entryFrame m #[(.int ln), (.int la), (.int lb), (.int lc), (.int ld)] maxLocals)) t := fun t k => k258 t (by
        show Steps p.tables e below (T256.setTop (mkF m 154 #[.val (.int ln), .val (.int la), .val (.int lb), .val (.int lc), .val (.int ld), .val (.int (2 : Int32)), .val (.int r0), .val (.int r1), .val (.int r2), .val (.int rel), .val (.ref b204), .val (.int i224), .val (.ref b226), .unset, .unset, .unset, .unset, .unset, .unset] [(.double (0 : UInt64))])) _
        refine XS.dstore X256.here hx rfl (hb hby at_154) rfl (l' := #[.val (.int ln), .val (.int la), .val (.int lb), .val (.int lc), .val (.int ld), .val (.int (2 : Int32)), .val (.int r0), .val (.int r1), .val (.int r2), .val (.int rel), .val (.ref b204), .val (.int i224), .val (.ref b226), .val (.double (0 : UInt64)), .second, .unset, .unset, .unset, .unset]) rfl ?_
        show Steps p.tables e below (T256.setTop (mkF m 156 #[.val (.int ln), .val (.int la), .val (.int lb), .val (.int lc), .val (.int ld), .val (.int (2 : Int32)), .val (.int r0), .val (.int r1), .val (.int r2), .val (.int rel), .val (.ref b204), .val (.int i224), .val (.ref b226), .val (.double (0 : UInt64)), .second, .unset, .unset, .unset, .unset] [])) _
        refine XS.dconst0 X256.here hx rfl (hb hby at_156) (v := (0 : UInt64)) rfl ?_
        show Steps p.tables e below (T256.setTop (mkF m 157 #[.val (.int ln), .val (.int la), .val (.int lb), .val (.int lc), .val (.int ld), .val (.int (2 : Int32)), .val (.int r0), .val (.int r1), .val (.int r2), .val (.int rel), .val (.ref b204), .val (.int i224), .val (.ref b226), .val (.double (0 : UInt64)), .second, .unset, .unset, .unset, .unset] [(.double (0 : UInt64))])) _
        refine XS.dstore X256.here hx rfl (hb hby at_157) rfl (l' := #[.val (.int ln), .val (.int la), .val (.int lb), .val (.int lc), .val (.int ld), .val (.int (2 : Int32)), .val (.int r0), .val (.int r1), .val (.int r2), .val (.int rel), .val (.ref b204), .val (.int i224), .val (.ref b226), .val (.double (0 : UInt64)), .second, .val (.double (0 : UInt64)), .second, .unset, .unset]) rfl ?_
        show Steps p.tables e below (T256.setTop (mkF m 159 #[.val (.int ln), .val (.int la), .val (.int lb), .val (.int lc), .val (.int ld), .val (.int (2 : Int32)), .val (.int r0), .val (.int r1), .val (.int r2), .val (.int rel), .val (.ref b204), .val (.int i224), .val (.ref b226), .val (.double (0 : UInt64)), .second, .val (.double (0 : UInt64)), .second, .unset, .unset] [])) _
        refine XS.iload X256.here hx rfl (hb hby at_159) rfl ?_
        show Steps p.tables e below (T256.setTop (mkF m 161 #[.val (.int ln), .val (.int la), .val (.int lb), .val (.int lc), .val (.int ld), .val (.int (2 : Int32)), .val (.int r0), .val (.int r1), .val (.int r2), .val (.int rel), .val (.ref b204), .val (.int i224), .val (.ref b226), .val (.double (0 : UInt64)), .second, .val (.double (0 : UInt64)), .second, .unset, .unset] [(.int (2 : Int32))])) _
        refine XS.iconst X256.here hx rfl (hb hby at_161) ?_
        show Steps p.tables e below (T256.setTop (mkF m 162 #[.val (.int ln), .val (.int la), .val (.int lb), .val (.int lc), .val (.int ld), .val (.int (2 : Int32)), .val (.int r0), .val (.int r1), .val (.int r2), .val (.int rel), .val (.ref b204), .val (.int i224), .val (.ref b226), .val (.double (0 : UInt64)), .second, .val (.double (0 : UInt64)), .second, .unset, .unset] [(.int (1 : Int32)), (.int (2 : Int32))])) _
        refine XS.icmpNo X256.here hx rfl (hb hby at_162) rfl (flt (by decide)).1 ?_
        show Steps p.tables e below (T256.setTop (mkF m 165 #[.val (.int ln), .val (.int la), .val (.int lb), .val (.int lc), .val (.int ld), .val (.int (2 : Int32)), .val (.int r0), .val (.int r1), .val (.int r2), .val (.int rel), .val (.ref b204), .val (.int i224), .val (.ref b226), .val (.double (0 : UInt64)), .second, .val (.double (0 : UInt64)), .second, .unset, .unset] [])) _
        refine XS.dload X256.here hx rfl (hb hby at_165) rfl ?_
        show Steps p.tables e below (T256.setTop (mkF m 167 #[.val (.int ln), .val (.int la), .val (.int lb), .val (.int lc), .val (.int ld), .val (.int (2 : Int32)), .val (.int r0), .val (.int r1), .val (.int r2), .val (.int rel), .val (.ref b204), .val (.int i224), .val (.ref b226), .val (.double (0 : UInt64)), .second, .val (.double (0 : UInt64)), .second, .unset, .unset] [(.double (0 : UInt64))])) _
        refine XS.dconst1 X256.here hx rfl (hb hby at_167) (v := (4607182418800017408 : UInt64)) rfl ?_
        show Steps p.tables e below (T256.setTop (mkF m 168 #[.val (.int ln), .val (.int la), .val (.int lb), .val (.int lc), .val (.int ld), .val (.int (2 : Int32)), .val (.int r0), .val (.int r1), .val (.int r2), .val (.int rel), .val (.ref b204), .val (.int i224), .val (.ref b226), .val (.double (0 : UInt64)), .second, .val (.double (0 : UInt64)), .second, .unset, .unset] [(.double (4607182418800017408 : UInt64)), (.double (0 : UInt64))])) _
        refine XS.iload X256.here hx rfl (hb hby at_168) rfl ?_
        show Steps p.tables e below (T256.setTop (mkF m 170 #[.val (.int ln), .val (.int la), .val (.int lb), .val (.int lc), .val (.int ld), .val (.int (2 : Int32)), .val (.int r0), .val (.int r1), .val (.int r2), .val (.int rel), .val (.ref b204), .val (.int i224), .val (.ref b226), .val (.double (0 : UInt64)), .second, .val (.double (0 : UInt64)), .second, .unset, .unset] [(.int r0), (.double (4607182418800017408 : UInt64)), (.double (0 : UInt64))])) _
        refine XS.i2dS X256.here hx rfl (hb hby at_170) rfl hx0 ?_
        show Steps p.tables e below (T256.setTop (mkF m 171 #[.val (.int ln), .val (.int la), .val (.int lb), .val (.int lc), .val (.int ld), .val (.int (2 : Int32)), .val (.int r0), .val (.int r1), .val (.int r2), .val (.int rel), .val (.ref b204), .val (.int i224), .val (.ref b226), .val (.double (0 : UInt64)), .second, .val (.double (0 : UInt64)), .second, .unset, .unset] [(.double x0), (.double (4607182418800017408 : UInt64)), (.double (0 : UInt64))])) _
        refine XS.ddivS X256.here hx rfl (hb hby at_171) rfl ((by rw [← hx0, ← own_c0]; exact nn_of (no_fin (fin_div _ Z0')))) hq0 ?_
        show Steps p.tables e below (T256.setTop (mkF m 172 #[.val (.int ln), .val (.int la), .val (.int lb), .val (.int lc), .val (.int ld), .val (.int (2 : Int32)), .val (.int r0), .val (.int r1), .val (.int r2), .val (.int rel), .val (.ref b204), .val (.int i224), .val (.ref b226), .val (.double (0 : UInt64)), .second, .val (.double (0 : UInt64)), .second, .unset, .unset] [(.double q0), (.double (0 : UInt64))])) _
        refine XS.daddS X256.here hx rfl (hb hby at_172) rfl ((by rw [eq0]; exact nn_of U0)) ht0 ?_
        show Steps p.tables e below (T256.setTop (mkF m 173 #[.val (.int ln), .val (.int la), .val (.int lb), .val (.int lc), .val (.int ld), .val (.int (2 : Int32)), .val (.int r0), .val (.int r1), .val (.int r2), .val (.int rel), .val (.ref b204), .val (.int i224), .val (.ref b226), .val (.double (0 : UInt64)), .second, .val (.double (0 : UInt64)), .second, .unset, .unset] [(.double t0)])) _
        refine XS.dstore X256.here hx rfl (hb hby at_173) rfl (l' := #[.val (.int ln), .val (.int la), .val (.int lb), .val (.int lc), .val (.int ld), .val (.int (2 : Int32)), .val (.int r0), .val (.int r1), .val (.int r2), .val (.int rel), .val (.ref b204), .val (.int i224), .val (.ref b226), .val (.double (0 : UInt64)), .second, .val (.double t0), .second, .unset, .unset]) rfl ?_
        show Steps p.tables e below (T256.setTop (mkF m 175 #[.val (.int ln), .val (.int la), .val (.int lb), .val (.int lc), .val (.int ld), .val (.int (2 : Int32)), .val (.int r0), .val (.int r1), .val (.int r2), .val (.int rel), .val (.ref b204), .val (.int i224), .val (.ref b226), .val (.double (0 : UInt64)), .second, .val (.double t0), .second, .unset, .unset] [])) _
        refine XS.iload X256.here hx rfl (hb hby at_175) rfl ?_
        show Steps p.tables e below (T256.setTop (mkF m 177 #[.val (.int ln), .val (.int la), .val (.int lb), .val (.int lc), .val (.int ld), .val (.int (2 : Int32)), .val (.int r0), .val (.int r1), .val (.int r2), .val (.int rel), .val (.ref b204), .val (.int i224), .val (.ref b226), .val (.double (0 : UInt64)), .second, .val (.double t0), .second, .unset, .unset] [(.int (2 : Int32))])) _
        refine XS.iconst X256.here hx rfl (hb hby at_177) ?_
        show Steps p.tables e below (T256.setTop (mkF m 178 #[.val (.int ln), .val (.int la), .val (.int lb), .val (.int lc), .val (.int ld), .val (.int (2 : Int32)), .val (.int r0), .val (.int r1), .val (.int r2), .val (.int rel), .val (.ref b204), .val (.int i224), .val (.ref b226), .val (.double (0 : UInt64)), .second, .val (.double t0), .second, .unset, .unset] [(.int (2 : Int32)), (.int (2 : Int32))])) _
        refine XS.icmpNo X256.here hx rfl (hb hby at_178) rfl (flt (by decide)).1 ?_
        show Steps p.tables e below (T256.setTop (mkF m 181 #[.val (.int ln), .val (.int la), .val (.int lb), .val (.int lc), .val (.int ld), .val (.int (2 : Int32)), .val (.int r0), .val (.int r1), .val (.int r2), .val (.int rel), .val (.ref b204), .val (.int i224), .val (.ref b226), .val (.double (0 : UInt64)), .second, .val (.double t0), .second, .unset, .unset] [])) _
        refine XS.dload X256.here hx rfl (hb hby at_181) rfl ?_
        show Steps p.tables e below (T256.setTop (mkF m 183 #[.val (.int ln), .val (.int la), .val (.int lb), .val (.int lc), .val (.int ld), .val (.int (2 : Int32)), .val (.int r0), .val (.int r1), .val (.int r2), .val (.int rel), .val (.ref b204), .val (.int i224), .val (.ref b226), .val (.double (0 : UInt64)), .second, .val (.double t0), .second, .unset, .unset] [(.double t0)])) _
        refine X256.ldc2DoubleC hx hown238 (mvT hZ238 (hw _ (List.mem_of_getElem? (i := 33) rfl))) (g := (mkF m 183 #[.val (.int ln), .val (.int la), .val (.int lb), .val (.int lc), .val (.int ld), .val (.int (2 : Int32)), .val (.int r0), .val (.int r1), .val (.int r2), .val (.int rel), .val (.ref b204), .val (.int i224), .val (.ref b226), .val (.double (0 : UInt64)), .second, .val (.double t0), .second, .unset, .unset] [(.double t0)])) rfl (hb hby at_183) _ ?_
        show Steps p.tables e below (T256.setTop (mkF m 186 #[.val (.int ln), .val (.int la), .val (.int lb), .val (.int lc), .val (.int ld), .val (.int (2 : Int32)), .val (.int r0), .val (.int r1), .val (.int r2), .val (.int rel), .val (.ref b204), .val (.int i224), .val (.ref b226), .val (.double (0 : UInt64)), .second, .val (.double t0), .second, .unset, .unset] [(.double (4611686018427387904 : UInt64)), (.double t0)])) _
        refine XS.iload X256.here hx rfl (hb hby at_186) rfl ?_
        show Steps p.tables e below (T256.setTop (mkF m 188 #[.val (.int ln), .val (.int la), .val (.int lb), .val (.int lc), .val (.int ld), .val (.int (2 : Int32)), .val (.int r0), .val (.int r1), .val (.int r2), .val (.int rel), .val (.ref b204), .val (.int i224), .val (.ref b226), .val (.double (0 : UInt64)), .second, .val (.double t0), .second, .unset, .unset] [(.int r1), (.double (4611686018427387904 : UInt64)), (.double t0)])) _
        refine XS.i2dS X256.here hx rfl (hb hby at_188) rfl hx1 ?_
        show Steps p.tables e below (T256.setTop (mkF m 189 #[.val (.int ln), .val (.int la), .val (.int lb), .val (.int lc), .val (.int ld), .val (.int (2 : Int32)), .val (.int r0), .val (.int r1), .val (.int r2), .val (.int rel), .val (.ref b204), .val (.int i224), .val (.ref b226), .val (.double (0 : UInt64)), .second, .val (.double t0), .second, .unset, .unset] [(.double x1), (.double (4611686018427387904 : UInt64)), (.double t0)])) _
        refine XS.ddivS X256.here hx rfl (hb hby at_189) rfl ((by rw [← hx1, ← own_c1]; exact nn_of (no_fin (fin_div _ Z1')))) hq1 ?_
        show Steps p.tables e below (T256.setTop (mkF m 190 #[.val (.int ln), .val (.int la), .val (.int lb), .val (.int lc), .val (.int ld), .val (.int (2 : Int32)), .val (.int r0), .val (.int r1), .val (.int r2), .val (.int rel), .val (.ref b204), .val (.int i224), .val (.ref b226), .val (.double (0 : UInt64)), .second, .val (.double t0), .second, .unset, .unset] [(.double q1), (.double t0)])) _
        refine XS.daddS X256.here hx rfl (hb hby at_190) rfl ((by rw [eq1, et0]; exact nn_of U1)) ht1 ?_
        show Steps p.tables e below (T256.setTop (mkF m 191 #[.val (.int ln), .val (.int la), .val (.int lb), .val (.int lc), .val (.int ld), .val (.int (2 : Int32)), .val (.int r0), .val (.int r1), .val (.int r2), .val (.int rel), .val (.ref b204), .val (.int i224), .val (.ref b226), .val (.double (0 : UInt64)), .second, .val (.double t0), .second, .unset, .unset] [(.double t1)])) _
        refine XS.dstore X256.here hx rfl (hb hby at_191) rfl (l' := #[.val (.int ln), .val (.int la), .val (.int lb), .val (.int lc), .val (.int ld), .val (.int (2 : Int32)), .val (.int r0), .val (.int r1), .val (.int r2), .val (.int rel), .val (.ref b204), .val (.int i224), .val (.ref b226), .val (.double (0 : UInt64)), .second, .val (.double t1), .second, .unset, .unset]) rfl ?_
        show Steps p.tables e below (T256.setTop (mkF m 193 #[.val (.int ln), .val (.int la), .val (.int lb), .val (.int lc), .val (.int ld), .val (.int (2 : Int32)), .val (.int r0), .val (.int r1), .val (.int r2), .val (.int rel), .val (.ref b204), .val (.int i224), .val (.ref b226), .val (.double (0 : UInt64)), .second, .val (.double t1), .second, .unset, .unset] [])) _
        refine XS.iload X256.here hx rfl (hb hby at_193) rfl ?_
        show Steps p.tables e below (T256.setTop (mkF m 195 #[.val (.int ln), .val (.int la), .val (.int lb), .val (.int lc), .val (.int ld), .val (.int (2 : Int32)), .val (.int r0), .val (.int r1), .val (.int r2), .val (.int rel), .val (.ref b204), .val (.int i224), .val (.ref b226), .val (.double (0 : UInt64)), .second, .val (.double t1), .second, .unset, .unset] [(.int (2 : Int32))])) _
        refine XS.iconst X256.here hx rfl (hb hby at_195) ?_
        show Steps p.tables e below (T256.setTop (mkF m 196 #[.val (.int ln), .val (.int la), .val (.int lb), .val (.int lc), .val (.int ld), .val (.int (2 : Int32)), .val (.int r0), .val (.int r1), .val (.int r2), .val (.int rel), .val (.ref b204), .val (.int i224), .val (.ref b226), .val (.double (0 : UInt64)), .second, .val (.double t1), .second, .unset, .unset] [(.int (3 : Int32)), (.int (2 : Int32))])) _
        refine XS.icmpYes X256.here hx rfl (pc0 := 196) (pc' := 211) rfl (hb hby at_196) rfl (tlt (by decide)).1 (by decide) (by decide) ?_
        show Steps p.tables e below (T256.setTop (mkF m 211 #[.val (.int ln), .val (.int la), .val (.int lb), .val (.int lc), .val (.int ld), .val (.int (2 : Int32)), .val (.int r0), .val (.int r1), .val (.int r2), .val (.int rel), .val (.ref b204), .val (.int i224), .val (.ref b226), .val (.double (0 : UInt64)), .second, .val (.double t1), .second, .unset, .unset] [])) _
        refine XS.iload X256.here hx rfl (hb hby at_211) rfl ?_
        show Steps p.tables e below (T256.setTop (mkF m 213 #[.val (.int ln), .val (.int la), .val (.int lb), .val (.int lc), .val (.int ld), .val (.int (2 : Int32)), .val (.int r0), .val (.int r1), .val (.int r2), .val (.int rel), .val (.ref b204), .val (.int i224), .val (.ref b226), .val (.double (0 : UInt64)), .second, .val (.double t1), .second, .unset, .unset] [(.int rel)])) _
        refine XS.ifNo X256.here hx rfl (hb hby at_213) rfl ((if0 _ _).trans (teq cz).2) ?_
        show Steps p.tables e below (T256.setTop (mkF m 216 #[.val (.int ln), .val (.int la), .val (.int lb), .val (.int lc), .val (.int ld), .val (.int (2 : Int32)), .val (.int r0), .val (.int r1), .val (.int r2), .val (.int rel), .val (.ref b204), .val (.int i224), .val (.ref b226), .val (.double (0 : UInt64)), .second, .val (.double t1), .second, .unset, .unset] [])) _
        refine XS.dconst0 X256.here hx rfl (hb hby at_216) (v := (0 : UInt64)) rfl ?_
        show Steps p.tables e below (T256.setTop (mkF m 217 #[.val (.int ln), .val (.int la), .val (.int lb), .val (.int lc), .val (.int ld), .val (.int (2 : Int32)), .val (.int r0), .val (.int r1), .val (.int r2), .val (.int rel), .val (.ref b204), .val (.int i224), .val (.ref b226), .val (.double (0 : UInt64)), .second, .val (.double t1), .second, .unset, .unset] [(.double (0 : UInt64))])) _
        refine XS.dstore X256.here hx rfl (hb hby at_217) rfl (l' := #[.val (.int ln), .val (.int la), .val (.int lb), .val (.int lc), .val (.int ld), .val (.int (2 : Int32)), .val (.int r0), .val (.int r1), .val (.int r2), .val (.int rel), .val (.ref b204), .val (.int i224), .val (.ref b226), .val (.double (0 : UInt64)), .second, .val (.double t1), .second, .val (.double (0 : UInt64)), .second]) rfl ?_
        show Steps p.tables e below (T256.setTop (mkF m 219 #[.val (.int ln), .val (.int la), .val (.int lb), .val (.int lc), .val (.int ld), .val (.int (2 : Int32)), .val (.int r0), .val (.int r1), .val (.int r2), .val (.int rel), .val (.ref b204), .val (.int i224), .val (.ref b226), .val (.double (0 : UInt64)), .second, .val (.double t1), .second, .val (.double (0 : UInt64)), .second] [])) _
        refine XS.goto X256.here hx rfl (pc0 := 219) (pc' := 230) rfl (hb hby at_219) (by decide) (by decide) ?_
        show Steps p.tables e below (T256.setTop (mkF m 230 #[.val (.int ln), .val (.int la), .val (.int lb), .val (.int lc), .val (.int ld), .val (.int (2 : Int32)), .val (.int r0), .val (.int r1), .val (.int r2), .val (.int rel), .val (.ref b204), .val (.int i224), .val (.ref b226), .val (.double (0 : UInt64)), .second, .val (.double t1), .second, .val (.double (0 : UInt64)), .second] [])) _
        refine XS.dload X256.here hx rfl (hb hby at_230) rfl ?_
        show Steps p.tables e below (T256.setTop (mkF m 232 #[.val (.int ln), .val (.int la), .val (.int lb), .val (.int lc), .val (.int ld), .val (.int (2 : Int32)), .val (.int r0), .val (.int r1), .val (.int r2), .val (.int rel), .val (.ref b204), .val (.int i224), .val (.ref b226), .val (.double (0 : UInt64)), .second, .val (.double t1), .second, .val (.double (0 : UInt64)), .second] [(.double (0 : UInt64))])) _
        refine XS.dload X256.here hx rfl (hb hby at_232) rfl ?_
        show Steps p.tables e below (T256.setTop (mkF m 234 #[.val (.int ln), .val (.int la), .val (.int lb), .val (.int lc), .val (.int ld), .val (.int (2 : Int32)), .val (.int r0), .val (.int r1), .val (.int r2), .val (.int rel), .val (.ref b204), .val (.int i224), .val (.ref b226), .val (.double (0 : UInt64)), .second, .val (.double t1), .second, .val (.double (0 : UInt64)), .second] [(.double (0 : UInt64)), (.double (0 : UInt64))])) _
        refine XS.dcmpS X256.here hx rfl (hb hby at_234) rfl rfl ?_
        show Steps p.tables e below (T256.setTop (mkF m 235 #[.val (.int ln), .val (.int la), .val (.int lb), .val (.int lc), .val (.int ld), .val (.int (2 : Int32)), .val (.int r0), .val (.int r1), .val (.int r2), .val (.int rel), .val (.ref b204), .val (.int i224), .val (.ref b226), .val (.double (0 : UInt64)), .second, .val (.double t1), .second, .val (.double (0 : UInt64)), .second] [(.int (cmpValue (FP.dcmp (0 : UInt64) (0 : UInt64)) .l))])) _
        refine XS.ifNo X256.here hx rfl (hb hby at_235) rfl ((if0 _ _).trans (teq (Dy.cmp_eq (dy0 0) (dy0 0) rfl .l)).2) ?_
        show Steps p.tables e below (T256.setTop (mkF m 238 #[.val (.int ln), .val (.int la), .val (.int lb), .val (.int lc), .val (.int ld), .val (.int (2 : Int32)), .val (.int r0), .val (.int r1), .val (.int r2), .val (.int rel), .val (.ref b204), .val (.int i224), .val (.ref b226), .val (.double (0 : UInt64)), .second, .val (.double t1), .second, .val (.double (0 : UInt64)), .second] [])) _
        refine XS.iconst X256.here hx rfl (hb hby at_238) ?_
        show Steps p.tables e below (T256.setTop (mkF m 239 #[.val (.int ln), .val (.int la), .val (.int lb), .val (.int lc), .val (.int ld), .val (.int (2 : Int32)), .val (.int r0), .val (.int r1), .val (.int r2), .val (.int rel), .val (.ref b204), .val (.int i224), .val (.ref b226), .val (.double (0 : UInt64)), .second, .val (.double t1), .second, .val (.double (0 : UInt64)), .second] [(.int (1 : Int32))])) _
        refine XS.goto X256.here hx rfl (pc0 := 239) (pc' := 243) rfl (hb hby at_239) (by decide) (by decide) ?_
        exact k)
      obtain ⟨fs, hr, hrun, hended, hRE⟩ := Stand.leaveW (s := s) (vm₁ := T238.vm) X256 hS238 (by rw [e256]; exact hk254) (v := some (.int (1 : Int32))) (fun h => by rw [Bd.returns] at h; cases h)
      refine ⟨_, _, k259 _ (retOut X256 hx (t := .boolean) Bd.returns rfl (Or.inl ⟨rfl, Or.inr (Or.inl rfl), _, rfl⟩) (hb hby at_243) hr), hrun, hended, _, _, rfl, ?_, hRE.1, hRE.2.1, hRE.2.2.1, hRE.2.2.2.mono (by decide) (by decide)⟩
      show Q_rm0 Z ln la lb lc ld h0 n0 _ T256.heap _
      rw [e256]
      exact ⟨rfl, N257⟩
    · obtain ⟨cq260, kq260, q260a, q260b, q260c⟩ := isOf hZ238 e248 G248a
      obtain ⟨_, _, ⟨T260, L260, k260, n260⟩, -, X260, ⟨Lc260, hQ260, l260, y260, z260⟩, st260⟩ := X248.virtualBack hx (y := (⟨"com/example/round2/round2/eval/TopicResult", "averagePrecision", "()D"⟩ : MethodName)) (z := (⟨"com/example/round2/round2/eval/TopicResult", "averagePrecision", "()D"⟩ : MethodName)) hown238 (mvT hZ238 (hw _ (List.mem_of_getElem? (i := 28) rfl))) (mvT hZ238 (hw _ (List.mem_of_getElem? (i := 29) rfl))) (notFace_of_selects (args := #[]) (mvT hZ238 (hw _ (List.mem_of_getElem? (i := 31) rfl)))) (mvT hZ238 (hw _ (List.mem_of_getElem? (i := 31) rfl))) (mvT hZ238 (hw _ (List.mem_of_getElem? (i := 30) rfl))) (by decide) (backOf (W := 0) (avp2_0 l Z a0 hw [] b226 b204 k204 rel r0 r1 h248 n0 Z253 G248c G248b F251 cz (nn_of (no_fin (fin_div _ Z0'))) (nn_of U0) (nn_of (no_fin (fin_div _ Z1'))) (nn_of U1) (nn_div U1 cz)) hZ238 (hw _ (List.mem_of_getElem? (i := 32) rfl)) (hw _ (List.mem_of_getElem? (i := 5) rfl)) (by decide) (by decide)) q260a q260c (g := (mkF m 151 #[.val (.int ln), .val (.int la), .val (.int lb), .val (.int lc), .val (.int ld), .val (.int (2 : Int32)), .val (.int r0), .val (.int r1), .val (.int r2), .val (.int rel), .val (.ref b204), .val (.int i224), .val (.ref b226), .unset, .unset, .unset, .unset, .unset, .unset] [(.ref b226)])) rfl (by rw [hml]; rfl) (Steps.refl _) (argsL := []) (rest := []) (lenOf pd__28_29D rfl) rfl (by show 2 * 0 + _ ≤ _; exact Nat.le_of_eq rfl) (hb hby at_151) (fun _ _ => ⟨rfl, e248, (by decide : 4 + 0 ≤ _), (by decide : 14 + 0 ≤ _)⟩)
      dsimp only [Pt.U, Pt.locs, Pt.cells, Pt.slots] at X260 l260 y260 z260 st260 hQ260
      subst l260 y260 z260
      obtain ⟨rfl, N260q, e260⟩ := hQ260
      have N261 := Fr.app N249 N260q
      have k262 : ∀ t, Steps p.tables e below (T260.setTop (mkF m 154 #[.val (.int ln), .val (.int la), .val (.int lb), .val (.int lc), .val (.int ld), .val (.int (2 : Int32)), .val (.int r0), .val (.int r1), .val (.int r2), .val (.int rel), .val (.ref b204), .val (.int i224), .val (.ref b226), .unset, .unset, .unset, .unset, .unset, .unset] [(.double (FP.ddiv (FP.dadd (FP.dadd (0 : UInt64) (FP.ddiv (FP.i2d (1 : Int32)) (FP.i2d r0))) (FP.ddiv (FP.i2d (2 : Int32)) (FP.i2d r1))) (FP.i2d rel)))])) t → Steps p.tables e below (s₁.setTop (entryFrame m #[(.int ln), (.int la), (.int lb), (.int lc), (.int ld)] maxLocals)) t := fun t k => k255 t (st260.trans k)
      obtain ⟨got, hgot⟩ : ∃ z : UInt64, z = (FP.ddiv (FP.dadd (FP.dadd (0 : UInt64) (FP.ddiv (FP.i2d (1 : Int32)) (FP.i2d r0))) (FP.ddiv (FP.i2d (2 : Int32)) (FP.i2d r1))) (FP.i2d rel)) := ⟨_, rfl⟩
      obtain ⟨x0, hx0⟩ : ∃ z : UInt64, FP.i2d r0 = z := ⟨_, rfl⟩
      obtain ⟨q0, hq0⟩ : ∃ z : UInt64, FP.ddiv (4607182418800017408 : UInt64) x0 = z := ⟨_, rfl⟩
      have eq0 : q0 = (FP.ddiv (FP.i2d (1 : Int32)) (FP.i2d r0)) := by rw [← hq0, ← hx0, ← own_c0]
      obtain ⟨t0, ht0⟩ : ∃ z : UInt64, FP.dadd (0 : UInt64) q0 = z := ⟨_, rfl⟩
      have et0 : t0 = (FP.dadd (0 : UInt64) (FP.ddiv (FP.i2d (1 : Int32)) (FP.i2d r0))) := by rw [← ht0, eq0]
      obtain ⟨x1, hx1⟩ : ∃ z : UInt64, FP.i2d r1 = z := ⟨_, rfl⟩
      obtain ⟨q1, hq1⟩ : ∃ z : UInt64, FP.ddiv (4611686018427387904 : UInt64) x1 = z := ⟨_, rfl⟩
      have eq1 : q1 = (FP.ddiv (FP.i2d (2 : Int32)) (FP.i2d r1)) := by rw [← hq1, ← hx1, ← own_c1]
      obtain ⟨t1, ht1⟩ : ∃ z : UInt64, FP.dadd t0 q1 = z := ⟨_, rfl⟩
      have et1 : t1 = (FP.dadd (FP.dadd (0 : UInt64) (FP.ddiv (FP.i2d (1 : Int32)) (FP.i2d r0))) (FP.ddiv (FP.i2d (2 : Int32)) (FP.i2d r1))) := by rw [← ht1, eq1, et0]
      obtain ⟨xr, hxr⟩ : ∃ z : UInt64, FP.i2d rel = z := ⟨_, rfl⟩
      obtain ⟨want, hwant⟩ : ∃ z : UInt64, FP.ddiv t1 xr = z := ⟨_, rfl⟩
      have ew : want = (FP.ddiv (FP.dadd (FP.dadd (0 : UInt64) (FP.ddiv (FP.i2d (1 : Int32)) (FP.i2d r0))) (FP.ddiv (FP.i2d (2 : Int32)) (FP.i2d r1))) (FP.i2d rel)) := by rw [← hwant, ← hxr, et1]
      have hfin : cmpValue (FP.dcmp got want) .l = (0 : Int32) := by rw [hgot, ew]; exact dcmpV_self (nn_div U1 cz) .l
      have k263 : ∀ t, Steps p.tables e below (T260.setTop (mkF m 243 #[.val (.int ln), .val (.int la), .val (.int lb), .val (.int lc), .val (.int ld), .val (.int (2 : Int32)), .val (.int r0), .val (.int r1), .val (.int r2), .val (.int rel), .val (.ref b204), .val (.int i224), .val (.ref b226), .val (.double got), .second, .val (.double t1), .second, .val (.double want), .second] [(.int (1 : Int32))])) t → Steps p.tables e below (s₁.setTop (entryFrame m #[(.int ln), (.int la), (.int lb), (.int lc), (.int ld)] maxLocals)) t := fun t k => k262 t (by
        show Steps p.tables e below (T260.setTop (mkF m 154 #[.val (.int ln), .val (.int la), .val (.int lb), .val (.int lc), .val (.int ld), .val (.int (2 : Int32)), .val (.int r0), .val (.int r1), .val (.int r2), .val (.int rel), .val (.ref b204), .val (.int i224), .val (.ref b226), .unset, .unset, .unset, .unset, .unset, .unset] [(.double (FP.ddiv (FP.dadd (FP.dadd (0 : UInt64) (FP.ddiv (FP.i2d (1 : Int32)) (FP.i2d r0))) (FP.ddiv (FP.i2d (2 : Int32)) (FP.i2d r1))) (FP.i2d rel)))])) _
        refine castTop (g' := (mkF m 154 #[.val (.int ln), .val (.int la), .val (.int lb), .val (.int lc), .val (.int ld), .val (.int (2 : Int32)), .val (.int r0), .val (.int r1), .val (.int r2), .val (.int rel), .val (.ref b204), .val (.int i224), .val (.ref b226), .unset, .unset, .unset, .unset, .unset, .unset] [(.double got)])) (by rw [hgot]) ?_
        show Steps p.tables e below (T260.setTop (mkF m 154 #[.val (.int ln), .val (.int la), .val (.int lb), .val (.int lc), .val (.int ld), .val (.int (2 : Int32)), .val (.int r0), .val (.int r1), .val (.int r2), .val (.int rel), .val (.ref b204), .val (.int i224), .val (.ref b226), .unset, .unset, .unset, .unset, .unset, .unset] [(.double got)])) _
        refine XS.dstore X260.here hx rfl (hb hby at_154) rfl (l' := #[.val (.int ln), .val (.int la), .val (.int lb), .val (.int lc), .val (.int ld), .val (.int (2 : Int32)), .val (.int r0), .val (.int r1), .val (.int r2), .val (.int rel), .val (.ref b204), .val (.int i224), .val (.ref b226), .val (.double got), .second, .unset, .unset, .unset, .unset]) rfl ?_
        show Steps p.tables e below (T260.setTop (mkF m 156 #[.val (.int ln), .val (.int la), .val (.int lb), .val (.int lc), .val (.int ld), .val (.int (2 : Int32)), .val (.int r0), .val (.int r1), .val (.int r2), .val (.int rel), .val (.ref b204), .val (.int i224), .val (.ref b226), .val (.double got), .second, .unset, .unset, .unset, .unset] [])) _
        refine XS.dconst0 X260.here hx rfl (hb hby at_156) (v := (0 : UInt64)) rfl ?_
        show Steps p.tables e below (T260.setTop (mkF m 157 #[.val (.int ln), .val (.int la), .val (.int lb), .val (.int lc), .val (.int ld), .val (.int (2 : Int32)), .val (.int r0), .val (.int r1), .val (.int r2), .val (.int rel), .val (.ref b204), .val (.int i224), .val (.ref b226), .val (.double got), .second, .unset, .unset, .unset, .unset] [(.double (0 : UInt64))])) _
        refine XS.dstore X260.here hx rfl (hb hby at_157) rfl (l' := #[.val (.int ln), .val (.int la), .val (.int lb), .val (.int lc), .val (.int ld), .val (.int (2 : Int32)), .val (.int r0), .val (.int r1), .val (.int r2), .val (.int rel), .val (.ref b204), .val (.int i224), .val (.ref b226), .val (.double got), .second, .val (.double (0 : UInt64)), .second, .unset, .unset]) rfl ?_
        show Steps p.tables e below (T260.setTop (mkF m 159 #[.val (.int ln), .val (.int la), .val (.int lb), .val (.int lc), .val (.int ld), .val (.int (2 : Int32)), .val (.int r0), .val (.int r1), .val (.int r2), .val (.int rel), .val (.ref b204), .val (.int i224), .val (.ref b226), .val (.double got), .second, .val (.double (0 : UInt64)), .second, .unset, .unset] [])) _
        refine XS.iload X260.here hx rfl (hb hby at_159) rfl ?_
        show Steps p.tables e below (T260.setTop (mkF m 161 #[.val (.int ln), .val (.int la), .val (.int lb), .val (.int lc), .val (.int ld), .val (.int (2 : Int32)), .val (.int r0), .val (.int r1), .val (.int r2), .val (.int rel), .val (.ref b204), .val (.int i224), .val (.ref b226), .val (.double got), .second, .val (.double (0 : UInt64)), .second, .unset, .unset] [(.int (2 : Int32))])) _
        refine XS.iconst X260.here hx rfl (hb hby at_161) ?_
        show Steps p.tables e below (T260.setTop (mkF m 162 #[.val (.int ln), .val (.int la), .val (.int lb), .val (.int lc), .val (.int ld), .val (.int (2 : Int32)), .val (.int r0), .val (.int r1), .val (.int r2), .val (.int rel), .val (.ref b204), .val (.int i224), .val (.ref b226), .val (.double got), .second, .val (.double (0 : UInt64)), .second, .unset, .unset] [(.int (1 : Int32)), (.int (2 : Int32))])) _
        refine XS.icmpNo X260.here hx rfl (hb hby at_162) rfl (flt (by decide)).1 ?_
        show Steps p.tables e below (T260.setTop (mkF m 165 #[.val (.int ln), .val (.int la), .val (.int lb), .val (.int lc), .val (.int ld), .val (.int (2 : Int32)), .val (.int r0), .val (.int r1), .val (.int r2), .val (.int rel), .val (.ref b204), .val (.int i224), .val (.ref b226), .val (.double got), .second, .val (.double (0 : UInt64)), .second, .unset, .unset] [])) _
        refine XS.dload X260.here hx rfl (hb hby at_165) rfl ?_
        show Steps p.tables e below (T260.setTop (mkF m 167 #[.val (.int ln), .val (.int la), .val (.int lb), .val (.int lc), .val (.int ld), .val (.int (2 : Int32)), .val (.int r0), .val (.int r1), .val (.int r2), .val (.int rel), .val (.ref b204), .val (.int i224), .val (.ref b226), .val (.double got), .second, .val (.double (0 : UInt64)), .second, .unset, .unset] [(.double (0 : UInt64))])) _
        refine XS.dconst1 X260.here hx rfl (hb hby at_167) (v := (4607182418800017408 : UInt64)) rfl ?_
        show Steps p.tables e below (T260.setTop (mkF m 168 #[.val (.int ln), .val (.int la), .val (.int lb), .val (.int lc), .val (.int ld), .val (.int (2 : Int32)), .val (.int r0), .val (.int r1), .val (.int r2), .val (.int rel), .val (.ref b204), .val (.int i224), .val (.ref b226), .val (.double got), .second, .val (.double (0 : UInt64)), .second, .unset, .unset] [(.double (4607182418800017408 : UInt64)), (.double (0 : UInt64))])) _
        refine XS.iload X260.here hx rfl (hb hby at_168) rfl ?_
        show Steps p.tables e below (T260.setTop (mkF m 170 #[.val (.int ln), .val (.int la), .val (.int lb), .val (.int lc), .val (.int ld), .val (.int (2 : Int32)), .val (.int r0), .val (.int r1), .val (.int r2), .val (.int rel), .val (.ref b204), .val (.int i224), .val (.ref b226), .val (.double got), .second, .val (.double (0 : UInt64)), .second, .unset, .unset] [(.int r0), (.double (4607182418800017408 : UInt64)), (.double (0 : UInt64))])) _
        refine XS.i2dS X260.here hx rfl (hb hby at_170) rfl hx0 ?_
        show Steps p.tables e below (T260.setTop (mkF m 171 #[.val (.int ln), .val (.int la), .val (.int lb), .val (.int lc), .val (.int ld), .val (.int (2 : Int32)), .val (.int r0), .val (.int r1), .val (.int r2), .val (.int rel), .val (.ref b204), .val (.int i224), .val (.ref b226), .val (.double got), .second, .val (.double (0 : UInt64)), .second, .unset, .unset] [(.double x0), (.double (4607182418800017408 : UInt64)), (.double (0 : UInt64))])) _
        refine XS.ddivS X260.here hx rfl (hb hby at_171) rfl ((by rw [← hx0, ← own_c0]; exact nn_of (no_fin (fin_div _ Z0')))) hq0 ?_
        show Steps p.tables e below (T260.setTop (mkF m 172 #[.val (.int ln), .val (.int la), .val (.int lb), .val (.int lc), .val (.int ld), .val (.int (2 : Int32)), .val (.int r0), .val (.int r1), .val (.int r2), .val (.int rel), .val (.ref b204), .val (.int i224), .val (.ref b226), .val (.double got), .second, .val (.double (0 : UInt64)), .second, .unset, .unset] [(.double q0), (.double (0 : UInt64))])) _
        refine XS.daddS X260.here hx rfl (hb hby at_172) rfl ((by rw [eq0]; exact nn_of U0)) ht0 ?_
        show Steps p.tables e below (T260.setTop (mkF m 173 #[.val (.int ln), .val (.int la), .val (.int lb), .val (.int lc), .val (.int ld), .val (.int (2 : Int32)), .val (.int r0), .val (.int r1), .val (.int r2), .val (.int rel), .val (.ref b204), .val (.int i224), .val (.ref b226), .val (.double got), .second, .val (.double (0 : UInt64)), .second, .unset, .unset] [(.double t0)])) _
        refine XS.dstore X260.here hx rfl (hb hby at_173) rfl (l' := #[.val (.int ln), .val (.int la), .val (.int lb), .val (.int lc), .val (.int ld), .val (.int (2 : Int32)), .val (.int r0), .val (.int r1), .val (.int r2), .val (.int rel), .val (.ref b204), .val (.int i224), .val (.ref b226), .val (.double got), .second, .val (.double t0), .second, .unset, .unset]) rfl ?_
        show Steps p.tables e below (T260.setTop (mkF m 175 #[.val (.int ln), .val (.int la), .val (.int lb), .val (.int lc), .val (.int ld), .val (.int (2 : Int32)), .val (.int r0), .val (.int r1), .val (.int r2), .val (.int rel), .val (.ref b204), .val (.int i224), .val (.ref b226), .val (.double got), .second, .val (.double t0), .second, .unset, .unset] [])) _
        refine XS.iload X260.here hx rfl (hb hby at_175) rfl ?_
        show Steps p.tables e below (T260.setTop (mkF m 177 #[.val (.int ln), .val (.int la), .val (.int lb), .val (.int lc), .val (.int ld), .val (.int (2 : Int32)), .val (.int r0), .val (.int r1), .val (.int r2), .val (.int rel), .val (.ref b204), .val (.int i224), .val (.ref b226), .val (.double got), .second, .val (.double t0), .second, .unset, .unset] [(.int (2 : Int32))])) _
        refine XS.iconst X260.here hx rfl (hb hby at_177) ?_
        show Steps p.tables e below (T260.setTop (mkF m 178 #[.val (.int ln), .val (.int la), .val (.int lb), .val (.int lc), .val (.int ld), .val (.int (2 : Int32)), .val (.int r0), .val (.int r1), .val (.int r2), .val (.int rel), .val (.ref b204), .val (.int i224), .val (.ref b226), .val (.double got), .second, .val (.double t0), .second, .unset, .unset] [(.int (2 : Int32)), (.int (2 : Int32))])) _
        refine XS.icmpNo X260.here hx rfl (hb hby at_178) rfl (flt (by decide)).1 ?_
        show Steps p.tables e below (T260.setTop (mkF m 181 #[.val (.int ln), .val (.int la), .val (.int lb), .val (.int lc), .val (.int ld), .val (.int (2 : Int32)), .val (.int r0), .val (.int r1), .val (.int r2), .val (.int rel), .val (.ref b204), .val (.int i224), .val (.ref b226), .val (.double got), .second, .val (.double t0), .second, .unset, .unset] [])) _
        refine XS.dload X260.here hx rfl (hb hby at_181) rfl ?_
        show Steps p.tables e below (T260.setTop (mkF m 183 #[.val (.int ln), .val (.int la), .val (.int lb), .val (.int lc), .val (.int ld), .val (.int (2 : Int32)), .val (.int r0), .val (.int r1), .val (.int r2), .val (.int rel), .val (.ref b204), .val (.int i224), .val (.ref b226), .val (.double got), .second, .val (.double t0), .second, .unset, .unset] [(.double t0)])) _
        refine X260.ldc2DoubleC hx hown238 (mvT hZ238 (hw _ (List.mem_of_getElem? (i := 33) rfl))) (g := (mkF m 183 #[.val (.int ln), .val (.int la), .val (.int lb), .val (.int lc), .val (.int ld), .val (.int (2 : Int32)), .val (.int r0), .val (.int r1), .val (.int r2), .val (.int rel), .val (.ref b204), .val (.int i224), .val (.ref b226), .val (.double got), .second, .val (.double t0), .second, .unset, .unset] [(.double t0)])) rfl (hb hby at_183) _ ?_
        show Steps p.tables e below (T260.setTop (mkF m 186 #[.val (.int ln), .val (.int la), .val (.int lb), .val (.int lc), .val (.int ld), .val (.int (2 : Int32)), .val (.int r0), .val (.int r1), .val (.int r2), .val (.int rel), .val (.ref b204), .val (.int i224), .val (.ref b226), .val (.double got), .second, .val (.double t0), .second, .unset, .unset] [(.double (4611686018427387904 : UInt64)), (.double t0)])) _
        refine XS.iload X260.here hx rfl (hb hby at_186) rfl ?_
        show Steps p.tables e below (T260.setTop (mkF m 188 #[.val (.int ln), .val (.int la), .val (.int lb), .val (.int lc), .val (.int ld), .val (.int (2 : Int32)), .val (.int r0), .val (.int r1), .val (.int r2), .val (.int rel), .val (.ref b204), .val (.int i224), .val (.ref b226), .val (.double got), .second, .val (.double t0), .second, .unset, .unset] [(.int r1), (.double (4611686018427387904 : UInt64)), (.double t0)])) _
        refine XS.i2dS X260.here hx rfl (hb hby at_188) rfl hx1 ?_
        show Steps p.tables e below (T260.setTop (mkF m 189 #[.val (.int ln), .val (.int la), .val (.int lb), .val (.int lc), .val (.int ld), .val (.int (2 : Int32)), .val (.int r0), .val (.int r1), .val (.int r2), .val (.int rel), .val (.ref b204), .val (.int i224), .val (.ref b226), .val (.double got), .second, .val (.double t0), .second, .unset, .unset] [(.double x1), (.double (4611686018427387904 : UInt64)), (.double t0)])) _
        refine XS.ddivS X260.here hx rfl (hb hby at_189) rfl ((by rw [← hx1, ← own_c1]; exact nn_of (no_fin (fin_div _ Z1')))) hq1 ?_
        show Steps p.tables e below (T260.setTop (mkF m 190 #[.val (.int ln), .val (.int la), .val (.int lb), .val (.int lc), .val (.int ld), .val (.int (2 : Int32)), .val (.int r0), .val (.int r1), .val (.int r2), .val (.int rel), .val (.ref b204), .val (.int i224), .val (.ref b226), .val (.double got), .second, .val (.double t0), .second, .unset, .unset] [(.double q1), (.double t0)])) _
        refine XS.daddS X260.here hx rfl (hb hby at_190) rfl ((by rw [eq1, et0]; exact nn_of U1)) ht1 ?_
        show Steps p.tables e below (T260.setTop (mkF m 191 #[.val (.int ln), .val (.int la), .val (.int lb), .val (.int lc), .val (.int ld), .val (.int (2 : Int32)), .val (.int r0), .val (.int r1), .val (.int r2), .val (.int rel), .val (.ref b204), .val (.int i224), .val (.ref b226), .val (.double got), .second, .val (.double t0), .second, .unset, .unset] [(.double t1)])) _
        refine XS.dstore X260.here hx rfl (hb hby at_191) rfl (l' := #[.val (.int ln), .val (.int la), .val (.int lb), .val (.int lc), .val (.int ld), .val (.int (2 : Int32)), .val (.int r0), .val (.int r1), .val (.int r2), .val (.int rel), .val (.ref b204), .val (.int i224), .val (.ref b226), .val (.double got), .second, .val (.double t1), .second, .unset, .unset]) rfl ?_
        show Steps p.tables e below (T260.setTop (mkF m 193 #[.val (.int ln), .val (.int la), .val (.int lb), .val (.int lc), .val (.int ld), .val (.int (2 : Int32)), .val (.int r0), .val (.int r1), .val (.int r2), .val (.int rel), .val (.ref b204), .val (.int i224), .val (.ref b226), .val (.double got), .second, .val (.double t1), .second, .unset, .unset] [])) _
        refine XS.iload X260.here hx rfl (hb hby at_193) rfl ?_
        show Steps p.tables e below (T260.setTop (mkF m 195 #[.val (.int ln), .val (.int la), .val (.int lb), .val (.int lc), .val (.int ld), .val (.int (2 : Int32)), .val (.int r0), .val (.int r1), .val (.int r2), .val (.int rel), .val (.ref b204), .val (.int i224), .val (.ref b226), .val (.double got), .second, .val (.double t1), .second, .unset, .unset] [(.int (2 : Int32))])) _
        refine XS.iconst X260.here hx rfl (hb hby at_195) ?_
        show Steps p.tables e below (T260.setTop (mkF m 196 #[.val (.int ln), .val (.int la), .val (.int lb), .val (.int lc), .val (.int ld), .val (.int (2 : Int32)), .val (.int r0), .val (.int r1), .val (.int r2), .val (.int rel), .val (.ref b204), .val (.int i224), .val (.ref b226), .val (.double got), .second, .val (.double t1), .second, .unset, .unset] [(.int (3 : Int32)), (.int (2 : Int32))])) _
        refine XS.icmpYes X260.here hx rfl (pc0 := 196) (pc' := 211) rfl (hb hby at_196) rfl (tlt (by decide)).1 (by decide) (by decide) ?_
        show Steps p.tables e below (T260.setTop (mkF m 211 #[.val (.int ln), .val (.int la), .val (.int lb), .val (.int lc), .val (.int ld), .val (.int (2 : Int32)), .val (.int r0), .val (.int r1), .val (.int r2), .val (.int rel), .val (.ref b204), .val (.int i224), .val (.ref b226), .val (.double got), .second, .val (.double t1), .second, .unset, .unset] [])) _
        refine XS.iload X260.here hx rfl (hb hby at_211) rfl ?_
        show Steps p.tables e below (T260.setTop (mkF m 213 #[.val (.int ln), .val (.int la), .val (.int lb), .val (.int lc), .val (.int ld), .val (.int (2 : Int32)), .val (.int r0), .val (.int r1), .val (.int r2), .val (.int rel), .val (.ref b204), .val (.int i224), .val (.ref b226), .val (.double got), .second, .val (.double t1), .second, .unset, .unset] [(.int rel)])) _
        refine XS.ifYes X260.here hx rfl (pc0 := 213) (pc' := 222) rfl (hb hby at_213) rfl ((if0 _ _).trans (feq cz).2) (by decide) (by decide) ?_
        show Steps p.tables e below (T260.setTop (mkF m 222 #[.val (.int ln), .val (.int la), .val (.int lb), .val (.int lc), .val (.int ld), .val (.int (2 : Int32)), .val (.int r0), .val (.int r1), .val (.int r2), .val (.int rel), .val (.ref b204), .val (.int i224), .val (.ref b226), .val (.double got), .second, .val (.double t1), .second, .unset, .unset] [])) _
        refine XS.dload X260.here hx rfl (hb hby at_222) rfl ?_
        show Steps p.tables e below (T260.setTop (mkF m 224 #[.val (.int ln), .val (.int la), .val (.int lb), .val (.int lc), .val (.int ld), .val (.int (2 : Int32)), .val (.int r0), .val (.int r1), .val (.int r2), .val (.int rel), .val (.ref b204), .val (.int i224), .val (.ref b226), .val (.double got), .second, .val (.double t1), .second, .unset, .unset] [(.double t1)])) _
        refine XS.iload X260.here hx rfl (hb hby at_224) rfl ?_
        show Steps p.tables e below (T260.setTop (mkF m 226 #[.val (.int ln), .val (.int la), .val (.int lb), .val (.int lc), .val (.int ld), .val (.int (2 : Int32)), .val (.int r0), .val (.int r1), .val (.int r2), .val (.int rel), .val (.ref b204), .val (.int i224), .val (.ref b226), .val (.double got), .second, .val (.double t1), .second, .unset, .unset] [(.int rel), (.double t1)])) _
        refine XS.i2dS X260.here hx rfl (hb hby at_226) rfl hxr ?_
        show Steps p.tables e below (T260.setTop (mkF m 227 #[.val (.int ln), .val (.int la), .val (.int lb), .val (.int lc), .val (.int ld), .val (.int (2 : Int32)), .val (.int r0), .val (.int r1), .val (.int r2), .val (.int rel), .val (.ref b204), .val (.int i224), .val (.ref b226), .val (.double got), .second, .val (.double t1), .second, .unset, .unset] [(.double xr), (.double t1)])) _
        refine XS.ddivS X260.here hx rfl (hb hby at_227) rfl ((by rw [← hxr, et1]; exact nn_div U1 cz)) hwant ?_
        show Steps p.tables e below (T260.setTop (mkF m 228 #[.val (.int ln), .val (.int la), .val (.int lb), .val (.int lc), .val (.int ld), .val (.int (2 : Int32)), .val (.int r0), .val (.int r1), .val (.int r2), .val (.int rel), .val (.ref b204), .val (.int i224), .val (.ref b226), .val (.double got), .second, .val (.double t1), .second, .unset, .unset] [(.double want)])) _
        refine XS.dstore X260.here hx rfl (hb hby at_228) rfl (l' := #[.val (.int ln), .val (.int la), .val (.int lb), .val (.int lc), .val (.int ld), .val (.int (2 : Int32)), .val (.int r0), .val (.int r1), .val (.int r2), .val (.int rel), .val (.ref b204), .val (.int i224), .val (.ref b226), .val (.double got), .second, .val (.double t1), .second, .val (.double want), .second]) rfl ?_
        show Steps p.tables e below (T260.setTop (mkF m 230 #[.val (.int ln), .val (.int la), .val (.int lb), .val (.int lc), .val (.int ld), .val (.int (2 : Int32)), .val (.int r0), .val (.int r1), .val (.int r2), .val (.int rel), .val (.ref b204), .val (.int i224), .val (.ref b226), .val (.double got), .second, .val (.double t1), .second, .val (.double want), .second] [])) _
        refine XS.dload X260.here hx rfl (hb hby at_230) rfl ?_
        show Steps p.tables e below (T260.setTop (mkF m 232 #[.val (.int ln), .val (.int la), .val (.int lb), .val (.int lc), .val (.int ld), .val (.int (2 : Int32)), .val (.int r0), .val (.int r1), .val (.int r2), .val (.int rel), .val (.ref b204), .val (.int i224), .val (.ref b226), .val (.double got), .second, .val (.double t1), .second, .val (.double want), .second] [(.double got)])) _
        refine XS.dload X260.here hx rfl (hb hby at_232) rfl ?_
        show Steps p.tables e below (T260.setTop (mkF m 234 #[.val (.int ln), .val (.int la), .val (.int lb), .val (.int lc), .val (.int ld), .val (.int (2 : Int32)), .val (.int r0), .val (.int r1), .val (.int r2), .val (.int rel), .val (.ref b204), .val (.int i224), .val (.ref b226), .val (.double got), .second, .val (.double t1), .second, .val (.double want), .second] [(.double want), (.double got)])) _
        refine XS.dcmpS X260.here hx rfl (hb hby at_234) rfl rfl ?_
        show Steps p.tables e below (T260.setTop (mkF m 235 #[.val (.int ln), .val (.int la), .val (.int lb), .val (.int lc), .val (.int ld), .val (.int (2 : Int32)), .val (.int r0), .val (.int r1), .val (.int r2), .val (.int rel), .val (.ref b204), .val (.int i224), .val (.ref b226), .val (.double got), .second, .val (.double t1), .second, .val (.double want), .second] [(.int (cmpValue (FP.dcmp got want) .l))])) _
        refine XS.ifNo X260.here hx rfl (hb hby at_235) rfl ((if0 _ _).trans (teq hfin).2) ?_
        show Steps p.tables e below (T260.setTop (mkF m 238 #[.val (.int ln), .val (.int la), .val (.int lb), .val (.int lc), .val (.int ld), .val (.int (2 : Int32)), .val (.int r0), .val (.int r1), .val (.int r2), .val (.int rel), .val (.ref b204), .val (.int i224), .val (.ref b226), .val (.double got), .second, .val (.double t1), .second, .val (.double want), .second] [])) _
        refine XS.iconst X260.here hx rfl (hb hby at_238) ?_
        show Steps p.tables e below (T260.setTop (mkF m 239 #[.val (.int ln), .val (.int la), .val (.int lb), .val (.int lc), .val (.int ld), .val (.int (2 : Int32)), .val (.int r0), .val (.int r1), .val (.int r2), .val (.int rel), .val (.ref b204), .val (.int i224), .val (.ref b226), .val (.double got), .second, .val (.double t1), .second, .val (.double want), .second] [(.int (1 : Int32))])) _
        refine XS.goto X260.here hx rfl (pc0 := 239) (pc' := 243) rfl (hb hby at_239) (by decide) (by decide) ?_
        exact k)
      obtain ⟨fs, hr, hrun, hended, hRE⟩ := Stand.leaveW (s := s) (vm₁ := T238.vm) X260 hS238 (by rw [e260]; exact hk254) (v := some (.int (1 : Int32))) (fun h => by rw [Bd.returns] at h; cases h)
      refine ⟨_, _, k263 _ (retOut X260 hx (t := .boolean) Bd.returns rfl (Or.inl ⟨rfl, Or.inr (Or.inl rfl), _, rfl⟩) (hb hby at_243) hr), hrun, hended, _, _, rfl, ?_, hRE.1, hRE.2.1, hRE.2.2.1, hRE.2.2.2.mono (by decide) (by decide)⟩
      show Q_rm0 Z ln la lb lc ld h0 n0 _ T260.heap _
      rw [e260]
      exact ⟨rfl, N261⟩
  · have k264 : ∀ t, Steps p.tables e below (s₁.setTop (mkF m 102 #[.val (.int ln), .val (.int la), .val (.int lb), .val (.int lc), .val (.int ld), .val (.int (3 : Int32)), .val (.int r0), .val (.int r1), .val (.int r2), .val (.int rel), .unset, .unset, .unset, .unset, .unset, .unset, .unset, .unset, .unset] [(.int (3 : Int32))])) t → Steps p.tables e below (s₁.setTop (entryFrame m #[(.int ln), (.int la), (.int lb), (.int lc), (.int ld)] maxLocals)) t := fun t k => k101 t (by
      show Steps p.tables e below (s₁.setTop (mkF m 45 #[.val (.int ln), .val (.int la), .val (.int lb), .val (.int lc), .val (.int ld), .val (.int (3 : Int32)), .val (.int r0), .val (.int r1), .val (.int r2), .val (.int rel), .unset, .unset, .unset, .unset, .unset, .unset, .unset, .unset, .unset] [])) _
      refine XS.iload X0.here hx rfl (hb hby at_45) rfl ?_
      show Steps p.tables e below (s₁.setTop (mkF m 47 #[.val (.int ln), .val (.int la), .val (.int lb), .val (.int lc), .val (.int ld), .val (.int (3 : Int32)), .val (.int r0), .val (.int r1), .val (.int r2), .val (.int rel), .unset, .unset, .unset, .unset, .unset, .unset, .unset, .unset, .unset] [(.int (3 : Int32))])) _
      refine XS.ifYes X0.here hx rfl (pc0 := 47) (pc' := 58) rfl (hb hby at_47) rfl ((if0 _ _).trans (feq (by decide)).2) (by decide) (by decide) ?_
      show Steps p.tables e below (s₁.setTop (mkF m 58 #[.val (.int ln), .val (.int la), .val (.int lb), .val (.int lc), .val (.int ld), .val (.int (3 : Int32)), .val (.int r0), .val (.int r1), .val (.int r2), .val (.int rel), .unset, .unset, .unset, .unset, .unset, .unset, .unset, .unset, .unset] [])) _
      refine XS.iload X0.here hx rfl (hb hby at_58) rfl ?_
      show Steps p.tables e below (s₁.setTop (mkF m 60 #[.val (.int ln), .val (.int la), .val (.int lb), .val (.int lc), .val (.int ld), .val (.int (3 : Int32)), .val (.int r0), .val (.int r1), .val (.int r2), .val (.int rel), .unset, .unset, .unset, .unset, .unset, .unset, .unset, .unset, .unset] [(.int (3 : Int32))])) _
      refine XS.iconst X0.here hx rfl (hb hby at_60) ?_
      show Steps p.tables e below (s₁.setTop (mkF m 61 #[.val (.int ln), .val (.int la), .val (.int lb), .val (.int lc), .val (.int ld), .val (.int (3 : Int32)), .val (.int r0), .val (.int r1), .val (.int r2), .val (.int rel), .unset, .unset, .unset, .unset, .unset, .unset, .unset, .unset, .unset] [(.int (1 : Int32)), (.int (3 : Int32))])) _
      refine XS.icmpYes X0.here hx rfl (pc0 := 61) (pc' := 77) rfl (hb hby at_61) rfl (feq (by decide)).2 (by decide) (by decide) ?_
      show Steps p.tables e below (s₁.setTop (mkF m 77 #[.val (.int ln), .val (.int la), .val (.int lb), .val (.int lc), .val (.int ld), .val (.int (3 : Int32)), .val (.int r0), .val (.int r1), .val (.int r2), .val (.int rel), .unset, .unset, .unset, .unset, .unset, .unset, .unset, .unset, .unset] [])) _
      refine XS.iload X0.here hx rfl (hb hby at_77) rfl ?_
      show Steps p.tables e below (s₁.setTop (mkF m 79 #[.val (.int ln), .val (.int la), .val (.int lb), .val (.int lc), .val (.int ld), .val (.int (3 : Int32)), .val (.int r0), .val (.int r1), .val (.int r2), .val (.int rel), .unset, .unset, .unset, .unset, .unset, .unset, .unset, .unset, .unset] [(.int (3 : Int32))])) _
      refine XS.iconst X0.here hx rfl (hb hby at_79) ?_
      show Steps p.tables e below (s₁.setTop (mkF m 80 #[.val (.int ln), .val (.int la), .val (.int lb), .val (.int lc), .val (.int ld), .val (.int (3 : Int32)), .val (.int r0), .val (.int r1), .val (.int r2), .val (.int rel), .unset, .unset, .unset, .unset, .unset, .unset, .unset, .unset, .unset] [(.int (2 : Int32)), (.int (3 : Int32))])) _
      refine XS.icmpYes X0.here hx rfl (pc0 := 80) (pc' := 101) rfl (hb hby at_80) rfl (feq (by decide)).2 (by decide) (by decide) ?_
      show Steps p.tables e below (s₁.setTop (mkF m 101 #[.val (.int ln), .val (.int la), .val (.int lb), .val (.int lc), .val (.int ld), .val (.int (3 : Int32)), .val (.int r0), .val (.int r1), .val (.int r2), .val (.int rel), .unset, .unset, .unset, .unset, .unset, .unset, .unset, .unset, .unset] [])) _
      refine XS.iconst X0.here hx rfl (hb hby at_101) ?_
      exact k)
    obtain ⟨T265, h265, k265, X265, e265, E265, A265, st265⟩ := newP X0 hx hZ (hw _ (List.mem_of_getElem? (i := 2) rfl)) e0 (g := (mkF m 102 #[.val (.int ln), .val (.int la), .val (.int lb), .val (.int lc), .val (.int ld), .val (.int (3 : Int32)), .val (.int r0), .val (.int r1), .val (.int r2), .val (.int rel), .unset, .unset, .unset, .unset, .unset, .unset, .unset, .unset, .unset] [(.int (3 : Int32))])) rfl (hb hby at_102) rfl (by decide) (cap := 3) (by decide) (by decide) (by decide) (by decide)
    obtain ⟨b265, g265⟩ : ∃ z, z = h0.size := ⟨_, rfl⟩
    rw [← g265] at A265 st265
    have g266 : n0 ≤ b265 := Nat.le_trans Z0 (Nat.le_of_eq g265.symm)
    have Z267 : n0 ≤ h265.size := Nat.le_trans Z0 E265.1
    have hk268 : 0 ≤ h265.size := Nat.le_trans (Nat.zero_le _) E265.1
    have V269 : Arv Z h265 b265 k265 .int (3 : Int32) [(.int (0 : Int32)), (.int (0 : Int32)), (.int (0 : Int32))] (.int (0 : Int32)) := (Arv.new A265 (by decide)).pad (pad_rep [] (.int (0 : Int32)) 3)
    have k270 : ∀ t, Steps p.tables e below (T265.setTop (mkF m 104 #[.val (.int ln), .val (.int la), .val (.int lb), .val (.int lc), .val (.int ld), .val (.int (3 : Int32)), .val (.int r0), .val (.int r1), .val (.int r2), .val (.int rel), .unset, .unset, .unset, .unset, .unset, .unset, .unset, .unset, .unset] [(.ref b265)])) t → Steps p.tables e below (s₁.setTop (entryFrame m #[(.int ln), (.int la), (.int lb), (.int lc), (.int ld)] maxLocals)) t := fun t k => k264 t (st265 t k)
    have k271 : ∀ t, Steps p.tables e below (T265.setTop (mkF m 108 #[.val (.int ln), .val (.int la), .val (.int lb), .val (.int lc), .val (.int ld), .val (.int (3 : Int32)), .val (.int r0), .val (.int r1), .val (.int r2), .val (.int rel), .unset, .unset, .unset, .unset, .unset, .unset, .unset, .unset, .unset] [(.int r0), (.int (0 : Int32)), (.ref b265), (.ref b265)])) t → Steps p.tables e below (s₁.setTop (entryFrame m #[(.int ln), (.int la), (.int lb), (.int lc), (.int ld)] maxLocals)) t := fun t k => k270 t (by
      show Steps p.tables e below (T265.setTop (mkF m 104 #[.val (.int ln), .val (.int la), .val (.int lb), .val (.int lc), .val (.int ld), .val (.int (3 : Int32)), .val (.int r0), .val (.int r1), .val (.int r2), .val (.int rel), .unset, .unset, .unset, .unset, .unset, .unset, .unset, .unset, .unset] [(.ref b265)])) _
      refine XS.dup X265.here hx rfl (hb hby at_104) rfl rfl ?_
      show Steps p.tables e below (T265.setTop (mkF m 105 #[.val (.int ln), .val (.int la), .val (.int lb), .val (.int lc), .val (.int ld), .val (.int (3 : Int32)), .val (.int r0), .val (.int r1), .val (.int r2), .val (.int rel), .unset, .unset, .unset, .unset, .unset, .unset, .unset, .unset, .unset] [(.ref b265), (.ref b265)])) _
      refine XS.iconst X265.here hx rfl (hb hby at_105) ?_
      show Steps p.tables e below (T265.setTop (mkF m 106 #[.val (.int ln), .val (.int la), .val (.int lb), .val (.int lc), .val (.int ld), .val (.int (3 : Int32)), .val (.int r0), .val (.int r1), .val (.int r2), .val (.int rel), .unset, .unset, .unset, .unset, .unset, .unset, .unset, .unset, .unset] [(.int (0 : Int32)), (.ref b265), (.ref b265)])) _
      refine XS.iload X265.here hx rfl (hb hby at_106) rfl ?_
      exact k)
    obtain ⟨c272, Ar272, Aq272, As272, An272, Ah272, Ag272⟩ := id V269
    have hin272 : ¬ ((0 : Int32) < 0 ∨ c272.slots.size ≤ ((0 : Int32)).toNatClampNeg) := inb_of As272 ⟨by decide, by decide⟩
    obtain ⟨T272, h272, X272, e272, W272, st272⟩ := stI X265 hx hZ e265 Ar272 (j := (0 : Int32)) hin272 (g := (mkF m 108 #[.val (.int ln), .val (.int la), .val (.int lb), .val (.int lc), .val (.int ld), .val (.int (3 : Int32)), .val (.int r0), .val (.int r1), .val (.int r2), .val (.int rel), .unset, .unset, .unset, .unset, .unset, .unset, .unset, .unset, .unset] [(.int r0), (.int (0 : Int32)), (.ref b265), (.ref b265)])) rfl rfl (hb hby at_108)
    have V273 := Arv.set Ar272 Aq272 As272 An272 Ah272 Ag272 rfl W272 0 rfl (Nat.le_of_ble_eq_true rfl)
    have Z274 : n0 ≤ h272.size := Nat.le_trans Z267 (Nat.le_of_eq W272.size.symm)
    have N275 := Fr.snoc X272 N0 g266
    have hk276 : 0 ≤ h272.size := Nat.le_trans hk268 (Nat.le_of_eq W272.size.symm)
    have k277 : ∀ t, Steps p.tables e below (T272.setTop (mkF m 109 #[.val (.int ln), .val (.int la), .val (.int lb), .val (.int lc), .val (.int ld), .val (.int (3 : Int32)), .val (.int r0), .val (.int r1), .val (.int r2), .val (.int rel), .unset, .unset, .unset, .unset, .unset, .unset, .unset, .unset, .unset] [(.ref b265)])) t → Steps p.tables e below (s₁.setTop (entryFrame m #[(.int ln), (.int la), (.int lb), (.int lc), (.int ld)] maxLocals)) t := fun t k => k271 t (st272 t k)
    have k278 : ∀ t, Steps p.tables e below (T272.setTop (mkF m 113 #[.val (.int ln), .val (.int la), .val (.int lb), .val (.int lc), .val (.int ld), .val (.int (3 : Int32)), .val (.int r0), .val (.int r1), .val (.int r2), .val (.int rel), .unset, .unset, .unset, .unset, .unset, .unset, .unset, .unset, .unset] [(.int r1), (.int (1 : Int32)), (.ref b265), (.ref b265)])) t → Steps p.tables e below (s₁.setTop (entryFrame m #[(.int ln), (.int la), (.int lb), (.int lc), (.int ld)] maxLocals)) t := fun t k => k277 t (by
      show Steps p.tables e below (T272.setTop (mkF m 109 #[.val (.int ln), .val (.int la), .val (.int lb), .val (.int lc), .val (.int ld), .val (.int (3 : Int32)), .val (.int r0), .val (.int r1), .val (.int r2), .val (.int rel), .unset, .unset, .unset, .unset, .unset, .unset, .unset, .unset, .unset] [(.ref b265)])) _
      refine XS.dup X272.here hx rfl (hb hby at_109) rfl rfl ?_
      show Steps p.tables e below (T272.setTop (mkF m 110 #[.val (.int ln), .val (.int la), .val (.int lb), .val (.int lc), .val (.int ld), .val (.int (3 : Int32)), .val (.int r0), .val (.int r1), .val (.int r2), .val (.int rel), .unset, .unset, .unset, .unset, .unset, .unset, .unset, .unset, .unset] [(.ref b265), (.ref b265)])) _
      refine XS.iconst X272.here hx rfl (hb hby at_110) ?_
      show Steps p.tables e below (T272.setTop (mkF m 111 #[.val (.int ln), .val (.int la), .val (.int lb), .val (.int lc), .val (.int ld), .val (.int (3 : Int32)), .val (.int r0), .val (.int r1), .val (.int r2), .val (.int rel), .unset, .unset, .unset, .unset, .unset, .unset, .unset, .unset, .unset] [(.int (1 : Int32)), (.ref b265), (.ref b265)])) _
      refine XS.iload X272.here hx rfl (hb hby at_111) rfl ?_
      exact k)
    obtain ⟨c279, Ar279, Aq279, As279, An279, Ah279, Ag279⟩ := id V273
    have hin279 : ¬ ((1 : Int32) < 0 ∨ c279.slots.size ≤ ((1 : Int32)).toNatClampNeg) := inb_of As279 ⟨by decide, by decide⟩
    obtain ⟨T279, h279, X279, e279, W279, st279⟩ := stI X272 hx hZ e272 Ar279 (j := (1 : Int32)) hin279 (g := (mkF m 113 #[.val (.int ln), .val (.int la), .val (.int lb), .val (.int lc), .val (.int ld), .val (.int (3 : Int32)), .val (.int r0), .val (.int r1), .val (.int r2), .val (.int rel), .unset, .unset, .unset, .unset, .unset, .unset, .unset, .unset, .unset] [(.int r1), (.int (1 : Int32)), (.ref b265), (.ref b265)])) rfl rfl (hb hby at_113)
    have V280 := Arv.set Ar279 Aq279 As279 An279 Ah279 Ag279 rfl W279 1 rfl (Nat.le_of_ble_eq_true rfl)
    have Z281 : n0 ≤ h279.size := Nat.le_trans Z274 (Nat.le_of_eq W279.size.symm)
    have N282 := Fr.snoc X279 N275 g266
    have hk283 : 0 ≤ h279.size := Nat.le_trans hk276 (Nat.le_of_eq W279.size.symm)
    have k284 : ∀ t, Steps p.tables e below (T279.setTop (mkF m 114 #[.val (.int ln), .val (.int la), .val (.int lb), .val (.int lc), .val (.int ld), .val (.int (3 : Int32)), .val (.int r0), .val (.int r1), .val (.int r2), .val (.int rel), .unset, .unset, .unset, .unset, .unset, .unset, .unset, .unset, .unset] [(.ref b265)])) t → Steps p.tables e below (s₁.setTop (entryFrame m #[(.int ln), (.int la), (.int lb), (.int lc), (.int ld)] maxLocals)) t := fun t k => k278 t (st279 t k)
    have k285 : ∀ t, Steps p.tables e below (T279.setTop (mkF m 118 #[.val (.int ln), .val (.int la), .val (.int lb), .val (.int lc), .val (.int ld), .val (.int (3 : Int32)), .val (.int r0), .val (.int r1), .val (.int r2), .val (.int rel), .unset, .unset, .unset, .unset, .unset, .unset, .unset, .unset, .unset] [(.int r2), (.int (2 : Int32)), (.ref b265), (.ref b265)])) t → Steps p.tables e below (s₁.setTop (entryFrame m #[(.int ln), (.int la), (.int lb), (.int lc), (.int ld)] maxLocals)) t := fun t k => k284 t (by
      show Steps p.tables e below (T279.setTop (mkF m 114 #[.val (.int ln), .val (.int la), .val (.int lb), .val (.int lc), .val (.int ld), .val (.int (3 : Int32)), .val (.int r0), .val (.int r1), .val (.int r2), .val (.int rel), .unset, .unset, .unset, .unset, .unset, .unset, .unset, .unset, .unset] [(.ref b265)])) _
      refine XS.dup X279.here hx rfl (hb hby at_114) rfl rfl ?_
      show Steps p.tables e below (T279.setTop (mkF m 115 #[.val (.int ln), .val (.int la), .val (.int lb), .val (.int lc), .val (.int ld), .val (.int (3 : Int32)), .val (.int r0), .val (.int r1), .val (.int r2), .val (.int rel), .unset, .unset, .unset, .unset, .unset, .unset, .unset, .unset, .unset] [(.ref b265), (.ref b265)])) _
      refine XS.iconst X279.here hx rfl (hb hby at_115) ?_
      show Steps p.tables e below (T279.setTop (mkF m 116 #[.val (.int ln), .val (.int la), .val (.int lb), .val (.int lc), .val (.int ld), .val (.int (3 : Int32)), .val (.int r0), .val (.int r1), .val (.int r2), .val (.int rel), .unset, .unset, .unset, .unset, .unset, .unset, .unset, .unset, .unset] [(.int (2 : Int32)), (.ref b265), (.ref b265)])) _
      refine XS.iload X279.here hx rfl (hb hby at_116) rfl ?_
      exact k)
    obtain ⟨c286, Ar286, Aq286, As286, An286, Ah286, Ag286⟩ := id V280
    have hin286 : ¬ ((2 : Int32) < 0 ∨ c286.slots.size ≤ ((2 : Int32)).toNatClampNeg) := inb_of As286 ⟨by decide, by decide⟩
    obtain ⟨T286, h286, X286, e286, W286, st286⟩ := stI X279 hx hZ e279 Ar286 (j := (2 : Int32)) hin286 (g := (mkF m 118 #[.val (.int ln), .val (.int la), .val (.int lb), .val (.int lc), .val (.int ld), .val (.int (3 : Int32)), .val (.int r0), .val (.int r1), .val (.int r2), .val (.int rel), .unset, .unset, .unset, .unset, .unset, .unset, .unset, .unset, .unset] [(.int r2), (.int (2 : Int32)), (.ref b265), (.ref b265)])) rfl rfl (hb hby at_118)
    have V287 := Arv.set Ar286 Aq286 As286 An286 Ah286 Ag286 rfl W286 2 rfl (Nat.le_of_ble_eq_true rfl)
    have Z288 : n0 ≤ h286.size := Nat.le_trans Z281 (Nat.le_of_eq W286.size.symm)
    have N289 := Fr.snoc X286 N282 g266
    have hk290 : 0 ≤ h286.size := Nat.le_trans hk283 (Nat.le_of_eq W286.size.symm)
    have k291 : ∀ t, Steps p.tables e below (T286.setTop (mkF m 119 #[.val (.int ln), .val (.int la), .val (.int lb), .val (.int lc), .val (.int ld), .val (.int (3 : Int32)), .val (.int r0), .val (.int r1), .val (.int r2), .val (.int rel), .unset, .unset, .unset, .unset, .unset, .unset, .unset, .unset, .unset] [(.ref b265)])) t → Steps p.tables e below (s₁.setTop (entryFrame m #[(.int ln), (.int la), (.int lb), (.int lc), (.int ld)] maxLocals)) t := fun t k => k285 t (st286 t k)
    obtain ⟨i292, hi292⟩ : ∃ z : Int32, z = (r2 + (ld &&& (255 : Int32))) := ⟨_, rfl⟩
    have k293 : ∀ t, Steps p.tables e below (T286.setTop (mkF m 132 #[.val (.int ln), .val (.int la), .val (.int lb), .val (.int lc), .val (.int ld), .val (.int (3 : Int32)), .val (.int r0), .val (.int r1), .val (.int r2), .val (.int rel), .val (.ref b265), .val (.int i292), .unset, .unset, .unset, .unset, .unset, .unset, .unset] [])) t → Steps p.tables e below (s₁.setTop (entryFrame m #[(.int ln), (.int la), (.int lb), (.int lc), (.int ld)] maxLocals)) t := fun t k => k291 t (by
      show Steps p.tables e below (T286.setTop (mkF m 119 #[.val (.int ln), .val (.int la), .val (.int lb), .val (.int lc), .val (.int ld), .val (.int (3 : Int32)), .val (.int r0), .val (.int r1), .val (.int r2), .val (.int rel), .unset, .unset, .unset, .unset, .unset, .unset, .unset, .unset, .unset] [(.ref b265)])) _
      refine XS.astore X286.here hx rfl (hb hby at_119) rfl rfl (l' := #[.val (.int ln), .val (.int la), .val (.int lb), .val (.int lc), .val (.int ld), .val (.int (3 : Int32)), .val (.int r0), .val (.int r1), .val (.int r2), .val (.int rel), .val (.ref b265), .unset, .unset, .unset, .unset, .unset, .unset, .unset, .unset]) rfl ?_
      show Steps p.tables e below (T286.setTop (mkF m 121 #[.val (.int ln), .val (.int la), .val (.int lb), .val (.int lc), .val (.int ld), .val (.int (3 : Int32)), .val (.int r0), .val (.int r1), .val (.int r2), .val (.int rel), .val (.ref b265), .unset, .unset, .unset, .unset, .unset, .unset, .unset, .unset] [])) _
      refine XS.iload X286.here hx rfl (hb hby at_121) rfl ?_
      show Steps p.tables e below (T286.setTop (mkF m 123 #[.val (.int ln), .val (.int la), .val (.int lb), .val (.int lc), .val (.int ld), .val (.int (3 : Int32)), .val (.int r0), .val (.int r1), .val (.int r2), .val (.int rel), .val (.ref b265), .unset, .unset, .unset, .unset, .unset, .unset, .unset, .unset] [(.int r2)])) _
      refine XS.iload X286.here hx rfl (hb hby at_123) rfl ?_
      show Steps p.tables e below (T286.setTop (mkF m 125 #[.val (.int ln), .val (.int la), .val (.int lb), .val (.int lc), .val (.int ld), .val (.int (3 : Int32)), .val (.int r0), .val (.int r1), .val (.int r2), .val (.int rel), .val (.ref b265), .unset, .unset, .unset, .unset, .unset, .unset, .unset, .unset] [(.int ld), (.int r2)])) _
      refine XS.sipush X286.here hx rfl (hb hby at_125) ?_
      show Steps p.tables e below (T286.setTop (mkF m 128 #[.val (.int ln), .val (.int la), .val (.int lb), .val (.int lc), .val (.int ld), .val (.int (3 : Int32)), .val (.int r0), .val (.int r1), .val (.int r2), .val (.int rel), .val (.ref b265), .unset, .unset, .unset, .unset, .unset, .unset, .unset, .unset] [(.int (255 : Int32)), (.int ld), (.int r2)])) _
      refine XS.iand X286.here hx rfl (hb hby at_128) rfl ?_
      show Steps p.tables e below (T286.setTop (mkF m 129 #[.val (.int ln), .val (.int la), .val (.int lb), .val (.int lc), .val (.int ld), .val (.int (3 : Int32)), .val (.int r0), .val (.int r1), .val (.int r2), .val (.int rel), .val (.ref b265), .unset, .unset, .unset, .unset, .unset, .unset, .unset, .unset] [(.int (ld &&& (255 : Int32))), (.int r2)])) _
      refine XS.iadd X286.here hx rfl (hb hby at_129) rfl ?_
      show Steps p.tables e below (T286.setTop (mkF m 130 #[.val (.int ln), .val (.int la), .val (.int lb), .val (.int lc), .val (.int ld), .val (.int (3 : Int32)), .val (.int r0), .val (.int r1), .val (.int r2), .val (.int rel), .val (.ref b265), .unset, .unset, .unset, .unset, .unset, .unset, .unset, .unset] [(.int (r2 + (ld &&& (255 : Int32))))])) _
      refine castTop (g' := (mkF m 130 #[.val (.int ln), .val (.int la), .val (.int lb), .val (.int lc), .val (.int ld), .val (.int (3 : Int32)), .val (.int r0), .val (.int r1), .val (.int r2), .val (.int rel), .val (.ref b265), .unset, .unset, .unset, .unset, .unset, .unset, .unset, .unset] [(.int i292)])) (by rw [hi292]) ?_
      show Steps p.tables e below (T286.setTop (mkF m 130 #[.val (.int ln), .val (.int la), .val (.int lb), .val (.int lc), .val (.int ld), .val (.int (3 : Int32)), .val (.int r0), .val (.int r1), .val (.int r2), .val (.int rel), .val (.ref b265), .unset, .unset, .unset, .unset, .unset, .unset, .unset, .unset] [(.int i292)])) _
      refine XS.istore X286.here hx rfl (hb hby at_130) rfl (l' := #[.val (.int ln), .val (.int la), .val (.int lb), .val (.int lc), .val (.int ld), .val (.int (3 : Int32)), .val (.int r0), .val (.int r1), .val (.int r2), .val (.int rel), .val (.ref b265), .val (.int i292), .unset, .unset, .unset, .unset, .unset, .unset, .unset]) rfl ?_
      exact k)
    obtain ⟨T294, h294, X294, e294, E294, A294, D294, -, st294⟩ := newO X286 hx hZ hown (hw _ (List.mem_of_getElem? (i := 3) rfl)) (hw _ (List.mem_of_getElem? (i := 4) rfl)) (hw _ (List.mem_of_getElem? (i := 5) rfl)) e286 (g := (mkF m 132 #[.val (.int ln), .val (.int la), .val (.int lb), .val (.int lc), .val (.int ld), .val (.int (3 : Int32)), .val (.int r0), .val (.int r1), .val (.int r2), .val (.int rel), .val (.ref b265), .val (.int i292), .unset, .unset, .unset, .unset, .unset, .unset, .unset] [])) rfl (hb hby at_132) (by decide) (by decide)
    obtain ⟨b294, g294⟩ : ∃ z, z = h286.size := ⟨_, rfl⟩
    rw [← g294] at A294 D294 st294
    have n295 : b265 ≠ b294 := Nat.ne_of_lt (Nat.lt_of_lt_of_le V287.lt (Nat.le_of_eq g294.symm))
    have g296 : n0 ≤ b294 := Nat.le_trans Z288 (Nat.le_of_eq g294.symm)
    have F297 := V287.ext E294
    have Z298 : n0 ≤ h294.size := Nat.le_trans Z288 E294.1
    have hk299 : 0 ≤ h294.size := Nat.le_trans hk290 E294.1
    have F300 : Fld Z h294 b294 "com/example/round2/round2/eval/TopicResult" "topic" "Ljava/lang/String;" .null := D294 (Or.inr (hw _ (List.mem_of_getElem? (i := 21) rfl))) (ty := (.object "java/lang/String")) (by decide)
    have F301 : Fld Z h294 b294 "com/example/round2/round2/eval/TopicResult" "retrieved" "I" (.int (0 : Int32)) := D294 (Or.inr (hw _ (List.mem_of_getElem? (i := 23) rfl))) (ty := .int) (by decide)
    have F302 : Fld Z h294 b294 "com/example/round2/round2/eval/TopicResult" "relevant" "I" (.int (0 : Int32)) := D294 (Or.inr (hw _ (List.mem_of_getElem? (i := 25) rfl))) (ty := .int) (by decide)
    have F303 : Fld Z h294 b294 "com/example/round2/round2/eval/TopicResult" "relevantRanks" "[I" .null := D294 (Or.inr (hw _ (List.mem_of_getElem? (i := 27) rfl))) (ty := (.array .int)) (by decide)
    have k304 : ∀ t, Steps p.tables e below (T294.setTop (mkF m 135 #[.val (.int ln), .val (.int la), .val (.int lb), .val (.int lc), .val (.int ld), .val (.int (3 : Int32)), .val (.int r0), .val (.int r1), .val (.int r2), .val (.int rel), .val (.ref b265), .val (.int i292), .unset, .unset, .unset, .unset, .unset, .unset, .unset] [(.ref b294)])) t → Steps p.tables e below (s₁.setTop (entryFrame m #[(.int ln), (.int la), (.int lb), (.int lc), (.int ld)] maxLocals)) t := fun t k => k293 t (st294 t k)
    have k305 : ∀ t, Steps p.tables e below (T294.setTop (mkF m 136 #[.val (.int ln), .val (.int la), .val (.int lb), .val (.int lc), .val (.int ld), .val (.int (3 : Int32)), .val (.int r0), .val (.int r1), .val (.int r2), .val (.int rel), .val (.ref b265), .val (.int i292), .unset, .unset, .unset, .unset, .unset, .unset, .unset] [(.ref b294), (.ref b294)])) t → Steps p.tables e below (s₁.setTop (entryFrame m #[(.int ln), (.int la), (.int lb), (.int lc), (.int ld)] maxLocals)) t := fun t k => k304 t (by
      show Steps p.tables e below (T294.setTop (mkF m 135 #[.val (.int ln), .val (.int la), .val (.int lb), .val (.int lc), .val (.int ld), .val (.int (3 : Int32)), .val (.int r0), .val (.int r1), .val (.int r2), .val (.int rel), .val (.ref b265), .val (.int i292), .unset, .unset, .unset, .unset, .unset, .unset, .unset] [(.ref b294)])) _
      refine XS.dup X294.here hx rfl (hb hby at_135) rfl rfl ?_
      exact k)
    obtain ⟨b306, T306, h306, kk306, X306, e306, E306, hS306, hk306, hZ306, hown306, st306⟩ := ldcS (s := s) (vm0 := s.vm) X294 hx hZ hown (hw _ (List.mem_of_getElem? (i := 6) rfl)) (own_strAtoms hw) e294 hS0 hk299 (g := (mkF m 136 #[.val (.int ln), .val (.int la), .val (.int lb), .val (.int lc), .val (.int ld), .val (.int (3 : Int32)), .val (.int r0), .val (.int r1), .val (.int r2), .val (.int rel), .val (.ref b265), .val (.int i292), .unset, .unset, .unset, .unset, .unset, .unset, .unset] [(.ref b294), (.ref b294)])) rfl (hb hby at_136) (n := 4) (by decide) (by decide) (by decide) (by decide)
    have F307 := F297.ext E306
    have F308 := A294.ext E306
    have F309 := F300.ext E306
    have F310 := F301.ext E306
    have F311 := F302.ext E306
    have F312 := F303.ext E306
    have Z313 : n0 ≤ h306.size := Nat.le_trans Z298 E306.1
    have k314 : ∀ t, Steps p.tables e below (T306.setTop (mkF m 138 #[.val (.int ln), .val (.int la), .val (.int lb), .val (.int lc), .val (.int ld), .val (.int (3 : Int32)), .val (.int r0), .val (.int r1), .val (.int r2), .val (.int rel), .val (.ref b265), .val (.int i292), .unset, .unset, .unset, .unset, .unset, .unset, .unset] [(.ref b306), (.ref b294), (.ref b294)])) t → Steps p.tables e below (s₁.setTop (entryFrame m #[(.int ln), (.int la), (.int lb), (.int lc), (.int ld)] maxLocals)) t := fun t k => k305 t (st306 t k)
    have k315 : ∀ t, Steps p.tables e below (T306.setTop (mkF m 144 #[.val (.int ln), .val (.int la), .val (.int lb), .val (.int lc), .val (.int ld), .val (.int (3 : Int32)), .val (.int r0), .val (.int r1), .val (.int r2), .val (.int rel), .val (.ref b265), .val (.int i292), .unset, .unset, .unset, .unset, .unset, .unset, .unset] [(.ref b265), (.int rel), (.int i292), (.ref b306), (.ref b294), (.ref b294)])) t → Steps p.tables e below (s₁.setTop (entryFrame m #[(.int ln), (.int la), (.int lb), (.int lc), (.int ld)] maxLocals)) t := fun t k => k314 t (by
      show Steps p.tables e below (T306.setTop (mkF m 138 #[.val (.int ln), .val (.int la), .val (.int lb), .val (.int lc), .val (.int ld), .val (.int (3 : Int32)), .val (.int r0), .val (.int r1), .val (.int r2), .val (.int rel), .val (.ref b265), .val (.int i292), .unset, .unset, .unset, .unset, .unset, .unset, .unset] [(.ref b306), (.ref b294), (.ref b294)])) _
      refine XS.iload X306.here hx rfl (hb hby at_138) rfl ?_
      show Steps p.tables e below (T306.setTop (mkF m 140 #[.val (.int ln), .val (.int la), .val (.int lb), .val (.int lc), .val (.int ld), .val (.int (3 : Int32)), .val (.int r0), .val (.int r1), .val (.int r2), .val (.int rel), .val (.ref b265), .val (.int i292), .unset, .unset, .unset, .unset, .unset, .unset, .unset] [(.int i292), (.ref b306), (.ref b294), (.ref b294)])) _
      refine XS.iload X306.here hx rfl (hb hby at_140) rfl ?_
      show Steps p.tables e below (T306.setTop (mkF m 142 #[.val (.int ln), .val (.int la), .val (.int lb), .val (.int lc), .val (.int ld), .val (.int (3 : Int32)), .val (.int r0), .val (.int r1), .val (.int r2), .val (.int rel), .val (.ref b265), .val (.int i292), .unset, .unset, .unset, .unset, .unset, .unset, .unset] [(.int rel), (.int i292), (.ref b306), (.ref b294), (.ref b294)])) _
      refine XS.aload X306.here hx rfl (hb hby at_142) rfl rfl ?_
      exact k)
    obtain ⟨_, _, ⟨T316, L316, k316, n316⟩, -, X316, ⟨Lc316, hQ316, l316, y316, z316⟩, st316⟩ := X306.specialBack hx (y := (⟨"com/example/round2/round2/eval/TopicResult", "<init>", "(Ljava/lang/String;II[I)V"⟩ : MethodName)) rfl hown306 (mvT hZ306 (hw _ (List.mem_of_getElem? (i := 14) rfl))) (mvT hZ306 (hw _ (List.mem_of_getElem? (i := 15) rfl))) (mvT hZ306 (hw _ (List.mem_of_getElem? (i := 16) rfl))) (by decide) (backOf (W := 1) (rm1 l Z a0 hw [] b294 b306 i292 rel b265 h306 n0 Z313 F309 F310 F311 F312 F308 g296) hZ306 (hw _ (List.mem_of_getElem? (i := 16) rfl)) (hw _ (List.mem_of_getElem? (i := 5) rfl)) (by decide) (by decide)) (g := (mkF m 144 #[.val (.int ln), .val (.int la), .val (.int lb), .val (.int lc), .val (.int ld), .val (.int (3 : Int32)), .val (.int r0), .val (.int r1), .val (.int r2), .val (.int rel), .val (.ref b265), .val (.int i292), .unset, .unset, .unset, .unset, .unset, .unset, .unset] [(.ref b265), (.int rel), (.int i292), (.ref b306), (.ref b294), (.ref b294)])) rfl (by rw [hml]; rfl) (Steps.refl _) (a := b294) (argsL := [(.ref b306), (.int i292), (.int rel), (.ref b265)]) (rest := [(.ref b294)]) (lenOf pd__28Ljava_2flang_2fString_3bII_5bI_29V rfl) rfl (by show 2 * 0 + _ ≤ _; exact Nat.le_of_eq rfl) (hb hby at_144) (fun _ _ => ⟨rfl, e306, (by decide : 4 + 0 ≤ _), (by decide : 15 + 0 ≤ _)⟩)
    dsimp only [Pt.U, Pt.locs, Pt.cells, Pt.slots] at X316 l316 y316 z316 st316 hQ316
    subst l316 y316 z316
    obtain ⟨h316, e316⟩ : ∃ h', T316.heap = h' := ⟨_, rfl⟩
    rw [e316] at hQ316
    obtain ⟨rfl, N316q, K316, G316a, G316b, G316c⟩ := hQ316
    have N317 := Fr.app N289 N316q
    have k318 : ∀ t, Steps p.tables e below (T316.setTop (mkF m 147 #[.val (.int ln), .val (.int la), .val (.int lb), .val (.int lc), .val (.int ld), .val (.int (3 : Int32)), .val (.int r0), .val (.int r1), .val (.int r2), .val (.int rel), .val (.ref b265), .val (.int i292), .unset, .unset, .unset, .unset, .unset, .unset, .unset] [(.ref b294)])) t → Steps p.tables e below (s₁.setTop (entryFrame m #[(.int ln), (.int la), (.int lb), (.int lc), (.int ld)] maxLocals)) t := fun t k => k315 t (st316.trans k)
    have F319 := F307.keep K316 (ninS n295 nin0)
    have F320 := F308.keep K316
    have Z321 : n0 ≤ h316.size := Nat.le_trans Z313 K316.1
    have hk322 : kk306 ≤ h316.size := Nat.le_trans hk306 K316.1
    have U0 : Jvm.FP.Core.dIsNaN (FP.dadd (0 : UInt64) (FP.ddiv (FP.i2d (1 : Int32)) (FP.i2d r0))) = false := Jvm.FP.Core.dadd_out (by decide +kernel) (fin_div _ Z0')
    have U1 : Jvm.FP.Core.dIsNaN (FP.dadd (FP.dadd (0 : UInt64) (FP.ddiv (FP.i2d (1 : Int32)) (FP.i2d r0))) (FP.ddiv (FP.i2d (2 : Int32)) (FP.i2d r1))) = false := Jvm.FP.Core.dadd_out U0 (fin_div _ Z1')
    have U2 : Jvm.FP.Core.dIsNaN (FP.dadd (FP.dadd (FP.dadd (0 : UInt64) (FP.ddiv (FP.i2d (1 : Int32)) (FP.i2d r0))) (FP.ddiv (FP.i2d (2 : Int32)) (FP.i2d r1))) (FP.ddiv (FP.i2d (3 : Int32)) (FP.i2d r2))) = false := Jvm.FP.Core.dadd_out U1 (fin_div _ Z2')
    have k323 : ∀ t, Steps p.tables e below (T316.setTop (mkF m 151 #[.val (.int ln), .val (.int la), .val (.int lb), .val (.int lc), .val (.int ld), .val (.int (3 : Int32)), .val (.int r0), .val (.int r1), .val (.int r2), .val (.int rel), .val (.ref b265), .val (.int i292), .val (.ref b294), .unset, .unset, .unset, .unset, .unset, .unset] [(.ref b294)])) t → Steps p.tables e below (s₁.setTop (entryFrame m #[(.int ln), (.int la), (.int lb), (.int lc), (.int ld)] maxLocals)) t := fun t k => k318 t (by
      show Steps p.tables e below (T316.setTop (mkF m 147 #[.val (.int ln), .val (.int la), .val (.int lb), .val (.int lc), .val (.int ld), .val (.int (3 : Int32)), .val (.int r0), .val (.int r1), .val (.int r2), .val (.int rel), .val (.ref b265), .val (.int i292), .unset, .unset, .unset, .unset, .unset, .unset, .unset] [(.ref b294)])) _
      refine XS.astore X316.here hx rfl (hb hby at_147) rfl rfl (l' := #[.val (.int ln), .val (.int la), .val (.int lb), .val (.int lc), .val (.int ld), .val (.int (3 : Int32)), .val (.int r0), .val (.int r1), .val (.int r2), .val (.int rel), .val (.ref b265), .val (.int i292), .val (.ref b294), .unset, .unset, .unset, .unset, .unset, .unset]) rfl ?_
      show Steps p.tables e below (T316.setTop (mkF m 149 #[.val (.int ln), .val (.int la), .val (.int lb), .val (.int lc), .val (.int ld), .val (.int (3 : Int32)), .val (.int r0), .val (.int r1), .val (.int r2), .val (.int rel), .val (.ref b265), .val (.int i292), .val (.ref b294), .unset, .unset, .unset, .unset, .unset, .unset] [])) _
      refine XS.aload X316.here hx rfl (hb hby at_149) rfl rfl ?_
      exact k)
    by_cases cz : rel = (0 : Int32)
    · obtain ⟨cq324, kq324, q324a, q324b, q324c⟩ := isOf hZ306 e316 G316a
      obtain ⟨_, _, ⟨T324, L324, k324, n324⟩, -, X324, ⟨Lc324, hQ324, l324, y324, z324⟩, st324⟩ := X316.virtualBack hx (y := (⟨"com/example/round2/round2/eval/TopicResult", "averagePrecision", "()D"⟩ : MethodName)) (z := (⟨"com/example/round2/round2/eval/TopicResult", "averagePrecision", "()D"⟩ : MethodName)) hown306 (mvT hZ306 (hw _ (List.mem_of_getElem? (i := 28) rfl))) (mvT hZ306 (hw _ (List.mem_of_getElem? (i := 29) rfl))) (notFace_of_selects (args := #[]) (mvT hZ306 (hw _ (List.mem_of_getElem? (i := 31) rfl)))) (mvT hZ306 (hw _ (List.mem_of_getElem? (i := 31) rfl))) (mvT hZ306 (hw _ (List.mem_of_getElem? (i := 30) rfl))) (by decide) (backOf (W := 0) (avp3_1 l Z a0 hw [] b294 b265 k265 rel r0 r1 r2 h316 n0 Z321 G316c G316b F319 cz (nn_of (no_fin (fin_div _ Z0'))) (nn_of U0) (nn_of (no_fin (fin_div _ Z1'))) (nn_of U1) (nn_of (no_fin (fin_div _ Z2'))) (nn_of U2)) hZ306 (hw _ (List.mem_of_getElem? (i := 32) rfl)) (hw _ (List.mem_of_getElem? (i := 5) rfl)) (by decide) (by decide)) q324a q324c (g := (mkF m 151 #[.val (.int ln), .val (.int la), .val (.int lb), .val (.int lc), .val (.int ld), .val (.int (3 : Int32)), .val (.int r0), .val (.int r1), .val (.int r2), .val (.int rel), .val (.ref b265), .val (.int i292), .val (.ref b294), .unset, .unset, .unset, .unset, .unset, .unset] [(.ref b294)])) rfl (by rw [hml]; rfl) (Steps.refl _) (argsL := []) (rest := []) (lenOf pd__28_29D rfl) rfl (by show 2 * 0 + _ ≤ _; exact Nat.le_of_eq rfl) (hb hby at_151) (fun _ _ => ⟨rfl, e316, (by decide : 4 + 0 ≤ _), (by decide : 15 + 0 ≤ _)⟩)
      dsimp only [Pt.U, Pt.locs, Pt.cells, Pt.slots] at X324 l324 y324 z324 st324 hQ324
      subst l324 y324 z324
      obtain ⟨rfl, N324q, e324⟩ := hQ324
      have N325 := Fr.app N317 N324q
      have k326 : ∀ t, Steps p.tables e below (T324.setTop (mkF m 154 #[.val (.int ln), .val (.int la), .val (.int lb), .val (.int lc), .val (.int ld), .val (.int (3 : Int32)), .val (.int r0), .val (.int r1), .val (.int r2), .val (.int rel), .val (.ref b265), .val (.int i292), .val (.ref b294), .unset, .unset, .unset, .unset, .unset, .unset] [(.double (0 : UInt64))])) t → Steps p.tables e below (s₁.setTop (entryFrame m #[(.int ln), (.int la), (.int lb), (.int lc), (.int ld)] maxLocals)) t := fun t k => k323 t (st324.trans k)
      obtain ⟨x0, hx0⟩ : ∃ z : UInt64, FP.i2d r0 = z := ⟨_, rfl⟩
      obtain ⟨q0, hq0⟩ : ∃ z : UInt64, FP.ddiv (4607182418800017408 : UInt64) x0 = z := ⟨_, rfl⟩
      have eq0 : q0 = (FP.ddiv (FP.i2d (1 : Int32)) (FP.i2d r0)) := by rw [← hq0, ← hx0, ← own_c0]
      obtain ⟨t0, ht0⟩ : ∃ z : UInt64, FP.dadd (0 : UInt64) q0 = z := ⟨_, rfl⟩
      have et0 : t0 = (FP.dadd (0 : UInt64) (FP.ddiv (FP.i2d (1 : Int32)) (FP.i2d r0))) := by rw [← ht0, eq0]
      obtain ⟨x1, hx1⟩ : ∃ z : UInt64, FP.i2d r1 = z := ⟨_, rfl⟩
      obtain ⟨q1, hq1⟩ : ∃ z : UInt64, FP.ddiv (4611686018427387904 : UInt64) x1 = z := ⟨_, rfl⟩
      have eq1 : q1 = (FP.ddiv (FP.i2d (2 : Int32)) (FP.i2d r1)) := by rw [← hq1, ← hx1, ← own_c1]
      obtain ⟨t1, ht1⟩ : ∃ z : UInt64, FP.dadd t0 q1 = z := ⟨_, rfl⟩
      have et1 : t1 = (FP.dadd (FP.dadd (0 : UInt64) (FP.ddiv (FP.i2d (1 : Int32)) (FP.i2d r0))) (FP.ddiv (FP.i2d (2 : Int32)) (FP.i2d r1))) := by rw [← ht1, eq1, et0]
      obtain ⟨x2, hx2⟩ : ∃ z : UInt64, FP.i2d r2 = z := ⟨_, rfl⟩
      obtain ⟨q2, hq2⟩ : ∃ z : UInt64, FP.ddiv (4613937818241073152 : UInt64) x2 = z := ⟨_, rfl⟩
      have eq2 : q2 = (FP.ddiv (FP.i2d (3 : Int32)) (FP.i2d r2)) := by rw [← hq2, ← hx2, ← own_c2]
      obtain ⟨t2, ht2⟩ : ∃ z : UInt64, FP.dadd t1 q2 = z := ⟨_, rfl⟩
      have et2 : t2 = (FP.dadd (FP.dadd (FP.dadd (0 : UInt64) (FP.ddiv (FP.i2d (1 : Int32)) (FP.i2d r0))) (FP.ddiv (FP.i2d (2 : Int32)) (FP.i2d r1))) (FP.ddiv (FP.i2d (3 : Int32)) (FP.i2d r2))) := by rw [← ht2, eq2, et1]
      have k327 : ∀ t, Steps p.tables e below (T324.setTop (mkF m 243 #[.val (.int ln), .val (.int la), .val (.int lb), .val (.int lc), .val (.int ld), .val (.int (3 : Int32)), .val (.int r0), .val (.int r1), .val (.int r2), .val (.int rel), .val (.ref b265), .val (.int i292), .val (.ref b294), .val (.double (0 : UInt64)), .second, .val (.double t2), .second, .val (.double (0 : UInt64)), .second] [(.int (1 : Int32))])) t → Steps p.tables e below (s₁.setTop (entryFrame m #[(.int ln), (.int la), (.int lb), (.int lc), (.int ld)] maxLocals)) t := fun t k => k326 t (by
        show Steps p.tables e below (T324.setTop (mkF m 154 #[.val (.int ln), .val (.int la), .val (.int lb), .val (.int lc), .val (.int ld), .val (.int (3 : Int32)), .val (.int r0), .val (.int r1), .val (.int r2), .val (.int rel), .val (.ref b265), .val (.int i292), .val (.ref b294), .unset, .unset, .unset, .unset, .unset, .unset] [(.double (0 : UInt64))])) _
        refine XS.dstore X324.here hx rfl (hb hby at_154) rfl (l' := #[.val (.int ln), .val (.int la), .val (.int lb), .val (.int lc), .val (.int ld), .val (.int (3 : Int32)), .val (.int r0), .val (.int r1), .val (.int r2), .val (.int rel), .val (.ref b265), .val (.int i292), .val (.ref b294), .val (.double (0 : UInt64)), .second, .unset, .unset, .unset, .unset]) rfl ?_
        show Steps p.tables e below (T324.setTop (mkF m 156 #[.val (.int ln), .val (.int la), .val (.int lb), .val (.int lc), .val (.int ld), .val (.int (3 : Int32)), .val (.int r0), .val (.int r1), .val (.int r2), .val (.int rel), .val (.ref b265), .val (.int i292), .val (.ref b294), .val (.double (0 : UInt64)), .second, .unset, .unset, .unset, .unset] [])) _
        refine XS.dconst0 X324.here hx rfl (hb hby at_156) (v := (0 : UInt64)) rfl ?_
        show Steps p.tables e below (T324.setTop (mkF m 157 #[.val (.int ln), .val (.int la), .val (.int lb), .val (.int lc), .val (.int ld), .val (.int (3 : Int32)), .val (.int r0), .val (.int r1), .val (.int r2), .val (.int rel), .val (.ref b265), .val (.int i292), .val (.ref b294), .val (.double (0 : UInt64)), .second, .unset, .unset, .unset, .unset] [(.double (0 : UInt64))])) _
        refine XS.dstore X324.here hx rfl (hb hby at_157) rfl (l' := #[.val (.int ln), .val (.int la), .val (.int lb), .val (.int lc), .val (.int ld), .val (.int (3 : Int32)), .val (.int r0), .val (.int r1), .val (.int r2), .val (.int rel), .val (.ref b265), .val (.int i292), .val (.ref b294), .val (.double (0 : UInt64)), .second, .val (.double (0 : UInt64)), .second, .unset, .unset]) rfl ?_
        show Steps p.tables e below (T324.setTop (mkF m 159 #[.val (.int ln), .val (.int la), .val (.int lb), .val (.int lc), .val (.int ld), .val (.int (3 : Int32)), .val (.int r0), .val (.int r1), .val (.int r2), .val (.int rel), .val (.ref b265), .val (.int i292), .val (.ref b294), .val (.double (0 : UInt64)), .second, .val (.double (0 : UInt64)), .second, .unset, .unset] [])) _
        refine XS.iload X324.here hx rfl (hb hby at_159) rfl ?_
        show Steps p.tables e below (T324.setTop (mkF m 161 #[.val (.int ln), .val (.int la), .val (.int lb), .val (.int lc), .val (.int ld), .val (.int (3 : Int32)), .val (.int r0), .val (.int r1), .val (.int r2), .val (.int rel), .val (.ref b265), .val (.int i292), .val (.ref b294), .val (.double (0 : UInt64)), .second, .val (.double (0 : UInt64)), .second, .unset, .unset] [(.int (3 : Int32))])) _
        refine XS.iconst X324.here hx rfl (hb hby at_161) ?_
        show Steps p.tables e below (T324.setTop (mkF m 162 #[.val (.int ln), .val (.int la), .val (.int lb), .val (.int lc), .val (.int ld), .val (.int (3 : Int32)), .val (.int r0), .val (.int r1), .val (.int r2), .val (.int rel), .val (.ref b265), .val (.int i292), .val (.ref b294), .val (.double (0 : UInt64)), .second, .val (.double (0 : UInt64)), .second, .unset, .unset] [(.int (1 : Int32)), (.int (3 : Int32))])) _
        refine XS.icmpNo X324.here hx rfl (hb hby at_162) rfl (flt (by decide)).1 ?_
        show Steps p.tables e below (T324.setTop (mkF m 165 #[.val (.int ln), .val (.int la), .val (.int lb), .val (.int lc), .val (.int ld), .val (.int (3 : Int32)), .val (.int r0), .val (.int r1), .val (.int r2), .val (.int rel), .val (.ref b265), .val (.int i292), .val (.ref b294), .val (.double (0 : UInt64)), .second, .val (.double (0 : UInt64)), .second, .unset, .unset] [])) _
        refine XS.dload X324.here hx rfl (hb hby at_165) rfl ?_
        show Steps p.tables e below (T324.setTop (mkF m 167 #[.val (.int ln), .val (.int la), .val (.int lb), .val (.int lc), .val (.int ld), .val (.int (3 : Int32)), .val (.int r0), .val (.int r1), .val (.int r2), .val (.int rel), .val (.ref b265), .val (.int i292), .val (.ref b294), .val (.double (0 : UInt64)), .second, .val (.double (0 : UInt64)), .second, .unset, .unset] [(.double (0 : UInt64))])) _
        refine XS.dconst1 X324.here hx rfl (hb hby at_167) (v := (4607182418800017408 : UInt64)) rfl ?_
        show Steps p.tables e below (T324.setTop (mkF m 168 #[.val (.int ln), .val (.int la), .val (.int lb), .val (.int lc), .val (.int ld), .val (.int (3 : Int32)), .val (.int r0), .val (.int r1), .val (.int r2), .val (.int rel), .val (.ref b265), .val (.int i292), .val (.ref b294), .val (.double (0 : UInt64)), .second, .val (.double (0 : UInt64)), .second, .unset, .unset] [(.double (4607182418800017408 : UInt64)), (.double (0 : UInt64))])) _
        refine XS.iload X324.here hx rfl (hb hby at_168) rfl ?_
        show Steps p.tables e below (T324.setTop (mkF m 170 #[.val (.int ln), .val (.int la), .val (.int lb), .val (.int lc), .val (.int ld), .val (.int (3 : Int32)), .val (.int r0), .val (.int r1), .val (.int r2), .val (.int rel), .val (.ref b265), .val (.int i292), .val (.ref b294), .val (.double (0 : UInt64)), .second, .val (.double (0 : UInt64)), .second, .unset, .unset] [(.int r0), (.double (4607182418800017408 : UInt64)), (.double (0 : UInt64))])) _
        refine XS.i2dS X324.here hx rfl (hb hby at_170) rfl hx0 ?_
        show Steps p.tables e below (T324.setTop (mkF m 171 #[.val (.int ln), .val (.int la), .val (.int lb), .val (.int lc), .val (.int ld), .val (.int (3 : Int32)), .val (.int r0), .val (.int r1), .val (.int r2), .val (.int rel), .val (.ref b265), .val (.int i292), .val (.ref b294), .val (.double (0 : UInt64)), .second, .val (.double (0 : UInt64)), .second, .unset, .unset] [(.double x0), (.double (4607182418800017408 : UInt64)), (.double (0 : UInt64))])) _
        refine XS.ddivS X324.here hx rfl (hb hby at_171) rfl ((by rw [← hx0, ← own_c0]; exact nn_of (no_fin (fin_div _ Z0')))) hq0 ?_
        show Steps p.tables e below (T324.setTop (mkF m 172 #[.val (.int ln), .val (.int la), .val (.int lb), .val (.int lc), .val (.int ld), .val (.int (3 : Int32)), .val (.int r0), .val (.int r1), .val (.int r2), .val (.int rel), .val (.ref b265), .val (.int i292), .val (.ref b294), .val (.double (0 : UInt64)), .second, .val (.double (0 : UInt64)), .second, .unset, .unset] [(.double q0), (.double (0 : UInt64))])) _
        refine XS.daddS X324.here hx rfl (hb hby at_172) rfl ((by rw [eq0]; exact nn_of U0)) ht0 ?_
        show Steps p.tables e below (T324.setTop (mkF m 173 #[.val (.int ln), .val (.int la), .val (.int lb), .val (.int lc), .val (.int ld), .val (.int (3 : Int32)), .val (.int r0), .val (.int r1), .val (.int r2), .val (.int rel), .val (.ref b265), .val (.int i292), .val (.ref b294), .val (.double (0 : UInt64)), .second, .val (.double (0 : UInt64)), .second, .unset, .unset] [(.double t0)])) _
        refine XS.dstore X324.here hx rfl (hb hby at_173) rfl (l' := #[.val (.int ln), .val (.int la), .val (.int lb), .val (.int lc), .val (.int ld), .val (.int (3 : Int32)), .val (.int r0), .val (.int r1), .val (.int r2), .val (.int rel), .val (.ref b265), .val (.int i292), .val (.ref b294), .val (.double (0 : UInt64)), .second, .val (.double t0), .second, .unset, .unset]) rfl ?_
        show Steps p.tables e below (T324.setTop (mkF m 175 #[.val (.int ln), .val (.int la), .val (.int lb), .val (.int lc), .val (.int ld), .val (.int (3 : Int32)), .val (.int r0), .val (.int r1), .val (.int r2), .val (.int rel), .val (.ref b265), .val (.int i292), .val (.ref b294), .val (.double (0 : UInt64)), .second, .val (.double t0), .second, .unset, .unset] [])) _
        refine XS.iload X324.here hx rfl (hb hby at_175) rfl ?_
        show Steps p.tables e below (T324.setTop (mkF m 177 #[.val (.int ln), .val (.int la), .val (.int lb), .val (.int lc), .val (.int ld), .val (.int (3 : Int32)), .val (.int r0), .val (.int r1), .val (.int r2), .val (.int rel), .val (.ref b265), .val (.int i292), .val (.ref b294), .val (.double (0 : UInt64)), .second, .val (.double t0), .second, .unset, .unset] [(.int (3 : Int32))])) _
        refine XS.iconst X324.here hx rfl (hb hby at_177) ?_
        show Steps p.tables e below (T324.setTop (mkF m 178 #[.val (.int ln), .val (.int la), .val (.int lb), .val (.int lc), .val (.int ld), .val (.int (3 : Int32)), .val (.int r0), .val (.int r1), .val (.int r2), .val (.int rel), .val (.ref b265), .val (.int i292), .val (.ref b294), .val (.double (0 : UInt64)), .second, .val (.double t0), .second, .unset, .unset] [(.int (2 : Int32)), (.int (3 : Int32))])) _
        refine XS.icmpNo X324.here hx rfl (hb hby at_178) rfl (flt (by decide)).1 ?_
        show Steps p.tables e below (T324.setTop (mkF m 181 #[.val (.int ln), .val (.int la), .val (.int lb), .val (.int lc), .val (.int ld), .val (.int (3 : Int32)), .val (.int r0), .val (.int r1), .val (.int r2), .val (.int rel), .val (.ref b265), .val (.int i292), .val (.ref b294), .val (.double (0 : UInt64)), .second, .val (.double t0), .second, .unset, .unset] [])) _
        refine XS.dload X324.here hx rfl (hb hby at_181) rfl ?_
        show Steps p.tables e below (T324.setTop (mkF m 183 #[.val (.int ln), .val (.int la), .val (.int lb), .val (.int lc), .val (.int ld), .val (.int (3 : Int32)), .val (.int r0), .val (.int r1), .val (.int r2), .val (.int rel), .val (.ref b265), .val (.int i292), .val (.ref b294), .val (.double (0 : UInt64)), .second, .val (.double t0), .second, .unset, .unset] [(.double t0)])) _
        refine X324.ldc2DoubleC hx hown306 (mvT hZ306 (hw _ (List.mem_of_getElem? (i := 33) rfl))) (g := (mkF m 183 #[.val (.int ln), .val (.int la), .val (.int lb), .val (.int lc), .val (.int ld), .val (.int (3 : Int32)), .val (.int r0), .val (.int r1), .val (.int r2), .val (.int rel), .val (.ref b265), .val (.int i292), .val (.ref b294), .val (.double (0 : UInt64)), .second, .val (.double t0), .second, .unset, .unset] [(.double t0)])) rfl (hb hby at_183) _ ?_
        show Steps p.tables e below (T324.setTop (mkF m 186 #[.val (.int ln), .val (.int la), .val (.int lb), .val (.int lc), .val (.int ld), .val (.int (3 : Int32)), .val (.int r0), .val (.int r1), .val (.int r2), .val (.int rel), .val (.ref b265), .val (.int i292), .val (.ref b294), .val (.double (0 : UInt64)), .second, .val (.double t0), .second, .unset, .unset] [(.double (4611686018427387904 : UInt64)), (.double t0)])) _
        refine XS.iload X324.here hx rfl (hb hby at_186) rfl ?_
        show Steps p.tables e below (T324.setTop (mkF m 188 #[.val (.int ln), .val (.int la), .val (.int lb), .val (.int lc), .val (.int ld), .val (.int (3 : Int32)), .val (.int r0), .val (.int r1), .val (.int r2), .val (.int rel), .val (.ref b265), .val (.int i292), .val (.ref b294), .val (.double (0 : UInt64)), .second, .val (.double t0), .second, .unset, .unset] [(.int r1), (.double (4611686018427387904 : UInt64)), (.double t0)])) _
        refine XS.i2dS X324.here hx rfl (hb hby at_188) rfl hx1 ?_
        show Steps p.tables e below (T324.setTop (mkF m 189 #[.val (.int ln), .val (.int la), .val (.int lb), .val (.int lc), .val (.int ld), .val (.int (3 : Int32)), .val (.int r0), .val (.int r1), .val (.int r2), .val (.int rel), .val (.ref b265), .val (.int i292), .val (.ref b294), .val (.double (0 : UInt64)), .second, .val (.double t0), .second, .unset, .unset] [(.double x1), (.double (4611686018427387904 : UInt64)), (.double t0)])) _
        refine XS.ddivS X324.here hx rfl (hb hby at_189) rfl ((by rw [← hx1, ← own_c1]; exact nn_of (no_fin (fin_div _ Z1')))) hq1 ?_
        show Steps p.tables e below (T324.setTop (mkF m 190 #[.val (.int ln), .val (.int la), .val (.int lb), .val (.int lc), .val (.int ld), .val (.int (3 : Int32)), .val (.int r0), .val (.int r1), .val (.int r2), .val (.int rel), .val (.ref b265), .val (.int i292), .val (.ref b294), .val (.double (0 : UInt64)), .second, .val (.double t0), .second, .unset, .unset] [(.double q1), (.double t0)])) _
        refine XS.daddS X324.here hx rfl (hb hby at_190) rfl ((by rw [eq1, et0]; exact nn_of U1)) ht1 ?_
        show Steps p.tables e below (T324.setTop (mkF m 191 #[.val (.int ln), .val (.int la), .val (.int lb), .val (.int lc), .val (.int ld), .val (.int (3 : Int32)), .val (.int r0), .val (.int r1), .val (.int r2), .val (.int rel), .val (.ref b265), .val (.int i292), .val (.ref b294), .val (.double (0 : UInt64)), .second, .val (.double t0), .second, .unset, .unset] [(.double t1)])) _
        refine XS.dstore X324.here hx rfl (hb hby at_191) rfl (l' := #[.val (.int ln), .val (.int la), .val (.int lb), .val (.int lc), .val (.int ld), .val (.int (3 : Int32)), .val (.int r0), .val (.int r1), .val (.int r2), .val (.int rel), .val (.ref b265), .val (.int i292), .val (.ref b294), .val (.double (0 : UInt64)), .second, .val (.double t1), .second, .unset, .unset]) rfl ?_
        show Steps p.tables e below (T324.setTop (mkF m 193 #[.val (.int ln), .val (.int la), .val (.int lb), .val (.int lc), .val (.int ld), .val (.int (3 : Int32)), .val (.int r0), .val (.int r1), .val (.int r2), .val (.int rel), .val (.ref b265), .val (.int i292), .val (.ref b294), .val (.double (0 : UInt64)), .second, .val (.double t1), .second, .unset, .unset] [])) _
        refine XS.iload X324.here hx rfl (hb hby at_193) rfl ?_
        show Steps p.tables e below (T324.setTop (mkF m 195 #[.val (.int ln), .val (.int la), .val (.int lb), .val (.int lc), .val (.int ld), .val (.int (3 : Int32)), .val (.int r0), .val (.int r1), .val (.int r2), .val (.int rel), .val (.ref b265), .val (.int i292), .val (.ref b294), .val (.double (0 : UInt64)), .second, .val (.double t1), .second, .unset, .unset] [(.int (3 : Int32))])) _
        refine XS.iconst X324.here hx rfl (hb hby at_195) ?_
        show Steps p.tables e below (T324.setTop (mkF m 196 #[.val (.int ln), .val (.int la), .val (.int lb), .val (.int lc), .val (.int ld), .val (.int (3 : Int32)), .val (.int r0), .val (.int r1), .val (.int r2), .val (.int rel), .val (.ref b265), .val (.int i292), .val (.ref b294), .val (.double (0 : UInt64)), .second, .val (.double t1), .second, .unset, .unset] [(.int (3 : Int32)), (.int (3 : Int32))])) _
        refine XS.icmpNo X324.here hx rfl (hb hby at_196) rfl (flt (by decide)).1 ?_
        show Steps p.tables e below (T324.setTop (mkF m 199 #[.val (.int ln), .val (.int la), .val (.int lb), .val (.int lc), .val (.int ld), .val (.int (3 : Int32)), .val (.int r0), .val (.int r1), .val (.int r2), .val (.int rel), .val (.ref b265), .val (.int i292), .val (.ref b294), .val (.double (0 : UInt64)), .second, .val (.double t1), .second, .unset, .unset] [])) _
        refine XS.dload X324.here hx rfl (hb hby at_199) rfl ?_
        show Steps p.tables e below (T324.setTop (mkF m 201 #[.val (.int ln), .val (.int la), .val (.int lb), .val (.int lc), .val (.int ld), .val (.int (3 : Int32)), .val (.int r0), .val (.int r1), .val (.int r2), .val (.int rel), .val (.ref b265), .val (.int i292), .val (.ref b294), .val (.double (0 : UInt64)), .second, .val (.double t1), .second, .unset, .unset] [(.double t1)])) _
        refine X324.ldc2DoubleC hx hown306 (mvT hZ306 (hw _ (List.mem_of_getElem? (i := 34) rfl))) (g := (mkF m 201 #[.val (.int ln), .val (.int la), .val (.int lb), .val (.int lc), .val (.int ld), .val (.int (3 : Int32)), .val (.int r0), .val (.int r1), .val (.int r2), .val (.int rel), .val (.ref b265), .val (.int i292), .val (.ref b294), .val (.double (0 : UInt64)), .second, .val (.double t1), .second, .unset, .unset] [(.double t1)])) rfl (hb hby at_201) _ ?_
        show Steps p.tables e below (T324.setTop (mkF m 204 #[.val (.int ln), .val (.int la), .val (.int lb), .val (.int lc), .val (.int ld), .val (.int (3 : Int32)), .val (.int r0), .val (.int r1), .val (.int r2), .val (.int rel), .val (.ref b265), .val (.int i292), .val (.ref b294), .val (.double (0 : UInt64)), .second, .val (.double t1), .second, .unset, .unset] [(.double (4613937818241073152 : UInt64)), (.double t1)])) _
        refine XS.iload X324.here hx rfl (hb hby at_204) rfl ?_
        show Steps p.tables e below (T324.setTop (mkF m 206 #[.val (.int ln), .val (.int la), .val (.int lb), .val (.int lc), .val (.int ld), .val (.int (3 : Int32)), .val (.int r0), .val (.int r1), .val (.int r2), .val (.int rel), .val (.ref b265), .val (.int i292), .val (.ref b294), .val (.double (0 : UInt64)), .second, .val (.double t1), .second, .unset, .unset] [(.int r2), (.double (4613937818241073152 : UInt64)), (.double t1)])) _
        refine XS.i2dS X324.here hx rfl (hb hby at_206) rfl hx2 ?_
        show Steps p.tables e below (T324.setTop (mkF m 207 #[.val (.int ln), .val (.int la), .val (.int lb), .val (.int lc), .val (.int ld), .val (.int (3 : Int32)), .val (.int r0), .val (.int r1), .val (.int r2), .val (.int rel), .val (.ref b265), .val (.int i292), .val (.ref b294), .val (.double (0 : UInt64)), .second, .val (.double t1), .second, .unset, .unset] [(.double x2), (.double (4613937818241073152 : UInt64)), (.double t1)])) _
        refine XS.ddivS X324.here hx rfl (hb hby at_207) rfl ((by rw [← hx2, ← own_c2]; exact nn_of (no_fin (fin_div _ Z2')))) hq2 ?_
        show Steps p.tables e below (T324.setTop (mkF m 208 #[.val (.int ln), .val (.int la), .val (.int lb), .val (.int lc), .val (.int ld), .val (.int (3 : Int32)), .val (.int r0), .val (.int r1), .val (.int r2), .val (.int rel), .val (.ref b265), .val (.int i292), .val (.ref b294), .val (.double (0 : UInt64)), .second, .val (.double t1), .second, .unset, .unset] [(.double q2), (.double t1)])) _
        refine XS.daddS X324.here hx rfl (hb hby at_208) rfl ((by rw [eq2, et1]; exact nn_of U2)) ht2 ?_
        show Steps p.tables e below (T324.setTop (mkF m 209 #[.val (.int ln), .val (.int la), .val (.int lb), .val (.int lc), .val (.int ld), .val (.int (3 : Int32)), .val (.int r0), .val (.int r1), .val (.int r2), .val (.int rel), .val (.ref b265), .val (.int i292), .val (.ref b294), .val (.double (0 : UInt64)), .second, .val (.double t1), .second, .unset, .unset] [(.double t2)])) _
        refine XS.dstore X324.here hx rfl (hb hby at_209) rfl (l' := #[.val (.int ln), .val (.int la), .val (.int lb), .val (.int lc), .val (.int ld), .val (.int (3 : Int32)), .val (.int r0), .val (.int r1), .val (.int r2), .val (.int rel), .val (.ref b265), .val (.int i292), .val (.ref b294), .val (.double (0 : UInt64)), .second, .val (.double t2), .second, .unset, .unset]) rfl ?_
        show Steps p.tables e below (T324.setTop (mkF m 211 #[.val (.int ln), .val (.int la), .val (.int lb), .val (.int lc), .val (.int ld), .val (.int (3 : Int32)), .val (.int r0), .val (.int r1), .val (.int r2), .val (.int rel), .val (.ref b265), .val (.int i292), .val (.ref b294), .val (.double (0 : UInt64)), .second, .val (.double t2), .second, .unset, .unset] [])) _
        refine XS.iload X324.here hx rfl (hb hby at_211) rfl ?_
        show Steps p.tables e below (T324.setTop (mkF m 213 #[.val (.int ln), .val (.int la), .val (.int lb), .val (.int lc), .val (.int ld), .val (.int (3 : Int32)), .val (.int r0), .val (.int r1), .val (.int r2), .val (.int rel), .val (.ref b265), .val (.int i292), .val (.ref b294), .val (.double (0 : UInt64)), .second, .val (.double t2), .second, .unset, .unset] [(.int rel)])) _
        refine XS.ifNo X324.here hx rfl (hb hby at_213) rfl ((if0 _ _).trans (teq cz).2) ?_
        show Steps p.tables e below (T324.setTop (mkF m 216 #[.val (.int ln), .val (.int la), .val (.int lb), .val (.int lc), .val (.int ld), .val (.int (3 : Int32)), .val (.int r0), .val (.int r1), .val (.int r2), .val (.int rel), .val (.ref b265), .val (.int i292), .val (.ref b294), .val (.double (0 : UInt64)), .second, .val (.double t2), .second, .unset, .unset] [])) _
        refine XS.dconst0 X324.here hx rfl (hb hby at_216) (v := (0 : UInt64)) rfl ?_
        show Steps p.tables e below (T324.setTop (mkF m 217 #[.val (.int ln), .val (.int la), .val (.int lb), .val (.int lc), .val (.int ld), .val (.int (3 : Int32)), .val (.int r0), .val (.int r1), .val (.int r2), .val (.int rel), .val (.ref b265), .val (.int i292), .val (.ref b294), .val (.double (0 : UInt64)), .second, .val (.double t2), .second, .unset, .unset] [(.double (0 : UInt64))])) _
        refine XS.dstore X324.here hx rfl (hb hby at_217) rfl (l' := #[.val (.int ln), .val (.int la), .val (.int lb), .val (.int lc), .val (.int ld), .val (.int (3 : Int32)), .val (.int r0), .val (.int r1), .val (.int r2), .val (.int rel), .val (.ref b265), .val (.int i292), .val (.ref b294), .val (.double (0 : UInt64)), .second, .val (.double t2), .second, .val (.double (0 : UInt64)), .second]) rfl ?_
        show Steps p.tables e below (T324.setTop (mkF m 219 #[.val (.int ln), .val (.int la), .val (.int lb), .val (.int lc), .val (.int ld), .val (.int (3 : Int32)), .val (.int r0), .val (.int r1), .val (.int r2), .val (.int rel), .val (.ref b265), .val (.int i292), .val (.ref b294), .val (.double (0 : UInt64)), .second, .val (.double t2), .second, .val (.double (0 : UInt64)), .second] [])) _
        refine XS.goto X324.here hx rfl (pc0 := 219) (pc' := 230) rfl (hb hby at_219) (by decide) (by decide) ?_
        show Steps p.tables e below (T324.setTop (mkF m 230 #[.val (.int ln), .val (.int la), .val (.int lb), .val (.int lc), .val (.int ld), .val (.int (3 : Int32)), .val (.int r0), .val (.int r1), .val (.int r2), .val (.int rel), .val (.ref b265), .val (.int i292), .val (.ref b294), .val (.double (0 : UInt64)), .second, .val (.double t2), .second, .val (.double (0 : UInt64)), .second] [])) _
        refine XS.dload X324.here hx rfl (hb hby at_230) rfl ?_
        show Steps p.tables e below (T324.setTop (mkF m 232 #[.val (.int ln), .val (.int la), .val (.int lb), .val (.int lc), .val (.int ld), .val (.int (3 : Int32)), .val (.int r0), .val (.int r1), .val (.int r2), .val (.int rel), .val (.ref b265), .val (.int i292), .val (.ref b294), .val (.double (0 : UInt64)), .second, .val (.double t2), .second, .val (.double (0 : UInt64)), .second] [(.double (0 : UInt64))])) _
        refine XS.dload X324.here hx rfl (hb hby at_232) rfl ?_
        show Steps p.tables e below (T324.setTop (mkF m 234 #[.val (.int ln), .val (.int la), .val (.int lb), .val (.int lc), .val (.int ld), .val (.int (3 : Int32)), .val (.int r0), .val (.int r1), .val (.int r2), .val (.int rel), .val (.ref b265), .val (.int i292), .val (.ref b294), .val (.double (0 : UInt64)), .second, .val (.double t2), .second, .val (.double (0 : UInt64)), .second] [(.double (0 : UInt64)), (.double (0 : UInt64))])) _
        refine XS.dcmpS X324.here hx rfl (hb hby at_234) rfl rfl ?_
        show Steps p.tables e below (T324.setTop (mkF m 235 #[.val (.int ln), .val (.int la), .val (.int lb), .val (.int lc), .val (.int ld), .val (.int (3 : Int32)), .val (.int r0), .val (.int r1), .val (.int r2), .val (.int rel), .val (.ref b265), .val (.int i292), .val (.ref b294), .val (.double (0 : UInt64)), .second, .val (.double t2), .second, .val (.double (0 : UInt64)), .second] [(.int (cmpValue (FP.dcmp (0 : UInt64) (0 : UInt64)) .l))])) _
        refine XS.ifNo X324.here hx rfl (hb hby at_235) rfl ((if0 _ _).trans (teq (Dy.cmp_eq (dy0 0) (dy0 0) rfl .l)).2) ?_
        show Steps p.tables e below (T324.setTop (mkF m 238 #[.val (.int ln), .val (.int la), .val (.int lb), .val (.int lc), .val (.int ld), .val (.int (3 : Int32)), .val (.int r0), .val (.int r1), .val (.int r2), .val (.int rel), .val (.ref b265), .val (.int i292), .val (.ref b294), .val (.double (0 : UInt64)), .second, .val (.double t2), .second, .val (.double (0 : UInt64)), .second] [])) _
        refine XS.iconst X324.here hx rfl (hb hby at_238) ?_
        show Steps p.tables e below (T324.setTop (mkF m 239 #[.val (.int ln), .val (.int la), .val (.int lb), .val (.int lc), .val (.int ld), .val (.int (3 : Int32)), .val (.int r0), .val (.int r1), .val (.int r2), .val (.int rel), .val (.ref b265), .val (.int i292), .val (.ref b294), .val (.double (0 : UInt64)), .second, .val (.double t2), .second, .val (.double (0 : UInt64)), .second] [(.int (1 : Int32))])) _
        refine XS.goto X324.here hx rfl (pc0 := 239) (pc' := 243) rfl (hb hby at_239) (by decide) (by decide) ?_
        exact k)
      obtain ⟨fs, hr, hrun, hended, hRE⟩ := Stand.leaveW (s := s) (vm₁ := T306.vm) X324 hS306 (by rw [e324]; exact hk322) (v := some (.int (1 : Int32))) (fun h => by rw [Bd.returns] at h; cases h)
      refine ⟨_, _, k327 _ (retOut X324 hx (t := .boolean) Bd.returns rfl (Or.inl ⟨rfl, Or.inr (Or.inl rfl), _, rfl⟩) (hb hby at_243) hr), hrun, hended, _, _, rfl, ?_, hRE.1, hRE.2.1, hRE.2.2.1, hRE.2.2.2.mono (by decide) (by decide)⟩
      show Q_rm0 Z ln la lb lc ld h0 n0 _ T324.heap _
      rw [e324]
      exact ⟨rfl, N325⟩
    · obtain ⟨cq328, kq328, q328a, q328b, q328c⟩ := isOf hZ306 e316 G316a
      obtain ⟨_, _, ⟨T328, L328, k328, n328⟩, -, X328, ⟨Lc328, hQ328, l328, y328, z328⟩, st328⟩ := X316.virtualBack hx (y := (⟨"com/example/round2/round2/eval/TopicResult", "averagePrecision", "()D"⟩ : MethodName)) (z := (⟨"com/example/round2/round2/eval/TopicResult", "averagePrecision", "()D"⟩ : MethodName)) hown306 (mvT hZ306 (hw _ (List.mem_of_getElem? (i := 28) rfl))) (mvT hZ306 (hw _ (List.mem_of_getElem? (i := 29) rfl))) (notFace_of_selects (args := #[]) (mvT hZ306 (hw _ (List.mem_of_getElem? (i := 31) rfl)))) (mvT hZ306 (hw _ (List.mem_of_getElem? (i := 31) rfl))) (mvT hZ306 (hw _ (List.mem_of_getElem? (i := 30) rfl))) (by decide) (backOf (W := 0) (avp3_0 l Z a0 hw [] b294 b265 k265 rel r0 r1 r2 h316 n0 Z321 G316c G316b F319 cz (nn_of (no_fin (fin_div _ Z0'))) (nn_of U0) (nn_of (no_fin (fin_div _ Z1'))) (nn_of U1) (nn_of (no_fin (fin_div _ Z2'))) (nn_of U2) (nn_div U2 cz)) hZ306 (hw _ (List.mem_of_getElem? (i := 32) rfl)) (hw _ (List.mem_of_getElem? (i := 5) rfl)) (by decide) (by decide)) q328a q328c (g := (mkF m 151 #[.val (.int ln), .val (.int la), .val (.int lb), .val (.int lc), .val (.int ld), .val (.int (3 : Int32)), .val (.int r0), .val (.int r1), .val (.int r2), .val (.int rel), .val (.ref b265), .val (.int i292), .val (.ref b294), .unset, .unset, .unset, .unset, .unset, .unset] [(.ref b294)])) rfl (by rw [hml]; rfl) (Steps.refl _) (argsL := []) (rest := []) (lenOf pd__28_29D rfl) rfl (by show 2 * 0 + _ ≤ _; exact Nat.le_of_eq rfl) (hb hby at_151) (fun _ _ => ⟨rfl, e316, (by decide : 4 + 0 ≤ _), (by decide : 15 + 0 ≤ _)⟩)
      dsimp only [Pt.U, Pt.locs, Pt.cells, Pt.slots] at X328 l328 y328 z328 st328 hQ328
      subst l328 y328 z328
      obtain ⟨rfl, N328q, e328⟩ := hQ328
      have N329 := Fr.app N317 N328q
      have k330 : ∀ t, Steps p.tables e below (T328.setTop (mkF m 154 #[.val (.int ln), .val (.int la), .val (.int lb), .val (.int lc), .val (.int ld), .val (.int (3 : Int32)), .val (.int r0), .val (.int r1), .val (.int r2), .val (.int rel), .val (.ref b265), .val (.int i292), .val (.ref b294), .unset, .unset, .unset, .unset, .unset, .unset] [(.double (FP.ddiv (FP.dadd (FP.dadd (FP.dadd (0 : UInt64) (FP.ddiv (FP.i2d (1 : Int32)) (FP.i2d r0))) (FP.ddiv (FP.i2d (2 : Int32)) (FP.i2d r1))) (FP.ddiv (FP.i2d (3 : Int32)) (FP.i2d r2))) (FP.i2d rel)))])) t → Steps p.tables e below (s₁.setTop (entryFrame m #[(.int ln), (.int la), (.int lb), (.int lc), (.int ld)] maxLocals)) t := fun t k => k323 t (st328.trans k)
      obtain ⟨got, hgot⟩ : ∃ z : UInt64, z = (FP.ddiv (FP.dadd (FP.dadd (FP.dadd (0 : UInt64) (FP.ddiv (FP.i2d (1 : Int32)) (FP.i2d r0))) (FP.ddiv (FP.i2d (2 : Int32)) (FP.i2d r1))) (FP.ddiv (FP.i2d (3 : Int32)) (FP.i2d r2))) (FP.i2d rel)) := ⟨_, rfl⟩
      obtain ⟨x0, hx0⟩ : ∃ z : UInt64, FP.i2d r0 = z := ⟨_, rfl⟩
      obtain ⟨q0, hq0⟩ : ∃ z : UInt64, FP.ddiv (4607182418800017408 : UInt64) x0 = z := ⟨_, rfl⟩
      have eq0 : q0 = (FP.ddiv (FP.i2d (1 : Int32)) (FP.i2d r0)) := by rw [← hq0, ← hx0, ← own_c0]
      obtain ⟨t0, ht0⟩ : ∃ z : UInt64, FP.dadd (0 : UInt64) q0 = z := ⟨_, rfl⟩
      have et0 : t0 = (FP.dadd (0 : UInt64) (FP.ddiv (FP.i2d (1 : Int32)) (FP.i2d r0))) := by rw [← ht0, eq0]
      obtain ⟨x1, hx1⟩ : ∃ z : UInt64, FP.i2d r1 = z := ⟨_, rfl⟩
      obtain ⟨q1, hq1⟩ : ∃ z : UInt64, FP.ddiv (4611686018427387904 : UInt64) x1 = z := ⟨_, rfl⟩
      have eq1 : q1 = (FP.ddiv (FP.i2d (2 : Int32)) (FP.i2d r1)) := by rw [← hq1, ← hx1, ← own_c1]
      obtain ⟨t1, ht1⟩ : ∃ z : UInt64, FP.dadd t0 q1 = z := ⟨_, rfl⟩
      have et1 : t1 = (FP.dadd (FP.dadd (0 : UInt64) (FP.ddiv (FP.i2d (1 : Int32)) (FP.i2d r0))) (FP.ddiv (FP.i2d (2 : Int32)) (FP.i2d r1))) := by rw [← ht1, eq1, et0]
      obtain ⟨x2, hx2⟩ : ∃ z : UInt64, FP.i2d r2 = z := ⟨_, rfl⟩
      obtain ⟨q2, hq2⟩ : ∃ z : UInt64, FP.ddiv (4613937818241073152 : UInt64) x2 = z := ⟨_, rfl⟩
      have eq2 : q2 = (FP.ddiv (FP.i2d (3 : Int32)) (FP.i2d r2)) := by rw [← hq2, ← hx2, ← own_c2]
      obtain ⟨t2, ht2⟩ : ∃ z : UInt64, FP.dadd t1 q2 = z := ⟨_, rfl⟩
      have et2 : t2 = (FP.dadd (FP.dadd (FP.dadd (0 : UInt64) (FP.ddiv (FP.i2d (1 : Int32)) (FP.i2d r0))) (FP.ddiv (FP.i2d (2 : Int32)) (FP.i2d r1))) (FP.ddiv (FP.i2d (3 : Int32)) (FP.i2d r2))) := by rw [← ht2, eq2, et1]
      obtain ⟨xr, hxr⟩ : ∃ z : UInt64, FP.i2d rel = z := ⟨_, rfl⟩
      obtain ⟨want, hwant⟩ : ∃ z : UInt64, FP.ddiv t2 xr = z := ⟨_, rfl⟩
      have ew : want = (FP.ddiv (FP.dadd (FP.dadd (FP.dadd (0 : UInt64) (FP.ddiv (FP.i2d (1 : Int32)) (FP.i2d r0))) (FP.ddiv (FP.i2d (2 : Int32)) (FP.i2d r1))) (FP.ddiv (FP.i2d (3 : Int32)) (FP.i2d r2))) (FP.i2d rel)) := by rw [← hwant, ← hxr, et2]
      have hfin : cmpValue (FP.dcmp got want) .l = (0 : Int32) := by rw [hgot, ew]; exact dcmpV_self (nn_div U2 cz) .l
      have k331 : ∀ t, Steps p.tables e below (T328.setTop (mkF m 243 #[.val (.int ln), .val (.int la), .val (.int lb), .val (.int lc), .val (.int ld), .val (.int (3 : Int32)), .val (.int r0), .val (.int r1), .val (.int r2), .val (.int rel), .val (.ref b265), .val (.int i292), .val (.ref b294), .val (.double got), .second, .val (.double t2), .second, .val (.double want), .second] [(.int (1 : Int32))])) t → Steps p.tables e below (s₁.setTop (entryFrame m #[(.int ln), (.int la), (.int lb), (.int lc), (.int ld)] maxLocals)) t := fun t k => k330 t (by
        show Steps p.tables e below (T328.setTop (mkF m 154 #[.val (.int ln), .val (.int la), .val (.int lb), .val (.int lc), .val (.int ld), .val (.int (3 : Int32)), .val (.int r0), .val (.int r1), .val (.int r2), .val (.int rel), .val (.ref b265), .val (.int i292), .val (.ref b294), .unset, .unset, .unset, .unset, .unset, .unset] [(.double (FP.ddiv (FP.dadd (FP.dadd (FP.dadd (0 : UInt64) (FP.ddiv (FP.i2d (1 : Int32)) (FP.i2d r0))) (FP.ddiv (FP.i2d (2 : Int32)) (FP.i2d r1))) (FP.ddiv (FP.i2d (3 : Int32)) (FP.i2d r2))) (FP.i2d rel)))])) _
        refine castTop (g' := (mkF m 154 #[.val (.int ln), .val (.int la), .val (.int lb), .val (.int lc), .val (.int ld), .val (.int (3 : Int32)), .val (.int r0), .val (.int r1), .val (.int r2), .val (.int rel), .val (.ref b265), .val (.int i292), .val (.ref b294), .unset, .unset, .unset, .unset, .unset, .unset] [(.double got)])) (by rw [hgot]) ?_
        show Steps p.tables e below (T328.setTop (mkF m 154 #[.val (.int ln), .val (.int la), .val (.int lb), .val (.int lc), .val (.int ld), .val (.int (3 : Int32)), .val (.int r0), .val (.int r1), .val (.int r2), .val (.int rel), .val (.ref b265), .val (.int i292), .val (.ref b294), .unset, .unset, .unset, .unset, .unset, .unset] [(.double got)])) _
        refine XS.dstore X328.here hx rfl (hb hby at_154) rfl (l' := #[.val (.int ln), .val (.int la), .val (.int lb), .val (.int lc), .val (.int ld), .val (.int (3 : Int32)), .val (.int r0), .val (.int r1), .val (.int r2), .val (.int rel), .val (.ref b265), .val (.int i292), .val (.ref b294), .val (.double got), .second, .unset, .unset, .unset, .unset]) rfl ?_
        show Steps p.tables e below (T328.setTop (mkF m 156 #[.val (.int ln), .val (.int la), .val (.int lb), .val (.int lc), .val (.int ld), .val (.int (3 : Int32)), .val (.int r0), .val (.int r1), .val (.int r2), .val (.int rel), .val (.ref b265), .val (.int i292), .val (.ref b294), .val (.double got), .second, .unset, .unset, .unset, .unset] [])) _
        refine XS.dconst0 X328.here hx rfl (hb hby at_156) (v := (0 : UInt64)) rfl ?_
        show Steps p.tables e below (T328.setTop (mkF m 157 #[.val (.int ln), .val (.int la), .val (.int lb), .val (.int lc), .val (.int ld), .val (.int (3 : Int32)), .val (.int r0), .val (.int r1), .val (.int r2), .val (.int rel), .val (.ref b265), .val (.int i292), .val (.ref b294), .val (.double got), .second, .unset, .unset, .unset, .unset] [(.double (0 : UInt64))])) _
        refine XS.dstore X328.here hx rfl (hb hby at_157) rfl (l' := #[.val (.int ln), .val (.int la), .val (.int lb), .val (.int lc), .val (.int ld), .val (.int (3 : Int32)), .val (.int r0), .val (.int r1), .val (.int r2), .val (.int rel), .val (.ref b265), .val (.int i292), .val (.ref b294), .val (.double got), .second, .val (.double (0 : UInt64)), .second, .unset, .unset]) rfl ?_
        show Steps p.tables e below (T328.setTop (mkF m 159 #[.val (.int ln), .val (.int la), .val (.int lb), .val (.int lc), .val (.int ld), .val (.int (3 : Int32)), .val (.int r0), .val (.int r1), .val (.int r2), .val (.int rel), .val (.ref b265), .val (.int i292), .val (.ref b294), .val (.double got), .second, .val (.double (0 : UInt64)), .second, .unset, .unset] [])) _
        refine XS.iload X328.here hx rfl (hb hby at_159) rfl ?_
        show Steps p.tables e below (T328.setTop (mkF m 161 #[.val (.int ln), .val (.int la), .val (.int lb), .val (.int lc), .val (.int ld), .val (.int (3 : Int32)), .val (.int r0), .val (.int r1), .val (.int r2), .val (.int rel), .val (.ref b265), .val (.int i292), .val (.ref b294), .val (.double got), .second, .val (.double (0 : UInt64)), .second, .unset, .unset] [(.int (3 : Int32))])) _
        refine XS.iconst X328.here hx rfl (hb hby at_161) ?_
        show Steps p.tables e below (T328.setTop (mkF m 162 #[.val (.int ln), .val (.int la), .val (.int lb), .val (.int lc), .val (.int ld), .val (.int (3 : Int32)), .val (.int r0), .val (.int r1), .val (.int r2), .val (.int rel), .val (.ref b265), .val (.int i292), .val (.ref b294), .val (.double got), .second, .val (.double (0 : UInt64)), .second, .unset, .unset] [(.int (1 : Int32)), (.int (3 : Int32))])) _
        refine XS.icmpNo X328.here hx rfl (hb hby at_162) rfl (flt (by decide)).1 ?_
        show Steps p.tables e below (T328.setTop (mkF m 165 #[.val (.int ln), .val (.int la), .val (.int lb), .val (.int lc), .val (.int ld), .val (.int (3 : Int32)), .val (.int r0), .val (.int r1), .val (.int r2), .val (.int rel), .val (.ref b265), .val (.int i292), .val (.ref b294), .val (.double got), .second, .val (.double (0 : UInt64)), .second, .unset, .unset] [])) _
        refine XS.dload X328.here hx rfl (hb hby at_165) rfl ?_
        show Steps p.tables e below (T328.setTop (mkF m 167 #[.val (.int ln), .val (.int la), .val (.int lb), .val (.int lc), .val (.int ld), .val (.int (3 : Int32)), .val (.int r0), .val (.int r1), .val (.int r2), .val (.int rel), .val (.ref b265), .val (.int i292), .val (.ref b294), .val (.double got), .second, .val (.double (0 : UInt64)), .second, .unset, .unset] [(.double (0 : UInt64))])) _
        refine XS.dconst1 X328.here hx rfl (hb hby at_167) (v := (4607182418800017408 : UInt64)) rfl ?_
        show Steps p.tables e below (T328.setTop (mkF m 168 #[.val (.int ln), .val (.int la), .val (.int lb), .val (.int lc), .val (.int ld), .val (.int (3 : Int32)), .val (.int r0), .val (.int r1), .val (.int r2), .val (.int rel), .val (.ref b265), .val (.int i292), .val (.ref b294), .val (.double got), .second, .val (.double (0 : UInt64)), .second, .unset, .unset] [(.double (4607182418800017408 : UInt64)), (.double (0 : UInt64))])) _
        refine XS.iload X328.here hx rfl (hb hby at_168) rfl ?_
        show Steps p.tables e below (T328.setTop (mkF m 170 #[.val (.int ln), .val (.int la), .val (.int lb), .val (.int lc), .val (.int ld), .val (.int (3 : Int32)), .val (.int r0), .val (.int r1), .val (.int r2), .val (.int rel), .val (.ref b265), .val (.int i292), .val (.ref b294), .val (.double got), .second, .val (.double (0 : UInt64)), .second, .unset, .unset] [(.int r0), (.double (4607182418800017408 : UInt64)), (.double (0 : UInt64))])) _
        refine XS.i2dS X328.here hx rfl (hb hby at_170) rfl hx0 ?_
        show Steps p.tables e below (T328.setTop (mkF m 171 #[.val (.int ln), .val (.int la), .val (.int lb), .val (.int lc), .val (.int ld), .val (.int (3 : Int32)), .val (.int r0), .val (.int r1), .val (.int r2), .val (.int rel), .val (.ref b265), .val (.int i292), .val (.ref b294), .val (.double got), .second, .val (.double (0 : UInt64)), .second, .unset, .unset] [(.double x0), (.double (4607182418800017408 : UInt64)), (.double (0 : UInt64))])) _
        refine XS.ddivS X328.here hx rfl (hb hby at_171) rfl ((by rw [← hx0, ← own_c0]; exact nn_of (no_fin (fin_div _ Z0')))) hq0 ?_
        show Steps p.tables e below (T328.setTop (mkF m 172 #[.val (.int ln), .val (.int la), .val (.int lb), .val (.int lc), .val (.int ld), .val (.int (3 : Int32)), .val (.int r0), .val (.int r1), .val (.int r2), .val (.int rel), .val (.ref b265), .val (.int i292), .val (.ref b294), .val (.double got), .second, .val (.double (0 : UInt64)), .second, .unset, .unset] [(.double q0), (.double (0 : UInt64))])) _
        refine XS.daddS X328.here hx rfl (hb hby at_172) rfl ((by rw [eq0]; exact nn_of U0)) ht0 ?_
        show Steps p.tables e below (T328.setTop (mkF m 173 #[.val (.int ln), .val (.int la), .val (.int lb), .val (.int lc), .val (.int ld), .val (.int (3 : Int32)), .val (.int r0), .val (.int r1), .val (.int r2), .val (.int rel), .val (.ref b265), .val (.int i292), .val (.ref b294), .val (.double got), .second, .val (.double (0 : UInt64)), .second, .unset, .unset] [(.double t0)])) _
        refine XS.dstore X328.here hx rfl (hb hby at_173) rfl (l' := #[.val (.int ln), .val (.int la), .val (.int lb), .val (.int lc), .val (.int ld), .val (.int (3 : Int32)), .val (.int r0), .val (.int r1), .val (.int r2), .val (.int rel), .val (.ref b265), .val (.int i292), .val (.ref b294), .val (.double got), .second, .val (.double t0), .second, .unset, .unset]) rfl ?_
        show Steps p.tables e below (T328.setTop (mkF m 175 #[.val (.int ln), .val (.int la), .val (.int lb), .val (.int lc), .val (.int ld), .val (.int (3 : Int32)), .val (.int r0), .val (.int r1), .val (.int r2), .val (.int rel), .val (.ref b265), .val (.int i292), .val (.ref b294), .val (.double got), .second, .val (.double t0), .second, .unset, .unset] [])) _
        refine XS.iload X328.here hx rfl (hb hby at_175) rfl ?_
        show Steps p.tables e below (T328.setTop (mkF m 177 #[.val (.int ln), .val (.int la), .val (.int lb), .val (.int lc), .val (.int ld), .val (.int (3 : Int32)), .val (.int r0), .val (.int r1), .val (.int r2), .val (.int rel), .val (.ref b265), .val (.int i292), .val (.ref b294), .val (.double got), .second, .val (.double t0), .second, .unset, .unset] [(.int (3 : Int32))])) _
        refine XS.iconst X328.here hx rfl (hb hby at_177) ?_
        show Steps p.tables e below (T328.setTop (mkF m 178 #[.val (.int ln), .val (.int la), .val (.int lb), .val (.int lc), .val (.int ld), .val (.int (3 : Int32)), .val (.int r0), .val (.int r1), .val (.int r2), .val (.int rel), .val (.ref b265), .val (.int i292), .val (.ref b294), .val (.double got), .second, .val (.double t0), .second, .unset, .unset] [(.int (2 : Int32)), (.int (3 : Int32))])) _
        refine XS.icmpNo X328.here hx rfl (hb hby at_178) rfl (flt (by decide)).1 ?_
        show Steps p.tables e below (T328.setTop (mkF m 181 #[.val (.int ln), .val (.int la), .val (.int lb), .val (.int lc), .val (.int ld), .val (.int (3 : Int32)), .val (.int r0), .val (.int r1), .val (.int r2), .val (.int rel), .val (.ref b265), .val (.int i292), .val (.ref b294), .val (.double got), .second, .val (.double t0), .second, .unset, .unset] [])) _
        refine XS.dload X328.here hx rfl (hb hby at_181) rfl ?_
        show Steps p.tables e below (T328.setTop (mkF m 183 #[.val (.int ln), .val (.int la), .val (.int lb), .val (.int lc), .val (.int ld), .val (.int (3 : Int32)), .val (.int r0), .val (.int r1), .val (.int r2), .val (.int rel), .val (.ref b265), .val (.int i292), .val (.ref b294), .val (.double got), .second, .val (.double t0), .second, .unset, .unset] [(.double t0)])) _
        refine X328.ldc2DoubleC hx hown306 (mvT hZ306 (hw _ (List.mem_of_getElem? (i := 33) rfl))) (g := (mkF m 183 #[.val (.int ln), .val (.int la), .val (.int lb), .val (.int lc), .val (.int ld), .val (.int (3 : Int32)), .val (.int r0), .val (.int r1), .val (.int r2), .val (.int rel), .val (.ref b265), .val (.int i292), .val (.ref b294), .val (.double got), .second, .val (.double t0), .second, .unset, .unset] [(.double t0)])) rfl (hb hby at_183) _ ?_
        show Steps p.tables e below (T328.setTop (mkF m 186 #[.val (.int ln), .val (.int la), .val (.int lb), .val (.int lc), .val (.int ld), .val (.int (3 : Int32)), .val (.int r0), .val (.int r1), .val (.int r2), .val (.int rel), .val (.ref b265), .val (.int i292), .val (.ref b294), .val (.double got), .second, .val (.double t0), .second, .unset, .unset] [(.double (4611686018427387904 : UInt64)), (.double t0)])) _
        refine XS.iload X328.here hx rfl (hb hby at_186) rfl ?_
        show Steps p.tables e below (T328.setTop (mkF m 188 #[.val (.int ln), .val (.int la), .val (.int lb), .val (.int lc), .val (.int ld), .val (.int (3 : Int32)), .val (.int r0), .val (.int r1), .val (.int r2), .val (.int rel), .val (.ref b265), .val (.int i292), .val (.ref b294), .val (.double got), .second, .val (.double t0), .second, .unset, .unset] [(.int r1), (.double (4611686018427387904 : UInt64)), (.double t0)])) _
        refine XS.i2dS X328.here hx rfl (hb hby at_188) rfl hx1 ?_
        show Steps p.tables e below (T328.setTop (mkF m 189 #[.val (.int ln), .val (.int la), .val (.int lb), .val (.int lc), .val (.int ld), .val (.int (3 : Int32)), .val (.int r0), .val (.int r1), .val (.int r2), .val (.int rel), .val (.ref b265), .val (.int i292), .val (.ref b294), .val (.double got), .second, .val (.double t0), .second, .unset, .unset] [(.double x1), (.double (4611686018427387904 : UInt64)), (.double t0)])) _
        refine XS.ddivS X328.here hx rfl (hb hby at_189) rfl ((by rw [← hx1, ← own_c1]; exact nn_of (no_fin (fin_div _ Z1')))) hq1 ?_
        show Steps p.tables e below (T328.setTop (mkF m 190 #[.val (.int ln), .val (.int la), .val (.int lb), .val (.int lc), .val (.int ld), .val (.int (3 : Int32)), .val (.int r0), .val (.int r1), .val (.int r2), .val (.int rel), .val (.ref b265), .val (.int i292), .val (.ref b294), .val (.double got), .second, .val (.double t0), .second, .unset, .unset] [(.double q1), (.double t0)])) _
        refine XS.daddS X328.here hx rfl (hb hby at_190) rfl ((by rw [eq1, et0]; exact nn_of U1)) ht1 ?_
        show Steps p.tables e below (T328.setTop (mkF m 191 #[.val (.int ln), .val (.int la), .val (.int lb), .val (.int lc), .val (.int ld), .val (.int (3 : Int32)), .val (.int r0), .val (.int r1), .val (.int r2), .val (.int rel), .val (.ref b265), .val (.int i292), .val (.ref b294), .val (.double got), .second, .val (.double t0), .second, .unset, .unset] [(.double t1)])) _
        refine XS.dstore X328.here hx rfl (hb hby at_191) rfl (l' := #[.val (.int ln), .val (.int la), .val (.int lb), .val (.int lc), .val (.int ld), .val (.int (3 : Int32)), .val (.int r0), .val (.int r1), .val (.int r2), .val (.int rel), .val (.ref b265), .val (.int i292), .val (.ref b294), .val (.double got), .second, .val (.double t1), .second, .unset, .unset]) rfl ?_
        show Steps p.tables e below (T328.setTop (mkF m 193 #[.val (.int ln), .val (.int la), .val (.int lb), .val (.int lc), .val (.int ld), .val (.int (3 : Int32)), .val (.int r0), .val (.int r1), .val (.int r2), .val (.int rel), .val (.ref b265), .val (.int i292), .val (.ref b294), .val (.double got), .second, .val (.double t1), .second, .unset, .unset] [])) _
        refine XS.iload X328.here hx rfl (hb hby at_193) rfl ?_
        show Steps p.tables e below (T328.setTop (mkF m 195 #[.val (.int ln), .val (.int la), .val (.int lb), .val (.int lc), .val (.int ld), .val (.int (3 : Int32)), .val (.int r0), .val (.int r1), .val (.int r2), .val (.int rel), .val (.ref b265), .val (.int i292), .val (.ref b294), .val (.double got), .second, .val (.double t1), .second, .unset, .unset] [(.int (3 : Int32))])) _
        refine XS.iconst X328.here hx rfl (hb hby at_195) ?_
        show Steps p.tables e below (T328.setTop (mkF m 196 #[.val (.int ln), .val (.int la), .val (.int lb), .val (.int lc), .val (.int ld), .val (.int (3 : Int32)), .val (.int r0), .val (.int r1), .val (.int r2), .val (.int rel), .val (.ref b265), .val (.int i292), .val (.ref b294), .val (.double got), .second, .val (.double t1), .second, .unset, .unset] [(.int (3 : Int32)), (.int (3 : Int32))])) _
        refine XS.icmpNo X328.here hx rfl (hb hby at_196) rfl (flt (by decide)).1 ?_
        show Steps p.tables e below (T328.setTop (mkF m 199 #[.val (.int ln), .val (.int la), .val (.int lb), .val (.int lc), .val (.int ld), .val (.int (3 : Int32)), .val (.int r0), .val (.int r1), .val (.int r2), .val (.int rel), .val (.ref b265), .val (.int i292), .val (.ref b294), .val (.double got), .second, .val (.double t1), .second, .unset, .unset] [])) _
        refine XS.dload X328.here hx rfl (hb hby at_199) rfl ?_
        show Steps p.tables e below (T328.setTop (mkF m 201 #[.val (.int ln), .val (.int la), .val (.int lb), .val (.int lc), .val (.int ld), .val (.int (3 : Int32)), .val (.int r0), .val (.int r1), .val (.int r2), .val (.int rel), .val (.ref b265), .val (.int i292), .val (.ref b294), .val (.double got), .second, .val (.double t1), .second, .unset, .unset] [(.double t1)])) _
        refine X328.ldc2DoubleC hx hown306 (mvT hZ306 (hw _ (List.mem_of_getElem? (i := 34) rfl))) (g := (mkF m 201 #[.val (.int ln), .val (.int la), .val (.int lb), .val (.int lc), .val (.int ld), .val (.int (3 : Int32)), .val (.int r0), .val (.int r1), .val (.int r2), .val (.int rel), .val (.ref b265), .val (.int i292), .val (.ref b294), .val (.double got), .second, .val (.double t1), .second, .unset, .unset] [(.double t1)])) rfl (hb hby at_201) _ ?_
        show Steps p.tables e below (T328.setTop (mkF m 204 #[.val (.int ln), .val (.int la), .val (.int lb), .val (.int lc), .val (.int ld), .val (.int (3 : Int32)), .val (.int r0), .val (.int r1), .val (.int r2), .val (.int rel), .val (.ref b265), .val (.int i292), .val (.ref b294), .val (.double got), .second, .val (.double t1), .second, .unset, .unset] [(.double (4613937818241073152 : UInt64)), (.double t1)])) _
        refine XS.iload X328.here hx rfl (hb hby at_204) rfl ?_
        show Steps p.tables e below (T328.setTop (mkF m 206 #[.val (.int ln), .val (.int la), .val (.int lb), .val (.int lc), .val (.int ld), .val (.int (3 : Int32)), .val (.int r0), .val (.int r1), .val (.int r2), .val (.int rel), .val (.ref b265), .val (.int i292), .val (.ref b294), .val (.double got), .second, .val (.double t1), .second, .unset, .unset] [(.int r2), (.double (4613937818241073152 : UInt64)), (.double t1)])) _
        refine XS.i2dS X328.here hx rfl (hb hby at_206) rfl hx2 ?_
        show Steps p.tables e below (T328.setTop (mkF m 207 #[.val (.int ln), .val (.int la), .val (.int lb), .val (.int lc), .val (.int ld), .val (.int (3 : Int32)), .val (.int r0), .val (.int r1), .val (.int r2), .val (.int rel), .val (.ref b265), .val (.int i292), .val (.ref b294), .val (.double got), .second, .val (.double t1), .second, .unset, .unset] [(.double x2), (.double (4613937818241073152 : UInt64)), (.double t1)])) _
        refine XS.ddivS X328.here hx rfl (hb hby at_207) rfl ((by rw [← hx2, ← own_c2]; exact nn_of (no_fin (fin_div _ Z2')))) hq2 ?_
        show Steps p.tables e below (T328.setTop (mkF m 208 #[.val (.int ln), .val (.int la), .val (.int lb), .val (.int lc), .val (.int ld), .val (.int (3 : Int32)), .val (.int r0), .val (.int r1), .val (.int r2), .val (.int rel), .val (.ref b265), .val (.int i292), .val (.ref b294), .val (.double got), .second, .val (.double t1), .second, .unset, .unset] [(.double q2), (.double t1)])) _
        refine XS.daddS X328.here hx rfl (hb hby at_208) rfl ((by rw [eq2, et1]; exact nn_of U2)) ht2 ?_
        show Steps p.tables e below (T328.setTop (mkF m 209 #[.val (.int ln), .val (.int la), .val (.int lb), .val (.int lc), .val (.int ld), .val (.int (3 : Int32)), .val (.int r0), .val (.int r1), .val (.int r2), .val (.int rel), .val (.ref b265), .val (.int i292), .val (.ref b294), .val (.double got), .second, .val (.double t1), .second, .unset, .unset] [(.double t2)])) _
        refine XS.dstore X328.here hx rfl (hb hby at_209) rfl (l' := #[.val (.int ln), .val (.int la), .val (.int lb), .val (.int lc), .val (.int ld), .val (.int (3 : Int32)), .val (.int r0), .val (.int r1), .val (.int r2), .val (.int rel), .val (.ref b265), .val (.int i292), .val (.ref b294), .val (.double got), .second, .val (.double t2), .second, .unset, .unset]) rfl ?_
        show Steps p.tables e below (T328.setTop (mkF m 211 #[.val (.int ln), .val (.int la), .val (.int lb), .val (.int lc), .val (.int ld), .val (.int (3 : Int32)), .val (.int r0), .val (.int r1), .val (.int r2), .val (.int rel), .val (.ref b265), .val (.int i292), .val (.ref b294), .val (.double got), .second, .val (.double t2), .second, .unset, .unset] [])) _
        refine XS.iload X328.here hx rfl (hb hby at_211) rfl ?_
        show Steps p.tables e below (T328.setTop (mkF m 213 #[.val (.int ln), .val (.int la), .val (.int lb), .val (.int lc), .val (.int ld), .val (.int (3 : Int32)), .val (.int r0), .val (.int r1), .val (.int r2), .val (.int rel), .val (.ref b265), .val (.int i292), .val (.ref b294), .val (.double got), .second, .val (.double t2), .second, .unset, .unset] [(.int rel)])) _
        refine XS.ifYes X328.here hx rfl (pc0 := 213) (pc' := 222) rfl (hb hby at_213) rfl ((if0 _ _).trans (feq cz).2) (by decide) (by decide) ?_
        show Steps p.tables e below (T328.setTop (mkF m 222 #[.val (.int ln), .val (.int la), .val (.int lb), .val (.int lc), .val (.int ld), .val (.int (3 : Int32)), .val (.int r0), .val (.int r1), .val (.int r2), .val (.int rel), .val (.ref b265), .val (.int i292), .val (.ref b294), .val (.double got), .second, .val (.double t2), .second, .unset, .unset] [])) _
        refine XS.dload X328.here hx rfl (hb hby at_222) rfl ?_
        show Steps p.tables e below (T328.setTop (mkF m 224 #[.val (.int ln), .val (.int la), .val (.int lb), .val (.int lc), .val (.int ld), .val (.int (3 : Int32)), .val (.int r0), .val (.int r1), .val (.int r2), .val (.int rel), .val (.ref b265), .val (.int i292), .val (.ref b294), .val (.double got), .second, .val (.double t2), .second, .unset, .unset] [(.double t2)])) _
        refine XS.iload X328.here hx rfl (hb hby at_224) rfl ?_
        show Steps p.tables e below (T328.setTop (mkF m 226 #[.val (.int ln), .val (.int la), .val (.int lb), .val (.int lc), .val (.int ld), .val (.int (3 : Int32)), .val (.int r0), .val (.int r1), .val (.int r2), .val (.int rel), .val (.ref b265), .val (.int i292), .val (.ref b294), .val (.double got), .second, .val (.double t2), .second, .unset, .unset] [(.int rel), (.double t2)])) _
        refine XS.i2dS X328.here hx rfl (hb hby at_226) rfl hxr ?_
        show Steps p.tables e below (T328.setTop (mkF m 227 #[.val (.int ln), .val (.int la), .val (.int lb), .val (.int lc), .val (.int ld), .val (.int (3 : Int32)), .val (.int r0), .val (.int r1), .val (.int r2), .val (.int rel), .val (.ref b265), .val (.int i292), .val (.ref b294), .val (.double got), .second, .val (.double t2), .second, .unset, .unset] [(.double xr), (.double t2)])) _
        refine XS.ddivS X328.here hx rfl (hb hby at_227) rfl ((by rw [← hxr, et2]; exact nn_div U2 cz)) hwant ?_
        show Steps p.tables e below (T328.setTop (mkF m 228 #[.val (.int ln), .val (.int la), .val (.int lb), .val (.int lc), .val (.int ld), .val (.int (3 : Int32)), .val (.int r0), .val (.int r1), .val (.int r2), .val (.int rel), .val (.ref b265), .val (.int i292), .val (.ref b294), .val (.double got), .second, .val (.double t2), .second, .unset, .unset] [(.double want)])) _
        refine XS.dstore X328.here hx rfl (hb hby at_228) rfl (l' := #[.val (.int ln), .val (.int la), .val (.int lb), .val (.int lc), .val (.int ld), .val (.int (3 : Int32)), .val (.int r0), .val (.int r1), .val (.int r2), .val (.int rel), .val (.ref b265), .val (.int i292), .val (.ref b294), .val (.double got), .second, .val (.double t2), .second, .val (.double want), .second]) rfl ?_
        show Steps p.tables e below (T328.setTop (mkF m 230 #[.val (.int ln), .val (.int la), .val (.int lb), .val (.int lc), .val (.int ld), .val (.int (3 : Int32)), .val (.int r0), .val (.int r1), .val (.int r2), .val (.int rel), .val (.ref b265), .val (.int i292), .val (.ref b294), .val (.double got), .second, .val (.double t2), .second, .val (.double want), .second] [])) _
        refine XS.dload X328.here hx rfl (hb hby at_230) rfl ?_
        show Steps p.tables e below (T328.setTop (mkF m 232 #[.val (.int ln), .val (.int la), .val (.int lb), .val (.int lc), .val (.int ld), .val (.int (3 : Int32)), .val (.int r0), .val (.int r1), .val (.int r2), .val (.int rel), .val (.ref b265), .val (.int i292), .val (.ref b294), .val (.double got), .second, .val (.double t2), .second, .val (.double want), .second] [(.double got)])) _
        refine XS.dload X328.here hx rfl (hb hby at_232) rfl ?_
        show Steps p.tables e below (T328.setTop (mkF m 234 #[.val (.int ln), .val (.int la), .val (.int lb), .val (.int lc), .val (.int ld), .val (.int (3 : Int32)), .val (.int r0), .val (.int r1), .val (.int r2), .val (.int rel), .val (.ref b265), .val (.int i292), .val (.ref b294), .val (.double got), .second, .val (.double t2), .second, .val (.double want), .second] [(.double want), (.double got)])) _
        refine XS.dcmpS X328.here hx rfl (hb hby at_234) rfl rfl ?_
        show Steps p.tables e below (T328.setTop (mkF m 235 #[.val (.int ln), .val (.int la), .val (.int lb), .val (.int lc), .val (.int ld), .val (.int (3 : Int32)), .val (.int r0), .val (.int r1), .val (.int r2), .val (.int rel), .val (.ref b265), .val (.int i292), .val (.ref b294), .val (.double got), .second, .val (.double t2), .second, .val (.double want), .second] [(.int (cmpValue (FP.dcmp got want) .l))])) _
        refine XS.ifNo X328.here hx rfl (hb hby at_235) rfl ((if0 _ _).trans (teq hfin).2) ?_
        show Steps p.tables e below (T328.setTop (mkF m 238 #[.val (.int ln), .val (.int la), .val (.int lb), .val (.int lc), .val (.int ld), .val (.int (3 : Int32)), .val (.int r0), .val (.int r1), .val (.int r2), .val (.int rel), .val (.ref b265), .val (.int i292), .val (.ref b294), .val (.double got), .second, .val (.double t2), .second, .val (.double want), .second] [])) _
        refine XS.iconst X328.here hx rfl (hb hby at_238) ?_
        show Steps p.tables e below (T328.setTop (mkF m 239 #[.val (.int ln), .val (.int la), .val (.int lb), .val (.int lc), .val (.int ld), .val (.int (3 : Int32)), .val (.int r0), .val (.int r1), .val (.int r2), .val (.int rel), .val (.ref b265), .val (.int i292), .val (.ref b294), .val (.double got), .second, .val (.double t2), .second, .val (.double want), .second] [(.int (1 : Int32))])) _
        refine XS.goto X328.here hx rfl (pc0 := 239) (pc' := 243) rfl (hb hby at_239) (by decide) (by decide) ?_
        exact k)
      obtain ⟨fs, hr, hrun, hended, hRE⟩ := Stand.leaveW (s := s) (vm₁ := T306.vm) X328 hS306 (by rw [e328]; exact hk322) (v := some (.int (1 : Int32))) (fun h => by rw [Bd.returns] at h; cases h)
      refine ⟨_, _, k331 _ (retOut X328 hx (t := .boolean) Bd.returns rfl (Or.inl ⟨rfl, Or.inr (Or.inl rfl), _, rfl⟩) (hb hby at_243) hr), hrun, hended, _, _, rfl, ?_, hRE.1, hRE.2.1, hRE.2.2.1, hRE.2.2.2.mono (by decide) (by decide)⟩
      show Q_rm0 Z ln la lb lc ld h0 n0 _ T328.heap _
      rw [e328]
      exact ⟨rfl, N329⟩
set_option maxRecDepth 65536 in
set_option maxHeartbeats 40000000 in
theorem comes_1 {Post : Tables → Env → Array Value → State → Outcome → State → Prop} (hpost : ∀ tb e args s v u, (limb_1_1.after args s (.returned v) u = true ∧ limb_1_2.after args s (.returned v) u = true ∧ True) → ReturnedEndW s (.returned v) u (Jvm.fieldLocs frame_1_writes args s ++ Jvm.arrayLocs frame_1_arrays args s ++ Jvm.staticLocs frame_1_statics s) 16 1152 → Post tb e args s (.returned v) u) :
    ArmFor flags0 classFile x code maxLocals ret World_1 tables_1 room_1 Calls_1 rest_1 Pre_1 Post := by
  intro l hfl _ _ p e ha hc hk s m args below hf hA hF happ hP
  obtain ⟨hcalls, hrest, hpre⟩ := hP
  obtain ⟨-, -, -, hnamed, -, -, -, hat⟩ := (Spec.applies_iff hf).mp happ
  obtain ⟨hg, hn⟩ := and_e (Cond.before_iff.mp (show (Jvm.Cond.and given_1 narrow_1).before args s = true from hpre))
  obtain ⟨g1, g2⟩ := and_e hg
  obtain ⟨g3, g4⟩ := and_e g2
  obtain ⟨g5, g6⟩ := and_e g4
  obtain ⟨g7, g8⟩ := and_e g6
  obtain ⟨g9, g10⟩ := and_e g8
  obtain ⟨w0, w1, w2, w3, w4, rfl⟩ : ∃ w0 w1 w2 w3 w4 : Value, args = #[w0, w1, w2, w3, w4] := by
    have hs : args.size = 5 := by simpa [Cond.value, given_1] using g1
    obtain ⟨L⟩ := args
    match L, hs with
    | [w0, w1, w2, w3, w4], _ => exact ⟨w0, w1, w2, w3, w4, rfl⟩
  have hw := fun d (hd : d ∈ tables_1) => atoms_spec (ws := Jvm.Cond.code x code maxLocals ret :: tables_1) hat d (List.mem_cons_of_mem _ hd)
  obtain ⟨i0, ei0⟩ := is_v g3
  obtain rfl : w0 = (.int i0) := Option.some.inj ei0
  obtain ⟨i1, ei1⟩ := is_v g5
  obtain rfl : w1 = (.int i1) := Option.some.inj ei1
  obtain ⟨i2, ei2⟩ := is_v g7
  obtain rfl : w2 = (.int i2) := Option.some.inj ei2
  obtain ⟨i3, ei3⟩ := is_v g9
  obtain rfl : w3 = (.int i3) := Option.some.inj ei3
  obtain ⟨i4, ei4⟩ := is_v g10
  obtain rfl : w4 = (.int i4) := Option.some.inj ei4
  obtain ⟨n, o, h1, h2, h3, _, L, rfl, ⟨rfl, N⟩, hq⟩ := rm0 l s _ hw tables_1 i0 i1 i2 i3 i4 s.heap s.heap.size (Nat.le_refl _) p e ha hc hk s m _ below hf ((Spec.applies_iff_loose hf).mp happ).1 ⟨rfl, State.Warmed39.refl s, rfl⟩ trivial
  refine ⟨n, _, h1, h2, h3, hpost _ _ _ _ _ _ ⟨Cond.after_iff.mpr rfl, Cond.after_iff.mpr (eq_i res_at (Term.int_eval (1)) rfl), trivial⟩ ⟨hq.1, hq.2.1, hq.2.2.1, (hq.2.2.2.sift fun y hy => Or.inr (N y hy)).mono (by decide) (by decide)⟩⟩
theorem main_1_1 : Claimed_1_1 := comes_1 fun _ _ _ _ _ _ h hF => ⟨h.1, hF⟩
theorem main_1_2 : Claimed_1_2 := comes_1 fun _ _ _ _ _ _ h hF => ⟨h.2.1, hF⟩
end Jvm.Pilot.@@N@@
namespace Jvm.Pilot.@@N@@
open Jvm Jvm.ClassFile Sem Op Lib Jvm.Free Jvm.Stand Jvm.Pilot.@@N@@.Jvm.D
/-! MADE BY PROGRAM (witnessworld.py) out of the Statement's table words and the real class files: 14 classes; the members and pool entries that the words name. The judged class is class 1, her method 1. -/
namespace start1
open Jvm.ClassFile
def u (s : String) : CpInfo := .utf8 (stringToUtf16 s)
/-- a pool by its gaps: so many unusable entries, then the entry; so many at the end -/
def gap : Nat → List CpInfo → List CpInfo
  | 0, r => r
  | n + 1, r => .unusable :: gap n r
def poolList (es : List (Nat × CpInfo)) (last : Nat) : List CpInfo := es.foldr (fun e r => gap e.1 (e.2 :: r)) (gap last [])
def pool (es : List (Nat × CpInfo)) (last : Nat) : Array CpInfo := ⟨poolList es last⟩
def fileOf (pool : Array CpInfo) (this : Nat) (attrs : Array Attribute := #[]) (ms : Array MethodInfo := #[]) (fl : Nat := 33) (sup : Nat := 0) (ifs : Array Nat := #[]) (fds : Array FieldInfo := #[]) : ClassFile where
  minorVersion := 0
  majorVersion := 65
  constantPool := pool
  accessFlags := fl
  thisClass := this
  superClass := sup
  interfaces := ifs
  fields := fds
  methods := ms
  attributes := attrs
def plain (name : String) (sup : Option ClassId) : Class where
  name := name
  kind := .ordinary
  loader := none
  accessFlags := 33
  super := sup
  interfaces := #[]
  cf := none
  fields := #[]
  methods := #[]
  instanceTypes := #[]
  staticTypes := #[]
  resolved := #[]
  callSites := []
  init := .initialized
  statics := none
  mirror := none

def pool0 : Array CpInfo := pool [(5, u "<init>"), (0, u "()V"), (1, .class_ 10), (1, u "java/lang/Object")] 113

def k0c0 : Code := { maxStack := 0, maxLocals := 1, code := object_method_1_code, exceptionTable := #[], attributes := #[] }
def k0m0 : Method := { name := "<init>", desc := "()V", sig := { parameters := [], returnType := none }, accessFlags := 1, code := some k0c0 }
/-- java/lang/Object -/
def k0 : Class := { plain "java/lang/Object" none with
  accessFlags := 33
  interfaces := #[]
  cf := some (fileOf pool0 8 #[] #[{ accessFlags := 1, nameIndex := 5, descriptorIndex := 6, attributes := #[] }] 33 0 #[] #[])
  fields := #[]
  methods := #[k0m0]
  instanceTypes := #[]
  staticTypes := #[]
  resolved := Array.replicate 124 none
  statics := none }

def pool1 : Array CpInfo := pool [(2, .class_ 4), (1, u "java/lang/Object"), (0, u "<init>"), (0, u "()V"), (0, .integer 536870911), (0, .integer 1073741823), (0, .class_ 10), (0, u "com/example/round2/round2/eval/TopicResult"), (0, .string 12), (0, u "t"), (0, .methodref 9 14), (0, .nameAndType 5 15), (0, u "(Ljava/lang/String;II[I)V"), (0, .methodref 9 17), (0, .nameAndType 18 19), (0, u "averagePrecision"), (0, u "()D"), (0, .double 4611686018427387904), (1, .double 4613937818241073152), (1, .class_ 25), (0, u "com/example/round2/round2/eval/TopicResultAveragePrecisionPinLaw"), (2, u "law"), (0, u "(IIIII)Z")] 5

def k1m0 : Method := { name := "<init>", desc := "()V", sig := { parameters := [], returnType := none }, accessFlags := 1, code := none }
def k1c1 : Code := { maxStack := 6, maxLocals := 19, code := code, exceptionTable := #[], attributes := #[] }
def k1m1 : Method := { name := "law", desc := "(IIIII)Z", sig := { parameters := [.int, .int, .int, .int, .int], returnType := some .boolean }, accessFlags := 9, code := some k1c1 }
/-- com/example/round2/round2/eval/TopicResultAveragePrecisionPinLaw -/
def k1 : Class := { plain "com/example/round2/round2/eval/TopicResultAveragePrecisionPinLaw" (some 0) with
  accessFlags := 49
  interfaces := #[]
  cf := some (fileOf pool1 24 #[] #[{ accessFlags := 1, nameIndex := 5, descriptorIndex := 6, attributes := #[] }, { accessFlags := 9, nameIndex := 28, descriptorIndex := 29, attributes := #[] }] 49 2 #[] #[])
  fields := #[]
  methods := #[k1m0, k1m1]
  instanceTypes := #[]
  staticTypes := #[]
  resolved := Array.replicate 35 none
  statics := none }

def pool2 : Array CpInfo := pool [(1, .methodref 2 3), (0, .class_ 4), (0, .nameAndType 5 6), (0, u "java/lang/Object"), (0, u "<init>"), (0, u "()V"), (0, .fieldref 8 9), (0, .class_ 10), (0, .nameAndType 11 12), (0, u "com/example/round2/round2/eval/TopicResult"), (0, u "topic"), (0, u "Ljava/lang/String;"), (0, .fieldref 8 14), (0, .nameAndType 15 16), (0, u "retrieved"), (0, u "I"), (0, .fieldref 8 18), (0, .nameAndType 19 16), (0, u "relevant"), (0, .fieldref 8 21), (0, .nameAndType 22 23), (0, u "relevantRanks"), (0, u "[I"), (9, u "(Ljava/lang/String;II[I)V"), (8, u "averagePrecision"), (0, u "()D")] 21

def k2c0 : Code := { maxStack := 2, maxLocals := 5, code := prog_10_method_1_code, exceptionTable := #[], attributes := #[] }
def k2m0 : Method := { name := "<init>", desc := "(Ljava/lang/String;II[I)V", sig := { parameters := [(.object "java/lang/String"), .int, .int, (.array .int)], returnType := none }, accessFlags := 0, code := some k2c0 }
def k2c1 : Code := { maxStack := 6, maxLocals := 4, code := prog_10_method_6_code, exceptionTable := #[], attributes := #[] }
def k2m1 : Method := { name := "averagePrecision", desc := "()D", sig := { parameters := [], returnType := some .double }, accessFlags := 1, code := some k2c1 }
/-- com/example/round2/round2/eval/TopicResult -/
def k2 : Class := { plain "com/example/round2/round2/eval/TopicResult" (some 0) with
  accessFlags := 49
  interfaces := #[]
  cf := some (fileOf pool2 8 #[] #[{ accessFlags := 0, nameIndex := 5, descriptorIndex := 33, attributes := #[] }, { accessFlags := 1, nameIndex := 42, descriptorIndex := 43, attributes := #[] }] 49 2 #[] #[{ accessFlags := 18, nameIndex := 11, descriptorIndex := 12, attributes := #[] }, { accessFlags := 18, nameIndex := 15, descriptorIndex := 16, attributes := #[] }, { accessFlags := 18, nameIndex := 19, descriptorIndex := 16, attributes := #[] }, { accessFlags := 18, nameIndex := 22, descriptorIndex := 23, attributes := #[] }])
  fields := #[{ name := "topic", type := (.object "java/lang/String"), accessFlags := 18, slot := 0, constantValue := 0 }, { name := "retrieved", type := .int, accessFlags := 18, slot := 1, constantValue := 0 }, { name := "relevant", type := .int, accessFlags := 18, slot := 2, constantValue := 0 }, { name := "relevantRanks", type := (.array .int), accessFlags := 18, slot := 3, constantValue := 0 }]
  methods := #[k2m0, k2m1]
  instanceTypes := #[(.object "java/lang/String"), .int, .int, (.array .int)]
  staticTypes := #[]
  resolved := Array.replicate 65 none
  statics := none }

def pool3 : Array CpInfo := pool [(1, .class_ 2), (0, u "java/io/Serializable"), (0, .class_ 4), (0, u "java/lang/Object")] 2

/-- java/io/Serializable -/
def k3 : Class := { plain "java/io/Serializable" (some 0) with
  accessFlags := 1537
  interfaces := #[]
  cf := some (fileOf pool3 1 #[] #[] 1537 3 #[] #[])
  fields := #[]
  methods := #[]
  instanceTypes := #[]
  staticTypes := #[]
  resolved := Array.replicate 7 none
  statics := none }

def pool4 : Array CpInfo := pool [(1, .class_ 2), (0, u "java/lang/Comparable"), (0, .class_ 4), (0, u "java/lang/Object")] 7

/-- java/lang/Comparable -/
def k4 : Class := { plain "java/lang/Comparable" (some 0) with
  accessFlags := 1537
  interfaces := #[]
  cf := some (fileOf pool4 1 #[] #[] 1537 3 #[] #[])
  fields := #[]
  methods := #[]
  instanceTypes := #[]
  staticTypes := #[]
  resolved := Array.replicate 12 none
  statics := none }

def pool5 : Array CpInfo := pool [(2, .class_ 4), (1, u "java/lang/CharSequence"), (42, .class_ 48), (0, u "java/lang/CharSequence$1CodePointIterator"), (10, .class_ 60), (0, u "java/lang/CharSequence$1CharIterator"), (5, .class_ 67), (0, u "java/lang/Object")] 63

/-- java/lang/CharSequence -/
def k5 : Class := { plain "java/lang/CharSequence" (some 0) with
  accessFlags := 1537
  interfaces := #[]
  cf := some (fileOf pool5 2 #[.nestMembers #[47, 59]] #[] 1537 66 #[] #[])
  fields := #[]
  methods := #[]
  instanceTypes := #[]
  staticTypes := #[]
  resolved := Array.replicate 131 none
  statics := none }

def pool6 : Array CpInfo := pool [(1, .class_ 2), (0, u "java/lang/constant/Constable"), (0, .class_ 4), (0, u "java/lang/Object")] 6

/-- java/lang/constant/Constable -/
def k6 : Class := { plain "java/lang/constant/Constable" (some 0) with
  accessFlags := 1537
  interfaces := #[]
  cf := some (fileOf pool6 1 #[] #[] 1537 3 #[] #[])
  fields := #[]
  methods := #[]
  instanceTypes := #[]
  staticTypes := #[]
  resolved := Array.replicate 11 none
  statics := none }

def pool7 : Array CpInfo := pool [(1, .class_ 2), (0, u "java/lang/constant/ConstantDesc"), (0, .class_ 4), (0, u "java/lang/Object")] 32

/-- java/lang/constant/ConstantDesc -/
def k7 : Class := { plain "java/lang/constant/ConstantDesc" (some 0) with
  accessFlags := 1537
  interfaces := #[]
  cf := some (fileOf pool7 1 #[] #[] 1537 3 #[] #[])
  fields := #[]
  methods := #[]
  instanceTypes := #[]
  staticTypes := #[]
  resolved := Array.replicate 37 none
  statics := none }

def pool8 : Array CpInfo := pool [(2, .class_ 4), (1, u "java/lang/Object"), (0, u "<init>"), (0, u "()V"), (3, .class_ 12), (1, u "java/lang/String"), (0, u "value"), (0, u "[B"), (2, u "coder"), (0, u "B"), (2, u "hash"), (0, u "I"), (2, u "hashIsZero"), (0, u "Z"), (13, u "COMPACT_STRINGS"), (534, .class_ 576), (0, u "java/lang/CharSequence"), (22, u "CASE_INSENSITIVE_ORDER"), (0, u "Ljava/util/Comparator;"), (500, u "serialPersistentFields"), (0, u "[Ljava/io/ObjectStreamField;"), (0, .class_ 1104), (0, u "java/lang/String$CaseInsensitiveComparator"), (1, .class_ 1107), (0, u "java/io/Serializable"), (0, .class_ 1109), (0, u "java/lang/Comparable"), (0, .class_ 1111), (0, u "java/lang/constant/Constable"), (0, .class_ 1113), (0, u "java/lang/constant/ConstantDesc"), (2, u "serialVersionUID"), (0, u "J"), (3, u "REPL"), (0, u "C"), (2, u "LATIN1"), (1, u "UTF16")] 323

def k8m0 : Method := { name := "<init>", desc := "()V", sig := { parameters := [], returnType := none }, accessFlags := 1, code := none }
/-- java/lang/String -/
def k8 : Class := { plain "java/lang/String" (some 0) with
  accessFlags := 49
  interfaces := #[3, 4, 5, 6, 7]
  cf := some (fileOf pool8 10 #[.nestMembers #[1103]] #[{ accessFlags := 1, nameIndex := 5, descriptorIndex := 6, attributes := #[] }] 49 2 #[1106, 1108, 575, 1110, 1112] #[{ accessFlags := 18, nameIndex := 13, descriptorIndex := 14, attributes := #[] }, { accessFlags := 18, nameIndex := 17, descriptorIndex := 18, attributes := #[] }, { accessFlags := 2, nameIndex := 21, descriptorIndex := 22, attributes := #[] }, { accessFlags := 2, nameIndex := 25, descriptorIndex := 26, attributes := #[] }, { accessFlags := 26, nameIndex := 1116, descriptorIndex := 1117, attributes := #[] }, { accessFlags := 24, nameIndex := 40, descriptorIndex := 26, attributes := #[] }, { accessFlags := 26, nameIndex := 1101, descriptorIndex := 1102, attributes := #[] }, { accessFlags := 26, nameIndex := 1121, descriptorIndex := 1122, attributes := #[] }, { accessFlags := 25, nameIndex := 599, descriptorIndex := 600, attributes := #[] }, { accessFlags := 24, nameIndex := 1125, descriptorIndex := 18, attributes := #[] }, { accessFlags := 24, nameIndex := 1127, descriptorIndex := 18, attributes := #[] }])
  fields := #[{ name := "value", type := (.array .byte), accessFlags := 18, slot := 0, constantValue := 0 }, { name := "coder", type := .byte, accessFlags := 18, slot := 1, constantValue := 0 }, { name := "hash", type := .int, accessFlags := 2, slot := 2, constantValue := 0 }, { name := "hashIsZero", type := .boolean, accessFlags := 2, slot := 3, constantValue := 0 }, { name := "serialVersionUID", type := .long, accessFlags := 26, slot := 0, constantValue := 0 }, { name := "COMPACT_STRINGS", type := .boolean, accessFlags := 24, slot := 1, constantValue := 0 }, { name := "serialPersistentFields", type := (.array (.object "java/io/ObjectStreamField")), accessFlags := 26, slot := 2, constantValue := 0 }, { name := "REPL", type := .char, accessFlags := 26, slot := 3, constantValue := 0 }, { name := "CASE_INSENSITIVE_ORDER", type := (.object "java/util/Comparator"), accessFlags := 25, slot := 4, constantValue := 0 }, { name := "LATIN1", type := .byte, accessFlags := 24, slot := 5, constantValue := 0 }, { name := "UTF16", type := .byte, accessFlags := 24, slot := 6, constantValue := 0 }]
  methods := #[k8m0]
  instanceTypes := #[(.array .byte), .byte, .int, .boolean]
  staticTypes := #[.long, .boolean, (.array (.object "java/io/ObjectStreamField")), .char, (.object "java/util/Comparator"), .byte, .byte]
  resolved := Array.replicate 1451 none
  statics := none }

def pool9 : Array CpInfo := pool [(1, u "java/lang/Cloneable"), (0, .class_ 1), (0, u "java/lang/Object"), (0, .class_ 3)] 3

/-- java/lang/Cloneable -/
def k9 : Class := { plain "java/lang/Cloneable" (some 0) with
  accessFlags := 1537
  interfaces := #[]
  cf := some (fileOf pool9 2 #[] #[] 1537 4 #[] #[])
  fields := #[]
  methods := #[]
  instanceTypes := #[]
  staticTypes := #[]
  resolved := Array.replicate 8 none
  statics := none }

/-- the primitive byte -/
def k10 : Class := { plain "byte" none with kind := .primitive 'B', accessFlags := 0x411 }
/-- [B -/
def k11 : Class := { plain "[B" (some 0) with kind := .array 10 .byte, interfaces := #[9, 3], accessFlags := 1041 }

/-- the primitive int -/
def k12 : Class := { plain "int" none with kind := .primitive 'I', accessFlags := 0x411 }
/-- [I -/
def k13 : Class := { plain "[I" (some 0) with kind := .array 12 .int, interfaces := #[9, 3], accessFlags := 1041 }

def heap : Heap := #[]
def classes : Array Class := #[k0, k1, k2, k3, k4, k5, k6, k7, k8, k9, k10, k11, k12, k13]
def interned : List (Array UInt16 × Addr) := []
def slotsUsed : Nat := 0
def theMethod : MethodId := ⟨1, 1⟩
def args0 : Array Value := #[.int 3, .int 2, .int 1, .int 7, .int 2]
def aboutOver (below : List Frame) : State where
  vm := { classes := classes, interned := interned.toArray }
  heap := heap
  slotsUsed := slotsUsed
  threads := #[{ frames := .invoking theMethod args0 :: below }]
def below0 : List Frame := [.native { method := ⟨0, 0⟩, args := #[] }]
def about1 : State := aboutOver below0
def p0 : Program := .bare "" "" ""
def e0 : Env := launch0.env 0 0 0
theorem w_frames : about1.frames = Frame.invoking theMethod args0 :: below0 := rfl
set_option maxRecDepth 65536 in
theorem w_args : argsFit about1.vm theMethod args0 = true := by decide +kernel
set_option maxRecDepth 65536 in
theorem w_heap : heapFits about1 = true := by decide +kernel
set_option maxRecDepth 65536 in
theorem w_runnable : about1.curStatus? = some .runnable := by decide +kernel
set_option maxRecDepth 65536 in
theorem w_alone : about1.alone = true := by decide +kernel
set_option maxRecDepth 65536 in
theorem w_named : about1.methodNamed? x = some theMethod := by decide +kernel
set_option maxRecDepth 65536 in
theorem w_hears : about1.hears theMethod below0 = true := by decide +kernel
set_option maxRecDepth 65536 in
theorem w_ripe : about1.ripe theMethod args0 below0 = true := by decide +kernel
theorem w_running : about1.status = .running := rfl
set_option maxRecDepth 65536 in
theorem w_room : about1.hasRoom e0.platform room_1 = true :=
  launch0.hasRoom_least _ room_1 (by decide +kernel) (by decide +kernel) (by decide +kernel) (by decide +kernel) (by decide +kernel) (by decide +kernel)
theorem allAtoms_all (ts : List Jvm.Cond) (a : Array Jvm.Value) (st : Jvm.State) : (allAtoms ts).before a st = ts.all (fun c => c.before a st) := by
  induction ts with
  | nil => rfl
  | cons c t ih =>
    show (Jvm.Cond.and c (allAtoms t)).before a st = _
    rw [Jvm.Cond.before_and, ih, List.all_cons]
def words1 : List Jvm.Cond := Jvm.Cond.code x code maxLocals ret :: tables_1
/-- a 'code' word, met by the world's own term for the bytes: nothing is compared byte by byte -/
theorem code_word {y : MethodName} {bytes : ByteArray} {mx : Nat} {rt : Option FieldType} {a : Array Value} {s : State} {m : MethodId} {meth : Method} {c : Code} (h1 : s.methodNamed? y = some m) (h2 : s.vm.method? m = some meth) (h3 : meth.code = some c) (h4 : c.code = bytes)
    (h5 : (c.maxLocals == mx && c.exceptionTable.isEmpty && decide (c.maxStack ≤ mostOperands) && decide (meth.sig.returnType = rt) && !meth.locks && decide (parseMethodDescriptor y.desc = some meth.sig)) = true) : (Jvm.Cond.code y bytes mx rt).before a s = true := by
  simp only [Bool.and_eq_true, beq_iff_eq, Bool.not_eq_true', decide_eq_true_eq] at h5
  obtain ⟨⟨⟨⟨⟨g1, g2⟩, g3⟩, g4⟩, g5⟩, g6⟩ := h5
  simp [Cond.before, Cond.holds, Cond.value, h1, h2, h3, h4, g1, g2, g3, g4, g5, g6]
def isCode : Jvm.Cond → Bool
  | .code _ _ _ _ => true
  | _ => false
theorem all_split {L : List Jvm.Cond} {P : Jvm.Cond → Bool} (h1 : L.all (fun c => isCode c || P c) = true) (h2 : ∀ c ∈ L.filter isCode, P c = true) : L.all P = true := by
  refine List.all_eq_true.mpr fun c hc => ?_
  have h := List.all_eq_true.mp h1 c hc
  rcases Bool.eq_false_or_eq_true (isCode c) with hi | hi
  · exact h2 c (List.mem_filter.mpr ⟨hc, hi⟩)
  · simpa [hi] using h
set_option maxRecDepth 65536 in
theorem w_c0 : (Jvm.Cond.code x code maxLocals ret).before args0 about1 = true := code_word (m := ⟨1, 1⟩) (meth := k1m1) (c := k1c1) (by decide +kernel) rfl rfl rfl (by decide +kernel)
set_option maxRecDepth 65536 in
theorem w_c1 : (Jvm.Cond.code ({ cls := "com/example/round2/round2/eval/TopicResult", name := "<init>", desc := "(Ljava/lang/String;II[I)V" } : Jvm.MethodName) prog_10_method_1_code (5 : Nat) (Option.none : Option Jvm.ClassFile.FieldType)).before args0 about1 = true := code_word (m := ⟨2, 0⟩) (meth := k2m0) (c := k2c0) (by decide +kernel) rfl rfl rfl (by decide +kernel)
set_option maxRecDepth 65536 in
theorem w_c2 : (Jvm.Cond.code ({ cls := "java/lang/Object", name := "<init>", desc := "()V" } : Jvm.MethodName) object_method_1_code (1 : Nat) (Option.none : Option Jvm.ClassFile.FieldType)).before args0 about1 = true := code_word (m := ⟨0, 0⟩) (meth := k0m0) (c := k0c0) (by decide +kernel) rfl rfl rfl (by decide +kernel)
set_option maxRecDepth 65536 in
theorem w_c3 : (Jvm.Cond.code ({ cls := "com/example/round2/round2/eval/TopicResult", name := "averagePrecision", desc := "()D" } : Jvm.MethodName) prog_10_method_6_code (4 : Nat) (Option.some Jvm.ClassFile.FieldType.double)).before args0 about1 = true := code_word (m := ⟨2, 1⟩) (meth := k2m1) (c := k2c1) (by decide +kernel) rfl rfl rfl (by decide +kernel)
def codes1 : List Jvm.Cond := [Jvm.Cond.code x code maxLocals ret, Jvm.Cond.code ({ cls := "com/example/round2/round2/eval/TopicResult", name := "<init>", desc := "(Ljava/lang/String;II[I)V" } : Jvm.MethodName) prog_10_method_1_code (5 : Nat) (Option.none : Option Jvm.ClassFile.FieldType), Jvm.Cond.code ({ cls := "java/lang/Object", name := "<init>", desc := "()V" } : Jvm.MethodName) object_method_1_code (1 : Nat) (Option.none : Option Jvm.ClassFile.FieldType), Jvm.Cond.code ({ cls := "com/example/round2/round2/eval/TopicResult", name := "averagePrecision", desc := "()D" } : Jvm.MethodName) prog_10_method_6_code (4 : Nat) (Option.some Jvm.ClassFile.FieldType.double)]
set_option maxRecDepth 65536 in
theorem codes_eq : words1.filter isCode = codes1 := rfl
theorem w_codes : ∀ c ∈ words1.filter isCode, c.before args0 about1 = true := by
  rw [codes_eq]
  intro c hc
  simp only [codes1, List.mem_cons, List.not_mem_nil, or_false] at hc
  rcases hc with rfl | rfl | rfl | rfl
  · exact w_c0
  · exact w_c1
  · exact w_c2
  · exact w_c3
set_option maxRecDepth 65536 in
theorem w_t1 : (words1.take 24).all (fun c => isCode c || c.before args0 about1) = true := by decide +kernel
set_option maxRecDepth 65536 in
theorem w_t2 : (words1.drop 24).all (fun c => isCode c || c.before args0 about1) = true := by decide +kernel
theorem w_tables : (allAtoms (Jvm.Cond.code x code maxLocals ret :: tables_1)).before args0 about1 = true := by
  rw [allAtoms_all]
  show words1.all (fun c => c.before args0 about1) = true
  refine all_split ?_ w_codes
  rw [← List.take_append_drop 24 words1, List.all_append, w_t1, w_t2]
  rfl
set_option maxRecDepth 65536 in
theorem w_case : (Jvm.Cond.and given_1 narrow_1).before args0 about1 = true := by decide +kernel
theorem w_applies : (headSpec (Jvm.Cond.code x code maxLocals ret :: tables_1) room_1).applies x e0.platform about1 = true :=
  (Spec.applies_iff w_frames).mpr ⟨w_running, w_runnable, w_alone, w_named, w_hears, w_ripe, w_room, w_tables⟩
theorem atStart : AtStart classFile x code maxLocals ret World_1 tables_1 room_1 Calls_1 rest_1 Pre_1 launch0 p0 e0 about1 theMethod args0 below0 :=
  ⟨lists_1, trivial, launch0.admits_env _ _ _, launch0.least_env, fairChoices_fair.cas, fairChoices_fair.clock, w_frames, w_args, w_heap, w_applies, trivial, trivial, w_case⟩
end start1
theorem witness_1 : WitnessClaimed_1 := ⟨start1.p0, start1.e0, start1.about1, start1.theMethod, start1.args0, start1.below0, start1.atStart⟩
end Jvm.Pilot.@@N@@
