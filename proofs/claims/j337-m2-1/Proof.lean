import JvmDerived
import JvmDerived.Pilot.@@N@@Statement
import JvmDerived.Pilot.@@N@@Code
set_option linter.unusedVariables false
set_option linter.unusedSimpArgs false
namespace Jvm.OwnFp
open Jvm.FP.Core Op
/-! own: exact values. `Dyf f i k d`: the datum d is finite and worth i / 2^k. -/
def Dyf (f : Fmt) (i : Int) (k : Nat) (d : Datum) : Prop := (∃ s c q, d = .fin s c q) ∧ zval f d * 2 ^ k = i * 2 ^ (-f.qmin).toNat
theorem pw_pos (n : Nat) : (0 : Int) < 2 ^ n := Int.pow_pos (by decide)
theorem pw_cast (n : Nat) : ((2 ^ n : Nat) : Int) = 2 ^ n := by simp
theorem signed_abs (i : Int) : signed (decide (i < 0)) i.natAbs = i := by
  unfold signed
  by_cases h : i < 0 <;> simp [h] <;> omega
theorem signed_mulI (s : Bool) (c k : Nat) : signed s (c * 2 ^ k) = signed s c * 2 ^ k := by
  rw [signed_mul, pw_cast]
theorem vex {f : Fmt} (hf : Good f) {i : Int} {k : Nat} (hi : i.natAbs < 2 ^ f.p) (hk : (k : Int) ≤ -f.qmin) (hq : 0 ≤ f.qmax) :
    ∃ s c q, FP.Core.fits f (.fin s c q) ∧ zval f (.fin s c q) * 2 ^ k = i * 2 ^ (-f.qmin).toNat := by
  obtain ⟨c', q', h, hu⟩ := round_exact hf (decide (i < 0)) (c := i.natAbs) (q := -(k : Int)) hi (by omega) (by omega)
  refine ⟨_, c', q', h ▸ round_fits hf _, ?_⟩
  show signed (decide (i < 0)) (inUnits c' q' f.qmin) * 2 ^ k = _
  rw [hu]
  unfold inUnits
  rw [signed_mulI, signed_abs, Int.mul_assoc, ← Int.pow_add, show (-(k : Int) - f.qmin).toNat + k = (-f.qmin).toNat by omega]
theorem dyf_of_zval {f : Fmt} (hf : Good f) {s : Bool} {A B : Nat} {e : Int} {s' : Bool} {c' : Nat} {q' : Int} (hV : FP.Core.fits f (.fin s' c' q'))
    (hz : zval f (roundRatio f s A B e) = zval f (.fin s' c' q')) : ∃ s₀ c₀ q₀, roundRatio f s A B e = .fin s₀ c₀ q₀ := by
  rcases roundRatio_cases f s A B e with ⟨c, q, h⟩ | h
  · exact ⟨s, c, q, h⟩
  · exfalso
    rw [h] at hz
    have h1 := zmag_lt_top hf hV
    have h2 := congrArg Int.natAbs hz
    unfold zval at h2
    rw [natAbs_signed, natAbs_signed] at h2
    have h3 : zmag f (.inf s) = f.tails * 2 ^ (f.exps - 2) := rfl
    have h4 : zmag f (.fin s' c' q') = inUnits c' q' f.qmin := rfl
    omega
/-- an exact result that the format holds is not rounded -/
theorem rnd {f : Fmt} (hf : Good f) (hq : 0 ≤ f.qmax) {s : Bool} {c : Nat} {q e0 : Int} (h0 : e0 ≤ f.qmin) (h0e : e0 ≤ q) {i : Int} {k : Nat} (hi : i.natAbs < 2 ^ f.p) (hk : (k : Int) ≤ -f.qmin)
    (h : signed s (inUnits c q e0) * 2 ^ k = i * 2 ^ (-f.qmin).toNat * 2 ^ (f.qmin - e0).toNat) : Dyf f i k (round f (.fin s c q)) := by
  obtain ⟨s', c', q', hV, hv⟩ := vex hf hi hk hq
  have hn : Datum.fin s' c' q' ≠ .nan := nofun
  have he : zval f (.fin s' c' q') * ((2 ^ (f.qmin - e0).toNat : Nat) : Int) = signed s (inUnits c q e0) := by
    refine Int.eq_of_mul_eq_mul_right (Int.ne_of_gt (pw_pos k)) ?_
    rw [h, ← hv, pw_cast]; ac_rfl
  have hz : zval f (round f (.fin s c q)) = zval f (.fin s' c' q') :=
    Int.le_antisymm (zval_round_le hf hV hn h0 h0e (Int.le_of_eq he.symm)) (zval_round_ge hf hV hn h0 h0e (Int.le_of_eq he))
  exact ⟨dyf_of_zval hf hV hz, by rw [hz]; exact hv⟩
theorem Dyf.fit {f : Fmt} {i : Int} {k : Nat} {d : Datum} (h : Dyf f i k d) : ∃ s c q, d = .fin s c q := h.1
theorem Dyf.up {f : Fmt} {i : Int} {k : Nat} {d : Datum} (h : Dyf f i k d) (l : Nat) : Dyf f (i * 2 ^ l) (k + l) d :=
  ⟨h.1, by rw [Int.pow_add, ← Int.mul_assoc, h.2]; ac_rfl⟩
theorem Dyf.to {f : Fmt} {i j : Int} {k l : Nat} {d : Datum} (h : Dyf f i k d) (e : i * 2 ^ l = j * 2 ^ k) : Dyf f j l d := by
  refine ⟨h.1, Int.eq_of_mul_eq_mul_right (Int.ne_of_gt (pw_pos k)) ?_⟩
  calc zval f d * 2 ^ l * 2 ^ k = (zval f d * 2 ^ k) * 2 ^ l := by ac_rfl
    _ = (i * 2 ^ l) * 2 ^ (-f.qmin).toNat := by rw [h.2]; ac_rfl
    _ = j * 2 ^ (-f.qmin).toNat * 2 ^ k := by rw [e]; ac_rfl
theorem Dyf.sum {f : Fmt} (hf : Good f) (hq : 0 ≤ f.qmax) {i j : Int} {k : Nat} {x y : Datum} (fx : FP.Core.fits f x) (fy : FP.Core.fits f y) (hx : Dyf f i k x) (hy : Dyf f j k y) (hi : (i + j).natAbs < 2 ^ f.p) (hk : (k : Int) ≤ -f.qmin) :
    Dyf f (i + j) k (round f (exactSum x y)) := by
  obtain ⟨⟨s, c, q, rfl⟩, hx⟩ := hx
  obtain ⟨⟨t, d, r, rfl⟩, hy⟩ := hy
  obtain ⟨sg, n, e, he, hle, hu⟩ := sum_units fx fy
  rw [he]
  refine rnd hf hq (Int.le_refl _) hle hi hk ?_
  rw [hu, Int.add_mul, hx, hy, Int.add_mul, Int.sub_self]
  simp
theorem Dyf.neg {f : Fmt} {i : Int} {k : Nat} {x : Datum} (hx : Dyf f i k x) : Dyf f (-i) k (negate x) := by
  obtain ⟨⟨s, c, q, rfl⟩, hx⟩ := hx
  refine ⟨⟨_, _, _, rfl⟩, ?_⟩
  rw [zval_negate, Int.neg_mul, hx, Int.neg_mul]
theorem Dyf.prod {f : Fmt} (hf : Good f) (hq : 0 ≤ f.qmax) {i j : Int} {k l : Nat} {x y : Datum} (fx : FP.Core.fits f x) (fy : FP.Core.fits f y) (hx : Dyf f i k x) (hy : Dyf f j l y) (hi : (i * j).natAbs < 2 ^ f.p) (hk : ((k + l : Nat) : Int) ≤ -f.qmin) :
    Dyf f (i * j) (k + l) (round f (exactProduct x y)) := by
  obtain ⟨⟨s, c, q, rfl⟩, hx⟩ := hx
  obtain ⟨⟨t, d, r, rfl⟩, hy⟩ := hy
  obtain ⟨he, hle, hu⟩ := product_units fx fy
  rw [he]
  have hn := qmin_neg hf
  refine rnd hf hq (e0 := 2 * f.qmin) (by omega) hle hi hk ?_
  rw [hu, signed_xor, show (f.qmin - 2 * f.qmin).toNat = (-f.qmin).toNat by omega, Int.pow_add]
  calc zval f (.fin s c q) * zval f (.fin t d r) * (2 ^ k * 2 ^ l) = (zval f (.fin s c q) * 2 ^ k) * (zval f (.fin t d r) * 2 ^ l) := by ac_rfl
    _ = _ := by rw [hx, hy]; ac_rfl
theorem natAbs_pow (n : Nat) : ((2 : Int) ^ n).natAbs = 2 ^ n := by rw [Int.natAbs_pow]; rfl
theorem natAbs_zval (f : Fmt) (d : Datum) : (zval f d).natAbs = zmag f d := natAbs_signed _ _
/-- an exact quotient that the format holds is not rounded -/
theorem Dyf.quot {f : Fmt} (hf : Good f) (hq : 0 ≤ f.qmax) {i j n : Int} {k l m : Nat} {x y : Datum} (fx : FP.Core.fits f x) (fy : FP.Core.fits f y) (hx : Dyf f i k x) (hy : Dyf f j l y) (hj : j ≠ 0) (hi : n.natAbs < 2 ^ f.p) (hm : (m : Int) ≤ -f.qmin)
    (e : i * 2 ^ l * 2 ^ m = n * j * 2 ^ k) : Dyf f n m (quotient f x y) := by
  obtain ⟨⟨s, c, q, rfl⟩, hx⟩ := hx
  obtain ⟨⟨t, d, r, rfl⟩, hy⟩ := hy
  obtain ⟨s', c', q', hV, hv⟩ := vex hf hi hm hq
  have hn : Datum.fin s' c' q' ≠ .nan := nofun
  have hqm := qmin_neg hf
  have fx1 := fx.2.1
  have fy1 := fy.2.1
  -- the signed equation
  have hz : zval f (.fin s c q) * 2 ^ (-f.qmin).toNat = zval f (.fin s' c' q') * zval f (.fin t d r) := by
    refine Int.eq_of_mul_eq_mul_right (Int.ne_of_gt (Int.mul_pos (Int.mul_pos (pw_pos k) (pw_pos l)) (pw_pos m))) ?_
    calc zval f (.fin s c q) * 2 ^ (-f.qmin).toNat * (2 ^ k * 2 ^ l * 2 ^ m) = (zval f (.fin s c q) * 2 ^ k) * (2 ^ l * 2 ^ m) * 2 ^ (-f.qmin).toNat := by ac_rfl
      _ = (i * 2 ^ l * 2 ^ m) * 2 ^ (-f.qmin).toNat * 2 ^ (-f.qmin).toNat := by rw [hx]; ac_rfl
      _ = (n * 2 ^ (-f.qmin).toNat) * (j * 2 ^ (-f.qmin).toNat) * 2 ^ k := by rw [e]; ac_rfl
      _ = (zval f (.fin s' c' q') * 2 ^ m) * (zval f (.fin t d r) * 2 ^ l) * 2 ^ k := by rw [hv, hy]
      _ = _ := by ac_rfl
  have hzb : zval f (.fin t d r) ≠ 0 := by
    intro h0
    rw [h0, Int.zero_mul] at hy
    rcases Int.mul_eq_zero.mp hy.symm with h | h
    · exact hj h
    · exact absurd h (Int.ne_of_gt (pw_pos _))
  have hd : d ≠ 0 := by
    rintro rfl
    apply hzb
    show signed t (inUnits 0 r f.qmin) = 0
    unfold inUnits; rw [Nat.zero_mul, signed_zero]
  have hmag : zmag f (.fin s c q) * 2 ^ (-f.qmin).toNat = zmag f (.fin s' c' q') * zmag f (.fin t d r) := by
    have h2 := congrArg Int.natAbs hz
    rw [Int.natAbs_mul, Int.natAbs_mul, natAbs_pow, natAbs_zval, natAbs_zval, natAbs_zval] at h2
    exact h2
  have hun : inUnits c (q - r) (2 * f.qmin - r) = zmag f (.fin s' c' q') * 2 ^ (f.qmin - (2 * f.qmin - r)).toNat * d := by
    have a1 : inUnits c (q - r) (2 * f.qmin - r) = zmag f (.fin s c q) * 2 ^ (-f.qmin).toNat := by
      show c * 2 ^ _ = c * 2 ^ _ * 2 ^ _
      rw [Nat.mul_assoc, ← Nat.pow_add, show (q - r - (2 * f.qmin - r)).toNat = (q - f.qmin).toNat + (-f.qmin).toNat by omega]
    rw [a1, hmag, show (f.qmin - (2 * f.qmin - r)).toNat = (r - f.qmin).toNat by omega]
    show _ * (d * 2 ^ _) = _
    ac_rfl
  have hqt : quotient f (.fin s c q) (.fin t d r) = roundRatio f (s != t) c d (q - r) := by
    show (if d = 0 then _ else _) = _
    rw [if_neg hd]
  have hm2 : zmag f (roundRatio f (s != t) c d (q - r)) = zmag f (.fin s' c' q') :=
    Nat.le_antisymm (zmag_roundRatio_le hf (e0 := 2 * f.qmin - r) (Nat.pos_of_ne_zero hd) hV hn (by omega) (by omega) (Nat.le_of_eq hun))
      (zmag_roundRatio_ge hf (e0 := 2 * f.qmin - r) (Nat.pos_of_ne_zero hd) hV (by omega) (by omega) (Nat.le_of_eq hun.symm))
  have hsg : signed (s != t) (zmag f (.fin s' c' q')) = zval f (.fin s' c' q') := by
    have p0 : zmag f (.fin s c q) = inUnits c q f.qmin := rfl
    have hS : zval f (.fin s c q) * 2 ^ (-f.qmin).toNat * zval f (.fin t d r) = zval f (.fin s' c' q') * (zval f (.fin t d r) * zval f (.fin t d r)) := by rw [hz]; ac_rfl
    by_cases h0 : zmag f (.fin s' c' q') = 0
    · unfold zval; rw [h0, signed_zero, signed_zero]
    · have hbb : 0 < zval f (.fin t d r) * zval f (.fin t d r) := by
        rcases Int.lt_or_gt_of_ne hzb with h | h
        · exact Int.mul_pos_of_neg_of_neg h h
        · exact Int.mul_pos h h
      have hst : zval f (.fin s c q) * zval f (.fin t d r) = signed (s != t) (zmag f (.fin s c q) * zmag f (.fin t d r)) := by
        rw [signed_xor]; rfl
      have e1 : zval f (.fin s' c' q') * (zval f (.fin t d r) * zval f (.fin t d r)) = signed (s != t) (zmag f (.fin s c q) * zmag f (.fin t d r)) * 2 ^ (-f.qmin).toNat := by
        rw [← hS, ← hst]; ac_rfl
      have e2 : signed (s != t) (zmag f (.fin s c q) * zmag f (.fin t d r)) * 2 ^ (-f.qmin).toNat = signed (s != t) (zmag f (.fin s' c' q')) * (zval f (.fin t d r) * zval f (.fin t d r)) := by
        rw [← signed_mulI, show zmag f (.fin s c q) * zmag f (.fin t d r) * 2 ^ (-f.qmin).toNat = zmag f (.fin s' c' q') * (zmag f (.fin t d r) * zmag f (.fin t d r)) by rw [Nat.mul_right_comm, hmag]; ac_rfl, signed_mul]
        congr 1
        unfold zval
        rw [Int.natCast_mul]
        cases (sgn (.fin t d r)) <;> simp [signed, Int.neg_mul_neg]
      exact Int.eq_of_mul_eq_mul_right (Int.ne_of_gt hbb) (e2.symm.trans e1.symm)
  have hzz : zval f (roundRatio f (s != t) c d (q - r)) = zval f (.fin s' c' q') := by
    rw [← hsg]
    show signed (sgn (roundRatio f (s != t) c d (q - r))) (zmag f (roundRatio f (s != t) c d (q - r))) = _
    rw [sgn_roundRatio, hm2]
  rw [hqt]
  exact ⟨dyf_of_zval hf hV hzz, by rw [hzz]; exact hv⟩
theorem Dyf.ofInt {f : Fmt} (hf : Good f) (hq : 0 ≤ f.qmax) {i : Int} (hi : i.natAbs < 2 ^ f.p) : Dyf f i 0 (round f (FP.Core.ofInt i)) := by
  have hn := qmin_neg hf
  refine rnd hf hq (Int.le_refl _) (by omega) hi (by omega) ?_
  unfold inUnits
  rw [signed_mulI, signed_abs, Int.sub_self]
  simp
theorem Dyf.order {f : Fmt} (hf : Good f) {i j : Int} {k : Nat} {x y : Datum} (fx : FP.Core.fits f x) (fy : FP.Core.fits f y) (hx : Dyf f i k x) (hy : Dyf f j k y) : order x y = some (compare i j) := by
  obtain ⟨⟨s, c, q, rfl⟩, hx⟩ := hx
  obtain ⟨⟨t, d, r, rfl⟩, hy⟩ := hy
  rw [order_zval hf fx fy nofun nofun, ← compare_mul_pos _ _ _ (pw_pos k), hx, hy, compare_mul_pos _ _ _ (pw_pos _)]
/-! doubles -/
def Dy (i : Int) (k : Nat) (a : UInt64) : Prop := Dyf b64 i k (val64 a)
theorem qm64 : (0 : Int) ≤ b64.qmax := by decide
theorem Dy.fin {i : Int} {k : Nat} {a : UInt64} (h : Dy i k a) : DFin a := h.1
theorem Dy.nn {i : Int} {k : Nat} {a : UInt64} (h : Dy i k a) : Jvm.Free.Fl.NoNaN64 a := (Jvm.Free.Fl.fin64_core.mpr h.1).noNaN
theorem Dy.to {i j : Int} {k l : Nat} {a : UInt64} (h : Dy i k a) (e : i * 2 ^ l = j * 2 ^ k) : Dy j l a := Dyf.to h e
theorem Dy.up {i : Int} {k : Nat} {a : UInt64} (h : Dy i k a) (l : Nat) : Dy (i * 2 ^ l) (k + l) a := Dyf.up h l
theorem Dy.add {i j : Int} {k : Nat} {a b : UInt64} (ha : Dy i k a) (hb : Dy j k b) (hi : (i + j).natAbs < 9007199254740992) (hk : k ≤ 1074) : Dy (i + j) k (FP.dadd a b) := by
  show Dyf b64 _ _ (val64 (dadd a b))
  rw [val64_dadd]
  exact Dyf.sum good_b64 qm64 (val64_fits a) (val64_fits b) ha hb hi (by rw [qmin_b64]; omega)
theorem Dy.sub {i j : Int} {k : Nat} {a b : UInt64} (ha : Dy i k a) (hb : Dy j k b) (hi : (i - j).natAbs < 9007199254740992) (hk : k ≤ 1074) : Dy (i - j) k (FP.dsub a b) := by
  show Dyf b64 _ _ (val64 (dsub a b))
  rw [val64_dsub]
  exact Dyf.sum good_b64 qm64 (val64_fits a) (negate_fits (val64_fits b)) ha hb.neg hi (by rw [qmin_b64]; omega)
theorem Dy.mul {i j : Int} {k l : Nat} {a b : UInt64} (ha : Dy i k a) (hb : Dy j l b) (hi : (i * j).natAbs < 9007199254740992) (hk : k + l ≤ 1074) : Dy (i * j) (k + l) (FP.dmul a b) := by
  show Dyf b64 _ _ (val64 (dmul a b))
  rw [val64_dmul]
  exact Dyf.prod good_b64 qm64 (val64_fits a) (val64_fits b) ha hb hi (by rw [qmin_b64]; omega)
theorem Dy.div {i j n : Int} {k l m : Nat} {a b : UInt64} (ha : Dy i k a) (hb : Dy j l b) (hj : j ≠ 0) (hi : n.natAbs < 9007199254740992) (hk : m ≤ 1074) (e : i * 2 ^ l * 2 ^ m = n * j * 2 ^ k) : Dy n m (FP.ddiv a b) := by
  show Dyf b64 _ _ (val64 (ddiv a b))
  rw [val64_ddiv]
  exact Dyf.quot good_b64 qm64 (val64_fits a) (val64_fits b) ha hb hj hi (by rw [qmin_b64]; omega) e
theorem Dy.neg {i : Int} {k : Nat} {a : UInt64} (ha : Dy i k a) : Dy (-i) k (FP.dneg a) := by
  show Dyf b64 _ _ (val64 (FP.dneg a))
  rw [Jvm.FP.val64_dneg]
  exact Dyf.neg ha
theorem Dy.i2d (x : Int32) : Dy x.toInt 0 (FP.i2d x) := by
  show Dyf b64 _ _ (val64 (FP.Core.i2d x))
  rw [val64_i2d]
  exact Dyf.ofInt good_b64 qm64 (by have := int32_abs x; show _ < 2 ^ 53; omega)
theorem Dy.l2d {x : Int64} (h : x.toInt.natAbs < 9007199254740992) : Dy x.toInt 0 (FP.l2d x) := by
  show Dyf b64 _ _ (val64 (FP.Core.l2d x))
  rw [val64_l2d]
  exact Dyf.ofInt good_b64 qm64 h
theorem Dy.cmp {i j : Int} {k : Nat} {a b : UInt64} (ha : Dy i k a) (hb : Dy j k b) : FP.dcmp a b = some (compare i j) :=
  Dyf.order good_b64 (val64_fits a) (val64_fits b) ha hb
theorem Dy.cmp_eq {i j : Int} {k : Nat} {a b : UInt64} (ha : Dy i k a) (hb : Dy j k b) (e : i = j) (o : ClassFile.CmpOp) : cmpValue (FP.dcmp a b) o = 0 := by
  rw [ha.cmp hb, e, compare_self_int]; rfl
theorem Dy.cmp_lt {i j : Int} {k : Nat} {a b : UInt64} (ha : Dy i k a) (hb : Dy j k b) (e : i < j) (o : ClassFile.CmpOp) : cmpValue (FP.dcmp a b) o = -1 := by
  rw [ha.cmp hb, show compare i j = .lt by rw [compare_ite, if_pos e]]; rfl
theorem Dy.cmp_gt {i j : Int} {k : Nat} {a b : UInt64} (ha : Dy i k a) (hb : Dy j k b) (e : j < i) (o : ClassFile.CmpOp) : cmpValue (FP.dcmp a b) o = 1 := by
  rw [ha.cmp hb, show compare i j = .gt by rw [compare_ite, if_neg (by omega), if_neg (by omega)]]; rfl
theorem dy_of {i : Int} {k : Nat} {a : UInt64} {s : Bool} {c : Nat} {q : Int} (h : val64 a = .fin s c q) (e : zval b64 (.fin s c q) * 2 ^ k = i * 2 ^ 1074) : Dy i k a :=
  ⟨⟨s, c, q, h⟩, by rw [h, e]; rfl⟩
theorem dy0 (k : Nat) : Dy 0 k (0 : UInt64) := dy_of (s := false) (c := 0) (q := -1074) (by decide +kernel) (by
  rw [show zval b64 (.fin false 0 (-1074)) = 0 from rfl, Int.zero_mul, Int.zero_mul])
theorem dy1 (k : Nat) : Dy (2 ^ k) k (4607182418800017408 : UInt64) := dy_of (s := false) (c := 2 ^ 52) (q := -52) (by decide +kernel) (by
  rw [show zval b64 (.fin false (2 ^ 52) (-52)) = 2 ^ 1074 by decide +kernel, Int.mul_comm])
theorem Dy.ge {i j : Int} {k : Nat} {a b : UInt64} (ha : Dy i k a) (hb : Dy j k b) (e : j ≤ i) (o : ClassFile.CmpOp) : ¬ (cmpValue (FP.dcmp a b) o < (0 : Int32)) := by
  rcases Int.lt_or_eq_of_le e with h | h
  · rw [ha.cmp_gt hb h]; decide
  · rw [ha.cmp_eq hb h.symm]; decide
theorem Dy.le {i j : Int} {k : Nat} {a b : UInt64} (ha : Dy i k a) (hb : Dy j k b) (e : i ≤ j) (o : ClassFile.CmpOp) : ¬ ((0 : Int32) < cmpValue (FP.dcmp a b) o) := by
  rcases Int.lt_or_eq_of_le e with h | h
  · rw [ha.cmp_lt hb h]; decide
  · rw [ha.cmp_eq hb h]; decide
theorem Dy.lt_inf {i : Int} {k : Nat} {a : UInt64} (ha : Dy i k a) (o : ClassFile.CmpOp) : cmpValue (FP.dcmp a (9218868437227405312 : UInt64)) o < (0 : Int32) := by
  rw [Jvm.RoadKit.dcmp_pinf (Jvm.Free.Fl.fin64_core.mpr ha.1)]; decide
theorem isfin {a : UInt64} (h : DFin a) : ¬ ((0 : Int32) < cmpValue (FP.dcmp (a &&& 0x7fffffffffffffff) (9218868437227405311 : UInt64)) .g) := by
  have hn : dIsNaN a = false := (notNaN_iff a).mpr (by obtain ⟨s, c, q, e⟩ := h; rw [e]; exact nofun)
  rcases (le_max hn).mpr h with e | e <;> rw [show FP.dcmp (a &&& 0x7fffffffffffffff) (9218868437227405311 : UInt64) = _ from e] <;> decide
theorem since0 (s : State) : s.Since s.vm 0 := ⟨State.Warmed39.refl s, fun j p h1 h2 => by
  rw [Array.getElem?_eq_none h1] at h2; cases h2⟩
theorem i2d_nz {v : Int32} (h : v ≠ 0) : ¬ DZero (FP.i2d v) := fun q => i2d_ne_zero h ((zero_bits2 _).mp q)
theorem nn_of {x : UInt64} (h : dIsNaN x = false) : Jvm.Free.Fl.NoNaN64 x := Jvm.Free.Fl.noNaN64_no.mpr h
theorem no_of {x : UInt64} (h : Jvm.Free.Fl.NoNaN64 x) : dIsNaN x = false := Jvm.Free.Fl.noNaN64_no.mp h
theorem no_fin {x : UInt64} (h : DFin x) : dIsNaN x = false := (notNaN_iff x).mpr (by obtain ⟨s, c, q, e⟩ := h; rw [e]; exact nofun)
theorem nn_div {a : UInt64} {v : Int32} (ha : dIsNaN a = false) (h : v ≠ 0) : Jvm.Free.Fl.NoNaN64 (FP.ddiv a (FP.i2d v)) := nn_of (ddiv_out ha (i2d_fin v) (i2d_nz h))
theorem fin_div (a : Int32) {v : Int32} (h : v ≠ 0) : DFin (FP.ddiv (FP.i2d a) (FP.i2d v)) := by
  have h1 := i2d_mag a
  have h2 := i2d_big (v := v) (fun q => h (Int32.toInt_inj.mp q))
  exact fin_of_lt (ddiv_mag h1 h2.1 h2.2 (by decide) (by decide)) (by decide)
end Jvm.OwnFp
namespace Jvm.OwnFp
open Jvm.FP.Core Op
/-! own: bounds of a rounded quotient of positive numbers -/
theorem sgn_pos {f : Fmt} {s : Bool} {c : Nat} {q : Int} (h : 0 < zval f (.fin s c q)) : s = false := by
  cases s with
  | false => rfl
  | true =>
    have : zval f (.fin true c q) = -((inUnits c q f.qmin : Nat) : Int) := rfl
    rw [this] at h
    have := Int.natCast_nonneg (inUnits c q f.qmin)
    omega
theorem Dyf.zpos {f : Fmt} {i : Int} {k : Nat} {d : Datum} (h : Dyf f i k d) (hi : 0 < i) : 0 < zval f d := by
  have e := h.2
  have p1 : 0 < i * 2 ^ (-f.qmin).toNat := Int.mul_pos hi (pw_pos _)
  rw [← e] at p1
  rcases Int.lt_or_le 0 (zval f d) with h | h
  · exact h
  · have := Int.mul_le_mul_of_nonneg_right h (Int.le_of_lt (pw_pos k))
    rw [Int.zero_mul] at this
    omega
theorem zval_mag {f : Fmt} {d : Datum} (h : 0 ≤ zval f d) : zval f d = (zmag f d : Int) := by
  have := natAbs_zval f d
  omega
theorem quot_sides {f : Fmt} (hf : Good f) (hq : 0 ≤ f.qmax) {i j n : Int} {k l m : Nat} {x y : Datum} (fx : FP.Core.fits f x) (fy : FP.Core.fits f y) (hx : Dyf f i k x) (hy : Dyf f j l y) (hi : 0 < i) (hj : 0 < j) (hn0 : 0 ≤ n) (hn : n.natAbs < 2 ^ f.p) (hm : (m : Int) ≤ -f.qmin) :
    (i * 2 ^ l * 2 ^ m ≤ n * j * 2 ^ k → zval f (quotient f x y) * 2 ^ m ≤ n * 2 ^ (-f.qmin).toNat) ∧ (n * j * 2 ^ k ≤ i * 2 ^ l * 2 ^ m → n * 2 ^ (-f.qmin).toNat ≤ zval f (quotient f x y) * 2 ^ m) := by
  have px := hx.zpos hi
  have py := hy.zpos hj
  obtain ⟨⟨s, c, q, rfl⟩, hx⟩ := hx
  obtain ⟨⟨t, d, r, rfl⟩, hy⟩ := hy
  obtain ⟨s', c', q', hV, hv⟩ := vex hf hn hm hq
  have hnn : Datum.fin s' c' q' ≠ .nan := nofun
  have hqm := qmin_neg hf
  have fx1 := fx.2.1
  have fy1 := fy.2.1
  have pv : 0 ≤ zval f (.fin s' c' q') := by
    have : 0 ≤ n * 2 ^ (-f.qmin).toNat := Int.mul_nonneg hn0 (Int.le_of_lt (pw_pos _))
    rw [← hv] at this
    rcases Int.lt_or_le (zval f (.fin s' c' q')) 0 with h | h
    · have := Int.mul_neg_of_neg_of_pos h (pw_pos m)
      omega
    · exact h
  have hs := sgn_pos px
  have ht := sgn_pos py
  subst hs ht
  have X := zval_mag (Int.le_of_lt px)
  have Y := zval_mag (Int.le_of_lt py)
  have W := zval_mag pv
  have hd : d ≠ 0 := by
    rintro rfl
    have : zval f (.fin false 0 r) = 0 := by show signed false (inUnits 0 r f.qmin) = 0; unfold inUnits; rw [Nat.zero_mul]; rfl
    omega
  have hqt : quotient f (.fin false c q) (.fin false d r) = roundRatio f (false != false) c d (q - r) := by
    show (if d = 0 then _ else _) = _
    rw [if_neg hd]
  have a1 : inUnits c (q - r) (2 * f.qmin - r) = zmag f (.fin false c q) * 2 ^ (-f.qmin).toNat := by
    show c * 2 ^ _ = c * 2 ^ _ * 2 ^ _
    rw [Nat.mul_assoc, ← Nat.pow_add, show (q - r - (2 * f.qmin - r)).toNat = (q - f.qmin).toNat + (-f.qmin).toNat by omega]
  have a2 : zmag f (.fin s' c' q') * 2 ^ (f.qmin - (2 * f.qmin - r)).toNat * d = zmag f (.fin s' c' q') * zmag f (.fin false d r) := by
    rw [show (f.qmin - (2 * f.qmin - r)).toNat = (r - f.qmin).toNat by omega]
    show _ = _ * (d * 2 ^ _)
    ac_rfl
  have PP : (0 : Int) < 2 ^ k * 2 ^ l * 2 ^ m := Int.mul_pos (Int.mul_pos (pw_pos k) (pw_pos l)) (pw_pos m)
  have L1 : zval f (.fin false c q) * 2 ^ (-f.qmin).toNat * (2 ^ k * 2 ^ l * 2 ^ m) = (i * 2 ^ l * 2 ^ m) * (2 ^ (-f.qmin).toNat * 2 ^ (-f.qmin).toNat) := by
    calc zval f (.fin false c q) * 2 ^ (-f.qmin).toNat * (2 ^ k * 2 ^ l * 2 ^ m) = (zval f (.fin false c q) * 2 ^ k) * (2 ^ l * 2 ^ m) * 2 ^ (-f.qmin).toNat := by ac_rfl
      _ = _ := by rw [hx]; ac_rfl
  have R1 : zval f (.fin s' c' q') * zval f (.fin false d r) * (2 ^ k * 2 ^ l * 2 ^ m) = (n * j * 2 ^ k) * (2 ^ (-f.qmin).toNat * 2 ^ (-f.qmin).toNat) := by
    calc zval f (.fin s' c' q') * zval f (.fin false d r) * (2 ^ k * 2 ^ l * 2 ^ m) = (zval f (.fin s' c' q') * 2 ^ m) * (zval f (.fin false d r) * 2 ^ l) * 2 ^ k := by ac_rfl
      _ = _ := by rw [hv, hy]; ac_rfl
  have QQ : (0 : Int) ≤ 2 ^ (-f.qmin).toNat * 2 ^ (-f.qmin).toNat := Int.le_of_lt (Int.mul_pos (pw_pos _) (pw_pos _))
  have zR : zval f (roundRatio f (false != false) c d (q - r)) = (zmag f (roundRatio f (false != false) c d (q - r)) : Int) := by
    show signed (sgn (roundRatio f (false != false) c d (q - r))) (zmag f (roundRatio f (false != false) c d (q - r))) = _
    rw [sgn_roundRatio]; rfl
  rw [hqt, zR, ← hv, W]
  constructor
  · intro e
    have h1 := Int.mul_le_mul_of_nonneg_right e QQ
    rw [← L1, ← R1] at h1
    have h2 := Int.le_of_mul_le_mul_right h1 PP
    rw [X, Y, W, ← pw_cast, ← Int.natCast_mul, ← Int.natCast_mul] at h2
    have h3 := Int.ofNat_le.mp h2
    have := zmag_roundRatio_le hf (s := false != false) (A := c) (B := d) (e := q - r) (e0 := 2 * f.qmin - r) (Nat.pos_of_ne_zero hd) hV hnn (by omega) (by omega) (by rw [a1, a2]; exact h3)
    exact Int.mul_le_mul_of_nonneg_right (Int.ofNat_le.mpr this) (Int.le_of_lt (pw_pos m))
  · intro e
    have h1 := Int.mul_le_mul_of_nonneg_right e QQ
    rw [← L1, ← R1] at h1
    have h2 := Int.le_of_mul_le_mul_right h1 PP
    rw [X, Y, W, ← pw_cast, ← Int.natCast_mul, ← Int.natCast_mul] at h2
    have h3 := Int.ofNat_le.mp h2
    have := zmag_roundRatio_ge hf (s := false != false) (A := c) (B := d) (e := q - r) (e0 := 2 * f.qmin - r) (Nat.pos_of_ne_zero hd) hV (by omega) (by omega) (by rw [a1, a2]; exact h3)
    exact Int.mul_le_mul_of_nonneg_right (Int.ofNat_le.mpr this) (Int.le_of_lt (pw_pos m))
def DLe (a : UInt64) (n : Int) (m : Nat) : Prop := DFin a ∧ zval b64 (val64 a) * 2 ^ m ≤ n * 2 ^ (-b64.qmin).toNat
def DGe (a : UInt64) (n : Int) (m : Nat) : Prop := DFin a ∧ n * 2 ^ (-b64.qmin).toNat ≤ zval b64 (val64 a) * 2 ^ m
theorem ddiv_dle {i j n : Int} {k l m : Nat} {a b : UInt64} (ha : Dy i k a) (hb : Dy j l b) (hi : 0 < i) (hj : 0 < j) (hn0 : 0 ≤ n) (hn : n.natAbs < 9007199254740992) (hm : m ≤ 1074) (hF : DFin (FP.ddiv a b)) (e : i * 2 ^ l * 2 ^ m ≤ n * j * 2 ^ k) : DLe (FP.ddiv a b) n m := by
  refine ⟨hF, ?_⟩
  rw [show val64 (FP.ddiv a b) = _ from val64_ddiv a b]
  exact (quot_sides good_b64 qm64 (val64_fits a) (val64_fits b) ha hb hi hj hn0 hn (by rw [qmin_b64]; omega)).1 e
theorem ddiv_dge {i j n : Int} {k l m : Nat} {a b : UInt64} (ha : Dy i k a) (hb : Dy j l b) (hi : 0 < i) (hj : 0 < j) (hn0 : 0 ≤ n) (hn : n.natAbs < 9007199254740992) (hm : m ≤ 1074) (hF : DFin (FP.ddiv a b)) (e : n * j * 2 ^ k ≤ i * 2 ^ l * 2 ^ m) : DGe (FP.ddiv a b) n m := by
  refine ⟨hF, ?_⟩
  rw [show val64 (FP.ddiv a b) = _ from val64_ddiv a b]
  exact (quot_sides good_b64 qm64 (val64_fits a) (val64_fits b) ha hb hi hj hn0 hn (by rw [qmin_b64]; omega)).2 e
theorem fin_nn {a : UInt64} (h : DFin a) : val64 a ≠ .nan := by obtain ⟨s, c, q, e⟩ := h; rw [e]; exact nofun
theorem DLe.cmp_lt {a b : UInt64} {n n' : Int} {m : Nat} (ha : DLe a n m) (hb : Dy n' m b) (h : n < n') (o : ClassFile.CmpOp) : cmpValue (FP.dcmp a b) o = -1 := by
  have e := hb.2
  have h1 := Int.mul_lt_mul_of_pos_right h (pw_pos (-b64.qmin).toNat)
  have h2 : zval b64 (val64 a) * 2 ^ m < zval b64 (val64 b) * 2 ^ m := by rw [e]; exact Int.lt_of_le_of_lt ha.2 h1
  have h3 := Int.lt_of_mul_lt_mul_right h2 (Int.le_of_lt (pw_pos m))
  rw [show FP.dcmp a b = _ from dcmp_zval (fin_nn ha.1) (fin_nn hb.1), show compare (zval b64 (val64 a)) (zval b64 (val64 b)) = .lt by rw [compare_ite, if_pos h3]]
  rfl
theorem DGe.cmp_gt {a b : UInt64} {n n' : Int} {m : Nat} (ha : DGe a n m) (hb : Dy n' m b) (h : n' < n) (o : ClassFile.CmpOp) : cmpValue (FP.dcmp a b) o = 1 := by
  have e := hb.2
  have h1 := Int.mul_lt_mul_of_pos_right h (pw_pos (-b64.qmin).toNat)
  have h2 : zval b64 (val64 b) * 2 ^ m < zval b64 (val64 a) * 2 ^ m := by rw [e]; exact Int.lt_of_lt_of_le h1 ha.2
  have h3 := Int.lt_of_mul_lt_mul_right h2 (Int.le_of_lt (pw_pos m))
  rw [show FP.dcmp a b = _ from dcmp_zval (fin_nn ha.1) (fin_nn hb.1), show compare (zval b64 (val64 a)) (zval b64 (val64 b)) = .gt by rw [compare_ite, if_neg (by omega), if_neg (by omega)]]
  rfl
end Jvm.OwnFp
namespace Jvm.Pilot.@@N@@
open Jvm Jvm.ClassFile Sem Op Lib Jvm.Free Jvm.Stand Jvm.LawKit Jvm.RoadKit Bundle Jvm.Pilot.@@N@@.Jvm.D
open Jvm.OwnFp Jvm.FP.Core
theorem own_n4 (x n : Int32) (h : n = (x &&& (3 : Int32))) : n = 0 ∨ n = 1 ∨ n = 2 ∨ n = 3 := by
  have m := c_and x 3 (by decide)
  rw [← h, show (3 : Int32).toInt = 3 by decide] at m
  have e : n = Int32.ofInt n.toInt := (Int32.ofInt_toInt n).symm
  have : n.toInt = 0 ∨ n.toInt = 1 ∨ n.toInt = 2 ∨ n.toInt = 3 := by omega
  rcases this with q | q | q | q <;> rw [q] at e <;> simp [e] <;> decide
theorem own_n5 {r n x : Int32} (h : x = (if (2147482623 : Int32) < r then (if (1 : Int32) < n then (1 : Int32) else n) else n)) (h4 : n = 0 ∨ n = 1 ∨ n = 2 ∨ n = 3) : x = 0 ∨ x = 1 ∨ x = 2 ∨ x = 3 := by
  by_cases a : (2147482623 : Int32) < r
  · rw [if_pos a] at h
    by_cases b : (1 : Int32) < n
    · rw [if_pos b] at h; exact Or.inr (Or.inl h)
    · rw [if_neg b] at h; rw [h]; exact h4
  · rw [if_neg a] at h; rw [h]; exact h4
theorem own_r1 {g r : Int32} (h : r = ((1 : Int32) + ((g &&& (2147483647 : Int32)) % (2147483647 : Int32)))) : 1 ≤ r.toInt ∧ r.toInt ≤ 2147483647 := by
  have a := c_and g 2147483647 (by decide)
  have m := (c_irem (g &&& 2147483647) 2147483647 2147483647 (by decide)).1 a.1
  rw [show (2147483647 : Int32).toInt = 2147483647 by decide] at a
  have s := c_iadd 1 ((g &&& 2147483647) % 2147483647)
  rw [← h, show (1 : Int32).toInt = 1 by decide] at s
  have q := rng32 r
  omega
theorem own_ch {y x : Int32} (h : x = ((y &&& (255 : Int32)).toUInt32.toUInt16.toUInt32.toInt32)) : ¬ ((255 : Int32) < nar .char x) := by
  intro q
  have q := Int32.lt_iff_toInt_lt.mp q
  have a := c_and y 255 (by decide)
  have b := c_i2c (y &&& 255)
  rw [← h] at b
  have d := c_i2c x
  have q' : (255 : Int32).toInt < x.toUInt32.toUInt16.toUInt32.toInt32.toInt := q
  rw [show (255 : Int32).toInt = 255 by decide] at a q'
  omega
theorem own_one : FP.i2d (1 : Int32) = (4607182418800017408 : UInt64) := by decide +kernel
theorem own_fin1 {r : Int32} (hz : r ≠ 0) : DFin (FP.ddiv (4607182418800017408 : UInt64) (FP.i2d r)) := own_one ▸ fin_div 1 hz
theorem own_nn {r : Int32} (hz : r ≠ 0) : Jvm.Free.Fl.NoNaN64 (FP.ddiv (4607182418800017408 : UInt64) (FP.i2d r)) := nn_of (no_fin (own_fin1 hz))
theorem own_rr {r : Int32} {v : UInt64} (hr : 1 ≤ r.toInt ∧ r.toInt ≤ 2147483647) (hv : v = (FP.ddiv (4607182418800017408 : UInt64) (FP.i2d r))) :
    cmpValue (FP.dcmp v v) .l = (0 : Int32) ∧ (0 : Int32) < cmpValue (FP.dcmp v (0 : UInt64)) .l ∧ ¬ ((0 : Int32) < cmpValue (FP.dcmp v (4607182418800017408 : UInt64)) .g) ∧ (cmpValue (FP.dcmp v (4607182418800017408 : UInt64)) .l = (0 : Int32) ↔ r = 1) := by
  have hz : r ≠ 0 := fun q => by rw [q, show (0 : Int32).toInt = 0 by decide] at hr; omega
  have hF := own_fin1 hz
  rw [← hv] at hF
  have s : cmpValue (FP.dcmp v v) .l = (0 : Int32) := by rw [hv]; exact dcmpV_self (own_nn hz) .l
  by_cases h1 : r.toInt = 1
  · have D : Dy 1 0 v := by rw [hv]; exact Dy.div (dy1 0) (Dy.i2d r) (by omega) (by decide) (by decide) (by rw [h1]; rfl)
    refine ⟨s, ?_, ?_, ?_⟩
    · rw [Dy.cmp_gt D (dy0 0) (by decide) .l]; decide
    · rw [Dy.cmp_eq D (dy1 0) rfl .g]; decide
    · exact ⟨fun _ => Int32.toInt_inj.mp (by rw [h1]; decide), fun _ => Dy.cmp_eq D (dy1 0) rfl .l⟩
  · have U : DLe v 1 1 := by rw [hv] at hF ⊢; exact ddiv_dle (dy1 0) (Dy.i2d r) (by decide) (by omega) (by decide) (by decide) (by decide) hF (by rw [Int.pow_zero, Int.mul_one, Int.one_mul]; show (1 : Int) * 2 ^ 1 ≤ _; omega)
    have G : DGe v 1 31 := by rw [hv] at hF ⊢; exact ddiv_dge (dy1 0) (Dy.i2d r) (by decide) (by omega) (by decide) (by decide) (by decide) hF (by rw [Int.pow_zero, Int.mul_one, Int.one_mul]; show _ ≤ (1 : Int) * 2 ^ 31; omega)
    have o1 : Dy 2 1 (4607182418800017408 : UInt64) := dy1 1
    refine ⟨s, ?_, ?_, ?_⟩
    · rw [DGe.cmp_gt G (dy0 31) (by decide) .l]; decide
    · rw [DLe.cmp_lt U o1 (by decide) .g]; decide
    · rw [DLe.cmp_lt U o1 (by decide) .l]
      exact ⟨fun h => absurd h (by decide), fun h => absurd (by rw [h]; decide) h1⟩
theorem own_iff {P : Prop} {r : Int32} [Decidable P] (h : P ↔ r = 1) : (if P then (1 : Int32) else (0 : Int32)) = (if r = (1 : Int32) then (1 : Int32) else (0 : Int32)) := by
  by_cases p : P
  · rw [if_pos p, if_pos (h.mp p)]
  · rw [if_neg p, if_neg (fun q => p (h.mpr q))]
theorem ef_8_RRIIR (m : MethodId) (x0 : Addr) (x1 : Addr) (x2 : Int32) (x3 : Int32) (x4 : Addr) : entryFrame m #[(.ref x0), (.ref x1), (.int x2), (.int x3), (.ref x4)] 5 = mkF m 0 #[.val (.ref x0), .val (.ref x1), .val (.int x2), .val (.int x3), .val (.ref x4)] [] := by first | (simp [entryFrame, mkF, argsToLocals, Value.category]; done) | rfl
theorem d8_0 : decode prog_10_method_1_code 0 = .ok (.aload_n 0, 1) := by decide +kernel
theorem d8_1 : decode prog_10_method_1_code 1 = .ok (.invokespecial 1, 3) := by decide +kernel
theorem d8_4 : decode prog_10_method_1_code 4 = .ok (.aload_n 0, 1) := by decide +kernel
theorem d8_5 : decode prog_10_method_1_code 5 = .ok (.aload_n 1, 1) := by decide +kernel
theorem d8_6 : decode prog_10_method_1_code 6 = .ok (.putfield 7, 3) := by decide +kernel
theorem d8_9 : decode prog_10_method_1_code 9 = .ok (.aload_n 0, 1) := by decide +kernel
theorem d8_10 : decode prog_10_method_1_code 10 = .ok (.iload_n 2, 1) := by decide +kernel
theorem d8_11 : decode prog_10_method_1_code 11 = .ok (.putfield 13, 3) := by decide +kernel
theorem d8_14 : decode prog_10_method_1_code 14 = .ok (.aload_n 0, 1) := by decide +kernel
theorem d8_15 : decode prog_10_method_1_code 15 = .ok (.iload_n 3, 1) := by decide +kernel
theorem d8_16 : decode prog_10_method_1_code 16 = .ok (.putfield 17, 3) := by decide +kernel
theorem d8_19 : decode prog_10_method_1_code 19 = .ok (.aload_n 0, 1) := by decide +kernel
theorem d8_20 : decode prog_10_method_1_code 20 = .ok (.aload 4, 2) := by decide +kernel
theorem d8_22 : decode prog_10_method_1_code 22 = .ok (.putfield 20, 3) := by decide +kernel
theorem d8_25 : decode prog_10_method_1_code 25 = .ok (.return_, 1) := by decide +kernel
def Q_rm8 (Z : State) (a1 : Addr) (a2 : Addr) (p1 : Int32) (p2 : Int32) (a3 : Addr) (h0 : Heap) (n0 : Nat) (v : Option Value) (h : Heap) (L : List Loc) : Prop := v = none ∧ Fr n0 L ∧ Keep h0 h [a1] ∧ Exa Z h a1 "com/example/round2/round2/eval/TopicResult" ∧ Fld Z h a1 "com/example/round2/round2/eval/TopicResult" "relevant" "I" (.int p2) ∧ Fld Z h a1 "com/example/round2/round2/eval/TopicResult" "relevantRanks" "[I" (.ref a3)
theorem pn_com_2fexample_2fround2_2fround2_2feval_2fTopicResult : plainName "com/example/round2/round2/eval/TopicResult" = true := by first | (simp [plainName, overriddenIn]; done) | decide +kernel
set_option maxRecDepth 65536 in
set_option maxHeartbeats 40000000 in
theorem rm8 (l : Launch) (Z : State) (a0 : Array Value) (hw : ∀ d ∈ tables_1, d.before a0 Z = true) (ws : List Jvm.Cond) (a1 : Addr) (a2 : Addr) (p1 : Int32) (p2 : Int32) (a3 : Addr) (h0 : Heap) (n0 : Nat) (Z0 : n0 ≤ h0.size) (F0 : Fld Z h0 a1 "com/example/round2/round2/eval/TopicResult" "topic" "Ljava/lang/String;" .null) (F1 : Fld Z h0 a1 "com/example/round2/round2/eval/TopicResult" "retrieved" "I" (.int (0 : Int32))) (F2 : Fld Z h0 a1 "com/example/round2/round2/eval/TopicResult" "relevant" "I" (.int (0 : Int32))) (F3 : Fld Z h0 a1 "com/example/round2/round2/eval/TopicResult" "relevantRanks" "[I" .null) (E1 : Exa Z h0 a1 "com/example/round2/round2/eval/TopicResult") (ga : n0 ≤ a1) :
    MetFree l (⟨"com/example/round2/round2/eval/TopicResult", "<init>", "(Ljava/lang/String;II[I)V"⟩ : MethodName) (head1 (Jvm.Cond.code (⟨"com/example/round2/round2/eval/TopicResult", "<init>", "(Ljava/lang/String;II[I)V"⟩ : MethodName) prog_10_method_1_code 5 none :: ws) ({ frames := 1, cells := 0, slots := 0, locals := 12 } : Room)) (fun a U => a = #[(.ref a1), (.ref a2), (.int p1), (.int p2), (.ref a3)] ∧ Z.Warmed39 U.vm ∧ U.heap = h0) (fun _ _ _ _ _ => True) (fun _ U o U' => ∃ v L, o = .returned v ∧ Q_rm8 Z a1 a2 p1 p2 a3 h0 n0 v U'.heap L ∧ FrameEnd U o U' L ({ frames := 1, cells := 0, slots := 0, locals := 12 } : Room).cells ({ frames := 1, cells := 0, slots := 0, locals := 12 } : Room).slots) := by
  refine MetFree.of_bodySF (plainFor_of_name pn_com_2fexample_2fround2_2fround2_2feval_2fTopicResult) hisR ?_
  intro p e s m args below meth c s₁ Bd hml0 hP hK
  obtain ⟨rfl, hZ, hh⟩ := hP
  have hx := Bd.exec
  have hby := Bd.bytes
  have hml : c.maxLocals = 5 := hml0
  have hown : s.vm.findClass "com/example/round2/round2/eval/TopicResult" = some m.cls := findClass_of_methodNamed Bd.named
  have hnm := (name_of_methodNamed Bd.named Bd.method).1
  have X0 : Stand p l e ({ frames := 1, cells := 0, slots := 0, locals := 12 } : Room) s m #[(.ref a1), (.ref a2), (.int p1), (.int p2), (.ref a3)] below meth c s₁ [] 0 0 := Stand.of_body Bd
  have e0 : s₁.heap = h0 := by rw [← hh, Bd.state]; rfl
  have N0 := Fr.nil n0
  have k0 : ∀ t, Steps p.tables e below (s₁.setTop (mkF m 0 #[.val (.ref a1), .val (.ref a2), .val (.int p1), .val (.int p2), .val (.ref a3)] [])) t → Steps p.tables e below (s₁.setTop (entryFrame m #[(.ref a1), (.ref a2), (.int p1), (.int p2), (.ref a3)] 5)) t := fun t k => castTop (ef_8_RRIIR m a1 a2 p1 p2 a3) k
  have K0 := Keep.refl h0 [a1]
  have k101 : ∀ t, Steps p.tables e below (s₁.setTop (mkF m 1 #[.val (.ref a1), .val (.ref a2), .val (.int p1), .val (.int p2), .val (.ref a3)] [(.ref a1)])) t → Steps p.tables e below (s₁.setTop (entryFrame m #[(.ref a1), (.ref a2), (.int p1), (.int p2), (.ref a3)] 5)) t := fun t k => k0 t (by
    show Steps p.tables e below (s₁.setTop (mkF m 0 #[.val (.ref a1), .val (.ref a2), .val (.int p1), .val (.int p2), .val (.ref a3)] [])) _
    refine XS.aloadN X0.here hx rfl (hb hby d8_0) rfl rfl ?_
    exact k)
  obtain ⟨T102, X102, e102, st102⟩ := initO X0 hx hZ hown (hw _ (List.mem_of_getElem? (i := 43) rfl)) (hw _ (List.mem_of_getElem? (i := 22) rfl)) (hw _ (List.mem_of_getElem? (i := 23) rfl)) e0 (g := (mkF m 1 #[.val (.ref a1), .val (.ref a2), .val (.int p1), .val (.int p2), .val (.ref a3)] [(.ref a1)])) rfl (by rw [hml]; rfl) rfl (hb hby d8_1) (by decide) (W := 0) (by show 2 * 0 + _ ≤ _; exact Nat.le_of_eq rfl) (by decide)
  have k103 : ∀ t, Steps p.tables e below (T102.setTop (mkF m 4 #[.val (.ref a1), .val (.ref a2), .val (.int p1), .val (.int p2), .val (.ref a3)] [])) t → Steps p.tables e below (s₁.setTop (entryFrame m #[(.ref a1), (.ref a2), (.int p1), (.int p2), (.ref a3)] 5)) t := fun t k => k101 t (st102 t k)
  have k104 : ∀ t, Steps p.tables e below (T102.setTop (mkF m 6 #[.val (.ref a1), .val (.ref a2), .val (.int p1), .val (.int p2), .val (.ref a3)] [(.ref a2), (.ref a1)])) t → Steps p.tables e below (s₁.setTop (entryFrame m #[(.ref a1), (.ref a2), (.int p1), (.int p2), (.ref a3)] 5)) t := fun t k => k103 t (by
    show Steps p.tables e below (T102.setTop (mkF m 4 #[.val (.ref a1), .val (.ref a2), .val (.int p1), .val (.int p2), .val (.ref a3)] [])) _
    refine XS.aloadN X102.here hx rfl (hb hby d8_4) rfl rfl ?_
    show Steps p.tables e below (T102.setTop (mkF m 5 #[.val (.ref a1), .val (.ref a2), .val (.int p1), .val (.int p2), .val (.ref a3)] [(.ref a1)])) _
    refine XS.aloadN X102.here hx rfl (hb hby d8_5) rfl rfl ?_
    exact k)
  obtain ⟨T105, h105, X105, e105, W105, st105⟩ := putF X102 hx hZ hown (host := "") (Or.inl (hw _ (List.mem_of_getElem? (i := 44) rfl))) Via.refl e102 F0 E1 (Or.inr ⟨(hw _ (List.mem_of_getElem? (i := 45) rfl)), rfl, hnm⟩) (hw _ (List.mem_of_getElem? (i := 9) rfl)) (ty := (.object "java/lang/String")) (by decide) rfl rfl (g := (mkF m 6 #[.val (.ref a1), .val (.ref a2), .val (.int p1), .val (.int p2), .val (.ref a3)] [(.ref a2), (.ref a1)])) rfl rfl (hb hby d8_6)
  have F106 := F0.same W105
  have F107 := F1.other W105 (Or.inr (slot_ne (Or.inr (hw _ (List.mem_of_getElem? (i := 47) rfl))) (Or.inr (hw _ (List.mem_of_getElem? (i := 45) rfl))) (by decide) (t := .int) (t' := (.object "java/lang/String")) (by decide) (by decide)))
  have F108 := F2.other W105 (Or.inr (slot_ne (Or.inr (hw _ (List.mem_of_getElem? (i := 49) rfl))) (Or.inr (hw _ (List.mem_of_getElem? (i := 45) rfl))) (by decide) (t := .int) (t' := (.object "java/lang/String")) (by decide) (by decide)))
  have F109 := F3.other W105 (Or.inr (slot_ne (Or.inr (hw _ (List.mem_of_getElem? (i := 51) rfl))) (Or.inr (hw _ (List.mem_of_getElem? (i := 45) rfl))) (by decide) (t := (.array .int)) (t' := (.object "java/lang/String")) (by decide) (by decide)))
  have F110 := E1.wr W105
  have Z111 : n0 ≤ h105.size := Nat.le_trans Z0 (Nat.le_of_eq W105.size.symm)
  have N112 := Fr.snoc X105 N0 ga
  have K113 := K0.wr W105 (Or.inl (List.mem_of_getElem? (i := 0) rfl))
  have k114 : ∀ t, Steps p.tables e below (T105.setTop (mkF m 9 #[.val (.ref a1), .val (.ref a2), .val (.int p1), .val (.int p2), .val (.ref a3)] [])) t → Steps p.tables e below (s₁.setTop (entryFrame m #[(.ref a1), (.ref a2), (.int p1), (.int p2), (.ref a3)] 5)) t := fun t k => k104 t (st105 t k)
  have k115 : ∀ t, Steps p.tables e below (T105.setTop (mkF m 11 #[.val (.ref a1), .val (.ref a2), .val (.int p1), .val (.int p2), .val (.ref a3)] [(.int p1), (.ref a1)])) t → Steps p.tables e below (s₁.setTop (entryFrame m #[(.ref a1), (.ref a2), (.int p1), (.int p2), (.ref a3)] 5)) t := fun t k => k114 t (by
    show Steps p.tables e below (T105.setTop (mkF m 9 #[.val (.ref a1), .val (.ref a2), .val (.int p1), .val (.int p2), .val (.ref a3)] [])) _
    refine XS.aloadN X105.here hx rfl (hb hby d8_9) rfl rfl ?_
    show Steps p.tables e below (T105.setTop (mkF m 10 #[.val (.ref a1), .val (.ref a2), .val (.int p1), .val (.int p2), .val (.ref a3)] [(.ref a1)])) _
    refine XS.iloadN X105.here hx rfl (hb hby d8_10) rfl ?_
    exact k)
  obtain ⟨T116, h116, X116, e116, W116, st116⟩ := putF X105 hx hZ hown (host := "") (Or.inl (hw _ (List.mem_of_getElem? (i := 46) rfl))) Via.refl e105 F107 F110 (Or.inr ⟨(hw _ (List.mem_of_getElem? (i := 47) rfl)), rfl, hnm⟩) (hw _ (List.mem_of_getElem? (i := 9) rfl)) (ty := .int) (by decide) rfl rfl (g := (mkF m 11 #[.val (.ref a1), .val (.ref a2), .val (.int p1), .val (.int p2), .val (.ref a3)] [(.int p1), (.ref a1)])) rfl rfl (hb hby d8_11)
  have F117 := F107.same W116
  have F118 := F108.other W116 (Or.inr (slot_ne (Or.inr (hw _ (List.mem_of_getElem? (i := 49) rfl))) (Or.inr (hw _ (List.mem_of_getElem? (i := 47) rfl))) (by decide) (t := .int) (t' := .int) (by decide) (by decide)))
  have F119 := F109.other W116 (Or.inr (slot_ne (Or.inr (hw _ (List.mem_of_getElem? (i := 51) rfl))) (Or.inr (hw _ (List.mem_of_getElem? (i := 47) rfl))) (by decide) (t := (.array .int)) (t' := .int) (by decide) (by decide)))
  have F120 := F110.wr W116
  have F121 := F106.other W116 (Or.inr (slot_ne (Or.inr (hw _ (List.mem_of_getElem? (i := 45) rfl))) (Or.inr (hw _ (List.mem_of_getElem? (i := 47) rfl))) (by decide) (t := (.object "java/lang/String")) (t' := .int) (by decide) (by decide)))
  have Z122 : n0 ≤ h116.size := Nat.le_trans Z111 (Nat.le_of_eq W116.size.symm)
  have N123 := Fr.snoc X116 N112 ga
  have K124 := K113.wr W116 (Or.inl (List.mem_of_getElem? (i := 0) rfl))
  have k125 : ∀ t, Steps p.tables e below (T116.setTop (mkF m 14 #[.val (.ref a1), .val (.ref a2), .val (.int p1), .val (.int p2), .val (.ref a3)] [])) t → Steps p.tables e below (s₁.setTop (entryFrame m #[(.ref a1), (.ref a2), (.int p1), (.int p2), (.ref a3)] 5)) t := fun t k => k115 t (st116 t k)
  have k126 : ∀ t, Steps p.tables e below (T116.setTop (mkF m 16 #[.val (.ref a1), .val (.ref a2), .val (.int p1), .val (.int p2), .val (.ref a3)] [(.int p2), (.ref a1)])) t → Steps p.tables e below (s₁.setTop (entryFrame m #[(.ref a1), (.ref a2), (.int p1), (.int p2), (.ref a3)] 5)) t := fun t k => k125 t (by
    show Steps p.tables e below (T116.setTop (mkF m 14 #[.val (.ref a1), .val (.ref a2), .val (.int p1), .val (.int p2), .val (.ref a3)] [])) _
    refine XS.aloadN X116.here hx rfl (hb hby d8_14) rfl rfl ?_
    show Steps p.tables e below (T116.setTop (mkF m 15 #[.val (.ref a1), .val (.ref a2), .val (.int p1), .val (.int p2), .val (.ref a3)] [(.ref a1)])) _
    refine XS.iloadN X116.here hx rfl (hb hby d8_15) rfl ?_
    exact k)
  obtain ⟨T127, h127, X127, e127, W127, st127⟩ := putF X116 hx hZ hown (host := "") (Or.inl (hw _ (List.mem_of_getElem? (i := 48) rfl))) Via.refl e116 F118 F120 (Or.inr ⟨(hw _ (List.mem_of_getElem? (i := 49) rfl)), rfl, hnm⟩) (hw _ (List.mem_of_getElem? (i := 9) rfl)) (ty := .int) (by decide) rfl rfl (g := (mkF m 16 #[.val (.ref a1), .val (.ref a2), .val (.int p1), .val (.int p2), .val (.ref a3)] [(.int p2), (.ref a1)])) rfl rfl (hb hby d8_16)
  have F128 := F118.same W127
  have F129 := F119.other W127 (Or.inr (slot_ne (Or.inr (hw _ (List.mem_of_getElem? (i := 51) rfl))) (Or.inr (hw _ (List.mem_of_getElem? (i := 49) rfl))) (by decide) (t := (.array .int)) (t' := .int) (by decide) (by decide)))
  have F130 := F120.wr W127
  have F131 := F121.other W127 (Or.inr (slot_ne (Or.inr (hw _ (List.mem_of_getElem? (i := 45) rfl))) (Or.inr (hw _ (List.mem_of_getElem? (i := 49) rfl))) (by decide) (t := (.object "java/lang/String")) (t' := .int) (by decide) (by decide)))
  have F132 := F117.other W127 (Or.inr (slot_ne (Or.inr (hw _ (List.mem_of_getElem? (i := 47) rfl))) (Or.inr (hw _ (List.mem_of_getElem? (i := 49) rfl))) (by decide) (t := .int) (t' := .int) (by decide) (by decide)))
  have Z133 : n0 ≤ h127.size := Nat.le_trans Z122 (Nat.le_of_eq W127.size.symm)
  have N134 := Fr.snoc X127 N123 ga
  have K135 := K124.wr W127 (Or.inl (List.mem_of_getElem? (i := 0) rfl))
  have k136 : ∀ t, Steps p.tables e below (T127.setTop (mkF m 19 #[.val (.ref a1), .val (.ref a2), .val (.int p1), .val (.int p2), .val (.ref a3)] [])) t → Steps p.tables e below (s₁.setTop (entryFrame m #[(.ref a1), (.ref a2), (.int p1), (.int p2), (.ref a3)] 5)) t := fun t k => k126 t (st127 t k)
  have k137 : ∀ t, Steps p.tables e below (T127.setTop (mkF m 22 #[.val (.ref a1), .val (.ref a2), .val (.int p1), .val (.int p2), .val (.ref a3)] [(.ref a3), (.ref a1)])) t → Steps p.tables e below (s₁.setTop (entryFrame m #[(.ref a1), (.ref a2), (.int p1), (.int p2), (.ref a3)] 5)) t := fun t k => k136 t (by
    show Steps p.tables e below (T127.setTop (mkF m 19 #[.val (.ref a1), .val (.ref a2), .val (.int p1), .val (.int p2), .val (.ref a3)] [])) _
    refine XS.aloadN X127.here hx rfl (hb hby d8_19) rfl rfl ?_
    show Steps p.tables e below (T127.setTop (mkF m 20 #[.val (.ref a1), .val (.ref a2), .val (.int p1), .val (.int p2), .val (.ref a3)] [(.ref a1)])) _
    refine XS.aload X127.here hx rfl (hb hby d8_20) rfl rfl ?_
    exact k)
  obtain ⟨T138, h138, X138, e138, W138, st138⟩ := putF X127 hx hZ hown (host := "") (Or.inl (hw _ (List.mem_of_getElem? (i := 50) rfl))) Via.refl e127 F129 F130 (Or.inr ⟨(hw _ (List.mem_of_getElem? (i := 51) rfl)), rfl, hnm⟩) (hw _ (List.mem_of_getElem? (i := 9) rfl)) (ty := (.array .int)) (by decide) rfl rfl (g := (mkF m 22 #[.val (.ref a1), .val (.ref a2), .val (.int p1), .val (.int p2), .val (.ref a3)] [(.ref a3), (.ref a1)])) rfl rfl (hb hby d8_22)
  have F139 := F129.same W138
  have F140 := F130.wr W138
  have F141 := F131.other W138 (Or.inr (slot_ne (Or.inr (hw _ (List.mem_of_getElem? (i := 45) rfl))) (Or.inr (hw _ (List.mem_of_getElem? (i := 51) rfl))) (by decide) (t := (.object "java/lang/String")) (t' := (.array .int)) (by decide) (by decide)))
  have F142 := F132.other W138 (Or.inr (slot_ne (Or.inr (hw _ (List.mem_of_getElem? (i := 47) rfl))) (Or.inr (hw _ (List.mem_of_getElem? (i := 51) rfl))) (by decide) (t := .int) (t' := (.array .int)) (by decide) (by decide)))
  have F143 := F128.other W138 (Or.inr (slot_ne (Or.inr (hw _ (List.mem_of_getElem? (i := 49) rfl))) (Or.inr (hw _ (List.mem_of_getElem? (i := 51) rfl))) (by decide) (t := .int) (t' := (.array .int)) (by decide) (by decide)))
  have Z144 : n0 ≤ h138.size := Nat.le_trans Z133 (Nat.le_of_eq W138.size.symm)
  have N145 := Fr.snoc X138 N134 ga
  have K146 := K135.wr W138 (Or.inl (List.mem_of_getElem? (i := 0) rfl))
  have k147 : ∀ t, Steps p.tables e below (T138.setTop (mkF m 25 #[.val (.ref a1), .val (.ref a2), .val (.int p1), .val (.int p2), .val (.ref a3)] [])) t → Steps p.tables e below (s₁.setTop (entryFrame m #[(.ref a1), (.ref a2), (.int p1), (.int p2), (.ref a3)] 5)) t := fun t k => k137 t (st138 t k)
  obtain ⟨fs, hr, hrun, hended, hW, hsame⟩ := X138.leave (v := none) (fun _ => rfl)
  refine ⟨_, _, k147 _ (X138.returnOut hx Bd.returns (hb hby d8_25) hr), hrun, hended, _, _, rfl, ?_, ⟨_, rfl⟩, hW, hsame.mono (by decide) (by decide)⟩
  show Q_rm8 Z a1 a2 p1 p2 a3 h0 n0 _ T138.heap _
  rw [e138]
  exact ⟨rfl, N145, K146, F140, F143, F139⟩
theorem ef_1_II (m : MethodId) (x0 : Int32) (x1 : Int32) : entryFrame m #[(.int x0), (.int x1)] 2 = mkF m 0 #[.val (.int x0), .val (.int x1)] [] := by first | (simp [entryFrame, mkF, argsToLocals, Value.category]; done) | rfl
theorem d1_0 : decode jdk_29_method_65_code 0 = .ok (.iload_n 0, 1) := by decide +kernel
theorem d1_1 : decode jdk_29_method_65_code 1 = .ok (.iload_n 1, 1) := by decide +kernel
theorem d1_2 : decode jdk_29_method_65_code 2 = .ok (.if_icmp .lt 7, 3) := by decide +kernel
theorem d1_9 : decode jdk_29_method_65_code 9 = .ok (.iload_n 1, 1) := by decide +kernel
theorem d1_5 : decode jdk_29_method_65_code 5 = .ok (.iload_n 0, 1) := by decide +kernel
theorem d1_6 : decode jdk_29_method_65_code 6 = .ok (.goto 4, 3) := by decide +kernel
theorem d1_10 : decode jdk_29_method_65_code 10 = .ok (.ireturn, 1) := by decide +kernel
def Q_rm1 (Z : State) (p1 : Int32) (p2 : Int32) (h0 : Heap) (n0 : Nat) (v : Option Value) (h : Heap) (L : List Loc) : Prop := v = some (.int (if p1 < p2 then p2 else p1)) ∧ Fr n0 L ∧ h = h0
set_option maxRecDepth 65536 in
set_option maxHeartbeats 40000000 in
theorem rm1 (l : Launch) (Z : State) (a0 : Array Value) (hw : ∀ d ∈ tables_1, d.before a0 Z = true) (ws : List Jvm.Cond) (p1 : Int32) (p2 : Int32) (h0 : Heap) (n0 : Nat) (Z0 : n0 ≤ h0.size) :
    MetFree l (⟨"java/lang/Math", "max", "(II)I"⟩ : MethodName) (head1 (Jvm.Cond.code (⟨"java/lang/Math", "max", "(II)I"⟩ : MethodName) jdk_29_method_65_code 2 (some .int) :: ws) ({ frames := 0, cells := 0, slots := 0, locals := 0 } : Room)) (fun a U => a = #[(.int p1), (.int p2)] ∧ Z.Warmed39 U.vm ∧ U.heap = h0) (fun _ _ _ _ _ => True) (fun _ U o U' => ∃ v L, o = .returned v ∧ Q_rm1 Z p1 p2 h0 n0 v U'.heap L ∧ FrameEnd U o U' L ({ frames := 0, cells := 0, slots := 0, locals := 0 } : Room).cells ({ frames := 0, cells := 0, slots := 0, locals := 0 } : Room).slots) := by
  refine MetFree.of_bodySF (Jvm.Free.JP.mathPlain rfl (by decide +kernel)) hisR ?_
  intro p e s m args below meth c s₁ Bd hml0 hP hK
  obtain ⟨rfl, hZ, hh⟩ := hP
  have hx := Bd.exec
  have hby := Bd.bytes
  have hml : c.maxLocals = 2 := hml0
  have hown : s.vm.findClass "java/lang/Math" = some m.cls := findClass_of_methodNamed Bd.named
  have hnm := (name_of_methodNamed Bd.named Bd.method).1
  have X0 : Stand p l e ({ frames := 0, cells := 0, slots := 0, locals := 0 } : Room) s m #[(.int p1), (.int p2)] below meth c s₁ [] 0 0 := Stand.of_body Bd
  have e0 : s₁.heap = h0 := by rw [← hh, Bd.state]; rfl
  have N0 := Fr.nil n0
  have k0 : ∀ t, Steps p.tables e below (s₁.setTop (mkF m 0 #[.val (.int p1), .val (.int p2)] [])) t → Steps p.tables e below (s₁.setTop (entryFrame m #[(.int p1), (.int p2)] 2)) t := fun t k => castTop (ef_1_II m p1 p2) k
  have k101 : ∀ t, Steps p.tables e below (s₁.setTop (mkF m 2 #[.val (.int p1), .val (.int p2)] [(.int p2), (.int p1)])) t → Steps p.tables e below (s₁.setTop (entryFrame m #[(.int p1), (.int p2)] 2)) t := fun t k => k0 t (by
    show Steps p.tables e below (s₁.setTop (mkF m 0 #[.val (.int p1), .val (.int p2)] [])) _
    refine XS.iloadN X0.here hx rfl (hb hby d1_0) rfl ?_
    show Steps p.tables e below (s₁.setTop (mkF m 1 #[.val (.int p1), .val (.int p2)] [(.int p1)])) _
    refine XS.iloadN X0.here hx rfl (hb hby d1_1) rfl ?_
    exact k)
  obtain ⟨i103, hi103⟩ : ∃ z : Int32, z = (if p1 < p2 then p2 else p1) := ⟨_, rfl⟩
  have k104 : ∀ t, Steps p.tables e below (s₁.setTop (mkF m 10 #[.val (.int p1), .val (.int p2)] [(.int i103)])) t → Steps p.tables e below (s₁.setTop (entryFrame m #[(.int p1), (.int p2)] 2)) t := fun t k => k101 t (by
    by_cases c102 : p1 < p2
    · rw [if_pos c102] at hi103
      show Steps p.tables e below (s₁.setTop (mkF m 2 #[.val (.int p1), .val (.int p2)] [(.int p2), (.int p1)])) _
      refine XS.icmpYes X0.here hx rfl (pc0 := 2) (pc' := 9) rfl (hb hby d1_2) rfl (tlt c102).1 (by decide) (by decide) ?_
      show Steps p.tables e below (s₁.setTop (mkF m 9 #[.val (.int p1), .val (.int p2)] [])) _
      refine XS.iloadN X0.here hx rfl (hb hby d1_9) rfl ?_
      show Steps p.tables e below (s₁.setTop (mkF m 10 #[.val (.int p1), .val (.int p2)] [(.int p2)])) _
      exact castTop (by rw [hi103]) k
    · rw [if_neg c102] at hi103
      show Steps p.tables e below (s₁.setTop (mkF m 2 #[.val (.int p1), .val (.int p2)] [(.int p2), (.int p1)])) _
      refine XS.icmpNo X0.here hx rfl (hb hby d1_2) rfl (flt c102).1 ?_
      show Steps p.tables e below (s₁.setTop (mkF m 5 #[.val (.int p1), .val (.int p2)] [])) _
      refine XS.iloadN X0.here hx rfl (hb hby d1_5) rfl ?_
      show Steps p.tables e below (s₁.setTop (mkF m 6 #[.val (.int p1), .val (.int p2)] [(.int p1)])) _
      refine XS.goto X0.here hx rfl (pc0 := 6) (pc' := 10) rfl (hb hby d1_6) (by decide) (by decide) ?_
      show Steps p.tables e below (s₁.setTop (mkF m 10 #[.val (.int p1), .val (.int p2)] [(.int p1)])) _
      exact castTop (by rw [hi103]) k)
  obtain ⟨fs, hr, hrun, hended, hW, hsame⟩ := X0.leave (v := some (.int i103)) (fun h => by rw [Bd.returns] at h; cases h)
  refine ⟨_, _, k104 _ (retOut X0 hx (t := .int) Bd.returns rfl (Or.inl ⟨rfl, Or.inl rfl, _, rfl⟩) (hb hby d1_10) hr), hrun, hended, _, _, rfl, ?_, ⟨_, rfl⟩, hW, hsame.mono (by decide) (by decide)⟩
  show Q_rm1 Z p1 p2 h0 n0 _ s₁.heap _
  rw [e0]
  exact ⟨by rw [hi103], N0, rfl⟩
theorem ef_7_RI (m : MethodId) (x0 : Addr) (x1 : Int32) : entryFrame m #[(.ref x0), (.int x1)] 2 = mkF m 0 #[.val (.ref x0), .val (.int x1)] [] := by first | (simp [entryFrame, mkF, argsToLocals, Value.category]; done) | rfl
theorem d7_0 : decode jdk_52_method_15_code 0 = .ok (.iload_n 1, 1) := by decide +kernel
theorem d7_1 : decode jdk_52_method_15_code 1 = .ok (.aload_n 0, 1) := by decide +kernel
theorem d7_2 : decode jdk_52_method_15_code 2 = .ok (.arraylength, 1) := by decide +kernel
theorem d7_3 : decode jdk_52_method_15_code 3 = .ok (.isub, 1) := by decide +kernel
theorem d7_4 : decode jdk_52_method_15_code 4 = .ok (.bipush 31, 2) := by decide +kernel
theorem d7_6 : decode jdk_52_method_15_code 6 = .ok (.iushr, 1) := by decide +kernel
theorem d7_7 : decode jdk_52_method_15_code 7 = .ok (.i2b, 1) := by decide +kernel
theorem d7_8 : decode jdk_52_method_15_code 8 = .ok (.ireturn, 1) := by decide +kernel
def Q_rm7 (Z : State) (a1 : Addr) (k2 : ClassId) (c1 : Int32) (c2 : Int32) (h0 : Heap) (n0 : Nat) (v : Option Value) (h : Heap) (L : List Loc) : Prop := v = some (.int (0 : Int32)) ∧ Fr n0 L ∧ h = h0
theorem pn_java_2flang_2fStringUTF16 : plainName "java/lang/StringUTF16" = true := by first | (simp [plainName, overriddenIn]; done) | decide +kernel
set_option maxRecDepth 65536 in
set_option maxHeartbeats 40000000 in
theorem rm7 (l : Launch) (Z : State) (a0 : Array Value) (hw : ∀ d ∈ tables_1, d.before a0 Z = true) (ws : List Jvm.Cond) (a1 : Addr) (k2 : ClassId) (c1 : Int32) (c2 : Int32) (h0 : Heap) (n0 : Nat) (Z0 : n0 ≤ h0.size) (V1 : Arv Z h0 a1 k2 .byte (2 : Int32) [(.int (nar .byte (c1.toInt8.toInt32))), (.int (nar .byte (c2.toInt8.toInt32)))] (.int (0 : Int32))) :
    MetFree l (⟨"java/lang/StringUTF16", "coderFromArrayLen", "([BI)B"⟩ : MethodName) (head1 (Jvm.Cond.code (⟨"java/lang/StringUTF16", "coderFromArrayLen", "([BI)B"⟩ : MethodName) jdk_52_method_15_code 2 (some .byte) :: ws) ({ frames := 0, cells := 0, slots := 0, locals := 0 } : Room)) (fun a U => a = #[(.ref a1), (.int (2 : Int32))] ∧ Z.Warmed39 U.vm ∧ U.heap = h0) (fun _ _ _ _ _ => True) (fun _ U o U' => ∃ v L, o = .returned v ∧ Q_rm7 Z a1 k2 c1 c2 h0 n0 v U'.heap L ∧ FrameEnd U o U' L ({ frames := 0, cells := 0, slots := 0, locals := 0 } : Room).cells ({ frames := 0, cells := 0, slots := 0, locals := 0 } : Room).slots) := by
  refine MetFree.of_bodySF (plainFor_of_name pn_java_2flang_2fStringUTF16) hisR ?_
  intro p e s m args below meth c s₁ Bd hml0 hP hK
  obtain ⟨rfl, hZ, hh⟩ := hP
  have hx := Bd.exec
  have hby := Bd.bytes
  have hml : c.maxLocals = 2 := hml0
  have hown : s.vm.findClass "java/lang/StringUTF16" = some m.cls := findClass_of_methodNamed Bd.named
  have hnm := (name_of_methodNamed Bd.named Bd.method).1
  have X0 : Stand p l e ({ frames := 0, cells := 0, slots := 0, locals := 0 } : Room) s m #[(.ref a1), (.int (2 : Int32))] below meth c s₁ [] 0 0 := Stand.of_body Bd
  have e0 : s₁.heap = h0 := by rw [← hh, Bd.state]; rfl
  have N0 := Fr.nil n0
  have k0 : ∀ t, Steps p.tables e below (s₁.setTop (mkF m 0 #[.val (.ref a1), .val (.int (2 : Int32))] [])) t → Steps p.tables e below (s₁.setTop (entryFrame m #[(.ref a1), (.int (2 : Int32))] 2)) t := fun t k => castTop (ef_7_RI m a1 (2 : Int32)) k
  have k101 : ∀ t, Steps p.tables e below (s₁.setTop (mkF m 2 #[.val (.ref a1), .val (.int (2 : Int32))] [(.ref a1), (.int (2 : Int32))])) t → Steps p.tables e below (s₁.setTop (entryFrame m #[(.ref a1), (.int (2 : Int32))] 2)) t := fun t k => k0 t (by
    show Steps p.tables e below (s₁.setTop (mkF m 0 #[.val (.ref a1), .val (.int (2 : Int32))] [])) _
    refine XS.iloadN X0.here hx rfl (hb hby d7_0) rfl ?_
    show Steps p.tables e below (s₁.setTop (mkF m 1 #[.val (.ref a1), .val (.int (2 : Int32))] [(.int (2 : Int32))])) _
    refine XS.aloadN X0.here hx rfl (hb hby d7_1) rfl rfl ?_
    exact k)
  obtain ⟨c102, Ar102, -, As102, An102, -, -⟩ := id V1
  have k103 : ∀ t, Steps p.tables e below (s₁.setTop (mkF m 8 #[.val (.ref a1), .val (.int (2 : Int32))] [(.int (0 : Int32))])) t → Steps p.tables e below (s₁.setTop (entryFrame m #[(.ref a1), (.int (2 : Int32))] 2)) t := fun t k => k101 t (by
    show Steps p.tables e below (s₁.setTop (mkF m 2 #[.val (.ref a1), .val (.int (2 : Int32))] [(.ref a1), (.int (2 : Int32))])) _
    refine X0.arraylength hx (by rw [e0]; exact Ar102.1) (State.isArrayOf_alike hZ.alike Ar102.2.1) (g := (mkF m 2 #[.val (.ref a1), .val (.int (2 : Int32))] [(.ref a1), (.int (2 : Int32))])) rfl rfl (hb hby d7_2) _ ?_
    rw [len_of As102 An102]
    show Steps p.tables e below (s₁.setTop (mkF m 3 #[.val (.ref a1), .val (.int (2 : Int32))] [(.int (2 : Int32)), (.int (2 : Int32))])) _
    refine XS.isub X0.here hx rfl (hb hby d7_3) rfl ?_
    show Steps p.tables e below (s₁.setTop (mkF m 4 #[.val (.ref a1), .val (.int (2 : Int32))] [(.int ((2 : Int32) - (2 : Int32)))])) _
    refine castTop (g' := (mkF m 4 #[.val (.ref a1), .val (.int (2 : Int32))] [(.int (0 : Int32))])) (by rw [show ((2 : Int32) - (2 : Int32)) = (0 : Int32) by decide]) ?_
    show Steps p.tables e below (s₁.setTop (mkF m 4 #[.val (.ref a1), .val (.int (2 : Int32))] [(.int (0 : Int32))])) _
    refine XS.bipush X0.here hx rfl (hb hby d7_4) ?_
    show Steps p.tables e below (s₁.setTop (mkF m 6 #[.val (.ref a1), .val (.int (2 : Int32))] [(.int (31 : Int32)), (.int (0 : Int32))])) _
    refine XS.iushr X0.here hx rfl (hb hby d7_6) rfl ?_
    show Steps p.tables e below (s₁.setTop (mkF m 7 #[.val (.ref a1), .val (.int (2 : Int32))] [(.int (((0 : Int32).toUInt32 >>> ((31 : Int32) &&& 31).toUInt32).toInt32))])) _
    refine XS.i2b X0.here hx rfl (hb hby d7_7) rfl ?_
    show Steps p.tables e below (s₁.setTop (mkF m 8 #[.val (.ref a1), .val (.int (2 : Int32))] [(.int ((((0 : Int32).toUInt32 >>> ((31 : Int32) &&& 31).toUInt32).toInt32).toInt8.toInt32))])) _
    refine castTop (g' := (mkF m 8 #[.val (.ref a1), .val (.int (2 : Int32))] [(.int (0 : Int32))])) (by rw [show ((((0 : Int32).toUInt32 >>> ((31 : Int32) &&& 31).toUInt32).toInt32).toInt8.toInt32) = (0 : Int32) from (by decide)]) ?_
    exact k)
  obtain ⟨fs, hr, hrun, hended, hW, hsame⟩ := X0.leave (v := some (.int (0 : Int32))) (fun h => by rw [Bd.returns] at h; cases h)
  refine ⟨_, _, k103 _ (retOut X0 hx (t := .byte) Bd.returns rfl (Or.inl ⟨rfl, Or.inr (Or.inr (Or.inl rfl)), _, rfl⟩) (hb hby d7_8) hr), hrun, hended, _, _, rfl, ?_, ⟨_, rfl⟩, hW, hsame.mono (by decide) (by decide)⟩
  show Q_rm7 Z a1 k2 c1 c2 h0 n0 _ s₁.heap _
  rw [e0]
  exact ⟨rfl, N0, rfl⟩
theorem ef_6_RIRII (m : MethodId) (x0 : Addr) (x1 : Int32) (x2 : Addr) (x3 : Int32) (x4 : Int32) : entryFrame m #[(.ref x0), (.int x1), (.ref x2), (.int x3), (.int x4)] 7 = mkF m 0 #[.val (.ref x0), .val (.int x1), .val (.ref x2), .val (.int x3), .val (.int x4), .unset, .unset] [] := by first | (simp [entryFrame, mkF, argsToLocals, Value.category]; done) | rfl
theorem d6_0 : decode jdk_52_method_21_code 0 = .ok (.iconst 0, 1) := by decide +kernel
theorem d6_1 : decode jdk_52_method_21_code 1 = .ok (.istore 5, 2) := by decide +kernel
theorem d6_3 : decode jdk_52_method_21_code 3 = .ok (.iload 5, 2) := by decide +kernel
theorem d6_5 : decode jdk_52_method_21_code 5 = .ok (.iload 4, 2) := by decide +kernel
theorem d6_7 : decode jdk_52_method_21_code 7 = .ok (.if_icmp .ge 37, 3) := by decide +kernel
theorem d6_10 : decode jdk_52_method_21_code 10 = .ok (.aload_n 0, 1) := by decide +kernel
theorem d6_11 : decode jdk_52_method_21_code 11 = .ok (.iload_n 1, 1) := by decide +kernel
theorem d6_12 : decode jdk_52_method_21_code 12 = .ok (.caload, 1) := by decide +kernel
theorem d6_13 : decode jdk_52_method_21_code 13 = .ok (.istore 6, 2) := by decide +kernel
theorem d6_15 : decode jdk_52_method_21_code 15 = .ok (.iload 6, 2) := by decide +kernel
theorem d6_17 : decode jdk_52_method_21_code 17 = .ok (.sipush 255, 3) := by decide +kernel
theorem d6_20 : decode jdk_52_method_21_code 20 = .ok (.if_icmp .le 6, 3) := by decide +kernel
theorem d6_26 : decode jdk_52_method_21_code 26 = .ok (.aload_n 2, 1) := by decide +kernel
theorem d6_27 : decode jdk_52_method_21_code 27 = .ok (.iload_n 3, 1) := by decide +kernel
theorem d6_28 : decode jdk_52_method_21_code 28 = .ok (.iload 6, 2) := by decide +kernel
theorem d6_30 : decode jdk_52_method_21_code 30 = .ok (.i2b, 1) := by decide +kernel
theorem d6_31 : decode jdk_52_method_21_code 31 = .ok (.bastore, 1) := by decide +kernel
theorem d6_32 : decode jdk_52_method_21_code 32 = .ok (.iinc 1 1, 3) := by decide +kernel
theorem d6_35 : decode jdk_52_method_21_code 35 = .ok (.iinc 3 1, 3) := by decide +kernel
theorem d6_38 : decode jdk_52_method_21_code 38 = .ok (.iinc 5 1, 3) := by decide +kernel
theorem d6_41 : decode jdk_52_method_21_code 41 = .ok (.goto (-38), 3) := by decide +kernel
theorem d6_44 : decode jdk_52_method_21_code 44 = .ok (.iload 4, 2) := by decide +kernel
theorem d6_46 : decode jdk_52_method_21_code 46 = .ok (.ireturn, 1) := by decide +kernel
def Q_rm6 (Z : State) (a1 : Addr) (a2 : Addr) (k1 : ClassId) (k2 : ClassId) (c1 : Int32) (c2 : Int32) (h0 : Heap) (n0 : Nat) (v : Option Value) (h : Heap) (L : List Loc) : Prop := v = some (.int (2 : Int32)) ∧ Fr n0 L ∧ Keep h0 h [a2] ∧ Arv Z h a2 k2 .byte (2 : Int32) [(.int (nar .byte (c1.toInt8.toInt32))), (.int (nar .byte (c2.toInt8.toInt32)))] (.int (0 : Int32))
set_option maxRecDepth 65536 in
set_option maxHeartbeats 40000000 in
theorem rm6 (l : Launch) (Z : State) (a0 : Array Value) (hw : ∀ d ∈ tables_1, d.before a0 Z = true) (ws : List Jvm.Cond) (a1 : Addr) (a2 : Addr) (k1 : ClassId) (k2 : ClassId) (c1 : Int32) (c2 : Int32) (h0 : Heap) (n0 : Nat) (Z0 : n0 ≤ h0.size) (V1 : Arv Z h0 a1 k1 .char (2 : Int32) [(.int c1), (.int c2)] (.int (0 : Int32))) (V2 : Arv Z h0 a2 k2 .byte (2 : Int32) [(.int (0 : Int32)), (.int (0 : Int32))] (.int (0 : Int32))) (hne : a1 ≠ a2) (ga : n0 ≤ a2) (hb0 : ¬ ((255 : Int32) < c1)) (hb1 : ¬ ((255 : Int32) < c2)) :
    MetFree l (⟨"java/lang/StringUTF16", "compress", "([CI[BII)I"⟩ : MethodName) (head1 (Jvm.Cond.code (⟨"java/lang/StringUTF16", "compress", "([CI[BII)I"⟩ : MethodName) jdk_52_method_21_code 7 (some .int) :: ws) ({ frames := 0, cells := 0, slots := 0, locals := 0 } : Room)) (fun a U => a = #[(.ref a1), (.int (0 : Int32)), (.ref a2), (.int (0 : Int32)), (.int (2 : Int32))] ∧ Z.Warmed39 U.vm ∧ U.heap = h0) (fun _ _ _ _ _ => True) (fun _ U o U' => ∃ v L, o = .returned v ∧ Q_rm6 Z a1 a2 k1 k2 c1 c2 h0 n0 v U'.heap L ∧ FrameEnd U o U' L ({ frames := 0, cells := 0, slots := 0, locals := 0 } : Room).cells ({ frames := 0, cells := 0, slots := 0, locals := 0 } : Room).slots) := by
  refine MetFree.of_bodySF (plainFor_of_name pn_java_2flang_2fStringUTF16) hisR ?_
  intro p e s m args below meth c s₁ Bd hml0 hP hK
  obtain ⟨rfl, hZ, hh⟩ := hP
  have hx := Bd.exec
  have hby := Bd.bytes
  have hml : c.maxLocals = 7 := hml0
  have hown : s.vm.findClass "java/lang/StringUTF16" = some m.cls := findClass_of_methodNamed Bd.named
  have hnm := (name_of_methodNamed Bd.named Bd.method).1
  have X0 : Stand p l e ({ frames := 0, cells := 0, slots := 0, locals := 0 } : Room) s m #[(.ref a1), (.int (0 : Int32)), (.ref a2), (.int (0 : Int32)), (.int (2 : Int32))] below meth c s₁ [] 0 0 := Stand.of_body Bd
  have e0 : s₁.heap = h0 := by rw [← hh, Bd.state]; rfl
  have N0 := Fr.nil n0
  have k0 : ∀ t, Steps p.tables e below (s₁.setTop (mkF m 0 #[.val (.ref a1), .val (.int (0 : Int32)), .val (.ref a2), .val (.int (0 : Int32)), .val (.int (2 : Int32)), .unset, .unset] [])) t → Steps p.tables e below (s₁.setTop (entryFrame m #[(.ref a1), (.int (0 : Int32)), (.ref a2), (.int (0 : Int32)), (.int (2 : Int32))] 7)) t := fun t k => castTop (ef_6_RIRII m a1 (0 : Int32) a2 (0 : Int32) (2 : Int32)) k
  have K0 := Keep.refl h0 [a2]
  have k101 : ∀ t, Steps p.tables e below (s₁.setTop (mkF m 12 #[.val (.ref a1), .val (.int (0 : Int32)), .val (.ref a2), .val (.int (0 : Int32)), .val (.int (2 : Int32)), .val (.int (0 : Int32)), .unset] [(.int (0 : Int32)), (.ref a1)])) t → Steps p.tables e below (s₁.setTop (entryFrame m #[(.ref a1), (.int (0 : Int32)), (.ref a2), (.int (0 : Int32)), (.int (2 : Int32))] 7)) t := fun t k => k0 t (by
    show Steps p.tables e below (s₁.setTop (mkF m 0 #[.val (.ref a1), .val (.int (0 : Int32)), .val (.ref a2), .val (.int (0 : Int32)), .val (.int (2 : Int32)), .unset, .unset] [])) _
    refine XS.iconst X0.here hx rfl (hb hby d6_0) ?_
    show Steps p.tables e below (s₁.setTop (mkF m 1 #[.val (.ref a1), .val (.int (0 : Int32)), .val (.ref a2), .val (.int (0 : Int32)), .val (.int (2 : Int32)), .unset, .unset] [(.int (0 : Int32))])) _
    refine XS.istore X0.here hx rfl (hb hby d6_1) rfl (l' := #[.val (.ref a1), .val (.int (0 : Int32)), .val (.ref a2), .val (.int (0 : Int32)), .val (.int (2 : Int32)), .val (.int (0 : Int32)), .unset]) rfl ?_
    show Steps p.tables e below (s₁.setTop (mkF m 3 #[.val (.ref a1), .val (.int (0 : Int32)), .val (.ref a2), .val (.int (0 : Int32)), .val (.int (2 : Int32)), .val (.int (0 : Int32)), .unset] [])) _
    refine XS.iload X0.here hx rfl (hb hby d6_3) rfl ?_
    show Steps p.tables e below (s₁.setTop (mkF m 5 #[.val (.ref a1), .val (.int (0 : Int32)), .val (.ref a2), .val (.int (0 : Int32)), .val (.int (2 : Int32)), .val (.int (0 : Int32)), .unset] [(.int (0 : Int32))])) _
    refine XS.iload X0.here hx rfl (hb hby d6_5) rfl ?_
    show Steps p.tables e below (s₁.setTop (mkF m 7 #[.val (.ref a1), .val (.int (0 : Int32)), .val (.ref a2), .val (.int (0 : Int32)), .val (.int (2 : Int32)), .val (.int (0 : Int32)), .unset] [(.int (2 : Int32)), (.int (0 : Int32))])) _
    refine XS.icmpNo X0.here hx rfl (hb hby d6_7) rfl (tlt (by decide)).2.1 ?_
    show Steps p.tables e below (s₁.setTop (mkF m 10 #[.val (.ref a1), .val (.int (0 : Int32)), .val (.ref a2), .val (.int (0 : Int32)), .val (.int (2 : Int32)), .val (.int (0 : Int32)), .unset] [])) _
    refine XS.aloadN X0.here hx rfl (hb hby d6_10) rfl rfl ?_
    show Steps p.tables e below (s₁.setTop (mkF m 11 #[.val (.ref a1), .val (.int (0 : Int32)), .val (.ref a2), .val (.int (0 : Int32)), .val (.int (2 : Int32)), .val (.int (0 : Int32)), .unset] [(.ref a1)])) _
    refine XS.iloadN X0.here hx rfl (hb hby d6_11) rfl ?_
    exact k)
  obtain ⟨c102, Ar102, -, As102, An102, Ah102, -⟩ := id V1
  have hin102 : ¬ ((0 : Int32) < 0 ∨ c102.slots.size ≤ ((0 : Int32)).toNatClampNeg) := inb_of As102 ⟨by decide, by decide⟩
  have hat102 : c102.slots[((0 : Int32)).toNatClampNeg]? = some (.int c1) := Has.at Ah102 hin102 rfl
  have k103 : ∀ t, Steps p.tables e below (s₁.setTop (mkF m 31 #[.val (.ref a1), .val (.int (0 : Int32)), .val (.ref a2), .val (.int (0 : Int32)), .val (.int (2 : Int32)), .val (.int (0 : Int32)), .val (.int c1)] [(.int (c1.toInt8.toInt32)), (.int (0 : Int32)), (.ref a2)])) t → Steps p.tables e below (s₁.setTop (entryFrame m #[(.ref a1), (.int (0 : Int32)), (.ref a2), (.int (0 : Int32)), (.int (2 : Int32))] 7)) t := fun t k => k101 t (by
    show Steps p.tables e below (s₁.setTop (mkF m 12 #[.val (.ref a1), .val (.int (0 : Int32)), .val (.ref a2), .val (.int (0 : Int32)), .val (.int (2 : Int32)), .val (.int (0 : Int32)), .unset] [(.int (0 : Int32)), (.ref a1)])) _
    refine X0.caload hx (j := (0 : Int32)) (v := (.int c1)) (by rw [e0]; exact Ar102.1) (State.isArrayOf_alike hZ.alike Ar102.2.1) Ar102.2.2 hin102 hat102 (g := (mkF m 12 #[.val (.ref a1), .val (.int (0 : Int32)), .val (.ref a2), .val (.int (0 : Int32)), .val (.int (2 : Int32)), .val (.int (0 : Int32)), .unset] [(.int (0 : Int32)), (.ref a1)])) rfl rfl (hb hby d6_12) _ ?_
    show Steps p.tables e below (s₁.setTop (mkF m 13 #[.val (.ref a1), .val (.int (0 : Int32)), .val (.ref a2), .val (.int (0 : Int32)), .val (.int (2 : Int32)), .val (.int (0 : Int32)), .unset] [(.int c1)])) _
    refine XS.istore X0.here hx rfl (hb hby d6_13) rfl (l' := #[.val (.ref a1), .val (.int (0 : Int32)), .val (.ref a2), .val (.int (0 : Int32)), .val (.int (2 : Int32)), .val (.int (0 : Int32)), .val (.int c1)]) rfl ?_
    show Steps p.tables e below (s₁.setTop (mkF m 15 #[.val (.ref a1), .val (.int (0 : Int32)), .val (.ref a2), .val (.int (0 : Int32)), .val (.int (2 : Int32)), .val (.int (0 : Int32)), .val (.int c1)] [])) _
    refine XS.iload X0.here hx rfl (hb hby d6_15) rfl ?_
    show Steps p.tables e below (s₁.setTop (mkF m 17 #[.val (.ref a1), .val (.int (0 : Int32)), .val (.ref a2), .val (.int (0 : Int32)), .val (.int (2 : Int32)), .val (.int (0 : Int32)), .val (.int c1)] [(.int c1)])) _
    refine XS.sipush X0.here hx rfl (hb hby d6_17) ?_
    show Steps p.tables e below (s₁.setTop (mkF m 20 #[.val (.ref a1), .val (.int (0 : Int32)), .val (.ref a2), .val (.int (0 : Int32)), .val (.int (2 : Int32)), .val (.int (0 : Int32)), .val (.int c1)] [(.int (255 : Int32)), (.int c1)])) _
    refine XS.icmpYes X0.here hx rfl (pc0 := 20) (pc' := 26) rfl (hb hby d6_20) rfl (flt hb0).2.2.2 (by decide) (by decide) ?_
    show Steps p.tables e below (s₁.setTop (mkF m 26 #[.val (.ref a1), .val (.int (0 : Int32)), .val (.ref a2), .val (.int (0 : Int32)), .val (.int (2 : Int32)), .val (.int (0 : Int32)), .val (.int c1)] [])) _
    refine XS.aloadN X0.here hx rfl (hb hby d6_26) rfl rfl ?_
    show Steps p.tables e below (s₁.setTop (mkF m 27 #[.val (.ref a1), .val (.int (0 : Int32)), .val (.ref a2), .val (.int (0 : Int32)), .val (.int (2 : Int32)), .val (.int (0 : Int32)), .val (.int c1)] [(.ref a2)])) _
    refine XS.iloadN X0.here hx rfl (hb hby d6_27) rfl ?_
    show Steps p.tables e below (s₁.setTop (mkF m 28 #[.val (.ref a1), .val (.int (0 : Int32)), .val (.ref a2), .val (.int (0 : Int32)), .val (.int (2 : Int32)), .val (.int (0 : Int32)), .val (.int c1)] [(.int (0 : Int32)), (.ref a2)])) _
    refine XS.iload X0.here hx rfl (hb hby d6_28) rfl ?_
    show Steps p.tables e below (s₁.setTop (mkF m 30 #[.val (.ref a1), .val (.int (0 : Int32)), .val (.ref a2), .val (.int (0 : Int32)), .val (.int (2 : Int32)), .val (.int (0 : Int32)), .val (.int c1)] [(.int c1), (.int (0 : Int32)), (.ref a2)])) _
    refine XS.i2b X0.here hx rfl (hb hby d6_30) rfl ?_
    exact k)
  obtain ⟨c104, Ar104, Aq104, As104, An104, Ah104, Ag104⟩ := id V2
  have hin104 : ¬ ((0 : Int32) < 0 ∨ c104.slots.size ≤ ((0 : Int32)).toNatClampNeg) := inb_of As104 ⟨by decide, by decide⟩
  obtain ⟨T104, h104, X104, e104, W104, st104⟩ := stB X0 hx hZ e0 Ar104 (j := (0 : Int32)) hin104 (g := (mkF m 31 #[.val (.ref a1), .val (.int (0 : Int32)), .val (.ref a2), .val (.int (0 : Int32)), .val (.int (2 : Int32)), .val (.int (0 : Int32)), .val (.int c1)] [(.int (c1.toInt8.toInt32)), (.int (0 : Int32)), (.ref a2)])) rfl rfl (hb hby d6_31)
  have V105 : Arv Z h104 a2 k2 .byte (2 : Int32) [(.int (nar .byte (c1.toInt8.toInt32))), (.int (0 : Int32))] (.int (0 : Int32)) := Arv.set Ar104 Aq104 As104 An104 Ah104 Ag104 (fits_nar_byte _) W104 0 rfl (Nat.le_of_ble_eq_true rfl)
  have F106 := V1.other W104 hne
  have Z107 : n0 ≤ h104.size := Nat.le_trans Z0 (Nat.le_of_eq W104.size.symm)
  have N108 := Fr.snoc X104 N0 ga
  have K109 := K0.wr W104 (Or.inl (List.mem_of_getElem? (i := 0) rfl))
  have k110 : ∀ t, Steps p.tables e below (T104.setTop (mkF m 32 #[.val (.ref a1), .val (.int (0 : Int32)), .val (.ref a2), .val (.int (0 : Int32)), .val (.int (2 : Int32)), .val (.int (0 : Int32)), .val (.int c1)] [])) t → Steps p.tables e below (s₁.setTop (entryFrame m #[(.ref a1), (.int (0 : Int32)), (.ref a2), (.int (0 : Int32)), (.int (2 : Int32))] 7)) t := fun t k => k103 t (st104 t k)
  have k111 : ∀ t, Steps p.tables e below (T104.setTop (mkF m 12 #[.val (.ref a1), .val (.int (1 : Int32)), .val (.ref a2), .val (.int (1 : Int32)), .val (.int (2 : Int32)), .val (.int (1 : Int32)), .val (.int c1)] [(.int (1 : Int32)), (.ref a1)])) t → Steps p.tables e below (s₁.setTop (entryFrame m #[(.ref a1), (.int (0 : Int32)), (.ref a2), (.int (0 : Int32)), (.int (2 : Int32))] 7)) t := fun t k => k110 t (by
    show Steps p.tables e below (T104.setTop (mkF m 32 #[.val (.ref a1), .val (.int (0 : Int32)), .val (.ref a2), .val (.int (0 : Int32)), .val (.int (2 : Int32)), .val (.int (0 : Int32)), .val (.int c1)] [])) _
    refine XS.iinc X104.here hx rfl (hb hby d6_32) rfl (l' := #[.val (.ref a1), .val (.int (1 : Int32)), .val (.ref a2), .val (.int (0 : Int32)), .val (.int (2 : Int32)), .val (.int (0 : Int32)), .val (.int c1)]) rfl ?_
    show Steps p.tables e below (T104.setTop (mkF m 35 #[.val (.ref a1), .val (.int (1 : Int32)), .val (.ref a2), .val (.int (0 : Int32)), .val (.int (2 : Int32)), .val (.int (0 : Int32)), .val (.int c1)] [])) _
    refine XS.iinc X104.here hx rfl (hb hby d6_35) rfl (l' := #[.val (.ref a1), .val (.int (1 : Int32)), .val (.ref a2), .val (.int (1 : Int32)), .val (.int (2 : Int32)), .val (.int (0 : Int32)), .val (.int c1)]) rfl ?_
    show Steps p.tables e below (T104.setTop (mkF m 38 #[.val (.ref a1), .val (.int (1 : Int32)), .val (.ref a2), .val (.int (1 : Int32)), .val (.int (2 : Int32)), .val (.int (0 : Int32)), .val (.int c1)] [])) _
    refine XS.iinc X104.here hx rfl (hb hby d6_38) rfl (l' := #[.val (.ref a1), .val (.int (1 : Int32)), .val (.ref a2), .val (.int (1 : Int32)), .val (.int (2 : Int32)), .val (.int (1 : Int32)), .val (.int c1)]) rfl ?_
    show Steps p.tables e below (T104.setTop (mkF m 41 #[.val (.ref a1), .val (.int (1 : Int32)), .val (.ref a2), .val (.int (1 : Int32)), .val (.int (2 : Int32)), .val (.int (1 : Int32)), .val (.int c1)] [])) _
    refine XS.goto X104.here hx rfl (pc0 := 41) (pc' := 3) rfl (hb hby d6_41) (by decide) (by decide) ?_
    show Steps p.tables e below (T104.setTop (mkF m 3 #[.val (.ref a1), .val (.int (1 : Int32)), .val (.ref a2), .val (.int (1 : Int32)), .val (.int (2 : Int32)), .val (.int (1 : Int32)), .val (.int c1)] [])) _
    refine XS.iload X104.here hx rfl (hb hby d6_3) rfl ?_
    show Steps p.tables e below (T104.setTop (mkF m 5 #[.val (.ref a1), .val (.int (1 : Int32)), .val (.ref a2), .val (.int (1 : Int32)), .val (.int (2 : Int32)), .val (.int (1 : Int32)), .val (.int c1)] [(.int (1 : Int32))])) _
    refine XS.iload X104.here hx rfl (hb hby d6_5) rfl ?_
    show Steps p.tables e below (T104.setTop (mkF m 7 #[.val (.ref a1), .val (.int (1 : Int32)), .val (.ref a2), .val (.int (1 : Int32)), .val (.int (2 : Int32)), .val (.int (1 : Int32)), .val (.int c1)] [(.int (2 : Int32)), (.int (1 : Int32))])) _
    refine XS.icmpNo X104.here hx rfl (hb hby d6_7) rfl (tlt (by decide)).2.1 ?_
    show Steps p.tables e below (T104.setTop (mkF m 10 #[.val (.ref a1), .val (.int (1 : Int32)), .val (.ref a2), .val (.int (1 : Int32)), .val (.int (2 : Int32)), .val (.int (1 : Int32)), .val (.int c1)] [])) _
    refine XS.aloadN X104.here hx rfl (hb hby d6_10) rfl rfl ?_
    show Steps p.tables e below (T104.setTop (mkF m 11 #[.val (.ref a1), .val (.int (1 : Int32)), .val (.ref a2), .val (.int (1 : Int32)), .val (.int (2 : Int32)), .val (.int (1 : Int32)), .val (.int c1)] [(.ref a1)])) _
    refine XS.iloadN X104.here hx rfl (hb hby d6_11) rfl ?_
    exact k)
  obtain ⟨c112, Ar112, -, As112, An112, Ah112, -⟩ := id F106
  have hin112 : ¬ ((1 : Int32) < 0 ∨ c112.slots.size ≤ ((1 : Int32)).toNatClampNeg) := inb_of As112 ⟨by decide, by decide⟩
  have hat112 : c112.slots[((1 : Int32)).toNatClampNeg]? = some (.int c2) := Has.at Ah112 hin112 rfl
  have k113 : ∀ t, Steps p.tables e below (T104.setTop (mkF m 31 #[.val (.ref a1), .val (.int (1 : Int32)), .val (.ref a2), .val (.int (1 : Int32)), .val (.int (2 : Int32)), .val (.int (1 : Int32)), .val (.int c2)] [(.int (c2.toInt8.toInt32)), (.int (1 : Int32)), (.ref a2)])) t → Steps p.tables e below (s₁.setTop (entryFrame m #[(.ref a1), (.int (0 : Int32)), (.ref a2), (.int (0 : Int32)), (.int (2 : Int32))] 7)) t := fun t k => k111 t (by
    show Steps p.tables e below (T104.setTop (mkF m 12 #[.val (.ref a1), .val (.int (1 : Int32)), .val (.ref a2), .val (.int (1 : Int32)), .val (.int (2 : Int32)), .val (.int (1 : Int32)), .val (.int c1)] [(.int (1 : Int32)), (.ref a1)])) _
    refine X104.caload hx (j := (1 : Int32)) (v := (.int c2)) (by rw [e104]; exact Ar112.1) (State.isArrayOf_alike hZ.alike Ar112.2.1) Ar112.2.2 hin112 hat112 (g := (mkF m 12 #[.val (.ref a1), .val (.int (1 : Int32)), .val (.ref a2), .val (.int (1 : Int32)), .val (.int (2 : Int32)), .val (.int (1 : Int32)), .val (.int c1)] [(.int (1 : Int32)), (.ref a1)])) rfl rfl (hb hby d6_12) _ ?_
    show Steps p.tables e below (T104.setTop (mkF m 13 #[.val (.ref a1), .val (.int (1 : Int32)), .val (.ref a2), .val (.int (1 : Int32)), .val (.int (2 : Int32)), .val (.int (1 : Int32)), .val (.int c1)] [(.int c2)])) _
    refine XS.istore X104.here hx rfl (hb hby d6_13) rfl (l' := #[.val (.ref a1), .val (.int (1 : Int32)), .val (.ref a2), .val (.int (1 : Int32)), .val (.int (2 : Int32)), .val (.int (1 : Int32)), .val (.int c2)]) rfl ?_
    show Steps p.tables e below (T104.setTop (mkF m 15 #[.val (.ref a1), .val (.int (1 : Int32)), .val (.ref a2), .val (.int (1 : Int32)), .val (.int (2 : Int32)), .val (.int (1 : Int32)), .val (.int c2)] [])) _
    refine XS.iload X104.here hx rfl (hb hby d6_15) rfl ?_
    show Steps p.tables e below (T104.setTop (mkF m 17 #[.val (.ref a1), .val (.int (1 : Int32)), .val (.ref a2), .val (.int (1 : Int32)), .val (.int (2 : Int32)), .val (.int (1 : Int32)), .val (.int c2)] [(.int c2)])) _
    refine XS.sipush X104.here hx rfl (hb hby d6_17) ?_
    show Steps p.tables e below (T104.setTop (mkF m 20 #[.val (.ref a1), .val (.int (1 : Int32)), .val (.ref a2), .val (.int (1 : Int32)), .val (.int (2 : Int32)), .val (.int (1 : Int32)), .val (.int c2)] [(.int (255 : Int32)), (.int c2)])) _
    refine XS.icmpYes X104.here hx rfl (pc0 := 20) (pc' := 26) rfl (hb hby d6_20) rfl (flt hb1).2.2.2 (by decide) (by decide) ?_
    show Steps p.tables e below (T104.setTop (mkF m 26 #[.val (.ref a1), .val (.int (1 : Int32)), .val (.ref a2), .val (.int (1 : Int32)), .val (.int (2 : Int32)), .val (.int (1 : Int32)), .val (.int c2)] [])) _
    refine XS.aloadN X104.here hx rfl (hb hby d6_26) rfl rfl ?_
    show Steps p.tables e below (T104.setTop (mkF m 27 #[.val (.ref a1), .val (.int (1 : Int32)), .val (.ref a2), .val (.int (1 : Int32)), .val (.int (2 : Int32)), .val (.int (1 : Int32)), .val (.int c2)] [(.ref a2)])) _
    refine XS.iloadN X104.here hx rfl (hb hby d6_27) rfl ?_
    show Steps p.tables e below (T104.setTop (mkF m 28 #[.val (.ref a1), .val (.int (1 : Int32)), .val (.ref a2), .val (.int (1 : Int32)), .val (.int (2 : Int32)), .val (.int (1 : Int32)), .val (.int c2)] [(.int (1 : Int32)), (.ref a2)])) _
    refine XS.iload X104.here hx rfl (hb hby d6_28) rfl ?_
    show Steps p.tables e below (T104.setTop (mkF m 30 #[.val (.ref a1), .val (.int (1 : Int32)), .val (.ref a2), .val (.int (1 : Int32)), .val (.int (2 : Int32)), .val (.int (1 : Int32)), .val (.int c2)] [(.int c2), (.int (1 : Int32)), (.ref a2)])) _
    refine XS.i2b X104.here hx rfl (hb hby d6_30) rfl ?_
    exact k)
  obtain ⟨c114, Ar114, Aq114, As114, An114, Ah114, Ag114⟩ := id V105
  have hin114 : ¬ ((1 : Int32) < 0 ∨ c114.slots.size ≤ ((1 : Int32)).toNatClampNeg) := inb_of As114 ⟨by decide, by decide⟩
  obtain ⟨T114, h114, X114, e114, W114, st114⟩ := stB X104 hx hZ e104 Ar114 (j := (1 : Int32)) hin114 (g := (mkF m 31 #[.val (.ref a1), .val (.int (1 : Int32)), .val (.ref a2), .val (.int (1 : Int32)), .val (.int (2 : Int32)), .val (.int (1 : Int32)), .val (.int c2)] [(.int (c2.toInt8.toInt32)), (.int (1 : Int32)), (.ref a2)])) rfl rfl (hb hby d6_31)
  have V115 : Arv Z h114 a2 k2 .byte (2 : Int32) [(.int (nar .byte (c1.toInt8.toInt32))), (.int (nar .byte (c2.toInt8.toInt32)))] (.int (0 : Int32)) := Arv.set Ar114 Aq114 As114 An114 Ah114 Ag114 (fits_nar_byte _) W114 1 rfl (Nat.le_of_ble_eq_true rfl)
  have F116 := F106.other W114 hne
  have Z117 : n0 ≤ h114.size := Nat.le_trans Z107 (Nat.le_of_eq W114.size.symm)
  have N118 := Fr.snoc X114 N108 ga
  have K119 := K109.wr W114 (Or.inl (List.mem_of_getElem? (i := 0) rfl))
  have k120 : ∀ t, Steps p.tables e below (T114.setTop (mkF m 32 #[.val (.ref a1), .val (.int (1 : Int32)), .val (.ref a2), .val (.int (1 : Int32)), .val (.int (2 : Int32)), .val (.int (1 : Int32)), .val (.int c2)] [])) t → Steps p.tables e below (s₁.setTop (entryFrame m #[(.ref a1), (.int (0 : Int32)), (.ref a2), (.int (0 : Int32)), (.int (2 : Int32))] 7)) t := fun t k => k113 t (st114 t k)
  have k121 : ∀ t, Steps p.tables e below (T114.setTop (mkF m 46 #[.val (.ref a1), .val (.int (2 : Int32)), .val (.ref a2), .val (.int (2 : Int32)), .val (.int (2 : Int32)), .val (.int (2 : Int32)), .val (.int c2)] [(.int (2 : Int32))])) t → Steps p.tables e below (s₁.setTop (entryFrame m #[(.ref a1), (.int (0 : Int32)), (.ref a2), (.int (0 : Int32)), (.int (2 : Int32))] 7)) t := fun t k => k120 t (by
    show Steps p.tables e below (T114.setTop (mkF m 32 #[.val (.ref a1), .val (.int (1 : Int32)), .val (.ref a2), .val (.int (1 : Int32)), .val (.int (2 : Int32)), .val (.int (1 : Int32)), .val (.int c2)] [])) _
    refine XS.iinc X114.here hx rfl (hb hby d6_32) rfl (l' := #[.val (.ref a1), .val (.int (2 : Int32)), .val (.ref a2), .val (.int (1 : Int32)), .val (.int (2 : Int32)), .val (.int (1 : Int32)), .val (.int c2)]) rfl ?_
    show Steps p.tables e below (T114.setTop (mkF m 35 #[.val (.ref a1), .val (.int (2 : Int32)), .val (.ref a2), .val (.int (1 : Int32)), .val (.int (2 : Int32)), .val (.int (1 : Int32)), .val (.int c2)] [])) _
    refine XS.iinc X114.here hx rfl (hb hby d6_35) rfl (l' := #[.val (.ref a1), .val (.int (2 : Int32)), .val (.ref a2), .val (.int (2 : Int32)), .val (.int (2 : Int32)), .val (.int (1 : Int32)), .val (.int c2)]) rfl ?_
    show Steps p.tables e below (T114.setTop (mkF m 38 #[.val (.ref a1), .val (.int (2 : Int32)), .val (.ref a2), .val (.int (2 : Int32)), .val (.int (2 : Int32)), .val (.int (1 : Int32)), .val (.int c2)] [])) _
    refine XS.iinc X114.here hx rfl (hb hby d6_38) rfl (l' := #[.val (.ref a1), .val (.int (2 : Int32)), .val (.ref a2), .val (.int (2 : Int32)), .val (.int (2 : Int32)), .val (.int (2 : Int32)), .val (.int c2)]) rfl ?_
    show Steps p.tables e below (T114.setTop (mkF m 41 #[.val (.ref a1), .val (.int (2 : Int32)), .val (.ref a2), .val (.int (2 : Int32)), .val (.int (2 : Int32)), .val (.int (2 : Int32)), .val (.int c2)] [])) _
    refine XS.goto X114.here hx rfl (pc0 := 41) (pc' := 3) rfl (hb hby d6_41) (by decide) (by decide) ?_
    show Steps p.tables e below (T114.setTop (mkF m 3 #[.val (.ref a1), .val (.int (2 : Int32)), .val (.ref a2), .val (.int (2 : Int32)), .val (.int (2 : Int32)), .val (.int (2 : Int32)), .val (.int c2)] [])) _
    refine XS.iload X114.here hx rfl (hb hby d6_3) rfl ?_
    show Steps p.tables e below (T114.setTop (mkF m 5 #[.val (.ref a1), .val (.int (2 : Int32)), .val (.ref a2), .val (.int (2 : Int32)), .val (.int (2 : Int32)), .val (.int (2 : Int32)), .val (.int c2)] [(.int (2 : Int32))])) _
    refine XS.iload X114.here hx rfl (hb hby d6_5) rfl ?_
    show Steps p.tables e below (T114.setTop (mkF m 7 #[.val (.ref a1), .val (.int (2 : Int32)), .val (.ref a2), .val (.int (2 : Int32)), .val (.int (2 : Int32)), .val (.int (2 : Int32)), .val (.int c2)] [(.int (2 : Int32)), (.int (2 : Int32))])) _
    refine XS.icmpYes X114.here hx rfl (pc0 := 7) (pc' := 44) rfl (hb hby d6_7) rfl (flt (by decide)).2.1 (by decide) (by decide) ?_
    show Steps p.tables e below (T114.setTop (mkF m 44 #[.val (.ref a1), .val (.int (2 : Int32)), .val (.ref a2), .val (.int (2 : Int32)), .val (.int (2 : Int32)), .val (.int (2 : Int32)), .val (.int c2)] [])) _
    refine XS.iload X114.here hx rfl (hb hby d6_44) rfl ?_
    exact k)
  obtain ⟨fs, hr, hrun, hended, hW, hsame⟩ := X114.leave (v := some (.int (2 : Int32))) (fun h => by rw [Bd.returns] at h; cases h)
  refine ⟨_, _, k121 _ (retOut X114 hx (t := .int) Bd.returns rfl (Or.inl ⟨rfl, Or.inl rfl, _, rfl⟩) (hb hby d6_46) hr), hrun, hended, _, _, rfl, ?_, ⟨_, rfl⟩, hW, hsame.mono (by decide) (by decide)⟩
  show Q_rm6 Z a1 a2 k1 k2 c1 c2 h0 n0 _ T114.heap _
  rw [e114]
  exact ⟨rfl, N118, K119, V115⟩
theorem ef_5_RII (m : MethodId) (x0 : Addr) (x1 : Int32) (x2 : Int32) : entryFrame m #[(.ref x0), (.int x1), (.int x2)] 6 = mkF m 0 #[.val (.ref x0), .val (.int x1), .val (.int x2), .unset, .unset, .unset] [] := by first | (simp [entryFrame, mkF, argsToLocals, Value.category]; done) | rfl
theorem d5_0 : decode jdk_52_method_16_code 0 = .ok (.iload_n 2, 1) := by decide +kernel
theorem d5_1 : decode jdk_52_method_16_code 1 = .ok (.newarray .byte, 2) := by decide +kernel
theorem d5_3 : decode jdk_52_method_16_code 3 = .ok (.astore_n 3, 1) := by decide +kernel
theorem d5_4 : decode jdk_52_method_16_code 4 = .ok (.aload_n 0, 1) := by decide +kernel
theorem d5_5 : decode jdk_52_method_16_code 5 = .ok (.iload_n 1, 1) := by decide +kernel
theorem d5_6 : decode jdk_52_method_16_code 6 = .ok (.aload_n 3, 1) := by decide +kernel
theorem d5_7 : decode jdk_52_method_16_code 7 = .ok (.iconst 0, 1) := by decide +kernel
theorem d5_8 : decode jdk_52_method_16_code 8 = .ok (.iload_n 2, 1) := by decide +kernel
theorem d5_9 : decode jdk_52_method_16_code 9 = .ok (.invokestatic 115, 3) := by decide +kernel
theorem pd__28_5bCI_5bBII_29I : parseMethodDescriptor "([CI[BII)I" = some ⟨[(.array .char), .int, (.array .byte), .int, .int], some .int⟩ := by decide +kernel
theorem d5_12 : decode jdk_52_method_16_code 12 = .ok (.istore 4, 2) := by decide +kernel
theorem d5_14 : decode jdk_52_method_16_code 14 = .ok (.iload 4, 2) := by decide +kernel
theorem d5_16 : decode jdk_52_method_16_code 16 = .ok (.iload_n 2, 1) := by decide +kernel
theorem d5_17 : decode jdk_52_method_16_code 17 = .ok (.if_icmp .eq 40, 3) := by decide +kernel
theorem d5_57 : decode jdk_52_method_16_code 57 = .ok (.aload_n 3, 1) := by decide +kernel
theorem d5_58 : decode jdk_52_method_16_code 58 = .ok (.areturn, 1) := by decide +kernel
def Q_rm5 (Z : State) (a1 : Addr) (k1 : ClassId) (c1 : Int32) (c2 : Int32) (h0 : Heap) (n0 : Nat) (v : Option Value) (h : Heap) (L : List Loc) : Prop := ∃ (b : Addr) (k : ClassId), v = some (.ref b) ∧ Fr n0 L ∧ b = h0.size ∧ Keep h0 h [] ∧ Arv Z h b k .byte (2 : Int32) [(.int (nar .byte (c1.toInt8.toInt32))), (.int (nar .byte (c2.toInt8.toInt32)))] (.int (0 : Int32))
set_option maxRecDepth 65536 in
set_option maxHeartbeats 40000000 in
theorem rm5 (l : Launch) (Z : State) (a0 : Array Value) (hw : ∀ d ∈ tables_1, d.before a0 Z = true) (ws : List Jvm.Cond) (a1 : Addr) (k1 : ClassId) (c1 : Int32) (c2 : Int32) (h0 : Heap) (n0 : Nat) (Z0 : n0 ≤ h0.size) (V1 : Arv Z h0 a1 k1 .char (2 : Int32) [(.int c1), (.int c2)] (.int (0 : Int32))) (hb0 : ¬ ((255 : Int32) < c1)) (hb1 : ¬ ((255 : Int32) < c2)) :
    MetFree l (⟨"java/lang/StringUTF16", "compress", "([CII)[B"⟩ : MethodName) (head1 (Jvm.Cond.code (⟨"java/lang/StringUTF16", "compress", "([CII)[B"⟩ : MethodName) jdk_52_method_16_code 6 (some (.array .byte)) :: ws) ({ frames := 1, cells := 1, slots := 2, locals := 18 } : Room)) (fun a U => a = #[(.ref a1), (.int (0 : Int32)), (.int (2 : Int32))] ∧ Z.Warmed39 U.vm ∧ U.heap = h0) (fun _ _ _ _ _ => True) (fun _ U o U' => ∃ v L, o = .returned v ∧ Q_rm5 Z a1 k1 c1 c2 h0 n0 v U'.heap L ∧ FrameEnd U o U' L ({ frames := 1, cells := 1, slots := 2, locals := 18 } : Room).cells ({ frames := 1, cells := 1, slots := 2, locals := 18 } : Room).slots) := by
  refine MetFree.of_bodySF (plainFor_of_name pn_java_2flang_2fStringUTF16) hisR ?_
  intro p e s m args below meth c s₁ Bd hml0 hP hK
  obtain ⟨rfl, hZ, hh⟩ := hP
  have hx := Bd.exec
  have hby := Bd.bytes
  have hml : c.maxLocals = 6 := hml0
  have hown : s.vm.findClass "java/lang/StringUTF16" = some m.cls := findClass_of_methodNamed Bd.named
  have hnm := (name_of_methodNamed Bd.named Bd.method).1
  have X0 : Stand p l e ({ frames := 1, cells := 1, slots := 2, locals := 18 } : Room) s m #[(.ref a1), (.int (0 : Int32)), (.int (2 : Int32))] below meth c s₁ [] 0 0 := Stand.of_body Bd
  have e0 : s₁.heap = h0 := by rw [← hh, Bd.state]; rfl
  have N0 := Fr.nil n0
  have k0 : ∀ t, Steps p.tables e below (s₁.setTop (mkF m 0 #[.val (.ref a1), .val (.int (0 : Int32)), .val (.int (2 : Int32)), .unset, .unset, .unset] [])) t → Steps p.tables e below (s₁.setTop (entryFrame m #[(.ref a1), (.int (0 : Int32)), (.int (2 : Int32))] 6)) t := fun t k => castTop (ef_5_RII m a1 (0 : Int32) (2 : Int32)) k
  have K0 : Keep h0 h0 [] := Keep.refl h0 []
  have k101 : ∀ t, Steps p.tables e below (s₁.setTop (mkF m 1 #[.val (.ref a1), .val (.int (0 : Int32)), .val (.int (2 : Int32)), .unset, .unset, .unset] [(.int (2 : Int32))])) t → Steps p.tables e below (s₁.setTop (entryFrame m #[(.ref a1), (.int (0 : Int32)), (.int (2 : Int32))] 6)) t := fun t k => k0 t (by
    show Steps p.tables e below (s₁.setTop (mkF m 0 #[.val (.ref a1), .val (.int (0 : Int32)), .val (.int (2 : Int32)), .unset, .unset, .unset] [])) _
    refine XS.iloadN X0.here hx rfl (hb hby d5_0) rfl ?_
    exact k)
  obtain ⟨T102, h102, k102, X102, e102, E102, A102, st102⟩ := newP X0 hx hZ (hw _ (List.mem_of_getElem? (i := 29) rfl)) e0 (g := (mkF m 1 #[.val (.ref a1), .val (.int (0 : Int32)), .val (.int (2 : Int32)), .unset, .unset, .unset] [(.int (2 : Int32))])) rfl (hb hby d5_1) rfl (by decide) (cap := 2) (by decide) (by decide) (by decide) (by decide)
  obtain ⟨b102, g102⟩ : ∃ z, z = h0.size := ⟨_, rfl⟩
  rw [← g102] at A102 st102
  have n103 : a1 ≠ b102 := Nat.ne_of_lt (Nat.lt_of_lt_of_le V1.lt (Nat.le_of_eq g102.symm))
  have g104 : n0 ≤ b102 := Nat.le_trans Z0 (Nat.le_of_eq g102.symm)
  have z105 : h0.size ≤ b102 := Nat.le_trans K0.1 (Nat.le_of_eq g102.symm)
  have F106 := V1.ext E102
  have Z107 : n0 ≤ h102.size := Nat.le_trans Z0 E102.1
  have K108 := K0.ext E102
  have V109 : Arv Z h102 b102 k102 .byte (2 : Int32) [(.int (0 : Int32)), (.int (0 : Int32))] (.int (0 : Int32)) := (Arv.new A102 (by decide)).pad (pad_rep [] (.int (0 : Int32)) 2)
  have k110 : ∀ t, Steps p.tables e below (T102.setTop (mkF m 3 #[.val (.ref a1), .val (.int (0 : Int32)), .val (.int (2 : Int32)), .unset, .unset, .unset] [(.ref b102)])) t → Steps p.tables e below (s₁.setTop (entryFrame m #[(.ref a1), (.int (0 : Int32)), (.int (2 : Int32))] 6)) t := fun t k => k101 t (st102 t k)
  have k111 : ∀ t, Steps p.tables e below (T102.setTop (mkF m 9 #[.val (.ref a1), .val (.int (0 : Int32)), .val (.int (2 : Int32)), .val (.ref b102), .unset, .unset] [(.int (2 : Int32)), (.int (0 : Int32)), (.ref b102), (.int (0 : Int32)), (.ref a1)])) t → Steps p.tables e below (s₁.setTop (entryFrame m #[(.ref a1), (.int (0 : Int32)), (.int (2 : Int32))] 6)) t := fun t k => k110 t (by
    show Steps p.tables e below (T102.setTop (mkF m 3 #[.val (.ref a1), .val (.int (0 : Int32)), .val (.int (2 : Int32)), .unset, .unset, .unset] [(.ref b102)])) _
    refine XS.astoreN X102.here hx rfl (hb hby d5_3) rfl rfl (l' := #[.val (.ref a1), .val (.int (0 : Int32)), .val (.int (2 : Int32)), .val (.ref b102), .unset, .unset]) rfl ?_
    show Steps p.tables e below (T102.setTop (mkF m 4 #[.val (.ref a1), .val (.int (0 : Int32)), .val (.int (2 : Int32)), .val (.ref b102), .unset, .unset] [])) _
    refine XS.aloadN X102.here hx rfl (hb hby d5_4) rfl rfl ?_
    show Steps p.tables e below (T102.setTop (mkF m 5 #[.val (.ref a1), .val (.int (0 : Int32)), .val (.int (2 : Int32)), .val (.ref b102), .unset, .unset] [(.ref a1)])) _
    refine XS.iloadN X102.here hx rfl (hb hby d5_5) rfl ?_
    show Steps p.tables e below (T102.setTop (mkF m 6 #[.val (.ref a1), .val (.int (0 : Int32)), .val (.int (2 : Int32)), .val (.ref b102), .unset, .unset] [(.int (0 : Int32)), (.ref a1)])) _
    refine XS.aloadN X102.here hx rfl (hb hby d5_6) rfl rfl ?_
    show Steps p.tables e below (T102.setTop (mkF m 7 #[.val (.ref a1), .val (.int (0 : Int32)), .val (.int (2 : Int32)), .val (.ref b102), .unset, .unset] [(.ref b102), (.int (0 : Int32)), (.ref a1)])) _
    refine XS.iconst X102.here hx rfl (hb hby d5_7) ?_
    show Steps p.tables e below (T102.setTop (mkF m 8 #[.val (.ref a1), .val (.int (0 : Int32)), .val (.int (2 : Int32)), .val (.ref b102), .unset, .unset] [(.int (0 : Int32)), (.ref b102), (.int (0 : Int32)), (.ref a1)])) _
    refine XS.iloadN X102.here hx rfl (hb hby d5_8) rfl ?_
    exact k)
  obtain ⟨_, _, ⟨T112, L112, k112, n112⟩, -, X112, ⟨Lc112, hQ112, l112, y112, z112⟩, st112⟩ := Jvm.LawKit.callS X102 hx (y := (⟨"java/lang/StringUTF16", "compress", "([CI[BII)I"⟩ : MethodName)) hown (mvT hZ (hw _ (List.mem_of_getElem? (i := 30) rfl))) (mvT hZ (hw _ (List.mem_of_getElem? (i := 31) rfl))) (mvT hZ (hw _ (List.mem_of_getElem? (i := 27) rfl))) (mvT hZ (hw _ (List.mem_of_getElem? (i := 32) rfl))) (by decide) (backOf (W := 0) (rm6 l Z a0 hw [] a1 b102 k1 k102 c1 c2 h102 n0 Z107 F106 V109 n103 g104 hb0 hb1) hZ (hw _ (List.mem_of_getElem? (i := 32) rfl)) (hw _ (List.mem_of_getElem? (i := 27) rfl)) (by decide) (by decide)) (g := (mkF m 9 #[.val (.ref a1), .val (.int (0 : Int32)), .val (.int (2 : Int32)), .val (.ref b102), .unset, .unset] [(.int (2 : Int32)), (.int (0 : Int32)), (.ref b102), (.int (0 : Int32)), (.ref a1)])) rfl (by rw [hml]; rfl) (argsL := [(.ref a1), (.int (0 : Int32)), (.ref b102), (.int (0 : Int32)), (.int (2 : Int32))]) (rest := []) (lenOf pd__28_5bCI_5bBII_29I rfl) rfl (by show 2 * 0 + _ ≤ _; exact Nat.le_of_eq rfl) (hb hby d5_9) (fun _ _ => ⟨rfl, e102, (by decide : 1 + 0 ≤ _), (by decide : 2 + 0 ≤ _)⟩)
  dsimp only [Pt.U, Pt.locs, Pt.cells, Pt.slots] at X112 l112 y112 z112 st112 hQ112
  subst l112 y112 z112
  obtain ⟨h112, e112⟩ : ∃ h', T112.heap = h' := ⟨_, rfl⟩
  rw [e112] at hQ112
  obtain ⟨rfl, N112q, K112, V112⟩ := hQ112
  have N113 := Fr.app N0 N112q
  have k114 : ∀ t, Steps p.tables e below (T112.setTop (mkF m 12 #[.val (.ref a1), .val (.int (0 : Int32)), .val (.int (2 : Int32)), .val (.ref b102), .unset, .unset] [(.int (2 : Int32))])) t → Steps p.tables e below (s₁.setTop (entryFrame m #[(.ref a1), (.int (0 : Int32)), (.int (2 : Int32))] 6)) t := fun t k => k111 t (st112 t k)
  have F115 := F106.keep K112 (ninS n103 nin0)
  have Z116 : n0 ≤ h112.size := Nat.le_trans Z107 K112.1
  have K117 := Keep.trans K108 K112 (allS (Or.inr z105) all0)
  have k118 : ∀ t, Steps p.tables e below (T112.setTop (mkF m 58 #[.val (.ref a1), .val (.int (0 : Int32)), .val (.int (2 : Int32)), .val (.ref b102), .val (.int (2 : Int32)), .unset] [(.ref b102)])) t → Steps p.tables e below (s₁.setTop (entryFrame m #[(.ref a1), (.int (0 : Int32)), (.int (2 : Int32))] 6)) t := fun t k => k114 t (by
    show Steps p.tables e below (T112.setTop (mkF m 12 #[.val (.ref a1), .val (.int (0 : Int32)), .val (.int (2 : Int32)), .val (.ref b102), .unset, .unset] [(.int (2 : Int32))])) _
    refine XS.istore X112.here hx rfl (hb hby d5_12) rfl (l' := #[.val (.ref a1), .val (.int (0 : Int32)), .val (.int (2 : Int32)), .val (.ref b102), .val (.int (2 : Int32)), .unset]) rfl ?_
    show Steps p.tables e below (T112.setTop (mkF m 14 #[.val (.ref a1), .val (.int (0 : Int32)), .val (.int (2 : Int32)), .val (.ref b102), .val (.int (2 : Int32)), .unset] [])) _
    refine XS.iload X112.here hx rfl (hb hby d5_14) rfl ?_
    show Steps p.tables e below (T112.setTop (mkF m 16 #[.val (.ref a1), .val (.int (0 : Int32)), .val (.int (2 : Int32)), .val (.ref b102), .val (.int (2 : Int32)), .unset] [(.int (2 : Int32))])) _
    refine XS.iloadN X112.here hx rfl (hb hby d5_16) rfl ?_
    show Steps p.tables e below (T112.setTop (mkF m 17 #[.val (.ref a1), .val (.int (0 : Int32)), .val (.int (2 : Int32)), .val (.ref b102), .val (.int (2 : Int32)), .unset] [(.int (2 : Int32)), (.int (2 : Int32))])) _
    refine XS.icmpYes X112.here hx rfl (pc0 := 17) (pc' := 57) rfl (hb hby d5_17) rfl (teq (by decide)).1 (by decide) (by decide) ?_
    show Steps p.tables e below (T112.setTop (mkF m 57 #[.val (.ref a1), .val (.int (0 : Int32)), .val (.int (2 : Int32)), .val (.ref b102), .val (.int (2 : Int32)), .unset] [])) _
    refine XS.aloadN X112.here hx rfl (hb hby d5_57) rfl rfl ?_
    exact k)
  obtain ⟨fs, hr, hrun, hended, hW, hsame⟩ := X112.leave (v := some (.ref b102)) (fun h => by rw [Bd.returns] at h; cases h)
  refine ⟨_, _, k118 _ (retOut X112 hx (t := (.array .byte)) Bd.returns rfl (Or.inr (Or.inr (Or.inr (Or.inr ⟨rfl, rfl, rfl⟩)))) (hb hby d5_58) hr), hrun, hended, _, _, rfl, ?_, ⟨_, rfl⟩, hW, hsame.mono (by decide) (by decide)⟩
  show Q_rm5 Z a1 k1 c1 c2 h0 n0 _ T112.heap _
  rw [e112]
  exact ⟨b102, k102, rfl, N113, g102, K117, V112⟩
theorem ef_3_RRIIn (m : MethodId) (x0 : Addr) (x1 : Addr) (x2 : Int32) (x3 : Int32) : entryFrame m #[(.ref x0), (.ref x1), (.int x2), (.int x3), .null] 6 = mkF m 0 #[.val (.ref x0), .val (.ref x1), .val (.int x2), .val (.int x3), .val .null, .unset] [] := by first | (simp [entryFrame, mkF, argsToLocals, Value.category]; done) | rfl
theorem d3_0 : decode jdk_42_method_149_code 0 = .ok (.aload_n 0, 1) := by decide +kernel
theorem d3_1 : decode jdk_42_method_149_code 1 = .ok (.invokespecial 1, 3) := by decide +kernel
theorem d3_4 : decode jdk_42_method_149_code 4 = .ok (.iload_n 3, 1) := by decide +kernel
theorem d3_5 : decode jdk_42_method_149_code 5 = .ok (.ifCond .ne 22, 3) := by decide +kernel
theorem d3_27 : decode jdk_42_method_149_code 27 = .ok (.getstatic 38, 3) := by decide +kernel
theorem d3_30 : decode jdk_42_method_149_code 30 = .ok (.ifCond .eq 28, 3) := by decide +kernel
theorem d3_33 : decode jdk_42_method_149_code 33 = .ok (.aload_n 1, 1) := by decide +kernel
theorem d3_34 : decode jdk_42_method_149_code 34 = .ok (.iload_n 2, 1) := by decide +kernel
theorem d3_35 : decode jdk_42_method_149_code 35 = .ok (.iload_n 3, 1) := by decide +kernel
theorem d3_36 : decode jdk_42_method_149_code 36 = .ok (.invokestatic 177, 3) := by decide +kernel
theorem pd__28_5bCII_29_5bB : parseMethodDescriptor "([CII)[B" = some ⟨[(.array .char), .int, .int], some (.array .byte)⟩ := by decide +kernel
theorem d3_39 : decode jdk_42_method_149_code 39 = .ok (.astore 5, 2) := by decide +kernel
theorem d3_41 : decode jdk_42_method_149_code 41 = .ok (.aload_n 0, 1) := by decide +kernel
theorem d3_42 : decode jdk_42_method_149_code 42 = .ok (.aload 5, 2) := by decide +kernel
theorem d3_44 : decode jdk_42_method_149_code 44 = .ok (.iload_n 3, 1) := by decide +kernel
theorem d3_45 : decode jdk_42_method_149_code 45 = .ok (.invokestatic 47, 3) := by decide +kernel
theorem pd__28_5bBI_29B : parseMethodDescriptor "([BI)B" = some ⟨[(.array .byte), .int], some .byte⟩ := by decide +kernel
theorem d3_48 : decode jdk_42_method_149_code 48 = .ok (.putfield 15, 3) := by decide +kernel
theorem d3_51 : decode jdk_42_method_149_code 51 = .ok (.aload_n 0, 1) := by decide +kernel
theorem d3_52 : decode jdk_42_method_149_code 52 = .ok (.aload 5, 2) := by decide +kernel
theorem d3_54 : decode jdk_42_method_149_code 54 = .ok (.putfield 9, 3) := by decide +kernel
theorem d3_57 : decode jdk_42_method_149_code 57 = .ok (.return_, 1) := by decide +kernel
def Q_rm3 (Z : State) (a1 : Addr) (a2 : Addr) (k1 : ClassId) (cs : Int32) (c1 : Int32) (c2 : Int32) (h0 : Heap) (n0 : Nat) (v : Option Value) (h : Heap) (L : List Loc) : Prop := ∃ (t : Addr) (k : ClassId), v = none ∧ Fr n0 L ∧ h0.size ≤ t ∧ Keep h0 h [a1] ∧ Exa Z h a1 "java/lang/String" ∧ Fld Z h a1 "java/lang/String" "value" "[B" (.ref t) ∧ Fld Z h a1 "java/lang/String" "coder" "B" (.int (0 : Int32)) ∧ Arv Z h t k .byte (2 : Int32) [(.int (nar .byte (c1.toInt8.toInt32))), (.int (nar .byte (c2.toInt8.toInt32)))] (.int (0 : Int32))
theorem pn_java_2flang_2fString : plainName "java/lang/String" = true := by first | (simp [plainName, overriddenIn]; done) | decide +kernel
set_option maxRecDepth 65536 in
set_option maxHeartbeats 40000000 in
theorem rm3 (l : Launch) (Z : State) (a0 : Array Value) (hw : ∀ d ∈ tables_1, d.before a0 Z = true) (ws : List Jvm.Cond) (a1 : Addr) (a2 : Addr) (k1 : ClassId) (cs : Int32) (c1 : Int32) (c2 : Int32) (h0 : Heap) (n0 : Nat) (Z0 : n0 ≤ h0.size) (F1 : Fld Z h0 a1 "java/lang/String" "value" "[B" .null) (F2 : Fld Z h0 a1 "java/lang/String" "coder" "B" (.int (0 : Int32))) (E1 : Exa Z h0 a1 "java/lang/String") (ga : n0 ≤ a1) (V2 : Arv Z h0 a2 k1 .char (2 : Int32) [(.int c1), (.int c2)] (.int (0 : Int32))) (hne : a2 ≠ a1) (Scs : Sta Z h0 "java/lang/String" "COMPACT_STRINGS" "Z" (.int cs)) (hcs : ¬ (cs = (0 : Int32))) (hb0 : ¬ ((255 : Int32) < c1)) (hb1 : ¬ ((255 : Int32) < c2)) :
    MetFree l (⟨"java/lang/String", "<init>", "([CIILjava/lang/Void;)V"⟩ : MethodName) (head1 (Jvm.Cond.code (⟨"java/lang/String", "<init>", "([CIILjava/lang/Void;)V"⟩ : MethodName) jdk_42_method_149_code 6 none :: ws) ({ frames := 2, cells := 1, slots := 2, locals := 35 } : Room)) (fun a U => a = #[(.ref a1), (.ref a2), (.int (0 : Int32)), (.int (2 : Int32)), .null] ∧ Z.Warmed39 U.vm ∧ U.heap = h0) (fun _ _ _ _ _ => True) (fun _ U o U' => ∃ v L, o = .returned v ∧ Q_rm3 Z a1 a2 k1 cs c1 c2 h0 n0 v U'.heap L ∧ FrameEnd U o U' L ({ frames := 2, cells := 1, slots := 2, locals := 35 } : Room).cells ({ frames := 2, cells := 1, slots := 2, locals := 35 } : Room).slots) := by
  refine MetFree.of_bodySF (plainFor_of_name pn_java_2flang_2fString) hisR ?_
  intro p e s m args below meth c s₁ Bd hml0 hP hK
  obtain ⟨rfl, hZ, hh⟩ := hP
  have hx := Bd.exec
  have hby := Bd.bytes
  have hml : c.maxLocals = 6 := hml0
  have hown : s.vm.findClass "java/lang/String" = some m.cls := findClass_of_methodNamed Bd.named
  have hnm := (name_of_methodNamed Bd.named Bd.method).1
  have X0 : Stand p l e ({ frames := 2, cells := 1, slots := 2, locals := 35 } : Room) s m #[(.ref a1), (.ref a2), (.int (0 : Int32)), (.int (2 : Int32)), .null] below meth c s₁ [] 0 0 := Stand.of_body Bd
  have e0 : s₁.heap = h0 := by rw [← hh, Bd.state]; rfl
  have N0 := Fr.nil n0
  have k0 : ∀ t, Steps p.tables e below (s₁.setTop (mkF m 0 #[.val (.ref a1), .val (.ref a2), .val (.int (0 : Int32)), .val (.int (2 : Int32)), .val .null, .unset] [])) t → Steps p.tables e below (s₁.setTop (entryFrame m #[(.ref a1), (.ref a2), (.int (0 : Int32)), (.int (2 : Int32)), .null] 6)) t := fun t k => castTop (ef_3_RRIIn m a1 a2 (0 : Int32) (2 : Int32)) k
  have K0 := Keep.refl h0 [a1]
  have k101 : ∀ t, Steps p.tables e below (s₁.setTop (mkF m 1 #[.val (.ref a1), .val (.ref a2), .val (.int (0 : Int32)), .val (.int (2 : Int32)), .val .null, .unset] [(.ref a1)])) t → Steps p.tables e below (s₁.setTop (entryFrame m #[(.ref a1), (.ref a2), (.int (0 : Int32)), (.int (2 : Int32)), .null] 6)) t := fun t k => k0 t (by
    show Steps p.tables e below (s₁.setTop (mkF m 0 #[.val (.ref a1), .val (.ref a2), .val (.int (0 : Int32)), .val (.int (2 : Int32)), .val .null, .unset] [])) _
    refine XS.aloadN X0.here hx rfl (hb hby d3_0) rfl rfl ?_
    exact k)
  obtain ⟨T102, X102, e102, st102⟩ := initO X0 hx hZ hown (hw _ (List.mem_of_getElem? (i := 21) rfl)) (hw _ (List.mem_of_getElem? (i := 22) rfl)) (hw _ (List.mem_of_getElem? (i := 23) rfl)) e0 (g := (mkF m 1 #[.val (.ref a1), .val (.ref a2), .val (.int (0 : Int32)), .val (.int (2 : Int32)), .val .null, .unset] [(.ref a1)])) rfl (by rw [hml]; rfl) rfl (hb hby d3_1) (by decide) (W := 0) (by show 2 * 0 + _ ≤ _; exact Nat.le_of_eq rfl) (by decide)
  have k103 : ∀ t, Steps p.tables e below (T102.setTop (mkF m 4 #[.val (.ref a1), .val (.ref a2), .val (.int (0 : Int32)), .val (.int (2 : Int32)), .val .null, .unset] [])) t → Steps p.tables e below (s₁.setTop (entryFrame m #[(.ref a1), (.ref a2), (.int (0 : Int32)), (.int (2 : Int32)), .null] 6)) t := fun t k => k101 t (st102 t k)
  have k104 : ∀ t, Steps p.tables e below (T102.setTop (mkF m 27 #[.val (.ref a1), .val (.ref a2), .val (.int (0 : Int32)), .val (.int (2 : Int32)), .val .null, .unset] [])) t → Steps p.tables e below (s₁.setTop (entryFrame m #[(.ref a1), (.ref a2), (.int (0 : Int32)), (.int (2 : Int32)), .null] 6)) t := fun t k => k103 t (by
    show Steps p.tables e below (T102.setTop (mkF m 4 #[.val (.ref a1), .val (.ref a2), .val (.int (0 : Int32)), .val (.int (2 : Int32)), .val .null, .unset] [])) _
    refine XS.iloadN X102.here hx rfl (hb hby d3_4) rfl ?_
    show Steps p.tables e below (T102.setTop (mkF m 5 #[.val (.ref a1), .val (.ref a2), .val (.int (0 : Int32)), .val (.int (2 : Int32)), .val .null, .unset] [(.int (2 : Int32))])) _
    refine XS.ifYes X102.here hx rfl (pc0 := 5) (pc' := 27) rfl (hb hby d3_5) rfl ((if0 _ _).trans (feq (by decide)).2) (by decide) (by decide) ?_
    exact k)
  obtain ⟨T105, X105, e105, st105⟩ := getS2 X102 hx hZ hown (host := "") (Or.inl (hw _ (List.mem_of_getElem? (i := 24) rfl))) Via.refl e102 Scs (g := (mkF m 27 #[.val (.ref a1), .val (.ref a2), .val (.int (0 : Int32)), .val (.int (2 : Int32)), .val .null, .unset] [])) rfl (hb hby d3_27)
  have k106 : ∀ t, Steps p.tables e below (T105.setTop (mkF m 30 #[.val (.ref a1), .val (.ref a2), .val (.int (0 : Int32)), .val (.int (2 : Int32)), .val .null, .unset] [(.int cs)])) t → Steps p.tables e below (s₁.setTop (entryFrame m #[(.ref a1), (.ref a2), (.int (0 : Int32)), (.int (2 : Int32)), .null] 6)) t := fun t k => k104 t (st105 t k)
  have k107 : ∀ t, Steps p.tables e below (T105.setTop (mkF m 36 #[.val (.ref a1), .val (.ref a2), .val (.int (0 : Int32)), .val (.int (2 : Int32)), .val .null, .unset] [(.int (2 : Int32)), (.int (0 : Int32)), (.ref a2)])) t → Steps p.tables e below (s₁.setTop (entryFrame m #[(.ref a1), (.ref a2), (.int (0 : Int32)), (.int (2 : Int32)), .null] 6)) t := fun t k => k106 t (by
    show Steps p.tables e below (T105.setTop (mkF m 30 #[.val (.ref a1), .val (.ref a2), .val (.int (0 : Int32)), .val (.int (2 : Int32)), .val .null, .unset] [(.int cs)])) _
    refine XS.ifNo X105.here hx rfl (hb hby d3_30) rfl ((if0 _ _).trans (feq hcs).1) ?_
    show Steps p.tables e below (T105.setTop (mkF m 33 #[.val (.ref a1), .val (.ref a2), .val (.int (0 : Int32)), .val (.int (2 : Int32)), .val .null, .unset] [])) _
    refine XS.aloadN X105.here hx rfl (hb hby d3_33) rfl rfl ?_
    show Steps p.tables e below (T105.setTop (mkF m 34 #[.val (.ref a1), .val (.ref a2), .val (.int (0 : Int32)), .val (.int (2 : Int32)), .val .null, .unset] [(.ref a2)])) _
    refine XS.iloadN X105.here hx rfl (hb hby d3_34) rfl ?_
    show Steps p.tables e below (T105.setTop (mkF m 35 #[.val (.ref a1), .val (.ref a2), .val (.int (0 : Int32)), .val (.int (2 : Int32)), .val .null, .unset] [(.int (0 : Int32)), (.ref a2)])) _
    refine XS.iloadN X105.here hx rfl (hb hby d3_35) rfl ?_
    exact k)
  obtain ⟨_, _, ⟨T108, L108, k108, n108⟩, -, X108, ⟨Lc108, hQ108, l108, y108, z108⟩, st108⟩ := Jvm.LawKit.callS X105 hx (y := (⟨"java/lang/StringUTF16", "compress", "([CII)[B"⟩ : MethodName)) hown (mvT hZ (hw _ (List.mem_of_getElem? (i := 25) rfl))) (mvT hZ (hw _ (List.mem_of_getElem? (i := 26) rfl))) (mvT hZ (hw _ (List.mem_of_getElem? (i := 27) rfl))) (mvT hZ (hw _ (List.mem_of_getElem? (i := 28) rfl))) (by decide) (backOf (W := 0) (rm5 l Z a0 hw [] a2 k1 c1 c2 h0 n0 Z0 V2 hb0 hb1) hZ (hw _ (List.mem_of_getElem? (i := 28) rfl)) (hw _ (List.mem_of_getElem? (i := 27) rfl)) (by decide) (by decide)) (g := (mkF m 36 #[.val (.ref a1), .val (.ref a2), .val (.int (0 : Int32)), .val (.int (2 : Int32)), .val .null, .unset] [(.int (2 : Int32)), (.int (0 : Int32)), (.ref a2)])) rfl (by rw [hml]; rfl) (argsL := [(.ref a2), (.int (0 : Int32)), (.int (2 : Int32))]) (rest := []) (lenOf pd__28_5bCII_29_5bB rfl) rfl (by show 2 * 0 + _ ≤ _; exact Nat.le_of_eq rfl) (hb hby d3_36) (fun _ _ => ⟨rfl, e105, (by decide : 0 + 1 ≤ _), (by decide : 0 + 2 ≤ _)⟩)
  dsimp only [Pt.U, Pt.locs, Pt.cells, Pt.slots] at X108 l108 y108 z108 st108 hQ108
  subst l108 y108 z108
  obtain ⟨h108, e108⟩ : ∃ h', T108.heap = h' := ⟨_, rfl⟩
  rw [e108] at hQ108
  obtain ⟨b108, kk108, rfl, N108q, gb108, K108, V108⟩ := hQ108
  have N109 := Fr.app N0 N108q
  have k110 : ∀ t, Steps p.tables e below (T108.setTop (mkF m 39 #[.val (.ref a1), .val (.ref a2), .val (.int (0 : Int32)), .val (.int (2 : Int32)), .val .null, .unset] [(.ref b108)])) t → Steps p.tables e below (s₁.setTop (entryFrame m #[(.ref a1), (.ref a2), (.int (0 : Int32)), (.int (2 : Int32)), .null] 6)) t := fun t k => k107 t (st108 t k)
  have n111 : a1 ≠ b108 := Nat.ne_of_lt (Nat.lt_of_lt_of_le F1.lt (Nat.le_of_eq gb108.symm))
  have n112 : a2 ≠ b108 := Nat.ne_of_lt (Nat.lt_of_lt_of_le V2.lt (Nat.le_of_eq gb108.symm))
  have g113 : n0 ≤ b108 := Nat.le_trans Z0 (Nat.le_of_eq gb108.symm)
  have z114 : h0.size ≤ b108 := Nat.le_trans K0.1 (Nat.le_of_eq gb108.symm)
  have F115 := F1.keep K108 nin0
  have F116 := F2.keep K108 nin0
  have F117 := E1.keep K108
  have F118 := V2.keep K108 nin0
  have Z119 : n0 ≤ h108.size := Nat.le_trans Z0 K108.1
  have K120 := Keep.trans K0 K108 all0
  have k121 : ∀ t, Steps p.tables e below (T108.setTop (mkF m 45 #[.val (.ref a1), .val (.ref a2), .val (.int (0 : Int32)), .val (.int (2 : Int32)), .val .null, .val (.ref b108)] [(.int (2 : Int32)), (.ref b108), (.ref a1)])) t → Steps p.tables e below (s₁.setTop (entryFrame m #[(.ref a1), (.ref a2), (.int (0 : Int32)), (.int (2 : Int32)), .null] 6)) t := fun t k => k110 t (by
    show Steps p.tables e below (T108.setTop (mkF m 39 #[.val (.ref a1), .val (.ref a2), .val (.int (0 : Int32)), .val (.int (2 : Int32)), .val .null, .unset] [(.ref b108)])) _
    refine XS.astore X108.here hx rfl (hb hby d3_39) rfl rfl (l' := #[.val (.ref a1), .val (.ref a2), .val (.int (0 : Int32)), .val (.int (2 : Int32)), .val .null, .val (.ref b108)]) rfl ?_
    show Steps p.tables e below (T108.setTop (mkF m 41 #[.val (.ref a1), .val (.ref a2), .val (.int (0 : Int32)), .val (.int (2 : Int32)), .val .null, .val (.ref b108)] [])) _
    refine XS.aloadN X108.here hx rfl (hb hby d3_41) rfl rfl ?_
    show Steps p.tables e below (T108.setTop (mkF m 42 #[.val (.ref a1), .val (.ref a2), .val (.int (0 : Int32)), .val (.int (2 : Int32)), .val .null, .val (.ref b108)] [(.ref a1)])) _
    refine XS.aload X108.here hx rfl (hb hby d3_42) rfl rfl ?_
    show Steps p.tables e below (T108.setTop (mkF m 44 #[.val (.ref a1), .val (.ref a2), .val (.int (0 : Int32)), .val (.int (2 : Int32)), .val .null, .val (.ref b108)] [(.ref b108), (.ref a1)])) _
    refine XS.iloadN X108.here hx rfl (hb hby d3_44) rfl ?_
    exact k)
  obtain ⟨_, _, ⟨T122, L122, k122, n122⟩, -, X122, ⟨Lc122, hQ122, l122, y122, z122⟩, st122⟩ := Jvm.LawKit.callS X108 hx (y := (⟨"java/lang/StringUTF16", "coderFromArrayLen", "([BI)B"⟩ : MethodName)) hown (mvT hZ (hw _ (List.mem_of_getElem? (i := 33) rfl))) (mvT hZ (hw _ (List.mem_of_getElem? (i := 34) rfl))) (mvT hZ (hw _ (List.mem_of_getElem? (i := 27) rfl))) (mvT hZ (hw _ (List.mem_of_getElem? (i := 35) rfl))) (by decide) (backOf (W := 1) (rm7 l Z a0 hw [] b108 kk108 c1 c2 h108 n0 Z119 V108) hZ (hw _ (List.mem_of_getElem? (i := 35) rfl)) (hw _ (List.mem_of_getElem? (i := 27) rfl)) (by decide) (by decide)) (g := (mkF m 45 #[.val (.ref a1), .val (.ref a2), .val (.int (0 : Int32)), .val (.int (2 : Int32)), .val .null, .val (.ref b108)] [(.int (2 : Int32)), (.ref b108), (.ref a1)])) rfl (by rw [hml]; rfl) (argsL := [(.ref b108), (.int (2 : Int32))]) (rest := [(.ref a1)]) (lenOf pd__28_5bBI_29B rfl) rfl (by show 2 * 0 + _ ≤ _; exact Nat.le_of_eq rfl) (hb hby d3_45) (fun _ _ => ⟨rfl, e108, (by decide : 1 + 0 ≤ _), (by decide : 2 + 0 ≤ _)⟩)
  dsimp only [Pt.U, Pt.locs, Pt.cells, Pt.slots] at X122 l122 y122 z122 st122 hQ122
  subst l122 y122 z122
  obtain ⟨rfl, N122q, e122⟩ := hQ122
  have N123 := Fr.app N109 N122q
  have k124 : ∀ t, Steps p.tables e below (T122.setTop (mkF m 48 #[.val (.ref a1), .val (.ref a2), .val (.int (0 : Int32)), .val (.int (2 : Int32)), .val .null, .val (.ref b108)] [(.int (0 : Int32)), (.ref a1)])) t → Steps p.tables e below (s₁.setTop (entryFrame m #[(.ref a1), (.ref a2), (.int (0 : Int32)), (.int (2 : Int32)), .null] 6)) t := fun t k => k121 t (st122 t k)
  obtain ⟨T125, h125, X125, e125, W125, st125⟩ := putF X122 hx hZ hown (host := "") (Or.inl (hw _ (List.mem_of_getElem? (i := 36) rfl))) Via.refl e122 F116 F117 (Or.inr ⟨(hw _ (List.mem_of_getElem? (i := 37) rfl)), rfl, hnm⟩) (hw _ (List.mem_of_getElem? (i := 12) rfl)) (ty := .byte) (by decide) rfl rfl (g := (mkF m 48 #[.val (.ref a1), .val (.ref a2), .val (.int (0 : Int32)), .val (.int (2 : Int32)), .val .null, .val (.ref b108)] [(.int (0 : Int32)), (.ref a1)])) rfl rfl (hb hby d3_48)
  have F126 := F116.same W125
  have F127 := F115.other W125 (Or.inr (slot_ne (Or.inr (hw _ (List.mem_of_getElem? (i := 39) rfl))) (Or.inr (hw _ (List.mem_of_getElem? (i := 37) rfl))) (by decide) (t := (.array .byte)) (t' := .byte) (by decide) (by decide)))
  have F128 := F117.wr W125
  have F129 := F118.other W125 hne
  have F130 := V108.other W125 (Ne.symm n111)
  have Z131 : n0 ≤ h125.size := Nat.le_trans Z119 (Nat.le_of_eq W125.size.symm)
  have N132 := Fr.snoc X125 N123 ga
  have K133 := K120.wr W125 (Or.inl (List.mem_of_getElem? (i := 0) rfl))
  have k134 : ∀ t, Steps p.tables e below (T125.setTop (mkF m 51 #[.val (.ref a1), .val (.ref a2), .val (.int (0 : Int32)), .val (.int (2 : Int32)), .val .null, .val (.ref b108)] [])) t → Steps p.tables e below (s₁.setTop (entryFrame m #[(.ref a1), (.ref a2), (.int (0 : Int32)), (.int (2 : Int32)), .null] 6)) t := fun t k => k124 t (st125 t k)
  have k135 : ∀ t, Steps p.tables e below (T125.setTop (mkF m 54 #[.val (.ref a1), .val (.ref a2), .val (.int (0 : Int32)), .val (.int (2 : Int32)), .val .null, .val (.ref b108)] [(.ref b108), (.ref a1)])) t → Steps p.tables e below (s₁.setTop (entryFrame m #[(.ref a1), (.ref a2), (.int (0 : Int32)), (.int (2 : Int32)), .null] 6)) t := fun t k => k134 t (by
    show Steps p.tables e below (T125.setTop (mkF m 51 #[.val (.ref a1), .val (.ref a2), .val (.int (0 : Int32)), .val (.int (2 : Int32)), .val .null, .val (.ref b108)] [])) _
    refine XS.aloadN X125.here hx rfl (hb hby d3_51) rfl rfl ?_
    show Steps p.tables e below (T125.setTop (mkF m 52 #[.val (.ref a1), .val (.ref a2), .val (.int (0 : Int32)), .val (.int (2 : Int32)), .val .null, .val (.ref b108)] [(.ref a1)])) _
    refine XS.aload X125.here hx rfl (hb hby d3_52) rfl rfl ?_
    exact k)
  obtain ⟨T136, h136, X136, e136, W136, st136⟩ := putF X125 hx hZ hown (host := "") (Or.inl (hw _ (List.mem_of_getElem? (i := 38) rfl))) Via.refl e125 F127 F128 (Or.inr ⟨(hw _ (List.mem_of_getElem? (i := 39) rfl)), rfl, hnm⟩) (hw _ (List.mem_of_getElem? (i := 12) rfl)) (ty := (.array .byte)) (by decide) rfl rfl (g := (mkF m 54 #[.val (.ref a1), .val (.ref a2), .val (.int (0 : Int32)), .val (.int (2 : Int32)), .val .null, .val (.ref b108)] [(.ref b108), (.ref a1)])) rfl rfl (hb hby d3_54)
  have F137 := F127.same W136
  have F138 := F128.wr W136
  have F139 := F129.other W136 hne
  have F140 := F130.other W136 (Ne.symm n111)
  have F141 := F126.other W136 (Or.inr (slot_ne (Or.inr (hw _ (List.mem_of_getElem? (i := 37) rfl))) (Or.inr (hw _ (List.mem_of_getElem? (i := 39) rfl))) (by decide) (t := .byte) (t' := (.array .byte)) (by decide) (by decide)))
  have Z142 : n0 ≤ h136.size := Nat.le_trans Z131 (Nat.le_of_eq W136.size.symm)
  have N143 := Fr.snoc X136 N132 ga
  have K144 := K133.wr W136 (Or.inl (List.mem_of_getElem? (i := 0) rfl))
  have k145 : ∀ t, Steps p.tables e below (T136.setTop (mkF m 57 #[.val (.ref a1), .val (.ref a2), .val (.int (0 : Int32)), .val (.int (2 : Int32)), .val .null, .val (.ref b108)] [])) t → Steps p.tables e below (s₁.setTop (entryFrame m #[(.ref a1), (.ref a2), (.int (0 : Int32)), (.int (2 : Int32)), .null] 6)) t := fun t k => k135 t (st136 t k)
  obtain ⟨fs, hr, hrun, hended, hW, hsame⟩ := X136.leave (v := none) (fun _ => rfl)
  refine ⟨_, _, k145 _ (X136.returnOut hx Bd.returns (hb hby d3_57) hr), hrun, hended, _, _, rfl, ?_, ⟨_, rfl⟩, hW, hsame.mono (by decide) (by decide)⟩
  show Q_rm3 Z a1 a2 k1 cs c1 c2 h0 n0 _ T136.heap _
  rw [e136]
  exact ⟨b108, kk108, rfl, N143, z114, K144, F138, F137, F141, F140⟩
theorem ef_2_RR (m : MethodId) (x0 : Addr) (x1 : Addr) : entryFrame m #[(.ref x0), (.ref x1)] 2 = mkF m 0 #[.val (.ref x0), .val (.ref x1)] [] := by first | (simp [entryFrame, mkF, argsToLocals, Value.category]; done) | rfl
theorem d2_0 : decode jdk_42_method_3_code 0 = .ok (.aload_n 0, 1) := by decide +kernel
theorem d2_1 : decode jdk_42_method_3_code 1 = .ok (.aload_n 1, 1) := by decide +kernel
theorem d2_2 : decode jdk_42_method_3_code 2 = .ok (.iconst 0, 1) := by decide +kernel
theorem d2_3 : decode jdk_42_method_3_code 3 = .ok (.aload_n 1, 1) := by decide +kernel
theorem d2_4 : decode jdk_42_method_3_code 4 = .ok (.arraylength, 1) := by decide +kernel
theorem d2_5 : decode jdk_42_method_3_code 5 = .ok (.aconst_null, 1) := by decide +kernel
theorem d2_6 : decode jdk_42_method_3_code 6 = .ok (.invokespecial 27, 3) := by decide +kernel
theorem pd__28_5bCIILjava_2flang_2fVoid_3b_29V : parseMethodDescriptor "([CIILjava/lang/Void;)V" = some ⟨[(.array .char), .int, .int, (.object "java/lang/Void")], none⟩ := by decide +kernel
theorem d2_9 : decode jdk_42_method_3_code 9 = .ok (.return_, 1) := by decide +kernel
def Q_rm2 (Z : State) (a1 : Addr) (a2 : Addr) (k1 : ClassId) (cs : Int32) (c1 : Int32) (c2 : Int32) (h0 : Heap) (n0 : Nat) (v : Option Value) (h : Heap) (L : List Loc) : Prop := ∃ (t : Addr) (k : ClassId), v = none ∧ Fr n0 L ∧ h0.size ≤ t ∧ Keep h0 h [a1] ∧ Exa Z h a1 "java/lang/String" ∧ Fld Z h a1 "java/lang/String" "value" "[B" (.ref t) ∧ Fld Z h a1 "java/lang/String" "coder" "B" (.int (0 : Int32)) ∧ Arv Z h t k .byte (2 : Int32) [(.int (nar .byte (c1.toInt8.toInt32))), (.int (nar .byte (c2.toInt8.toInt32)))] (.int (0 : Int32))
set_option maxRecDepth 65536 in
set_option maxHeartbeats 40000000 in
theorem rm2 (l : Launch) (Z : State) (a0 : Array Value) (hw : ∀ d ∈ tables_1, d.before a0 Z = true) (ws : List Jvm.Cond) (a1 : Addr) (a2 : Addr) (k1 : ClassId) (cs : Int32) (c1 : Int32) (c2 : Int32) (h0 : Heap) (n0 : Nat) (Z0 : n0 ≤ h0.size) (F1 : Fld Z h0 a1 "java/lang/String" "value" "[B" .null) (F2 : Fld Z h0 a1 "java/lang/String" "coder" "B" (.int (0 : Int32))) (E1 : Exa Z h0 a1 "java/lang/String") (ga : n0 ≤ a1) (V2 : Arv Z h0 a2 k1 .char (2 : Int32) [(.int c1), (.int c2)] (.int (0 : Int32))) (hne : a2 ≠ a1) (Scs : Sta Z h0 "java/lang/String" "COMPACT_STRINGS" "Z" (.int cs)) (hcs : ¬ (cs = (0 : Int32))) (hb0 : ¬ ((255 : Int32) < c1)) (hb1 : ¬ ((255 : Int32) < c2)) :
    MetFree l (⟨"java/lang/String", "<init>", "([C)V"⟩ : MethodName) (head1 (Jvm.Cond.code (⟨"java/lang/String", "<init>", "([C)V"⟩ : MethodName) jdk_42_method_3_code 2 none :: ws) ({ frames := 3, cells := 1, slots := 2, locals := 52 } : Room)) (fun a U => a = #[(.ref a1), (.ref a2)] ∧ Z.Warmed39 U.vm ∧ U.heap = h0) (fun _ _ _ _ _ => True) (fun _ U o U' => ∃ v L, o = .returned v ∧ Q_rm2 Z a1 a2 k1 cs c1 c2 h0 n0 v U'.heap L ∧ FrameEnd U o U' L ({ frames := 3, cells := 1, slots := 2, locals := 52 } : Room).cells ({ frames := 3, cells := 1, slots := 2, locals := 52 } : Room).slots) := by
  refine MetFree.of_bodySF (plainFor_of_name pn_java_2flang_2fString) hisR ?_
  intro p e s m args below meth c s₁ Bd hml0 hP hK
  obtain ⟨rfl, hZ, hh⟩ := hP
  have hx := Bd.exec
  have hby := Bd.bytes
  have hml : c.maxLocals = 2 := hml0
  have hown : s.vm.findClass "java/lang/String" = some m.cls := findClass_of_methodNamed Bd.named
  have hnm := (name_of_methodNamed Bd.named Bd.method).1
  have X0 : Stand p l e ({ frames := 3, cells := 1, slots := 2, locals := 52 } : Room) s m #[(.ref a1), (.ref a2)] below meth c s₁ [] 0 0 := Stand.of_body Bd
  have e0 : s₁.heap = h0 := by rw [← hh, Bd.state]; rfl
  have N0 := Fr.nil n0
  have k0 : ∀ t, Steps p.tables e below (s₁.setTop (mkF m 0 #[.val (.ref a1), .val (.ref a2)] [])) t → Steps p.tables e below (s₁.setTop (entryFrame m #[(.ref a1), (.ref a2)] 2)) t := fun t k => castTop (ef_2_RR m a1 a2) k
  have K0 := Keep.refl h0 [a1]
  have k101 : ∀ t, Steps p.tables e below (s₁.setTop (mkF m 4 #[.val (.ref a1), .val (.ref a2)] [(.ref a2), (.int (0 : Int32)), (.ref a2), (.ref a1)])) t → Steps p.tables e below (s₁.setTop (entryFrame m #[(.ref a1), (.ref a2)] 2)) t := fun t k => k0 t (by
    show Steps p.tables e below (s₁.setTop (mkF m 0 #[.val (.ref a1), .val (.ref a2)] [])) _
    refine XS.aloadN X0.here hx rfl (hb hby d2_0) rfl rfl ?_
    show Steps p.tables e below (s₁.setTop (mkF m 1 #[.val (.ref a1), .val (.ref a2)] [(.ref a1)])) _
    refine XS.aloadN X0.here hx rfl (hb hby d2_1) rfl rfl ?_
    show Steps p.tables e below (s₁.setTop (mkF m 2 #[.val (.ref a1), .val (.ref a2)] [(.ref a2), (.ref a1)])) _
    refine XS.iconst X0.here hx rfl (hb hby d2_2) ?_
    show Steps p.tables e below (s₁.setTop (mkF m 3 #[.val (.ref a1), .val (.ref a2)] [(.int (0 : Int32)), (.ref a2), (.ref a1)])) _
    refine XS.aloadN X0.here hx rfl (hb hby d2_3) rfl rfl ?_
    exact k)
  obtain ⟨c102, Ar102, -, As102, An102, -, -⟩ := id V2
  have k103 : ∀ t, Steps p.tables e below (s₁.setTop (mkF m 6 #[.val (.ref a1), .val (.ref a2)] [.null, (.int (2 : Int32)), (.int (0 : Int32)), (.ref a2), (.ref a1)])) t → Steps p.tables e below (s₁.setTop (entryFrame m #[(.ref a1), (.ref a2)] 2)) t := fun t k => k101 t (by
    show Steps p.tables e below (s₁.setTop (mkF m 4 #[.val (.ref a1), .val (.ref a2)] [(.ref a2), (.int (0 : Int32)), (.ref a2), (.ref a1)])) _
    refine X0.arraylength hx (by rw [e0]; exact Ar102.1) (State.isArrayOf_alike hZ.alike Ar102.2.1) (g := (mkF m 4 #[.val (.ref a1), .val (.ref a2)] [(.ref a2), (.int (0 : Int32)), (.ref a2), (.ref a1)])) rfl rfl (hb hby d2_4) _ ?_
    rw [len_of As102 An102]
    show Steps p.tables e below (s₁.setTop (mkF m 5 #[.val (.ref a1), .val (.ref a2)] [(.int (2 : Int32)), (.int (0 : Int32)), (.ref a2), (.ref a1)])) _
    refine XS.aconstNull X0.here hx rfl (hb hby d2_5) ?_
    exact k)
  obtain ⟨_, _, ⟨T104, L104, k104, n104⟩, -, X104, ⟨Lc104, hQ104, l104, y104, z104⟩, st104⟩ := X0.specialBack hx (y := (⟨"java/lang/String", "<init>", "([CIILjava/lang/Void;)V"⟩ : MethodName)) rfl hown (mvT hZ (hw _ (List.mem_of_getElem? (i := 17) rfl))) (mvT hZ (hw _ (List.mem_of_getElem? (i := 18) rfl))) (mvT hZ (hw _ (List.mem_of_getElem? (i := 20) rfl))) (by decide) (backOf (W := 0) (rm3 l Z a0 hw [] a1 a2 k1 cs c1 c2 h0 n0 Z0 F1 F2 E1 ga V2 hne Scs hcs hb0 hb1) hZ (hw _ (List.mem_of_getElem? (i := 20) rfl)) (hw _ (List.mem_of_getElem? (i := 13) rfl)) (by decide) (by decide)) (g := (mkF m 6 #[.val (.ref a1), .val (.ref a2)] [.null, (.int (2 : Int32)), (.int (0 : Int32)), (.ref a2), (.ref a1)])) rfl (by rw [hml]; rfl) (Steps.refl _) (a := a1) (argsL := [(.ref a2), (.int (0 : Int32)), (.int (2 : Int32)), .null]) (rest := []) (lenOf pd__28_5bCIILjava_2flang_2fVoid_3b_29V rfl) rfl (by show 2 * 0 + _ ≤ _; exact Nat.le_of_eq rfl) (hb hby d2_6) (fun _ _ => ⟨rfl, e0, (by decide : 0 + 1 ≤ _), (by decide : 0 + 2 ≤ _)⟩)
  dsimp only [Pt.U, Pt.locs, Pt.cells, Pt.slots] at X104 l104 y104 z104 st104 hQ104
  subst l104 y104 z104
  obtain ⟨h104, e104⟩ : ∃ h', T104.heap = h' := ⟨_, rfl⟩
  rw [e104] at hQ104
  obtain ⟨t104, kk104, rfl, N104q, zt104, K104, G104e, G104v, G104c, V104⟩ := hQ104
  have N105 := Fr.app N0 N104q
  have k106 : ∀ t, Steps p.tables e below (T104.setTop (mkF m 9 #[.val (.ref a1), .val (.ref a2)] [])) t → Steps p.tables e below (s₁.setTop (entryFrame m #[(.ref a1), (.ref a2)] 2)) t := fun t k => k103 t (st104.trans k)
  have F107 := E1.keep K104
  have F108 := V2.keep K104 (ninS hne nin0)
  have Z109 : n0 ≤ h104.size := Nat.le_trans Z0 K104.1
  have K110 := Keep.trans K0 K104 (allS (Or.inl (List.mem_of_getElem? (i := 0) rfl)) all0)
  obtain ⟨fs, hr, hrun, hended, hW, hsame⟩ := X104.leave (v := none) (fun _ => rfl)
  refine ⟨_, _, k106 _ (X104.returnOut hx Bd.returns (hb hby d2_9) hr), hrun, hended, _, _, rfl, ?_, ⟨_, rfl⟩, hW, hsame.mono (by decide) (by decide)⟩
  show Q_rm2 Z a1 a2 k1 cs c1 c2 h0 n0 _ T104.heap _
  rw [e104]
  exact ⟨t104, kk104, rfl, N105, zt104, K110, G104e, G104v, G104c, V104⟩
theorem ef_9_R (m : MethodId) (x0 : Addr) : entryFrame m #[(.ref x0)] 1 = mkF m 0 #[.val (.ref x0)] [] := by first | (simp [entryFrame, mkF, argsToLocals, Value.category]; done) | rfl
theorem d9_0 : decode prog_10_method_7_code 0 = .ok (.aload_n 0, 1) := by decide +kernel
theorem d9_1 : decode prog_10_method_7_code 1 = .ok (.getfield 20, 3) := by decide +kernel
theorem d9_4 : decode prog_10_method_7_code 4 = .ok (.arraylength, 1) := by decide +kernel
theorem d9_5 : decode prog_10_method_7_code 5 = .ok (.ifCond .ne 7, 3) := by decide +kernel
theorem d9_8 : decode prog_10_method_7_code 8 = .ok (.dconst 0, 1) := by decide +kernel
theorem d9_9 : decode prog_10_method_7_code 9 = .ok (.goto 12, 3) := by decide +kernel
theorem d9_21 : decode prog_10_method_7_code 21 = .ok (.dreturn, 1) := by decide +kernel
def Q_rrk0 (Z : State) (a1 : Addr) (a2 : Addr) (k1 : ClassId) (h0 : Heap) (n0 : Nat) (v : Option Value) (h : Heap) (L : List Loc) : Prop := v = some (.double (0 : UInt64)) ∧ Fr n0 L ∧ h = h0
set_option maxRecDepth 65536 in
set_option maxHeartbeats 40000000 in
theorem rrk0 (l : Launch) (Z : State) (a0 : Array Value) (hw : ∀ d ∈ tables_1, d.before a0 Z = true) (ws : List Jvm.Cond) (a1 : Addr) (a2 : Addr) (k1 : ClassId) (h0 : Heap) (n0 : Nat) (Z0 : n0 ≤ h0.size) (F1 : Fld Z h0 a1 "com/example/round2/round2/eval/TopicResult" "relevantRanks" "[I" (.ref a2)) (V1 : Arv Z h0 a2 k1 .int (0 : Int32) [] (.int (0 : Int32))) :
    MetFree l (⟨"com/example/round2/round2/eval/TopicResult", "reciprocalRank", "()D"⟩ : MethodName) (head1 (Jvm.Cond.code (⟨"com/example/round2/round2/eval/TopicResult", "reciprocalRank", "()D"⟩ : MethodName) prog_10_method_7_code 1 (some .double) :: ws) ({ frames := 0, cells := 0, slots := 0, locals := 0 } : Room)) (fun a U => a = #[(.ref a1)] ∧ Z.Warmed39 U.vm ∧ U.heap = h0) (fun _ _ _ _ _ => True) (fun _ U o U' => ∃ v L, o = .returned v ∧ Q_rrk0 Z a1 a2 k1 h0 n0 v U'.heap L ∧ FrameEnd U o U' L ({ frames := 0, cells := 0, slots := 0, locals := 0 } : Room).cells ({ frames := 0, cells := 0, slots := 0, locals := 0 } : Room).slots) := by
  refine MetFree.of_bodySF (plainFor_of_name pn_com_2fexample_2fround2_2fround2_2feval_2fTopicResult) hisR ?_
  intro p e s m args below meth c s₁ Bd hml0 hP hK
  obtain ⟨rfl, hZ, hh⟩ := hP
  have hx := Bd.exec
  have hby := Bd.bytes
  have hml : c.maxLocals = 1 := hml0
  have hown : s.vm.findClass "com/example/round2/round2/eval/TopicResult" = some m.cls := findClass_of_methodNamed Bd.named
  have hnm := (name_of_methodNamed Bd.named Bd.method).1
  have X0 : Stand p l e ({ frames := 0, cells := 0, slots := 0, locals := 0 } : Room) s m #[(.ref a1)] below meth c s₁ [] 0 0 := Stand.of_body Bd
  have e0 : s₁.heap = h0 := by rw [← hh, Bd.state]; rfl
  have N0 := Fr.nil n0
  have k0 : ∀ t, Steps p.tables e below (s₁.setTop (mkF m 0 #[.val (.ref a1)] [])) t → Steps p.tables e below (s₁.setTop (entryFrame m #[(.ref a1)] 1)) t := fun t k => castTop (ef_9_R m a1) k
  have k101 : ∀ t, Steps p.tables e below (s₁.setTop (mkF m 1 #[.val (.ref a1)] [(.ref a1)])) t → Steps p.tables e below (s₁.setTop (entryFrame m #[(.ref a1)] 1)) t := fun t k => k0 t (by
    show Steps p.tables e below (s₁.setTop (mkF m 0 #[.val (.ref a1)] [])) _
    refine XS.aloadN X0.here hx rfl (hb hby d9_0) rfl rfl ?_
    exact k)
  obtain ⟨T102, X102, e102, st102⟩ := getF X0 hx hZ hown (host := "") (Or.inl (hw _ (List.mem_of_getElem? (i := 50) rfl))) Via.refl e0 F1 (g := (mkF m 1 #[.val (.ref a1)] [(.ref a1)])) rfl rfl (hb hby d9_1)
  have k103 : ∀ t, Steps p.tables e below (T102.setTop (mkF m 4 #[.val (.ref a1)] [(.ref a2)])) t → Steps p.tables e below (s₁.setTop (entryFrame m #[(.ref a1)] 1)) t := fun t k => k101 t (st102 t k)
  obtain ⟨c104, Ar104, -, As104, An104, -, -⟩ := id V1
  have k105 : ∀ t, Steps p.tables e below (T102.setTop (mkF m 21 #[.val (.ref a1)] [(.double (0 : UInt64))])) t → Steps p.tables e below (s₁.setTop (entryFrame m #[(.ref a1)] 1)) t := fun t k => k103 t (by
    show Steps p.tables e below (T102.setTop (mkF m 4 #[.val (.ref a1)] [(.ref a2)])) _
    refine X102.arraylength hx (by rw [e102]; exact Ar104.1) (State.isArrayOf_alike hZ.alike Ar104.2.1) (g := (mkF m 4 #[.val (.ref a1)] [(.ref a2)])) rfl rfl (hb hby d9_4) _ ?_
    rw [len_of As104 An104]
    show Steps p.tables e below (T102.setTop (mkF m 5 #[.val (.ref a1)] [(.int (0 : Int32))])) _
    refine XS.ifNo X102.here hx rfl (hb hby d9_5) rfl ((if0 _ _).trans (teq (by decide)).2) ?_
    show Steps p.tables e below (T102.setTop (mkF m 8 #[.val (.ref a1)] [])) _
    refine XS.dconst0 X102.here hx rfl (hb hby d9_8) (v := (0 : UInt64)) rfl ?_
    show Steps p.tables e below (T102.setTop (mkF m 9 #[.val (.ref a1)] [(.double (0 : UInt64))])) _
    refine XS.goto X102.here hx rfl (pc0 := 9) (pc' := 21) rfl (hb hby d9_9) (by decide) (by decide) ?_
    exact k)
  obtain ⟨fs, hr, hrun, hended, hW, hsame⟩ := X102.leave (v := some (.double (0 : UInt64))) (fun h => by rw [Bd.returns] at h; cases h)
  refine ⟨_, _, k105 _ (retOut X102 hx (t := .double) Bd.returns rfl (Or.inr (Or.inr (Or.inl ⟨rfl, rfl, _, rfl⟩))) (hb hby d9_21) hr), hrun, hended, _, _, rfl, ?_, ⟨_, rfl⟩, hW, hsame.mono (by decide) (by decide)⟩
  show Q_rrk0 Z a1 a2 k1 h0 n0 _ T102.heap _
  rw [e102]
  exact ⟨rfl, N0, rfl⟩
theorem d9_12 : decode prog_10_method_7_code 12 = .ok (.dconst 1, 1) := by decide +kernel
theorem d9_13 : decode prog_10_method_7_code 13 = .ok (.aload_n 0, 1) := by decide +kernel
theorem d9_14 : decode prog_10_method_7_code 14 = .ok (.getfield 20, 3) := by decide +kernel
theorem d9_17 : decode prog_10_method_7_code 17 = .ok (.iconst 0, 1) := by decide +kernel
theorem d9_18 : decode prog_10_method_7_code 18 = .ok (.iaload, 1) := by decide +kernel
theorem d9_19 : decode prog_10_method_7_code 19 = .ok (.i2d, 1) := by decide +kernel
theorem d9_20 : decode prog_10_method_7_code 20 = .ok (.ddiv, 1) := by decide +kernel
def Q_rrk1 (Z : State) (a1 : Addr) (a2 : Addr) (k1 : ClassId) (y1 : Int32) (h0 : Heap) (n0 : Nat) (v : Option Value) (h : Heap) (L : List Loc) : Prop := v = some (.double (FP.ddiv (4607182418800017408 : UInt64) (FP.i2d y1))) ∧ Fr n0 L ∧ h = h0
set_option maxRecDepth 65536 in
set_option maxHeartbeats 40000000 in
theorem rrk1 (l : Launch) (Z : State) (a0 : Array Value) (hw : ∀ d ∈ tables_1, d.before a0 Z = true) (ws : List Jvm.Cond) (a1 : Addr) (a2 : Addr) (k1 : ClassId) (y1 : Int32) (h0 : Heap) (n0 : Nat) (Z0 : n0 ≤ h0.size) (F1 : Fld Z h0 a1 "com/example/round2/round2/eval/TopicResult" "relevantRanks" "[I" (.ref a2)) (V1 : Arv Z h0 a2 k1 .int (1 : Int32) [(.int y1)] (.int (0 : Int32))) (nn20 : Jvm.Free.Fl.NoNaN64 (FP.ddiv (4607182418800017408 : UInt64) (FP.i2d y1))) :
    MetFree l (⟨"com/example/round2/round2/eval/TopicResult", "reciprocalRank", "()D"⟩ : MethodName) (head1 (Jvm.Cond.code (⟨"com/example/round2/round2/eval/TopicResult", "reciprocalRank", "()D"⟩ : MethodName) prog_10_method_7_code 1 (some .double) :: ws) ({ frames := 0, cells := 0, slots := 0, locals := 0 } : Room)) (fun a U => a = #[(.ref a1)] ∧ Z.Warmed39 U.vm ∧ U.heap = h0) (fun _ _ _ _ _ => True) (fun _ U o U' => ∃ v L, o = .returned v ∧ Q_rrk1 Z a1 a2 k1 y1 h0 n0 v U'.heap L ∧ FrameEnd U o U' L ({ frames := 0, cells := 0, slots := 0, locals := 0 } : Room).cells ({ frames := 0, cells := 0, slots := 0, locals := 0 } : Room).slots) := by
  refine MetFree.of_bodySF (plainFor_of_name pn_com_2fexample_2fround2_2fround2_2feval_2fTopicResult) hisR ?_
  intro p e s m args below meth c s₁ Bd hml0 hP hK
  obtain ⟨rfl, hZ, hh⟩ := hP
  have hx := Bd.exec
  have hby := Bd.bytes
  have hml : c.maxLocals = 1 := hml0
  have hown : s.vm.findClass "com/example/round2/round2/eval/TopicResult" = some m.cls := findClass_of_methodNamed Bd.named
  have hnm := (name_of_methodNamed Bd.named Bd.method).1
  have X0 : Stand p l e ({ frames := 0, cells := 0, slots := 0, locals := 0 } : Room) s m #[(.ref a1)] below meth c s₁ [] 0 0 := Stand.of_body Bd
  have e0 : s₁.heap = h0 := by rw [← hh, Bd.state]; rfl
  have N0 := Fr.nil n0
  have k0 : ∀ t, Steps p.tables e below (s₁.setTop (mkF m 0 #[.val (.ref a1)] [])) t → Steps p.tables e below (s₁.setTop (entryFrame m #[(.ref a1)] 1)) t := fun t k => castTop (ef_9_R m a1) k
  have k101 : ∀ t, Steps p.tables e below (s₁.setTop (mkF m 1 #[.val (.ref a1)] [(.ref a1)])) t → Steps p.tables e below (s₁.setTop (entryFrame m #[(.ref a1)] 1)) t := fun t k => k0 t (by
    show Steps p.tables e below (s₁.setTop (mkF m 0 #[.val (.ref a1)] [])) _
    refine XS.aloadN X0.here hx rfl (hb hby d9_0) rfl rfl ?_
    exact k)
  obtain ⟨T102, X102, e102, st102⟩ := getF X0 hx hZ hown (host := "") (Or.inl (hw _ (List.mem_of_getElem? (i := 50) rfl))) Via.refl e0 F1 (g := (mkF m 1 #[.val (.ref a1)] [(.ref a1)])) rfl rfl (hb hby d9_1)
  have k103 : ∀ t, Steps p.tables e below (T102.setTop (mkF m 4 #[.val (.ref a1)] [(.ref a2)])) t → Steps p.tables e below (s₁.setTop (entryFrame m #[(.ref a1)] 1)) t := fun t k => k101 t (st102 t k)
  obtain ⟨c104, Ar104, -, As104, An104, -, -⟩ := id V1
  have k105 : ∀ t, Steps p.tables e below (T102.setTop (mkF m 14 #[.val (.ref a1)] [(.ref a1), (.double (4607182418800017408 : UInt64))])) t → Steps p.tables e below (s₁.setTop (entryFrame m #[(.ref a1)] 1)) t := fun t k => k103 t (by
    show Steps p.tables e below (T102.setTop (mkF m 4 #[.val (.ref a1)] [(.ref a2)])) _
    refine X102.arraylength hx (by rw [e102]; exact Ar104.1) (State.isArrayOf_alike hZ.alike Ar104.2.1) (g := (mkF m 4 #[.val (.ref a1)] [(.ref a2)])) rfl rfl (hb hby d9_4) _ ?_
    rw [len_of As104 An104]
    show Steps p.tables e below (T102.setTop (mkF m 5 #[.val (.ref a1)] [(.int (1 : Int32))])) _
    refine XS.ifYes X102.here hx rfl (pc0 := 5) (pc' := 12) rfl (hb hby d9_5) rfl ((if0 _ _).trans (feq (by decide)).2) (by decide) (by decide) ?_
    show Steps p.tables e below (T102.setTop (mkF m 12 #[.val (.ref a1)] [])) _
    refine XS.dconst1 X102.here hx rfl (hb hby d9_12) (v := (4607182418800017408 : UInt64)) rfl ?_
    show Steps p.tables e below (T102.setTop (mkF m 13 #[.val (.ref a1)] [(.double (4607182418800017408 : UInt64))])) _
    refine XS.aloadN X102.here hx rfl (hb hby d9_13) rfl rfl ?_
    exact k)
  obtain ⟨T106, X106, e106, st106⟩ := getF X102 hx hZ hown (host := "") (Or.inl (hw _ (List.mem_of_getElem? (i := 50) rfl))) Via.refl e102 F1 (g := (mkF m 14 #[.val (.ref a1)] [(.ref a1), (.double (4607182418800017408 : UInt64))])) rfl rfl (hb hby d9_14)
  have k107 : ∀ t, Steps p.tables e below (T106.setTop (mkF m 17 #[.val (.ref a1)] [(.ref a2), (.double (4607182418800017408 : UInt64))])) t → Steps p.tables e below (s₁.setTop (entryFrame m #[(.ref a1)] 1)) t := fun t k => k105 t (st106 t k)
  have k108 : ∀ t, Steps p.tables e below (T106.setTop (mkF m 18 #[.val (.ref a1)] [(.int (0 : Int32)), (.ref a2), (.double (4607182418800017408 : UInt64))])) t → Steps p.tables e below (s₁.setTop (entryFrame m #[(.ref a1)] 1)) t := fun t k => k107 t (by
    show Steps p.tables e below (T106.setTop (mkF m 17 #[.val (.ref a1)] [(.ref a2), (.double (4607182418800017408 : UInt64))])) _
    refine XS.iconst X106.here hx rfl (hb hby d9_17) ?_
    exact k)
  obtain ⟨c109, Ar109, -, As109, An109, Ah109, -⟩ := id V1
  have hin109 : ¬ ((0 : Int32) < 0 ∨ c109.slots.size ≤ ((0 : Int32)).toNatClampNeg) := inb_of As109 ⟨by decide, by decide⟩
  have hat109 : c109.slots[((0 : Int32)).toNatClampNeg]? = some (.int y1) := Has.at Ah109 hin109 rfl
  have k110 : ∀ t, Steps p.tables e below (T106.setTop (mkF m 21 #[.val (.ref a1)] [(.double (FP.ddiv (4607182418800017408 : UInt64) (FP.i2d y1)))])) t → Steps p.tables e below (s₁.setTop (entryFrame m #[(.ref a1)] 1)) t := fun t k => k108 t (by
    show Steps p.tables e below (T106.setTop (mkF m 18 #[.val (.ref a1)] [(.int (0 : Int32)), (.ref a2), (.double (4607182418800017408 : UInt64))])) _
    refine X106.iaload hx (j := (0 : Int32)) (v := (.int y1)) (by rw [e106]; exact Ar109.1) (State.isArrayOf_alike hZ.alike Ar109.2.1) Ar109.2.2 hin109 hat109 (g := (mkF m 18 #[.val (.ref a1)] [(.int (0 : Int32)), (.ref a2), (.double (4607182418800017408 : UInt64))])) rfl rfl (hb hby d9_18) _ ?_
    show Steps p.tables e below (T106.setTop (mkF m 19 #[.val (.ref a1)] [(.int y1), (.double (4607182418800017408 : UInt64))])) _
    refine XS.i2dS X106.here hx rfl (hb hby d9_19) rfl rfl ?_
    show Steps p.tables e below (T106.setTop (mkF m 20 #[.val (.ref a1)] [(.double (FP.i2d y1)), (.double (4607182418800017408 : UInt64))])) _
    refine XS.ddivS X106.here hx rfl (hb hby d9_20) rfl (nn20) rfl ?_
    exact k)
  obtain ⟨fs, hr, hrun, hended, hW, hsame⟩ := X106.leave (v := some (.double (FP.ddiv (4607182418800017408 : UInt64) (FP.i2d y1)))) (fun h => by rw [Bd.returns] at h; cases h)
  refine ⟨_, _, k110 _ (retOut X106 hx (t := .double) Bd.returns rfl (Or.inr (Or.inr (Or.inl ⟨rfl, rfl, _, rfl⟩))) (hb hby d9_21) hr), hrun, hended, _, _, rfl, ?_, ⟨_, rfl⟩, hW, hsame.mono (by decide) (by decide)⟩
  show Q_rrk1 Z a1 a2 k1 y1 h0 n0 _ T106.heap _
  rw [e106]
  exact ⟨rfl, N0, rfl⟩
theorem ef_10_R (m : MethodId) (x0 : Addr) : entryFrame m #[(.ref x0)] 1 = mkF m 0 #[.val (.ref x0)] [] := by first | (simp [entryFrame, mkF, argsToLocals, Value.category]; done) | rfl
theorem d10_0 : decode prog_10_method_5_code 0 = .ok (.aload_n 0, 1) := by decide +kernel
theorem d10_1 : decode prog_10_method_5_code 1 = .ok (.getfield 20, 3) := by decide +kernel
theorem d10_4 : decode prog_10_method_5_code 4 = .ok (.arraylength, 1) := by decide +kernel
theorem d10_5 : decode prog_10_method_5_code 5 = .ok (.ireturn, 1) := by decide +kernel
def Q_grr1 (Z : State) (a1 : Addr) (a2 : Addr) (k1 : ClassId) (y1 : Int32) (h0 : Heap) (n0 : Nat) (v : Option Value) (h : Heap) (L : List Loc) : Prop := v = some (.int (1 : Int32)) ∧ Fr n0 L ∧ h = h0
set_option maxRecDepth 65536 in
set_option maxHeartbeats 40000000 in
theorem grr1 (l : Launch) (Z : State) (a0 : Array Value) (hw : ∀ d ∈ tables_1, d.before a0 Z = true) (ws : List Jvm.Cond) (a1 : Addr) (a2 : Addr) (k1 : ClassId) (y1 : Int32) (h0 : Heap) (n0 : Nat) (Z0 : n0 ≤ h0.size) (F1 : Fld Z h0 a1 "com/example/round2/round2/eval/TopicResult" "relevantRanks" "[I" (.ref a2)) (V1 : Arv Z h0 a2 k1 .int (1 : Int32) [(.int y1)] (.int (0 : Int32))) :
    MetFree l (⟨"com/example/round2/round2/eval/TopicResult", "getRelevantRetrieved", "()I"⟩ : MethodName) (head1 (Jvm.Cond.code (⟨"com/example/round2/round2/eval/TopicResult", "getRelevantRetrieved", "()I"⟩ : MethodName) prog_10_method_5_code 1 (some .int) :: ws) ({ frames := 0, cells := 0, slots := 0, locals := 0 } : Room)) (fun a U => a = #[(.ref a1)] ∧ Z.Warmed39 U.vm ∧ U.heap = h0) (fun _ _ _ _ _ => True) (fun _ U o U' => ∃ v L, o = .returned v ∧ Q_grr1 Z a1 a2 k1 y1 h0 n0 v U'.heap L ∧ FrameEnd U o U' L ({ frames := 0, cells := 0, slots := 0, locals := 0 } : Room).cells ({ frames := 0, cells := 0, slots := 0, locals := 0 } : Room).slots) := by
  refine MetFree.of_bodySF (plainFor_of_name pn_com_2fexample_2fround2_2fround2_2feval_2fTopicResult) hisR ?_
  intro p e s m args below meth c s₁ Bd hml0 hP hK
  obtain ⟨rfl, hZ, hh⟩ := hP
  have hx := Bd.exec
  have hby := Bd.bytes
  have hml : c.maxLocals = 1 := hml0
  have hown : s.vm.findClass "com/example/round2/round2/eval/TopicResult" = some m.cls := findClass_of_methodNamed Bd.named
  have hnm := (name_of_methodNamed Bd.named Bd.method).1
  have X0 : Stand p l e ({ frames := 0, cells := 0, slots := 0, locals := 0 } : Room) s m #[(.ref a1)] below meth c s₁ [] 0 0 := Stand.of_body Bd
  have e0 : s₁.heap = h0 := by rw [← hh, Bd.state]; rfl
  have N0 := Fr.nil n0
  have k0 : ∀ t, Steps p.tables e below (s₁.setTop (mkF m 0 #[.val (.ref a1)] [])) t → Steps p.tables e below (s₁.setTop (entryFrame m #[(.ref a1)] 1)) t := fun t k => castTop (ef_10_R m a1) k
  have k101 : ∀ t, Steps p.tables e below (s₁.setTop (mkF m 1 #[.val (.ref a1)] [(.ref a1)])) t → Steps p.tables e below (s₁.setTop (entryFrame m #[(.ref a1)] 1)) t := fun t k => k0 t (by
    show Steps p.tables e below (s₁.setTop (mkF m 0 #[.val (.ref a1)] [])) _
    refine XS.aloadN X0.here hx rfl (hb hby d10_0) rfl rfl ?_
    exact k)
  obtain ⟨T102, X102, e102, st102⟩ := getF X0 hx hZ hown (host := "") (Or.inl (hw _ (List.mem_of_getElem? (i := 50) rfl))) Via.refl e0 F1 (g := (mkF m 1 #[.val (.ref a1)] [(.ref a1)])) rfl rfl (hb hby d10_1)
  have k103 : ∀ t, Steps p.tables e below (T102.setTop (mkF m 4 #[.val (.ref a1)] [(.ref a2)])) t → Steps p.tables e below (s₁.setTop (entryFrame m #[(.ref a1)] 1)) t := fun t k => k101 t (st102 t k)
  obtain ⟨c104, Ar104, -, As104, An104, -, -⟩ := id V1
  have k105 : ∀ t, Steps p.tables e below (T102.setTop (mkF m 5 #[.val (.ref a1)] [(.int (1 : Int32))])) t → Steps p.tables e below (s₁.setTop (entryFrame m #[(.ref a1)] 1)) t := fun t k => k103 t (by
    show Steps p.tables e below (T102.setTop (mkF m 4 #[.val (.ref a1)] [(.ref a2)])) _
    refine X102.arraylength hx (by rw [e102]; exact Ar104.1) (State.isArrayOf_alike hZ.alike Ar104.2.1) (g := (mkF m 4 #[.val (.ref a1)] [(.ref a2)])) rfl rfl (hb hby d10_4) _ ?_
    rw [len_of As104 An104]
    exact k)
  obtain ⟨fs, hr, hrun, hended, hW, hsame⟩ := X102.leave (v := some (.int (1 : Int32))) (fun h => by rw [Bd.returns] at h; cases h)
  refine ⟨_, _, k105 _ (retOut X102 hx (t := .int) Bd.returns rfl (Or.inl ⟨rfl, Or.inl rfl, _, rfl⟩) (hb hby d10_5) hr), hrun, hended, _, _, rfl, ?_, ⟨_, rfl⟩, hW, hsame.mono (by decide) (by decide)⟩
  show Q_grr1 Z a1 a2 k1 y1 h0 n0 _ T102.heap _
  rw [e102]
  exact ⟨rfl, N0, rfl⟩
def Q_rrk2 (Z : State) (a1 : Addr) (a2 : Addr) (k1 : ClassId) (y1 : Int32) (y2 : Int32) (h0 : Heap) (n0 : Nat) (v : Option Value) (h : Heap) (L : List Loc) : Prop := v = some (.double (FP.ddiv (4607182418800017408 : UInt64) (FP.i2d y1))) ∧ Fr n0 L ∧ h = h0
set_option maxRecDepth 65536 in
set_option maxHeartbeats 40000000 in
theorem rrk2 (l : Launch) (Z : State) (a0 : Array Value) (hw : ∀ d ∈ tables_1, d.before a0 Z = true) (ws : List Jvm.Cond) (a1 : Addr) (a2 : Addr) (k1 : ClassId) (y1 : Int32) (y2 : Int32) (h0 : Heap) (n0 : Nat) (Z0 : n0 ≤ h0.size) (F1 : Fld Z h0 a1 "com/example/round2/round2/eval/TopicResult" "relevantRanks" "[I" (.ref a2)) (V1 : Arv Z h0 a2 k1 .int (2 : Int32) [(.int y1), (.int y2)] (.int (0 : Int32))) (nn20 : Jvm.Free.Fl.NoNaN64 (FP.ddiv (4607182418800017408 : UInt64) (FP.i2d y1))) :
    MetFree l (⟨"com/example/round2/round2/eval/TopicResult", "reciprocalRank", "()D"⟩ : MethodName) (head1 (Jvm.Cond.code (⟨"com/example/round2/round2/eval/TopicResult", "reciprocalRank", "()D"⟩ : MethodName) prog_10_method_7_code 1 (some .double) :: ws) ({ frames := 0, cells := 0, slots := 0, locals := 0 } : Room)) (fun a U => a = #[(.ref a1)] ∧ Z.Warmed39 U.vm ∧ U.heap = h0) (fun _ _ _ _ _ => True) (fun _ U o U' => ∃ v L, o = .returned v ∧ Q_rrk2 Z a1 a2 k1 y1 y2 h0 n0 v U'.heap L ∧ FrameEnd U o U' L ({ frames := 0, cells := 0, slots := 0, locals := 0 } : Room).cells ({ frames := 0, cells := 0, slots := 0, locals := 0 } : Room).slots) := by
  refine MetFree.of_bodySF (plainFor_of_name pn_com_2fexample_2fround2_2fround2_2feval_2fTopicResult) hisR ?_
  intro p e s m args below meth c s₁ Bd hml0 hP hK
  obtain ⟨rfl, hZ, hh⟩ := hP
  have hx := Bd.exec
  have hby := Bd.bytes
  have hml : c.maxLocals = 1 := hml0
  have hown : s.vm.findClass "com/example/round2/round2/eval/TopicResult" = some m.cls := findClass_of_methodNamed Bd.named
  have hnm := (name_of_methodNamed Bd.named Bd.method).1
  have X0 : Stand p l e ({ frames := 0, cells := 0, slots := 0, locals := 0 } : Room) s m #[(.ref a1)] below meth c s₁ [] 0 0 := Stand.of_body Bd
  have e0 : s₁.heap = h0 := by rw [← hh, Bd.state]; rfl
  have N0 := Fr.nil n0
  have k0 : ∀ t, Steps p.tables e below (s₁.setTop (mkF m 0 #[.val (.ref a1)] [])) t → Steps p.tables e below (s₁.setTop (entryFrame m #[(.ref a1)] 1)) t := fun t k => castTop (ef_9_R m a1) k
  have k101 : ∀ t, Steps p.tables e below (s₁.setTop (mkF m 1 #[.val (.ref a1)] [(.ref a1)])) t → Steps p.tables e below (s₁.setTop (entryFrame m #[(.ref a1)] 1)) t := fun t k => k0 t (by
    show Steps p.tables e below (s₁.setTop (mkF m 0 #[.val (.ref a1)] [])) _
    refine XS.aloadN X0.here hx rfl (hb hby d9_0) rfl rfl ?_
    exact k)
  obtain ⟨T102, X102, e102, st102⟩ := getF X0 hx hZ hown (host := "") (Or.inl (hw _ (List.mem_of_getElem? (i := 50) rfl))) Via.refl e0 F1 (g := (mkF m 1 #[.val (.ref a1)] [(.ref a1)])) rfl rfl (hb hby d9_1)
  have k103 : ∀ t, Steps p.tables e below (T102.setTop (mkF m 4 #[.val (.ref a1)] [(.ref a2)])) t → Steps p.tables e below (s₁.setTop (entryFrame m #[(.ref a1)] 1)) t := fun t k => k101 t (st102 t k)
  obtain ⟨c104, Ar104, -, As104, An104, -, -⟩ := id V1
  have k105 : ∀ t, Steps p.tables e below (T102.setTop (mkF m 14 #[.val (.ref a1)] [(.ref a1), (.double (4607182418800017408 : UInt64))])) t → Steps p.tables e below (s₁.setTop (entryFrame m #[(.ref a1)] 1)) t := fun t k => k103 t (by
    show Steps p.tables e below (T102.setTop (mkF m 4 #[.val (.ref a1)] [(.ref a2)])) _
    refine X102.arraylength hx (by rw [e102]; exact Ar104.1) (State.isArrayOf_alike hZ.alike Ar104.2.1) (g := (mkF m 4 #[.val (.ref a1)] [(.ref a2)])) rfl rfl (hb hby d9_4) _ ?_
    rw [len_of As104 An104]
    show Steps p.tables e below (T102.setTop (mkF m 5 #[.val (.ref a1)] [(.int (2 : Int32))])) _
    refine XS.ifYes X102.here hx rfl (pc0 := 5) (pc' := 12) rfl (hb hby d9_5) rfl ((if0 _ _).trans (feq (by decide)).2) (by decide) (by decide) ?_
    show Steps p.tables e below (T102.setTop (mkF m 12 #[.val (.ref a1)] [])) _
    refine XS.dconst1 X102.here hx rfl (hb hby d9_12) (v := (4607182418800017408 : UInt64)) rfl ?_
    show Steps p.tables e below (T102.setTop (mkF m 13 #[.val (.ref a1)] [(.double (4607182418800017408 : UInt64))])) _
    refine XS.aloadN X102.here hx rfl (hb hby d9_13) rfl rfl ?_
    exact k)
  obtain ⟨T106, X106, e106, st106⟩ := getF X102 hx hZ hown (host := "") (Or.inl (hw _ (List.mem_of_getElem? (i := 50) rfl))) Via.refl e102 F1 (g := (mkF m 14 #[.val (.ref a1)] [(.ref a1), (.double (4607182418800017408 : UInt64))])) rfl rfl (hb hby d9_14)
  have k107 : ∀ t, Steps p.tables e below (T106.setTop (mkF m 17 #[.val (.ref a1)] [(.ref a2), (.double (4607182418800017408 : UInt64))])) t → Steps p.tables e below (s₁.setTop (entryFrame m #[(.ref a1)] 1)) t := fun t k => k105 t (st106 t k)
  have k108 : ∀ t, Steps p.tables e below (T106.setTop (mkF m 18 #[.val (.ref a1)] [(.int (0 : Int32)), (.ref a2), (.double (4607182418800017408 : UInt64))])) t → Steps p.tables e below (s₁.setTop (entryFrame m #[(.ref a1)] 1)) t := fun t k => k107 t (by
    show Steps p.tables e below (T106.setTop (mkF m 17 #[.val (.ref a1)] [(.ref a2), (.double (4607182418800017408 : UInt64))])) _
    refine XS.iconst X106.here hx rfl (hb hby d9_17) ?_
    exact k)
  obtain ⟨c109, Ar109, -, As109, An109, Ah109, -⟩ := id V1
  have hin109 : ¬ ((0 : Int32) < 0 ∨ c109.slots.size ≤ ((0 : Int32)).toNatClampNeg) := inb_of As109 ⟨by decide, by decide⟩
  have hat109 : c109.slots[((0 : Int32)).toNatClampNeg]? = some (.int y1) := Has.at Ah109 hin109 rfl
  have k110 : ∀ t, Steps p.tables e below (T106.setTop (mkF m 21 #[.val (.ref a1)] [(.double (FP.ddiv (4607182418800017408 : UInt64) (FP.i2d y1)))])) t → Steps p.tables e below (s₁.setTop (entryFrame m #[(.ref a1)] 1)) t := fun t k => k108 t (by
    show Steps p.tables e below (T106.setTop (mkF m 18 #[.val (.ref a1)] [(.int (0 : Int32)), (.ref a2), (.double (4607182418800017408 : UInt64))])) _
    refine X106.iaload hx (j := (0 : Int32)) (v := (.int y1)) (by rw [e106]; exact Ar109.1) (State.isArrayOf_alike hZ.alike Ar109.2.1) Ar109.2.2 hin109 hat109 (g := (mkF m 18 #[.val (.ref a1)] [(.int (0 : Int32)), (.ref a2), (.double (4607182418800017408 : UInt64))])) rfl rfl (hb hby d9_18) _ ?_
    show Steps p.tables e below (T106.setTop (mkF m 19 #[.val (.ref a1)] [(.int y1), (.double (4607182418800017408 : UInt64))])) _
    refine XS.i2dS X106.here hx rfl (hb hby d9_19) rfl rfl ?_
    show Steps p.tables e below (T106.setTop (mkF m 20 #[.val (.ref a1)] [(.double (FP.i2d y1)), (.double (4607182418800017408 : UInt64))])) _
    refine XS.ddivS X106.here hx rfl (hb hby d9_20) rfl (nn20) rfl ?_
    exact k)
  obtain ⟨fs, hr, hrun, hended, hW, hsame⟩ := X106.leave (v := some (.double (FP.ddiv (4607182418800017408 : UInt64) (FP.i2d y1)))) (fun h => by rw [Bd.returns] at h; cases h)
  refine ⟨_, _, k110 _ (retOut X106 hx (t := .double) Bd.returns rfl (Or.inr (Or.inr (Or.inl ⟨rfl, rfl, _, rfl⟩))) (hb hby d9_21) hr), hrun, hended, _, _, rfl, ?_, ⟨_, rfl⟩, hW, hsame.mono (by decide) (by decide)⟩
  show Q_rrk2 Z a1 a2 k1 y1 y2 h0 n0 _ T106.heap _
  rw [e106]
  exact ⟨rfl, N0, rfl⟩
def Q_grr2 (Z : State) (a1 : Addr) (a2 : Addr) (k1 : ClassId) (y1 : Int32) (y2 : Int32) (h0 : Heap) (n0 : Nat) (v : Option Value) (h : Heap) (L : List Loc) : Prop := v = some (.int (2 : Int32)) ∧ Fr n0 L ∧ h = h0
set_option maxRecDepth 65536 in
set_option maxHeartbeats 40000000 in
theorem grr2 (l : Launch) (Z : State) (a0 : Array Value) (hw : ∀ d ∈ tables_1, d.before a0 Z = true) (ws : List Jvm.Cond) (a1 : Addr) (a2 : Addr) (k1 : ClassId) (y1 : Int32) (y2 : Int32) (h0 : Heap) (n0 : Nat) (Z0 : n0 ≤ h0.size) (F1 : Fld Z h0 a1 "com/example/round2/round2/eval/TopicResult" "relevantRanks" "[I" (.ref a2)) (V1 : Arv Z h0 a2 k1 .int (2 : Int32) [(.int y1), (.int y2)] (.int (0 : Int32))) :
    MetFree l (⟨"com/example/round2/round2/eval/TopicResult", "getRelevantRetrieved", "()I"⟩ : MethodName) (head1 (Jvm.Cond.code (⟨"com/example/round2/round2/eval/TopicResult", "getRelevantRetrieved", "()I"⟩ : MethodName) prog_10_method_5_code 1 (some .int) :: ws) ({ frames := 0, cells := 0, slots := 0, locals := 0 } : Room)) (fun a U => a = #[(.ref a1)] ∧ Z.Warmed39 U.vm ∧ U.heap = h0) (fun _ _ _ _ _ => True) (fun _ U o U' => ∃ v L, o = .returned v ∧ Q_grr2 Z a1 a2 k1 y1 y2 h0 n0 v U'.heap L ∧ FrameEnd U o U' L ({ frames := 0, cells := 0, slots := 0, locals := 0 } : Room).cells ({ frames := 0, cells := 0, slots := 0, locals := 0 } : Room).slots) := by
  refine MetFree.of_bodySF (plainFor_of_name pn_com_2fexample_2fround2_2fround2_2feval_2fTopicResult) hisR ?_
  intro p e s m args below meth c s₁ Bd hml0 hP hK
  obtain ⟨rfl, hZ, hh⟩ := hP
  have hx := Bd.exec
  have hby := Bd.bytes
  have hml : c.maxLocals = 1 := hml0
  have hown : s.vm.findClass "com/example/round2/round2/eval/TopicResult" = some m.cls := findClass_of_methodNamed Bd.named
  have hnm := (name_of_methodNamed Bd.named Bd.method).1
  have X0 : Stand p l e ({ frames := 0, cells := 0, slots := 0, locals := 0 } : Room) s m #[(.ref a1)] below meth c s₁ [] 0 0 := Stand.of_body Bd
  have e0 : s₁.heap = h0 := by rw [← hh, Bd.state]; rfl
  have N0 := Fr.nil n0
  have k0 : ∀ t, Steps p.tables e below (s₁.setTop (mkF m 0 #[.val (.ref a1)] [])) t → Steps p.tables e below (s₁.setTop (entryFrame m #[(.ref a1)] 1)) t := fun t k => castTop (ef_10_R m a1) k
  have k101 : ∀ t, Steps p.tables e below (s₁.setTop (mkF m 1 #[.val (.ref a1)] [(.ref a1)])) t → Steps p.tables e below (s₁.setTop (entryFrame m #[(.ref a1)] 1)) t := fun t k => k0 t (by
    show Steps p.tables e below (s₁.setTop (mkF m 0 #[.val (.ref a1)] [])) _
    refine XS.aloadN X0.here hx rfl (hb hby d10_0) rfl rfl ?_
    exact k)
  obtain ⟨T102, X102, e102, st102⟩ := getF X0 hx hZ hown (host := "") (Or.inl (hw _ (List.mem_of_getElem? (i := 50) rfl))) Via.refl e0 F1 (g := (mkF m 1 #[.val (.ref a1)] [(.ref a1)])) rfl rfl (hb hby d10_1)
  have k103 : ∀ t, Steps p.tables e below (T102.setTop (mkF m 4 #[.val (.ref a1)] [(.ref a2)])) t → Steps p.tables e below (s₁.setTop (entryFrame m #[(.ref a1)] 1)) t := fun t k => k101 t (st102 t k)
  obtain ⟨c104, Ar104, -, As104, An104, -, -⟩ := id V1
  have k105 : ∀ t, Steps p.tables e below (T102.setTop (mkF m 5 #[.val (.ref a1)] [(.int (2 : Int32))])) t → Steps p.tables e below (s₁.setTop (entryFrame m #[(.ref a1)] 1)) t := fun t k => k103 t (by
    show Steps p.tables e below (T102.setTop (mkF m 4 #[.val (.ref a1)] [(.ref a2)])) _
    refine X102.arraylength hx (by rw [e102]; exact Ar104.1) (State.isArrayOf_alike hZ.alike Ar104.2.1) (g := (mkF m 4 #[.val (.ref a1)] [(.ref a2)])) rfl rfl (hb hby d10_4) _ ?_
    rw [len_of As104 An104]
    exact k)
  obtain ⟨fs, hr, hrun, hended, hW, hsame⟩ := X102.leave (v := some (.int (2 : Int32))) (fun h => by rw [Bd.returns] at h; cases h)
  refine ⟨_, _, k105 _ (retOut X102 hx (t := .int) Bd.returns rfl (Or.inl ⟨rfl, Or.inl rfl, _, rfl⟩) (hb hby d10_5) hr), hrun, hended, _, _, rfl, ?_, ⟨_, rfl⟩, hW, hsame.mono (by decide) (by decide)⟩
  show Q_grr2 Z a1 a2 k1 y1 y2 h0 n0 _ T102.heap _
  rw [e102]
  exact ⟨rfl, N0, rfl⟩
def Q_rrk3 (Z : State) (a1 : Addr) (a2 : Addr) (k1 : ClassId) (y1 : Int32) (y2 : Int32) (y3 : Int32) (h0 : Heap) (n0 : Nat) (v : Option Value) (h : Heap) (L : List Loc) : Prop := v = some (.double (FP.ddiv (4607182418800017408 : UInt64) (FP.i2d y1))) ∧ Fr n0 L ∧ h = h0
set_option maxRecDepth 65536 in
set_option maxHeartbeats 40000000 in
theorem rrk3 (l : Launch) (Z : State) (a0 : Array Value) (hw : ∀ d ∈ tables_1, d.before a0 Z = true) (ws : List Jvm.Cond) (a1 : Addr) (a2 : Addr) (k1 : ClassId) (y1 : Int32) (y2 : Int32) (y3 : Int32) (h0 : Heap) (n0 : Nat) (Z0 : n0 ≤ h0.size) (F1 : Fld Z h0 a1 "com/example/round2/round2/eval/TopicResult" "relevantRanks" "[I" (.ref a2)) (V1 : Arv Z h0 a2 k1 .int (3 : Int32) [(.int y1), (.int y2), (.int y3)] (.int (0 : Int32))) (nn20 : Jvm.Free.Fl.NoNaN64 (FP.ddiv (4607182418800017408 : UInt64) (FP.i2d y1))) :
    MetFree l (⟨"com/example/round2/round2/eval/TopicResult", "reciprocalRank", "()D"⟩ : MethodName) (head1 (Jvm.Cond.code (⟨"com/example/round2/round2/eval/TopicResult", "reciprocalRank", "()D"⟩ : MethodName) prog_10_method_7_code 1 (some .double) :: ws) ({ frames := 0, cells := 0, slots := 0, locals := 0 } : Room)) (fun a U => a = #[(.ref a1)] ∧ Z.Warmed39 U.vm ∧ U.heap = h0) (fun _ _ _ _ _ => True) (fun _ U o U' => ∃ v L, o = .returned v ∧ Q_rrk3 Z a1 a2 k1 y1 y2 y3 h0 n0 v U'.heap L ∧ FrameEnd U o U' L ({ frames := 0, cells := 0, slots := 0, locals := 0 } : Room).cells ({ frames := 0, cells := 0, slots := 0, locals := 0 } : Room).slots) := by
  refine MetFree.of_bodySF (plainFor_of_name pn_com_2fexample_2fround2_2fround2_2feval_2fTopicResult) hisR ?_
  intro p e s m args below meth c s₁ Bd hml0 hP hK
  obtain ⟨rfl, hZ, hh⟩ := hP
  have hx := Bd.exec
  have hby := Bd.bytes
  have hml : c.maxLocals = 1 := hml0
  have hown : s.vm.findClass "com/example/round2/round2/eval/TopicResult" = some m.cls := findClass_of_methodNamed Bd.named
  have hnm := (name_of_methodNamed Bd.named Bd.method).1
  have X0 : Stand p l e ({ frames := 0, cells := 0, slots := 0, locals := 0 } : Room) s m #[(.ref a1)] below meth c s₁ [] 0 0 := Stand.of_body Bd
  have e0 : s₁.heap = h0 := by rw [← hh, Bd.state]; rfl
  have N0 := Fr.nil n0
  have k0 : ∀ t, Steps p.tables e below (s₁.setTop (mkF m 0 #[.val (.ref a1)] [])) t → Steps p.tables e below (s₁.setTop (entryFrame m #[(.ref a1)] 1)) t := fun t k => castTop (ef_9_R m a1) k
  have k101 : ∀ t, Steps p.tables e below (s₁.setTop (mkF m 1 #[.val (.ref a1)] [(.ref a1)])) t → Steps p.tables e below (s₁.setTop (entryFrame m #[(.ref a1)] 1)) t := fun t k => k0 t (by
    show Steps p.tables e below (s₁.setTop (mkF m 0 #[.val (.ref a1)] [])) _
    refine XS.aloadN X0.here hx rfl (hb hby d9_0) rfl rfl ?_
    exact k)
  obtain ⟨T102, X102, e102, st102⟩ := getF X0 hx hZ hown (host := "") (Or.inl (hw _ (List.mem_of_getElem? (i := 50) rfl))) Via.refl e0 F1 (g := (mkF m 1 #[.val (.ref a1)] [(.ref a1)])) rfl rfl (hb hby d9_1)
  have k103 : ∀ t, Steps p.tables e below (T102.setTop (mkF m 4 #[.val (.ref a1)] [(.ref a2)])) t → Steps p.tables e below (s₁.setTop (entryFrame m #[(.ref a1)] 1)) t := fun t k => k101 t (st102 t k)
  obtain ⟨c104, Ar104, -, As104, An104, -, -⟩ := id V1
  have k105 : ∀ t, Steps p.tables e below (T102.setTop (mkF m 14 #[.val (.ref a1)] [(.ref a1), (.double (4607182418800017408 : UInt64))])) t → Steps p.tables e below (s₁.setTop (entryFrame m #[(.ref a1)] 1)) t := fun t k => k103 t (by
    show Steps p.tables e below (T102.setTop (mkF m 4 #[.val (.ref a1)] [(.ref a2)])) _
    refine X102.arraylength hx (by rw [e102]; exact Ar104.1) (State.isArrayOf_alike hZ.alike Ar104.2.1) (g := (mkF m 4 #[.val (.ref a1)] [(.ref a2)])) rfl rfl (hb hby d9_4) _ ?_
    rw [len_of As104 An104]
    show Steps p.tables e below (T102.setTop (mkF m 5 #[.val (.ref a1)] [(.int (3 : Int32))])) _
    refine XS.ifYes X102.here hx rfl (pc0 := 5) (pc' := 12) rfl (hb hby d9_5) rfl ((if0 _ _).trans (feq (by decide)).2) (by decide) (by decide) ?_
    show Steps p.tables e below (T102.setTop (mkF m 12 #[.val (.ref a1)] [])) _
    refine XS.dconst1 X102.here hx rfl (hb hby d9_12) (v := (4607182418800017408 : UInt64)) rfl ?_
    show Steps p.tables e below (T102.setTop (mkF m 13 #[.val (.ref a1)] [(.double (4607182418800017408 : UInt64))])) _
    refine XS.aloadN X102.here hx rfl (hb hby d9_13) rfl rfl ?_
    exact k)
  obtain ⟨T106, X106, e106, st106⟩ := getF X102 hx hZ hown (host := "") (Or.inl (hw _ (List.mem_of_getElem? (i := 50) rfl))) Via.refl e102 F1 (g := (mkF m 14 #[.val (.ref a1)] [(.ref a1), (.double (4607182418800017408 : UInt64))])) rfl rfl (hb hby d9_14)
  have k107 : ∀ t, Steps p.tables e below (T106.setTop (mkF m 17 #[.val (.ref a1)] [(.ref a2), (.double (4607182418800017408 : UInt64))])) t → Steps p.tables e below (s₁.setTop (entryFrame m #[(.ref a1)] 1)) t := fun t k => k105 t (st106 t k)
  have k108 : ∀ t, Steps p.tables e below (T106.setTop (mkF m 18 #[.val (.ref a1)] [(.int (0 : Int32)), (.ref a2), (.double (4607182418800017408 : UInt64))])) t → Steps p.tables e below (s₁.setTop (entryFrame m #[(.ref a1)] 1)) t := fun t k => k107 t (by
    show Steps p.tables e below (T106.setTop (mkF m 17 #[.val (.ref a1)] [(.ref a2), (.double (4607182418800017408 : UInt64))])) _
    refine XS.iconst X106.here hx rfl (hb hby d9_17) ?_
    exact k)
  obtain ⟨c109, Ar109, -, As109, An109, Ah109, -⟩ := id V1
  have hin109 : ¬ ((0 : Int32) < 0 ∨ c109.slots.size ≤ ((0 : Int32)).toNatClampNeg) := inb_of As109 ⟨by decide, by decide⟩
  have hat109 : c109.slots[((0 : Int32)).toNatClampNeg]? = some (.int y1) := Has.at Ah109 hin109 rfl
  have k110 : ∀ t, Steps p.tables e below (T106.setTop (mkF m 21 #[.val (.ref a1)] [(.double (FP.ddiv (4607182418800017408 : UInt64) (FP.i2d y1)))])) t → Steps p.tables e below (s₁.setTop (entryFrame m #[(.ref a1)] 1)) t := fun t k => k108 t (by
    show Steps p.tables e below (T106.setTop (mkF m 18 #[.val (.ref a1)] [(.int (0 : Int32)), (.ref a2), (.double (4607182418800017408 : UInt64))])) _
    refine X106.iaload hx (j := (0 : Int32)) (v := (.int y1)) (by rw [e106]; exact Ar109.1) (State.isArrayOf_alike hZ.alike Ar109.2.1) Ar109.2.2 hin109 hat109 (g := (mkF m 18 #[.val (.ref a1)] [(.int (0 : Int32)), (.ref a2), (.double (4607182418800017408 : UInt64))])) rfl rfl (hb hby d9_18) _ ?_
    show Steps p.tables e below (T106.setTop (mkF m 19 #[.val (.ref a1)] [(.int y1), (.double (4607182418800017408 : UInt64))])) _
    refine XS.i2dS X106.here hx rfl (hb hby d9_19) rfl rfl ?_
    show Steps p.tables e below (T106.setTop (mkF m 20 #[.val (.ref a1)] [(.double (FP.i2d y1)), (.double (4607182418800017408 : UInt64))])) _
    refine XS.ddivS X106.here hx rfl (hb hby d9_20) rfl (nn20) rfl ?_
    exact k)
  obtain ⟨fs, hr, hrun, hended, hW, hsame⟩ := X106.leave (v := some (.double (FP.ddiv (4607182418800017408 : UInt64) (FP.i2d y1)))) (fun h => by rw [Bd.returns] at h; cases h)
  refine ⟨_, _, k110 _ (retOut X106 hx (t := .double) Bd.returns rfl (Or.inr (Or.inr (Or.inl ⟨rfl, rfl, _, rfl⟩))) (hb hby d9_21) hr), hrun, hended, _, _, rfl, ?_, ⟨_, rfl⟩, hW, hsame.mono (by decide) (by decide)⟩
  show Q_rrk3 Z a1 a2 k1 y1 y2 y3 h0 n0 _ T106.heap _
  rw [e106]
  exact ⟨rfl, N0, rfl⟩
def Q_grr3 (Z : State) (a1 : Addr) (a2 : Addr) (k1 : ClassId) (y1 : Int32) (y2 : Int32) (y3 : Int32) (h0 : Heap) (n0 : Nat) (v : Option Value) (h : Heap) (L : List Loc) : Prop := v = some (.int (3 : Int32)) ∧ Fr n0 L ∧ h = h0
set_option maxRecDepth 65536 in
set_option maxHeartbeats 40000000 in
theorem grr3 (l : Launch) (Z : State) (a0 : Array Value) (hw : ∀ d ∈ tables_1, d.before a0 Z = true) (ws : List Jvm.Cond) (a1 : Addr) (a2 : Addr) (k1 : ClassId) (y1 : Int32) (y2 : Int32) (y3 : Int32) (h0 : Heap) (n0 : Nat) (Z0 : n0 ≤ h0.size) (F1 : Fld Z h0 a1 "com/example/round2/round2/eval/TopicResult" "relevantRanks" "[I" (.ref a2)) (V1 : Arv Z h0 a2 k1 .int (3 : Int32) [(.int y1), (.int y2), (.int y3)] (.int (0 : Int32))) :
    MetFree l (⟨"com/example/round2/round2/eval/TopicResult", "getRelevantRetrieved", "()I"⟩ : MethodName) (head1 (Jvm.Cond.code (⟨"com/example/round2/round2/eval/TopicResult", "getRelevantRetrieved", "()I"⟩ : MethodName) prog_10_method_5_code 1 (some .int) :: ws) ({ frames := 0, cells := 0, slots := 0, locals := 0 } : Room)) (fun a U => a = #[(.ref a1)] ∧ Z.Warmed39 U.vm ∧ U.heap = h0) (fun _ _ _ _ _ => True) (fun _ U o U' => ∃ v L, o = .returned v ∧ Q_grr3 Z a1 a2 k1 y1 y2 y3 h0 n0 v U'.heap L ∧ FrameEnd U o U' L ({ frames := 0, cells := 0, slots := 0, locals := 0 } : Room).cells ({ frames := 0, cells := 0, slots := 0, locals := 0 } : Room).slots) := by
  refine MetFree.of_bodySF (plainFor_of_name pn_com_2fexample_2fround2_2fround2_2feval_2fTopicResult) hisR ?_
  intro p e s m args below meth c s₁ Bd hml0 hP hK
  obtain ⟨rfl, hZ, hh⟩ := hP
  have hx := Bd.exec
  have hby := Bd.bytes
  have hml : c.maxLocals = 1 := hml0
  have hown : s.vm.findClass "com/example/round2/round2/eval/TopicResult" = some m.cls := findClass_of_methodNamed Bd.named
  have hnm := (name_of_methodNamed Bd.named Bd.method).1
  have X0 : Stand p l e ({ frames := 0, cells := 0, slots := 0, locals := 0 } : Room) s m #[(.ref a1)] below meth c s₁ [] 0 0 := Stand.of_body Bd
  have e0 : s₁.heap = h0 := by rw [← hh, Bd.state]; rfl
  have N0 := Fr.nil n0
  have k0 : ∀ t, Steps p.tables e below (s₁.setTop (mkF m 0 #[.val (.ref a1)] [])) t → Steps p.tables e below (s₁.setTop (entryFrame m #[(.ref a1)] 1)) t := fun t k => castTop (ef_10_R m a1) k
  have k101 : ∀ t, Steps p.tables e below (s₁.setTop (mkF m 1 #[.val (.ref a1)] [(.ref a1)])) t → Steps p.tables e below (s₁.setTop (entryFrame m #[(.ref a1)] 1)) t := fun t k => k0 t (by
    show Steps p.tables e below (s₁.setTop (mkF m 0 #[.val (.ref a1)] [])) _
    refine XS.aloadN X0.here hx rfl (hb hby d10_0) rfl rfl ?_
    exact k)
  obtain ⟨T102, X102, e102, st102⟩ := getF X0 hx hZ hown (host := "") (Or.inl (hw _ (List.mem_of_getElem? (i := 50) rfl))) Via.refl e0 F1 (g := (mkF m 1 #[.val (.ref a1)] [(.ref a1)])) rfl rfl (hb hby d10_1)
  have k103 : ∀ t, Steps p.tables e below (T102.setTop (mkF m 4 #[.val (.ref a1)] [(.ref a2)])) t → Steps p.tables e below (s₁.setTop (entryFrame m #[(.ref a1)] 1)) t := fun t k => k101 t (st102 t k)
  obtain ⟨c104, Ar104, -, As104, An104, -, -⟩ := id V1
  have k105 : ∀ t, Steps p.tables e below (T102.setTop (mkF m 5 #[.val (.ref a1)] [(.int (3 : Int32))])) t → Steps p.tables e below (s₁.setTop (entryFrame m #[(.ref a1)] 1)) t := fun t k => k103 t (by
    show Steps p.tables e below (T102.setTop (mkF m 4 #[.val (.ref a1)] [(.ref a2)])) _
    refine X102.arraylength hx (by rw [e102]; exact Ar104.1) (State.isArrayOf_alike hZ.alike Ar104.2.1) (g := (mkF m 4 #[.val (.ref a1)] [(.ref a2)])) rfl rfl (hb hby d10_4) _ ?_
    rw [len_of As104 An104]
    exact k)
  obtain ⟨fs, hr, hrun, hended, hW, hsame⟩ := X102.leave (v := some (.int (3 : Int32))) (fun h => by rw [Bd.returns] at h; cases h)
  refine ⟨_, _, k105 _ (retOut X102 hx (t := .int) Bd.returns rfl (Or.inl ⟨rfl, Or.inl rfl, _, rfl⟩) (hb hby d10_5) hr), hrun, hended, _, _, rfl, ?_, ⟨_, rfl⟩, hW, hsame.mono (by decide) (by decide)⟩
  show Q_grr3 Z a1 a2 k1 y1 y2 y3 h0 n0 _ T102.heap _
  rw [e102]
  exact ⟨rfl, N0, rfl⟩
theorem ef_0_IIIIII (m : MethodId) (x0 : Int32) (x1 : Int32) (x2 : Int32) (x3 : Int32) (x4 : Int32) (x5 : Int32) : entryFrame m #[(.int x0), (.int x1), (.int x2), (.int x3), (.int x4), (.int x5)] maxLocals = mkF m 0 #[.val (.int x0), .val (.int x1), .val (.int x2), .val (.int x3), .val (.int x4), .val (.int x5), .unset, .unset, .unset, .unset, .unset, .unset, .unset, .unset, .unset, .unset, .unset, .unset, .unset, .unset, .unset, .unset] [] := by first | (simp [entryFrame, mkF, argsToLocals, Value.category, maxLocals]; done) | rfl
theorem pd__28II_29I : parseMethodDescriptor "(II)I" = some ⟨[.int, .int], some .int⟩ := by decide +kernel
theorem pd__28_5bC_29V : parseMethodDescriptor "([C)V" = some ⟨[(.array .char)], none⟩ := by decide +kernel
theorem pd__28Ljava_2flang_2fString_3bII_5bI_29V : parseMethodDescriptor "(Ljava/lang/String;II[I)V" = some ⟨[(.object "java/lang/String"), .int, .int, (.array .int)], none⟩ := by decide +kernel
theorem pd__28_29D : parseMethodDescriptor "()D" = some ⟨[], some .double⟩ := by decide +kernel
theorem pd__28_29I : parseMethodDescriptor "()I" = some ⟨[], some .int⟩ := by decide +kernel
def Q_rm0 (Z : State) (g1 : Int32) (g2 : Int32) (g3 : Int32) (g4 : Int32) (g5 : Int32) (g6 : Int32) (cs : Int32) (h0 : Heap) (n0 : Nat) (v : Option Value) (h : Heap) (L : List Loc) : Prop := v = some (.int 1) ∧ Fr n0 L
theorem pn_com_2fexample_2fround2_2fround2_2feval_2fTopicResultReciprocalRankPinLaw : plainName "com/example/round2/round2/eval/TopicResultReciprocalRankPinLaw" = true := by first | (simp [plainName, overriddenIn]; done) | decide +kernel
set_option maxRecDepth 65536 in
set_option maxHeartbeats 40000000 in
theorem rm0 (l : Launch) (Z : State) (a0 : Array Value) (hw : ∀ d ∈ tables_1, d.before a0 Z = true) (ws : List Jvm.Cond) (g1 : Int32) (g2 : Int32) (g3 : Int32) (g4 : Int32) (g5 : Int32) (g6 : Int32) (cs : Int32) (h0 : Heap) (n0 : Nat) (Z0 : n0 ≤ h0.size) (Scs : Sta Z h0 "java/lang/String" "COMPACT_STRINGS" "Z" (.int cs)) (hcs : ¬ (cs = (0 : Int32))) :
    MetFree l x (head1 (Jvm.Cond.code x code maxLocals ret :: ws) room_1) (fun a U => a = #[(.int g1), (.int g2), (.int g3), (.int g4), (.int g5), (.int g6)] ∧ Z.Warmed39 U.vm ∧ U.heap = h0) (fun _ _ _ _ _ => True) (fun _ U o U' => ∃ v L, o = .returned v ∧ Q_rm0 Z g1 g2 g3 g4 g5 g6 cs h0 n0 v U'.heap L ∧ FrameEnd U o U' L room_1.cells room_1.slots) := by
  refine MetFree.of_bodySF (plainFor_of_name pn_com_2fexample_2fround2_2fround2_2feval_2fTopicResultReciprocalRankPinLaw) hisR ?_
  intro p e s m args below meth c s₁ Bd hml0 hP hK
  obtain ⟨rfl, hZ, hh⟩ := hP
  have hx := Bd.exec
  have hby := Bd.bytes
  have hml : c.maxLocals = 22 := hml0
  have hown : s.vm.findClass "com/example/round2/round2/eval/TopicResultReciprocalRankPinLaw" = some m.cls := findClass_of_methodNamed Bd.named
  have hnm := (name_of_methodNamed Bd.named Bd.method).1
  have X0 : Stand p l e room_1 s m #[(.int g1), (.int g2), (.int g3), (.int g4), (.int g5), (.int g6)] below meth c s₁ [] 0 0 := Stand.of_body Bd
  have e0 : s₁.heap = h0 := by rw [← hh, Bd.state]; rfl
  have N0 := Fr.nil n0
  have k0 : ∀ t, Steps p.tables e below (s₁.setTop (mkF m 0 #[.val (.int g1), .val (.int g2), .val (.int g3), .val (.int g4), .val (.int g5), .val (.int g6), .unset, .unset, .unset, .unset, .unset, .unset, .unset, .unset, .unset, .unset, .unset, .unset, .unset, .unset, .unset, .unset] [])) t → Steps p.tables e below (s₁.setTop (entryFrame m #[(.int g1), (.int g2), (.int g3), (.int g4), (.int g5), (.int g6)] maxLocals)) t := fun t k => castTop (ef_0_IIIIII m g1 g2 g3 g4 g5 g6) k
  obtain ⟨r1, hr1⟩ : ∃ z : Int32, z = ((1 : Int32) + ((g1 &&& (2147483647 : Int32)) % (2147483647 : Int32))) := ⟨_, rfl⟩
  obtain ⟨nn, hnn⟩ : ∃ z : Int32, z = (g4 &&& (3 : Int32)) := ⟨_, rfl⟩
  have k101 : ∀ t, Steps p.tables e below (s₁.setTop (mkF m 20 #[.val (.int g1), .val (.int g2), .val (.int g3), .val (.int g4), .val (.int g5), .val (.int g6), .val (.int r1), .val (.int nn), .unset, .unset, .unset, .unset, .unset, .unset, .unset, .unset, .unset, .unset, .unset, .unset, .unset, .unset] [(.int (2147482623 : Int32)), (.int r1)])) t → Steps p.tables e below (s₁.setTop (entryFrame m #[(.int g1), (.int g2), (.int g3), (.int g4), (.int g5), (.int g6)] maxLocals)) t := fun t k => k0 t (by
    show Steps p.tables e below (s₁.setTop (mkF m 0 #[.val (.int g1), .val (.int g2), .val (.int g3), .val (.int g4), .val (.int g5), .val (.int g6), .unset, .unset, .unset, .unset, .unset, .unset, .unset, .unset, .unset, .unset, .unset, .unset, .unset, .unset, .unset, .unset] [])) _
    refine XS.iconst X0.here hx rfl (hb hby at_0) ?_
    show Steps p.tables e below (s₁.setTop (mkF m 1 #[.val (.int g1), .val (.int g2), .val (.int g3), .val (.int g4), .val (.int g5), .val (.int g6), .unset, .unset, .unset, .unset, .unset, .unset, .unset, .unset, .unset, .unset, .unset, .unset, .unset, .unset, .unset, .unset] [(.int (1 : Int32))])) _
    refine XS.iloadN X0.here hx rfl (hb hby at_1) rfl ?_
    show Steps p.tables e below (s₁.setTop (mkF m 2 #[.val (.int g1), .val (.int g2), .val (.int g3), .val (.int g4), .val (.int g5), .val (.int g6), .unset, .unset, .unset, .unset, .unset, .unset, .unset, .unset, .unset, .unset, .unset, .unset, .unset, .unset, .unset, .unset] [(.int g1), (.int (1 : Int32))])) _
    refine X0.ldcInt hx hown (mvT hZ (hw _ (List.mem_of_getElem? (i := 0) rfl))) (g := (mkF m 2 #[.val (.int g1), .val (.int g2), .val (.int g3), .val (.int g4), .val (.int g5), .val (.int g6), .unset, .unset, .unset, .unset, .unset, .unset, .unset, .unset, .unset, .unset, .unset, .unset, .unset, .unset, .unset, .unset] [(.int g1), (.int (1 : Int32))])) rfl (hb hby at_2) _ ?_
    show Steps p.tables e below (s₁.setTop (mkF m 4 #[.val (.int g1), .val (.int g2), .val (.int g3), .val (.int g4), .val (.int g5), .val (.int g6), .unset, .unset, .unset, .unset, .unset, .unset, .unset, .unset, .unset, .unset, .unset, .unset, .unset, .unset, .unset, .unset] [(.int (2147483647 : Int32)), (.int g1), (.int (1 : Int32))])) _
    refine XS.iand X0.here hx rfl (hb hby at_4) rfl ?_
    show Steps p.tables e below (s₁.setTop (mkF m 5 #[.val (.int g1), .val (.int g2), .val (.int g3), .val (.int g4), .val (.int g5), .val (.int g6), .unset, .unset, .unset, .unset, .unset, .unset, .unset, .unset, .unset, .unset, .unset, .unset, .unset, .unset, .unset, .unset] [(.int (g1 &&& (2147483647 : Int32))), (.int (1 : Int32))])) _
    refine X0.ldcInt hx hown (mvT hZ (hw _ (List.mem_of_getElem? (i := 0) rfl))) (g := (mkF m 5 #[.val (.int g1), .val (.int g2), .val (.int g3), .val (.int g4), .val (.int g5), .val (.int g6), .unset, .unset, .unset, .unset, .unset, .unset, .unset, .unset, .unset, .unset, .unset, .unset, .unset, .unset, .unset, .unset] [(.int (g1 &&& (2147483647 : Int32))), (.int (1 : Int32))])) rfl (hb hby at_5) _ ?_
    show Steps p.tables e below (s₁.setTop (mkF m 7 #[.val (.int g1), .val (.int g2), .val (.int g3), .val (.int g4), .val (.int g5), .val (.int g6), .unset, .unset, .unset, .unset, .unset, .unset, .unset, .unset, .unset, .unset, .unset, .unset, .unset, .unset, .unset, .unset] [(.int (2147483647 : Int32)), (.int (g1 &&& (2147483647 : Int32))), (.int (1 : Int32))])) _
    refine iremM X0 hx rfl (hb hby at_7) rfl (by decide) ?_
    show Steps p.tables e below (s₁.setTop (mkF m 8 #[.val (.int g1), .val (.int g2), .val (.int g3), .val (.int g4), .val (.int g5), .val (.int g6), .unset, .unset, .unset, .unset, .unset, .unset, .unset, .unset, .unset, .unset, .unset, .unset, .unset, .unset, .unset, .unset] [(.int ((g1 &&& (2147483647 : Int32)) % (2147483647 : Int32))), (.int (1 : Int32))])) _
    refine XS.iadd X0.here hx rfl (hb hby at_8) rfl ?_
    show Steps p.tables e below (s₁.setTop (mkF m 9 #[.val (.int g1), .val (.int g2), .val (.int g3), .val (.int g4), .val (.int g5), .val (.int g6), .unset, .unset, .unset, .unset, .unset, .unset, .unset, .unset, .unset, .unset, .unset, .unset, .unset, .unset, .unset, .unset] [(.int ((1 : Int32) + ((g1 &&& (2147483647 : Int32)) % (2147483647 : Int32))))])) _
    refine castTop (g' := (mkF m 9 #[.val (.int g1), .val (.int g2), .val (.int g3), .val (.int g4), .val (.int g5), .val (.int g6), .unset, .unset, .unset, .unset, .unset, .unset, .unset, .unset, .unset, .unset, .unset, .unset, .unset, .unset, .unset, .unset] [(.int r1)])) (by rw [hr1]) ?_
    show Steps p.tables e below (s₁.setTop (mkF m 9 #[.val (.int g1), .val (.int g2), .val (.int g3), .val (.int g4), .val (.int g5), .val (.int g6), .unset, .unset, .unset, .unset, .unset, .unset, .unset, .unset, .unset, .unset, .unset, .unset, .unset, .unset, .unset, .unset] [(.int r1)])) _
    refine XS.istore X0.here hx rfl (hb hby at_9) rfl (l' := #[.val (.int g1), .val (.int g2), .val (.int g3), .val (.int g4), .val (.int g5), .val (.int g6), .val (.int r1), .unset, .unset, .unset, .unset, .unset, .unset, .unset, .unset, .unset, .unset, .unset, .unset, .unset, .unset, .unset]) rfl ?_
    show Steps p.tables e below (s₁.setTop (mkF m 11 #[.val (.int g1), .val (.int g2), .val (.int g3), .val (.int g4), .val (.int g5), .val (.int g6), .val (.int r1), .unset, .unset, .unset, .unset, .unset, .unset, .unset, .unset, .unset, .unset, .unset, .unset, .unset, .unset, .unset] [])) _
    refine XS.iloadN X0.here hx rfl (hb hby at_11) rfl ?_
    show Steps p.tables e below (s₁.setTop (mkF m 12 #[.val (.int g1), .val (.int g2), .val (.int g3), .val (.int g4), .val (.int g5), .val (.int g6), .val (.int r1), .unset, .unset, .unset, .unset, .unset, .unset, .unset, .unset, .unset, .unset, .unset, .unset, .unset, .unset, .unset] [(.int g4)])) _
    refine XS.iconst X0.here hx rfl (hb hby at_12) ?_
    show Steps p.tables e below (s₁.setTop (mkF m 13 #[.val (.int g1), .val (.int g2), .val (.int g3), .val (.int g4), .val (.int g5), .val (.int g6), .val (.int r1), .unset, .unset, .unset, .unset, .unset, .unset, .unset, .unset, .unset, .unset, .unset, .unset, .unset, .unset, .unset] [(.int (3 : Int32)), (.int g4)])) _
    refine XS.iand X0.here hx rfl (hb hby at_13) rfl ?_
    show Steps p.tables e below (s₁.setTop (mkF m 14 #[.val (.int g1), .val (.int g2), .val (.int g3), .val (.int g4), .val (.int g5), .val (.int g6), .val (.int r1), .unset, .unset, .unset, .unset, .unset, .unset, .unset, .unset, .unset, .unset, .unset, .unset, .unset, .unset, .unset] [(.int (g4 &&& (3 : Int32)))])) _
    refine castTop (g' := (mkF m 14 #[.val (.int g1), .val (.int g2), .val (.int g3), .val (.int g4), .val (.int g5), .val (.int g6), .val (.int r1), .unset, .unset, .unset, .unset, .unset, .unset, .unset, .unset, .unset, .unset, .unset, .unset, .unset, .unset, .unset] [(.int nn)])) (by rw [hnn]) ?_
    show Steps p.tables e below (s₁.setTop (mkF m 14 #[.val (.int g1), .val (.int g2), .val (.int g3), .val (.int g4), .val (.int g5), .val (.int g6), .val (.int r1), .unset, .unset, .unset, .unset, .unset, .unset, .unset, .unset, .unset, .unset, .unset, .unset, .unset, .unset, .unset] [(.int nn)])) _
    refine XS.istore X0.here hx rfl (hb hby at_14) rfl (l' := #[.val (.int g1), .val (.int g2), .val (.int g3), .val (.int g4), .val (.int g5), .val (.int g6), .val (.int r1), .val (.int nn), .unset, .unset, .unset, .unset, .unset, .unset, .unset, .unset, .unset, .unset, .unset, .unset, .unset, .unset]) rfl ?_
    show Steps p.tables e below (s₁.setTop (mkF m 16 #[.val (.int g1), .val (.int g2), .val (.int g3), .val (.int g4), .val (.int g5), .val (.int g6), .val (.int r1), .val (.int nn), .unset, .unset, .unset, .unset, .unset, .unset, .unset, .unset, .unset, .unset, .unset, .unset, .unset, .unset] [])) _
    refine XS.iload X0.here hx rfl (hb hby at_16) rfl ?_
    show Steps p.tables e below (s₁.setTop (mkF m 18 #[.val (.int g1), .val (.int g2), .val (.int g3), .val (.int g4), .val (.int g5), .val (.int g6), .val (.int r1), .val (.int nn), .unset, .unset, .unset, .unset, .unset, .unset, .unset, .unset, .unset, .unset, .unset, .unset, .unset, .unset] [(.int r1)])) _
    refine X0.ldcInt hx hown (mvT hZ (hw _ (List.mem_of_getElem? (i := 1) rfl))) (g := (mkF m 18 #[.val (.int g1), .val (.int g2), .val (.int g3), .val (.int g4), .val (.int g5), .val (.int g6), .val (.int r1), .val (.int nn), .unset, .unset, .unset, .unset, .unset, .unset, .unset, .unset, .unset, .unset, .unset, .unset, .unset, .unset] [(.int r1)])) rfl (hb hby at_18) _ ?_
    exact k)
  obtain ⟨i104, hi104⟩ : ∃ z : Int32, z = (if (2147482623 : Int32) < r1 then (if (1 : Int32) < nn then (1 : Int32) else nn) else nn) := ⟨_, rfl⟩
  have k105 : ∀ t, Steps p.tables e below (s₁.setTop (mkF m 32 #[.val (.int g1), .val (.int g2), .val (.int g3), .val (.int g4), .val (.int g5), .val (.int g6), .val (.int r1), .val (.int i104), .unset, .unset, .unset, .unset, .unset, .unset, .unset, .unset, .unset, .unset, .unset, .unset, .unset, .unset] [])) t → Steps p.tables e below (s₁.setTop (entryFrame m #[(.int g1), (.int g2), (.int g3), (.int g4), (.int g5), (.int g6)] maxLocals)) t := fun t k => k101 t (by
    by_cases c102 : (2147482623 : Int32) < r1
    · rw [if_pos c102] at hi104
      show Steps p.tables e below (s₁.setTop (mkF m 20 #[.val (.int g1), .val (.int g2), .val (.int g3), .val (.int g4), .val (.int g5), .val (.int g6), .val (.int r1), .val (.int nn), .unset, .unset, .unset, .unset, .unset, .unset, .unset, .unset, .unset, .unset, .unset, .unset, .unset, .unset] [(.int (2147482623 : Int32)), (.int r1)])) _
      refine XS.icmpNo X0.here hx rfl (hb hby at_20) rfl (tlt c102).2.2.2 ?_
      show Steps p.tables e below (s₁.setTop (mkF m 23 #[.val (.int g1), .val (.int g2), .val (.int g3), .val (.int g4), .val (.int g5), .val (.int g6), .val (.int r1), .val (.int nn), .unset, .unset, .unset, .unset, .unset, .unset, .unset, .unset, .unset, .unset, .unset, .unset, .unset, .unset] [])) _
      refine XS.iload X0.here hx rfl (hb hby at_23) rfl ?_
      show Steps p.tables e below (s₁.setTop (mkF m 25 #[.val (.int g1), .val (.int g2), .val (.int g3), .val (.int g4), .val (.int g5), .val (.int g6), .val (.int r1), .val (.int nn), .unset, .unset, .unset, .unset, .unset, .unset, .unset, .unset, .unset, .unset, .unset, .unset, .unset, .unset] [(.int nn)])) _
      refine XS.iconst X0.here hx rfl (hb hby at_25) ?_
      by_cases c103 : (1 : Int32) < nn
      · rw [if_pos c103] at hi104
        show Steps p.tables e below (s₁.setTop (mkF m 26 #[.val (.int g1), .val (.int g2), .val (.int g3), .val (.int g4), .val (.int g5), .val (.int g6), .val (.int r1), .val (.int nn), .unset, .unset, .unset, .unset, .unset, .unset, .unset, .unset, .unset, .unset, .unset, .unset, .unset, .unset] [(.int (1 : Int32)), (.int nn)])) _
        refine XS.icmpNo X0.here hx rfl (hb hby at_26) rfl (tlt c103).2.2.2 ?_
        show Steps p.tables e below (s₁.setTop (mkF m 29 #[.val (.int g1), .val (.int g2), .val (.int g3), .val (.int g4), .val (.int g5), .val (.int g6), .val (.int r1), .val (.int nn), .unset, .unset, .unset, .unset, .unset, .unset, .unset, .unset, .unset, .unset, .unset, .unset, .unset, .unset] [])) _
        refine XS.iconst X0.here hx rfl (hb hby at_29) ?_
        show Steps p.tables e below (s₁.setTop (mkF m 30 #[.val (.int g1), .val (.int g2), .val (.int g3), .val (.int g4), .val (.int g5), .val (.int g6), .val (.int r1), .val (.int nn), .unset, .unset, .unset, .unset, .unset, .unset, .unset, .unset, .unset, .unset, .unset, .unset, .unset, .unset] [(.int (1 : Int32))])) _
        refine XS.istore X0.here hx rfl (hb hby at_30) rfl (l' := #[.val (.int g1), .val (.int g2), .val (.int g3), .val (.int g4), .val (.int g5), .val (.int g6), .val (.int r1), .val (.int (1 : Int32)), .unset, .unset, .unset, .unset, .unset, .unset, .unset, .unset, .unset, .unset, .unset, .unset, .unset, .unset]) rfl ?_
        show Steps p.tables e below (s₁.setTop (mkF m 32 #[.val (.int g1), .val (.int g2), .val (.int g3), .val (.int g4), .val (.int g5), .val (.int g6), .val (.int r1), .val (.int (1 : Int32)), .unset, .unset, .unset, .unset, .unset, .unset, .unset, .unset, .unset, .unset, .unset, .unset, .unset, .unset] [])) _
        exact castTop (by rw [hi104]) k
      · rw [if_neg c103] at hi104
        show Steps p.tables e below (s₁.setTop (mkF m 26 #[.val (.int g1), .val (.int g2), .val (.int g3), .val (.int g4), .val (.int g5), .val (.int g6), .val (.int r1), .val (.int nn), .unset, .unset, .unset, .unset, .unset, .unset, .unset, .unset, .unset, .unset, .unset, .unset, .unset, .unset] [(.int (1 : Int32)), (.int nn)])) _
        refine XS.icmpYes X0.here hx rfl (pc0 := 26) (pc' := 32) rfl (hb hby at_26) rfl (flt c103).2.2.2 (by decide) (by decide) ?_
        show Steps p.tables e below (s₁.setTop (mkF m 32 #[.val (.int g1), .val (.int g2), .val (.int g3), .val (.int g4), .val (.int g5), .val (.int g6), .val (.int r1), .val (.int nn), .unset, .unset, .unset, .unset, .unset, .unset, .unset, .unset, .unset, .unset, .unset, .unset, .unset, .unset] [])) _
        exact castTop (by rw [hi104]) k
    · rw [if_neg c102] at hi104
      show Steps p.tables e below (s₁.setTop (mkF m 20 #[.val (.int g1), .val (.int g2), .val (.int g3), .val (.int g4), .val (.int g5), .val (.int g6), .val (.int r1), .val (.int nn), .unset, .unset, .unset, .unset, .unset, .unset, .unset, .unset, .unset, .unset, .unset, .unset, .unset, .unset] [(.int (2147482623 : Int32)), (.int r1)])) _
      refine XS.icmpYes X0.here hx rfl (pc0 := 20) (pc' := 32) rfl (hb hby at_20) rfl (flt c102).2.2.2 (by decide) (by decide) ?_
      show Steps p.tables e below (s₁.setTop (mkF m 32 #[.val (.int g1), .val (.int g2), .val (.int g3), .val (.int g4), .val (.int g5), .val (.int g6), .val (.int r1), .val (.int nn), .unset, .unset, .unset, .unset, .unset, .unset, .unset, .unset, .unset, .unset, .unset, .unset, .unset, .unset] [])) _
      exact castTop (by rw [hi104]) k)
  have hr := own_r1 hr1
  have hz : r1 ≠ 0 := fun q => by rw [q, show (0 : Int32).toInt = 0 by decide] at hr; omega
  obtain ⟨r2, hr2⟩ : ∃ z : Int64, z = (((r1.toInt64) + (1 : Int64)) + ((g2 &&& (255 : Int32)).toInt64)) := ⟨_, rfl⟩
  obtain ⟨r3, hr3⟩ : ∃ z : Int64, z = ((r2 + (1 : Int64)) + ((g3 &&& (255 : Int32)).toInt64)) := ⟨_, rfl⟩
  have k106 : ∀ t, Steps p.tables e below (s₁.setTop (mkF m 59 #[.val (.int g1), .val (.int g2), .val (.int g3), .val (.int g4), .val (.int g5), .val (.int g6), .val (.int r1), .val (.int i104), .val (.long r2), .second, .val (.long r3), .second, .unset, .unset, .unset, .unset, .unset, .unset, .unset, .unset, .unset, .unset] [])) t → Steps p.tables e below (s₁.setTop (entryFrame m #[(.int g1), (.int g2), (.int g3), (.int g4), (.int g5), (.int g6)] maxLocals)) t := fun t k => k105 t (by
    show Steps p.tables e below (s₁.setTop (mkF m 32 #[.val (.int g1), .val (.int g2), .val (.int g3), .val (.int g4), .val (.int g5), .val (.int g6), .val (.int r1), .val (.int i104), .unset, .unset, .unset, .unset, .unset, .unset, .unset, .unset, .unset, .unset, .unset, .unset, .unset, .unset] [])) _
    refine XS.iload X0.here hx rfl (hb hby at_32) rfl ?_
    show Steps p.tables e below (s₁.setTop (mkF m 34 #[.val (.int g1), .val (.int g2), .val (.int g3), .val (.int g4), .val (.int g5), .val (.int g6), .val (.int r1), .val (.int i104), .unset, .unset, .unset, .unset, .unset, .unset, .unset, .unset, .unset, .unset, .unset, .unset, .unset, .unset] [(.int r1)])) _
    refine XS.i2l X0.here hx rfl (hb hby at_34) rfl ?_
    show Steps p.tables e below (s₁.setTop (mkF m 35 #[.val (.int g1), .val (.int g2), .val (.int g3), .val (.int g4), .val (.int g5), .val (.int g6), .val (.int r1), .val (.int i104), .unset, .unset, .unset, .unset, .unset, .unset, .unset, .unset, .unset, .unset, .unset, .unset, .unset, .unset] [(.long (r1.toInt64))])) _
    refine XS.lconst X0.here hx rfl (hb hby at_35) ?_
    show Steps p.tables e below (s₁.setTop (mkF m 36 #[.val (.int g1), .val (.int g2), .val (.int g3), .val (.int g4), .val (.int g5), .val (.int g6), .val (.int r1), .val (.int i104), .unset, .unset, .unset, .unset, .unset, .unset, .unset, .unset, .unset, .unset, .unset, .unset, .unset, .unset] [(.long (1 : Int64)), (.long (r1.toInt64))])) _
    refine XS.ladd X0.here hx rfl (hb hby at_36) rfl ?_
    show Steps p.tables e below (s₁.setTop (mkF m 37 #[.val (.int g1), .val (.int g2), .val (.int g3), .val (.int g4), .val (.int g5), .val (.int g6), .val (.int r1), .val (.int i104), .unset, .unset, .unset, .unset, .unset, .unset, .unset, .unset, .unset, .unset, .unset, .unset, .unset, .unset] [(.long ((r1.toInt64) + (1 : Int64)))])) _
    refine XS.iloadN X0.here hx rfl (hb hby at_37) rfl ?_
    show Steps p.tables e below (s₁.setTop (mkF m 38 #[.val (.int g1), .val (.int g2), .val (.int g3), .val (.int g4), .val (.int g5), .val (.int g6), .val (.int r1), .val (.int i104), .unset, .unset, .unset, .unset, .unset, .unset, .unset, .unset, .unset, .unset, .unset, .unset, .unset, .unset] [(.int g2), (.long ((r1.toInt64) + (1 : Int64)))])) _
    refine XS.sipush X0.here hx rfl (hb hby at_38) ?_
    show Steps p.tables e below (s₁.setTop (mkF m 41 #[.val (.int g1), .val (.int g2), .val (.int g3), .val (.int g4), .val (.int g5), .val (.int g6), .val (.int r1), .val (.int i104), .unset, .unset, .unset, .unset, .unset, .unset, .unset, .unset, .unset, .unset, .unset, .unset, .unset, .unset] [(.int (255 : Int32)), (.int g2), (.long ((r1.toInt64) + (1 : Int64)))])) _
    refine XS.iand X0.here hx rfl (hb hby at_41) rfl ?_
    show Steps p.tables e below (s₁.setTop (mkF m 42 #[.val (.int g1), .val (.int g2), .val (.int g3), .val (.int g4), .val (.int g5), .val (.int g6), .val (.int r1), .val (.int i104), .unset, .unset, .unset, .unset, .unset, .unset, .unset, .unset, .unset, .unset, .unset, .unset, .unset, .unset] [(.int (g2 &&& (255 : Int32))), (.long ((r1.toInt64) + (1 : Int64)))])) _
    refine XS.i2l X0.here hx rfl (hb hby at_42) rfl ?_
    show Steps p.tables e below (s₁.setTop (mkF m 43 #[.val (.int g1), .val (.int g2), .val (.int g3), .val (.int g4), .val (.int g5), .val (.int g6), .val (.int r1), .val (.int i104), .unset, .unset, .unset, .unset, .unset, .unset, .unset, .unset, .unset, .unset, .unset, .unset, .unset, .unset] [(.long ((g2 &&& (255 : Int32)).toInt64)), (.long ((r1.toInt64) + (1 : Int64)))])) _
    refine XS.ladd X0.here hx rfl (hb hby at_43) rfl ?_
    show Steps p.tables e below (s₁.setTop (mkF m 44 #[.val (.int g1), .val (.int g2), .val (.int g3), .val (.int g4), .val (.int g5), .val (.int g6), .val (.int r1), .val (.int i104), .unset, .unset, .unset, .unset, .unset, .unset, .unset, .unset, .unset, .unset, .unset, .unset, .unset, .unset] [(.long (((r1.toInt64) + (1 : Int64)) + ((g2 &&& (255 : Int32)).toInt64)))])) _
    refine castTop (g' := (mkF m 44 #[.val (.int g1), .val (.int g2), .val (.int g3), .val (.int g4), .val (.int g5), .val (.int g6), .val (.int r1), .val (.int i104), .unset, .unset, .unset, .unset, .unset, .unset, .unset, .unset, .unset, .unset, .unset, .unset, .unset, .unset] [(.long r2)])) (by rw [hr2]) ?_
    show Steps p.tables e below (s₁.setTop (mkF m 44 #[.val (.int g1), .val (.int g2), .val (.int g3), .val (.int g4), .val (.int g5), .val (.int g6), .val (.int r1), .val (.int i104), .unset, .unset, .unset, .unset, .unset, .unset, .unset, .unset, .unset, .unset, .unset, .unset, .unset, .unset] [(.long r2)])) _
    refine XS.lstore X0.here hx rfl (hb hby at_44) rfl (l' := #[.val (.int g1), .val (.int g2), .val (.int g3), .val (.int g4), .val (.int g5), .val (.int g6), .val (.int r1), .val (.int i104), .val (.long r2), .second, .unset, .unset, .unset, .unset, .unset, .unset, .unset, .unset, .unset, .unset, .unset, .unset]) rfl ?_
    show Steps p.tables e below (s₁.setTop (mkF m 46 #[.val (.int g1), .val (.int g2), .val (.int g3), .val (.int g4), .val (.int g5), .val (.int g6), .val (.int r1), .val (.int i104), .val (.long r2), .second, .unset, .unset, .unset, .unset, .unset, .unset, .unset, .unset, .unset, .unset, .unset, .unset] [])) _
    refine XS.lload X0.here hx rfl (hb hby at_46) rfl ?_
    show Steps p.tables e below (s₁.setTop (mkF m 48 #[.val (.int g1), .val (.int g2), .val (.int g3), .val (.int g4), .val (.int g5), .val (.int g6), .val (.int r1), .val (.int i104), .val (.long r2), .second, .unset, .unset, .unset, .unset, .unset, .unset, .unset, .unset, .unset, .unset, .unset, .unset] [(.long r2)])) _
    refine XS.lconst X0.here hx rfl (hb hby at_48) ?_
    show Steps p.tables e below (s₁.setTop (mkF m 49 #[.val (.int g1), .val (.int g2), .val (.int g3), .val (.int g4), .val (.int g5), .val (.int g6), .val (.int r1), .val (.int i104), .val (.long r2), .second, .unset, .unset, .unset, .unset, .unset, .unset, .unset, .unset, .unset, .unset, .unset, .unset] [(.long (1 : Int64)), (.long r2)])) _
    refine XS.ladd X0.here hx rfl (hb hby at_49) rfl ?_
    show Steps p.tables e below (s₁.setTop (mkF m 50 #[.val (.int g1), .val (.int g2), .val (.int g3), .val (.int g4), .val (.int g5), .val (.int g6), .val (.int r1), .val (.int i104), .val (.long r2), .second, .unset, .unset, .unset, .unset, .unset, .unset, .unset, .unset, .unset, .unset, .unset, .unset] [(.long (r2 + (1 : Int64)))])) _
    refine XS.iloadN X0.here hx rfl (hb hby at_50) rfl ?_
    show Steps p.tables e below (s₁.setTop (mkF m 51 #[.val (.int g1), .val (.int g2), .val (.int g3), .val (.int g4), .val (.int g5), .val (.int g6), .val (.int r1), .val (.int i104), .val (.long r2), .second, .unset, .unset, .unset, .unset, .unset, .unset, .unset, .unset, .unset, .unset, .unset, .unset] [(.int g3), (.long (r2 + (1 : Int64)))])) _
    refine XS.sipush X0.here hx rfl (hb hby at_51) ?_
    show Steps p.tables e below (s₁.setTop (mkF m 54 #[.val (.int g1), .val (.int g2), .val (.int g3), .val (.int g4), .val (.int g5), .val (.int g6), .val (.int r1), .val (.int i104), .val (.long r2), .second, .unset, .unset, .unset, .unset, .unset, .unset, .unset, .unset, .unset, .unset, .unset, .unset] [(.int (255 : Int32)), (.int g3), (.long (r2 + (1 : Int64)))])) _
    refine XS.iand X0.here hx rfl (hb hby at_54) rfl ?_
    show Steps p.tables e below (s₁.setTop (mkF m 55 #[.val (.int g1), .val (.int g2), .val (.int g3), .val (.int g4), .val (.int g5), .val (.int g6), .val (.int r1), .val (.int i104), .val (.long r2), .second, .unset, .unset, .unset, .unset, .unset, .unset, .unset, .unset, .unset, .unset, .unset, .unset] [(.int (g3 &&& (255 : Int32))), (.long (r2 + (1 : Int64)))])) _
    refine XS.i2l X0.here hx rfl (hb hby at_55) rfl ?_
    show Steps p.tables e below (s₁.setTop (mkF m 56 #[.val (.int g1), .val (.int g2), .val (.int g3), .val (.int g4), .val (.int g5), .val (.int g6), .val (.int r1), .val (.int i104), .val (.long r2), .second, .unset, .unset, .unset, .unset, .unset, .unset, .unset, .unset, .unset, .unset, .unset, .unset] [(.long ((g3 &&& (255 : Int32)).toInt64)), (.long (r2 + (1 : Int64)))])) _
    refine XS.ladd X0.here hx rfl (hb hby at_56) rfl ?_
    show Steps p.tables e below (s₁.setTop (mkF m 57 #[.val (.int g1), .val (.int g2), .val (.int g3), .val (.int g4), .val (.int g5), .val (.int g6), .val (.int r1), .val (.int i104), .val (.long r2), .second, .unset, .unset, .unset, .unset, .unset, .unset, .unset, .unset, .unset, .unset, .unset, .unset] [(.long ((r2 + (1 : Int64)) + ((g3 &&& (255 : Int32)).toInt64)))])) _
    refine castTop (g' := (mkF m 57 #[.val (.int g1), .val (.int g2), .val (.int g3), .val (.int g4), .val (.int g5), .val (.int g6), .val (.int r1), .val (.int i104), .val (.long r2), .second, .unset, .unset, .unset, .unset, .unset, .unset, .unset, .unset, .unset, .unset, .unset, .unset] [(.long r3)])) (by rw [hr3]) ?_
    show Steps p.tables e below (s₁.setTop (mkF m 57 #[.val (.int g1), .val (.int g2), .val (.int g3), .val (.int g4), .val (.int g5), .val (.int g6), .val (.int r1), .val (.int i104), .val (.long r2), .second, .unset, .unset, .unset, .unset, .unset, .unset, .unset, .unset, .unset, .unset, .unset, .unset] [(.long r3)])) _
    refine XS.lstore X0.here hx rfl (hb hby at_57) rfl (l' := #[.val (.int g1), .val (.int g2), .val (.int g3), .val (.int g4), .val (.int g5), .val (.int g6), .val (.int r1), .val (.int i104), .val (.long r2), .second, .val (.long r3), .second, .unset, .unset, .unset, .unset, .unset, .unset, .unset, .unset, .unset, .unset]) rfl ?_
    exact k)
  rcases own_n5 hi104 (own_n4 g4 nn hnn) with rfl | rfl | rfl | rfl
  · have k107 : ∀ t, Steps p.tables e below (s₁.setTop (mkF m 65 #[.val (.int g1), .val (.int g2), .val (.int g3), .val (.int g4), .val (.int g5), .val (.int g6), .val (.int r1), .val (.int (0 : Int32)), .val (.long r2), .second, .val (.long r3), .second, .unset, .unset, .unset, .unset, .unset, .unset, .unset, .unset, .unset, .unset] [(.int (0 : Int32))])) t → Steps p.tables e below (s₁.setTop (entryFrame m #[(.int g1), (.int g2), (.int g3), (.int g4), (.int g5), (.int g6)] maxLocals)) t := fun t k => k106 t (by
      show Steps p.tables e below (s₁.setTop (mkF m 59 #[.val (.int g1), .val (.int g2), .val (.int g3), .val (.int g4), .val (.int g5), .val (.int g6), .val (.int r1), .val (.int (0 : Int32)), .val (.long r2), .second, .val (.long r3), .second, .unset, .unset, .unset, .unset, .unset, .unset, .unset, .unset, .unset, .unset] [])) _
      refine XS.iload X0.here hx rfl (hb hby at_59) rfl ?_
      show Steps p.tables e below (s₁.setTop (mkF m 61 #[.val (.int g1), .val (.int g2), .val (.int g3), .val (.int g4), .val (.int g5), .val (.int g6), .val (.int r1), .val (.int (0 : Int32)), .val (.long r2), .second, .val (.long r3), .second, .unset, .unset, .unset, .unset, .unset, .unset, .unset, .unset, .unset, .unset] [(.int (0 : Int32))])) _
      refine XS.ifNo X0.here hx rfl (hb hby at_61) rfl ((if0 _ _).trans (teq (by decide)).2) ?_
      show Steps p.tables e below (s₁.setTop (mkF m 64 #[.val (.int g1), .val (.int g2), .val (.int g3), .val (.int g4), .val (.int g5), .val (.int g6), .val (.int r1), .val (.int (0 : Int32)), .val (.long r2), .second, .val (.long r3), .second, .unset, .unset, .unset, .unset, .unset, .unset, .unset, .unset, .unset, .unset] [])) _
      refine XS.iconst X0.here hx rfl (hb hby at_64) ?_
      exact k)
    obtain ⟨T108, h108, k108, X108, e108, E108, A108, st108⟩ := newP X0 hx hZ (hw _ (List.mem_of_getElem? (i := 2) rfl)) e0 (g := (mkF m 65 #[.val (.int g1), .val (.int g2), .val (.int g3), .val (.int g4), .val (.int g5), .val (.int g6), .val (.int r1), .val (.int (0 : Int32)), .val (.long r2), .second, .val (.long r3), .second, .unset, .unset, .unset, .unset, .unset, .unset, .unset, .unset, .unset, .unset] [(.int (0 : Int32))])) rfl (hb hby at_65) rfl (by decide) (cap := 0) (by decide) (by decide) (by decide) (by decide)
    obtain ⟨b108, g108⟩ : ∃ z, z = h0.size := ⟨_, rfl⟩
    rw [← g108] at A108 st108
    have g109 : n0 ≤ b108 := Nat.le_trans Z0 (Nat.le_of_eq g108.symm)
    have F110 := Scs.ext E108
    have Z111 : n0 ≤ h108.size := Nat.le_trans Z0 E108.1
    have V112 : Arv Z h108 b108 k108 .int (0 : Int32) [] (.int (0 : Int32)) := (Arv.new A108 (by decide)).pad (pad_rep [] (.int (0 : Int32)) 0)
    have k113 : ∀ t, Steps p.tables e below (T108.setTop (mkF m 67 #[.val (.int g1), .val (.int g2), .val (.int g3), .val (.int g4), .val (.int g5), .val (.int g6), .val (.int r1), .val (.int (0 : Int32)), .val (.long r2), .second, .val (.long r3), .second, .unset, .unset, .unset, .unset, .unset, .unset, .unset, .unset, .unset, .unset] [(.ref b108)])) t → Steps p.tables e below (s₁.setTop (entryFrame m #[(.int g1), (.int g2), (.int g3), (.int g4), (.int g5), (.int g6)] maxLocals)) t := fun t k => k107 t (st108 t k)
    have k114 : ∀ t, Steps p.tables e below (T108.setTop (mkF m 162 #[.val (.int g1), .val (.int g2), .val (.int g3), .val (.int g4), .val (.int g5), .val (.int g6), .val (.int r1), .val (.int (0 : Int32)), .val (.long r2), .second, .val (.long r3), .second, .val (.ref b108), .val (.int (0 : Int32)), .unset, .unset, .unset, .unset, .unset, .unset, .unset, .unset] [(.int (g5 &&& (2147483647 : Int32))), (.int (0 : Int32))])) t → Steps p.tables e below (s₁.setTop (entryFrame m #[(.int g1), (.int g2), (.int g3), (.int g4), (.int g5), (.int g6)] maxLocals)) t := fun t k => k113 t (by
      show Steps p.tables e below (T108.setTop (mkF m 67 #[.val (.int g1), .val (.int g2), .val (.int g3), .val (.int g4), .val (.int g5), .val (.int g6), .val (.int r1), .val (.int (0 : Int32)), .val (.long r2), .second, .val (.long r3), .second, .unset, .unset, .unset, .unset, .unset, .unset, .unset, .unset, .unset, .unset] [(.ref b108)])) _
      refine XS.astore X108.here hx rfl (hb hby at_67) rfl rfl (l' := #[.val (.int g1), .val (.int g2), .val (.int g3), .val (.int g4), .val (.int g5), .val (.int g6), .val (.int r1), .val (.int (0 : Int32)), .val (.long r2), .second, .val (.long r3), .second, .val (.ref b108), .unset, .unset, .unset, .unset, .unset, .unset, .unset, .unset, .unset]) rfl ?_
      show Steps p.tables e below (T108.setTop (mkF m 69 #[.val (.int g1), .val (.int g2), .val (.int g3), .val (.int g4), .val (.int g5), .val (.int g6), .val (.int r1), .val (.int (0 : Int32)), .val (.long r2), .second, .val (.long r3), .second, .val (.ref b108), .unset, .unset, .unset, .unset, .unset, .unset, .unset, .unset, .unset] [])) _
      refine XS.iconst X108.here hx rfl (hb hby at_69) ?_
      show Steps p.tables e below (T108.setTop (mkF m 70 #[.val (.int g1), .val (.int g2), .val (.int g3), .val (.int g4), .val (.int g5), .val (.int g6), .val (.int r1), .val (.int (0 : Int32)), .val (.long r2), .second, .val (.long r3), .second, .val (.ref b108), .unset, .unset, .unset, .unset, .unset, .unset, .unset, .unset, .unset] [(.int (0 : Int32))])) _
      refine XS.istore X108.here hx rfl (hb hby at_70) rfl (l' := #[.val (.int g1), .val (.int g2), .val (.int g3), .val (.int g4), .val (.int g5), .val (.int g6), .val (.int r1), .val (.int (0 : Int32)), .val (.long r2), .second, .val (.long r3), .second, .val (.ref b108), .val (.int (0 : Int32)), .unset, .unset, .unset, .unset, .unset, .unset, .unset, .unset]) rfl ?_
      show Steps p.tables e below (T108.setTop (mkF m 72 #[.val (.int g1), .val (.int g2), .val (.int g3), .val (.int g4), .val (.int g5), .val (.int g6), .val (.int r1), .val (.int (0 : Int32)), .val (.long r2), .second, .val (.long r3), .second, .val (.ref b108), .val (.int (0 : Int32)), .unset, .unset, .unset, .unset, .unset, .unset, .unset, .unset] [])) _
      refine XS.goto X108.here hx rfl (pc0 := 72) (pc' := 155) rfl (hb hby at_72) (by decide) (by decide) ?_
      show Steps p.tables e below (T108.setTop (mkF m 155 #[.val (.int g1), .val (.int g2), .val (.int g3), .val (.int g4), .val (.int g5), .val (.int g6), .val (.int r1), .val (.int (0 : Int32)), .val (.long r2), .second, .val (.long r3), .second, .val (.ref b108), .val (.int (0 : Int32)), .unset, .unset, .unset, .unset, .unset, .unset, .unset, .unset] [])) _
      refine XS.iload X108.here hx rfl (hb hby at_155) rfl ?_
      show Steps p.tables e below (T108.setTop (mkF m 157 #[.val (.int g1), .val (.int g2), .val (.int g3), .val (.int g4), .val (.int g5), .val (.int g6), .val (.int r1), .val (.int (0 : Int32)), .val (.long r2), .second, .val (.long r3), .second, .val (.ref b108), .val (.int (0 : Int32)), .unset, .unset, .unset, .unset, .unset, .unset, .unset, .unset] [(.int (0 : Int32))])) _
      refine XS.iload X108.here hx rfl (hb hby at_157) rfl ?_
      show Steps p.tables e below (T108.setTop (mkF m 159 #[.val (.int g1), .val (.int g2), .val (.int g3), .val (.int g4), .val (.int g5), .val (.int g6), .val (.int r1), .val (.int (0 : Int32)), .val (.long r2), .second, .val (.long r3), .second, .val (.ref b108), .val (.int (0 : Int32)), .unset, .unset, .unset, .unset, .unset, .unset, .unset, .unset] [(.int g5), (.int (0 : Int32))])) _
      refine X108.ldcInt hx hown (mvT hZ (hw _ (List.mem_of_getElem? (i := 0) rfl))) (g := (mkF m 159 #[.val (.int g1), .val (.int g2), .val (.int g3), .val (.int g4), .val (.int g5), .val (.int g6), .val (.int r1), .val (.int (0 : Int32)), .val (.long r2), .second, .val (.long r3), .second, .val (.ref b108), .val (.int (0 : Int32)), .unset, .unset, .unset, .unset, .unset, .unset, .unset, .unset] [(.int g5), (.int (0 : Int32))])) rfl (hb hby at_159) _ ?_
      show Steps p.tables e below (T108.setTop (mkF m 161 #[.val (.int g1), .val (.int g2), .val (.int g3), .val (.int g4), .val (.int g5), .val (.int g6), .val (.int r1), .val (.int (0 : Int32)), .val (.long r2), .second, .val (.long r3), .second, .val (.ref b108), .val (.int (0 : Int32)), .unset, .unset, .unset, .unset, .unset, .unset, .unset, .unset] [(.int (2147483647 : Int32)), (.int g5), (.int (0 : Int32))])) _
      refine XS.iand X108.here hx rfl (hb hby at_161) rfl ?_
      exact k)
    obtain ⟨_, _, ⟨T115, L115, k115, n115⟩, -, X115, ⟨Lc115, hQ115, l115, y115, z115⟩, st115⟩ := Jvm.LawKit.callS X108 hx (y := (⟨"java/lang/Math", "max", "(II)I"⟩ : MethodName)) hown (mvT hZ (hw _ (List.mem_of_getElem? (i := 3) rfl))) (mvT hZ (hw _ (List.mem_of_getElem? (i := 4) rfl))) (mvT hZ (hw _ (List.mem_of_getElem? (i := 5) rfl))) (mvT hZ (hw _ (List.mem_of_getElem? (i := 6) rfl))) (by decide) (backOf (W := 0) (rm1 l Z a0 hw [] (0 : Int32) (g5 &&& (2147483647 : Int32)) h108 n0 Z111 ) hZ (hw _ (List.mem_of_getElem? (i := 6) rfl)) (hw _ (List.mem_of_getElem? (i := 5) rfl)) (by decide) (by decide)) (g := (mkF m 162 #[.val (.int g1), .val (.int g2), .val (.int g3), .val (.int g4), .val (.int g5), .val (.int g6), .val (.int r1), .val (.int (0 : Int32)), .val (.long r2), .second, .val (.long r3), .second, .val (.ref b108), .val (.int (0 : Int32)), .unset, .unset, .unset, .unset, .unset, .unset, .unset, .unset] [(.int (g5 &&& (2147483647 : Int32))), (.int (0 : Int32))])) rfl (by rw [hml]; rfl) (argsL := [(.int (0 : Int32)), (.int (g5 &&& (2147483647 : Int32)))]) (rest := []) (lenOf pd__28II_29I rfl) rfl (by show 2 * 0 + _ ≤ _; exact Nat.le_of_eq rfl) (hb hby at_162) (fun _ _ => ⟨rfl, e108, (by decide : 1 + 0 ≤ _), (by decide : 0 + 0 ≤ _)⟩)
    dsimp only [Pt.U, Pt.locs, Pt.cells, Pt.slots] at X115 l115 y115 z115 st115 hQ115
    subst l115 y115 z115
    obtain ⟨rfl, N115q, e115⟩ := hQ115
    have N116 := Fr.app N0 N115q
    have k117 : ∀ t, Steps p.tables e below (T115.setTop (mkF m 165 #[.val (.int g1), .val (.int g2), .val (.int g3), .val (.int g4), .val (.int g5), .val (.int g6), .val (.int r1), .val (.int (0 : Int32)), .val (.long r2), .second, .val (.long r3), .second, .val (.ref b108), .val (.int (0 : Int32)), .unset, .unset, .unset, .unset, .unset, .unset, .unset, .unset] [(.int (if (0 : Int32) < (g5 &&& (2147483647 : Int32)) then (g5 &&& (2147483647 : Int32)) else (0 : Int32)))])) t → Steps p.tables e below (s₁.setTop (entryFrame m #[(.int g1), (.int g2), (.int g3), (.int g4), (.int g5), (.int g6)] maxLocals)) t := fun t k => k114 t (st115 t k)
    obtain ⟨i118, hi118⟩ : ∃ z : Int32, z = (if (0 : Int32) < (g5 &&& (2147483647 : Int32)) then (g5 &&& (2147483647 : Int32)) else (0 : Int32)) := ⟨_, rfl⟩
    have k119 : ∀ t, Steps p.tables e below (T115.setTop (mkF m 174 #[.val (.int g1), .val (.int g2), .val (.int g3), .val (.int g4), .val (.int g5), .val (.int g6), .val (.int r1), .val (.int (0 : Int32)), .val (.long r2), .second, .val (.long r3), .second, .val (.ref b108), .val (.int (0 : Int32)), .val (.int i118), .unset, .unset, .unset, .unset, .unset, .unset, .unset] [(.int (g6 &&& (2147483647 : Int32))), (.int (0 : Int32))])) t → Steps p.tables e below (s₁.setTop (entryFrame m #[(.int g1), (.int g2), (.int g3), (.int g4), (.int g5), (.int g6)] maxLocals)) t := fun t k => k117 t (by
      show Steps p.tables e below (T115.setTop (mkF m 165 #[.val (.int g1), .val (.int g2), .val (.int g3), .val (.int g4), .val (.int g5), .val (.int g6), .val (.int r1), .val (.int (0 : Int32)), .val (.long r2), .second, .val (.long r3), .second, .val (.ref b108), .val (.int (0 : Int32)), .unset, .unset, .unset, .unset, .unset, .unset, .unset, .unset] [(.int (if (0 : Int32) < (g5 &&& (2147483647 : Int32)) then (g5 &&& (2147483647 : Int32)) else (0 : Int32)))])) _
      refine castTop (g' := (mkF m 165 #[.val (.int g1), .val (.int g2), .val (.int g3), .val (.int g4), .val (.int g5), .val (.int g6), .val (.int r1), .val (.int (0 : Int32)), .val (.long r2), .second, .val (.long r3), .second, .val (.ref b108), .val (.int (0 : Int32)), .unset, .unset, .unset, .unset, .unset, .unset, .unset, .unset] [(.int i118)])) (by rw [hi118]) ?_
      show Steps p.tables e below (T115.setTop (mkF m 165 #[.val (.int g1), .val (.int g2), .val (.int g3), .val (.int g4), .val (.int g5), .val (.int g6), .val (.int r1), .val (.int (0 : Int32)), .val (.long r2), .second, .val (.long r3), .second, .val (.ref b108), .val (.int (0 : Int32)), .unset, .unset, .unset, .unset, .unset, .unset, .unset, .unset] [(.int i118)])) _
      refine XS.istore X115.here hx rfl (hb hby at_165) rfl (l' := #[.val (.int g1), .val (.int g2), .val (.int g3), .val (.int g4), .val (.int g5), .val (.int g6), .val (.int r1), .val (.int (0 : Int32)), .val (.long r2), .second, .val (.long r3), .second, .val (.ref b108), .val (.int (0 : Int32)), .val (.int i118), .unset, .unset, .unset, .unset, .unset, .unset, .unset]) rfl ?_
      show Steps p.tables e below (T115.setTop (mkF m 167 #[.val (.int g1), .val (.int g2), .val (.int g3), .val (.int g4), .val (.int g5), .val (.int g6), .val (.int r1), .val (.int (0 : Int32)), .val (.long r2), .second, .val (.long r3), .second, .val (.ref b108), .val (.int (0 : Int32)), .val (.int i118), .unset, .unset, .unset, .unset, .unset, .unset, .unset] [])) _
      refine XS.iload X115.here hx rfl (hb hby at_167) rfl ?_
      show Steps p.tables e below (T115.setTop (mkF m 169 #[.val (.int g1), .val (.int g2), .val (.int g3), .val (.int g4), .val (.int g5), .val (.int g6), .val (.int r1), .val (.int (0 : Int32)), .val (.long r2), .second, .val (.long r3), .second, .val (.ref b108), .val (.int (0 : Int32)), .val (.int i118), .unset, .unset, .unset, .unset, .unset, .unset, .unset] [(.int (0 : Int32))])) _
      refine XS.iload X115.here hx rfl (hb hby at_169) rfl ?_
      show Steps p.tables e below (T115.setTop (mkF m 171 #[.val (.int g1), .val (.int g2), .val (.int g3), .val (.int g4), .val (.int g5), .val (.int g6), .val (.int r1), .val (.int (0 : Int32)), .val (.long r2), .second, .val (.long r3), .second, .val (.ref b108), .val (.int (0 : Int32)), .val (.int i118), .unset, .unset, .unset, .unset, .unset, .unset, .unset] [(.int g6), (.int (0 : Int32))])) _
      refine X115.ldcInt hx hown (mvT hZ (hw _ (List.mem_of_getElem? (i := 0) rfl))) (g := (mkF m 171 #[.val (.int g1), .val (.int g2), .val (.int g3), .val (.int g4), .val (.int g5), .val (.int g6), .val (.int r1), .val (.int (0 : Int32)), .val (.long r2), .second, .val (.long r3), .second, .val (.ref b108), .val (.int (0 : Int32)), .val (.int i118), .unset, .unset, .unset, .unset, .unset, .unset, .unset] [(.int g6), (.int (0 : Int32))])) rfl (hb hby at_171) _ ?_
      show Steps p.tables e below (T115.setTop (mkF m 173 #[.val (.int g1), .val (.int g2), .val (.int g3), .val (.int g4), .val (.int g5), .val (.int g6), .val (.int r1), .val (.int (0 : Int32)), .val (.long r2), .second, .val (.long r3), .second, .val (.ref b108), .val (.int (0 : Int32)), .val (.int i118), .unset, .unset, .unset, .unset, .unset, .unset, .unset] [(.int (2147483647 : Int32)), (.int g6), (.int (0 : Int32))])) _
      refine XS.iand X115.here hx rfl (hb hby at_173) rfl ?_
      exact k)
    obtain ⟨_, _, ⟨T120, L120, k120, n120⟩, -, X120, ⟨Lc120, hQ120, l120, y120, z120⟩, st120⟩ := Jvm.LawKit.callS X115 hx (y := (⟨"java/lang/Math", "max", "(II)I"⟩ : MethodName)) hown (mvT hZ (hw _ (List.mem_of_getElem? (i := 3) rfl))) (mvT hZ (hw _ (List.mem_of_getElem? (i := 4) rfl))) (mvT hZ (hw _ (List.mem_of_getElem? (i := 5) rfl))) (mvT hZ (hw _ (List.mem_of_getElem? (i := 6) rfl))) (by decide) (backOf (W := 0) (rm1 l Z a0 hw [] (0 : Int32) (g6 &&& (2147483647 : Int32)) h108 n0 Z111 ) hZ (hw _ (List.mem_of_getElem? (i := 6) rfl)) (hw _ (List.mem_of_getElem? (i := 5) rfl)) (by decide) (by decide)) (g := (mkF m 174 #[.val (.int g1), .val (.int g2), .val (.int g3), .val (.int g4), .val (.int g5), .val (.int g6), .val (.int r1), .val (.int (0 : Int32)), .val (.long r2), .second, .val (.long r3), .second, .val (.ref b108), .val (.int (0 : Int32)), .val (.int i118), .unset, .unset, .unset, .unset, .unset, .unset, .unset] [(.int (g6 &&& (2147483647 : Int32))), (.int (0 : Int32))])) rfl (by rw [hml]; rfl) (argsL := [(.int (0 : Int32)), (.int (g6 &&& (2147483647 : Int32)))]) (rest := []) (lenOf pd__28II_29I rfl) rfl (by show 2 * 0 + _ ≤ _; exact Nat.le_of_eq rfl) (hb hby at_174) (fun _ _ => ⟨rfl, e115, (by decide : 1 + 0 ≤ _), (by decide : 0 + 0 ≤ _)⟩)
    dsimp only [Pt.U, Pt.locs, Pt.cells, Pt.slots] at X120 l120 y120 z120 st120 hQ120
    subst l120 y120 z120
    obtain ⟨rfl, N120q, e120⟩ := hQ120
    have N121 := Fr.app N116 N120q
    have k122 : ∀ t, Steps p.tables e below (T120.setTop (mkF m 177 #[.val (.int g1), .val (.int g2), .val (.int g3), .val (.int g4), .val (.int g5), .val (.int g6), .val (.int r1), .val (.int (0 : Int32)), .val (.long r2), .second, .val (.long r3), .second, .val (.ref b108), .val (.int (0 : Int32)), .val (.int i118), .unset, .unset, .unset, .unset, .unset, .unset, .unset] [(.int (if (0 : Int32) < (g6 &&& (2147483647 : Int32)) then (g6 &&& (2147483647 : Int32)) else (0 : Int32)))])) t → Steps p.tables e below (s₁.setTop (entryFrame m #[(.int g1), (.int g2), (.int g3), (.int g4), (.int g5), (.int g6)] maxLocals)) t := fun t k => k119 t (st120 t k)
    obtain ⟨i123, hi123⟩ : ∃ z : Int32, z = (if (0 : Int32) < (g6 &&& (2147483647 : Int32)) then (g6 &&& (2147483647 : Int32)) else (0 : Int32)) := ⟨_, rfl⟩
    have k124 : ∀ t, Steps p.tables e below (T120.setTop (mkF m 180 #[.val (.int g1), .val (.int g2), .val (.int g3), .val (.int g4), .val (.int g5), .val (.int g6), .val (.int r1), .val (.int (0 : Int32)), .val (.long r2), .second, .val (.long r3), .second, .val (.ref b108), .val (.int (0 : Int32)), .val (.int i118), .val (.int i123), .unset, .unset, .unset, .unset, .unset, .unset] [(.int (2 : Int32))])) t → Steps p.tables e below (s₁.setTop (entryFrame m #[(.int g1), (.int g2), (.int g3), (.int g4), (.int g5), (.int g6)] maxLocals)) t := fun t k => k122 t (by
      show Steps p.tables e below (T120.setTop (mkF m 177 #[.val (.int g1), .val (.int g2), .val (.int g3), .val (.int g4), .val (.int g5), .val (.int g6), .val (.int r1), .val (.int (0 : Int32)), .val (.long r2), .second, .val (.long r3), .second, .val (.ref b108), .val (.int (0 : Int32)), .val (.int i118), .unset, .unset, .unset, .unset, .unset, .unset, .unset] [(.int (if (0 : Int32) < (g6 &&& (2147483647 : Int32)) then (g6 &&& (2147483647 : Int32)) else (0 : Int32)))])) _
      refine castTop (g' := (mkF m 177 #[.val (.int g1), .val (.int g2), .val (.int g3), .val (.int g4), .val (.int g5), .val (.int g6), .val (.int r1), .val (.int (0 : Int32)), .val (.long r2), .second, .val (.long r3), .second, .val (.ref b108), .val (.int (0 : Int32)), .val (.int i118), .unset, .unset, .unset, .unset, .unset, .unset, .unset] [(.int i123)])) (by rw [hi123]) ?_
      show Steps p.tables e below (T120.setTop (mkF m 177 #[.val (.int g1), .val (.int g2), .val (.int g3), .val (.int g4), .val (.int g5), .val (.int g6), .val (.int r1), .val (.int (0 : Int32)), .val (.long r2), .second, .val (.long r3), .second, .val (.ref b108), .val (.int (0 : Int32)), .val (.int i118), .unset, .unset, .unset, .unset, .unset, .unset, .unset] [(.int i123)])) _
      refine XS.istore X120.here hx rfl (hb hby at_177) rfl (l' := #[.val (.int g1), .val (.int g2), .val (.int g3), .val (.int g4), .val (.int g5), .val (.int g6), .val (.int r1), .val (.int (0 : Int32)), .val (.long r2), .second, .val (.long r3), .second, .val (.ref b108), .val (.int (0 : Int32)), .val (.int i118), .val (.int i123), .unset, .unset, .unset, .unset, .unset, .unset]) rfl ?_
      show Steps p.tables e below (T120.setTop (mkF m 179 #[.val (.int g1), .val (.int g2), .val (.int g3), .val (.int g4), .val (.int g5), .val (.int g6), .val (.int r1), .val (.int (0 : Int32)), .val (.long r2), .second, .val (.long r3), .second, .val (.ref b108), .val (.int (0 : Int32)), .val (.int i118), .val (.int i123), .unset, .unset, .unset, .unset, .unset, .unset] [])) _
      refine XS.iconst X120.here hx rfl (hb hby at_179) ?_
      exact k)
    obtain ⟨T125, h125, k125, X125, e125, E125, A125, st125⟩ := newP X120 hx hZ (hw _ (List.mem_of_getElem? (i := 7) rfl)) e120 (g := (mkF m 180 #[.val (.int g1), .val (.int g2), .val (.int g3), .val (.int g4), .val (.int g5), .val (.int g6), .val (.int r1), .val (.int (0 : Int32)), .val (.long r2), .second, .val (.long r3), .second, .val (.ref b108), .val (.int (0 : Int32)), .val (.int i118), .val (.int i123), .unset, .unset, .unset, .unset, .unset, .unset] [(.int (2 : Int32))])) rfl (hb hby at_180) rfl (by decide) (cap := 2) (by decide) (by decide) (by decide) (by decide)
    obtain ⟨b125, g125⟩ : ∃ z, z = h108.size := ⟨_, rfl⟩
    rw [← g125] at A125 st125
    have n126 : b108 ≠ b125 := Nat.ne_of_lt (Nat.lt_of_lt_of_le V112.lt (Nat.le_of_eq g125.symm))
    have g127 : n0 ≤ b125 := Nat.le_trans Z111 (Nat.le_of_eq g125.symm)
    have F128 := F110.ext E125
    have F129 := V112.ext E125
    have Z130 : n0 ≤ h125.size := Nat.le_trans Z111 E125.1
    have V131 : Arv Z h125 b125 k125 .char (2 : Int32) [(.int (0 : Int32)), (.int (0 : Int32))] (.int (0 : Int32)) := (Arv.new A125 (by decide)).pad (pad_rep [] (.int (0 : Int32)) 2)
    have k132 : ∀ t, Steps p.tables e below (T125.setTop (mkF m 182 #[.val (.int g1), .val (.int g2), .val (.int g3), .val (.int g4), .val (.int g5), .val (.int g6), .val (.int r1), .val (.int (0 : Int32)), .val (.long r2), .second, .val (.long r3), .second, .val (.ref b108), .val (.int (0 : Int32)), .val (.int i118), .val (.int i123), .unset, .unset, .unset, .unset, .unset, .unset] [(.ref b125)])) t → Steps p.tables e below (s₁.setTop (entryFrame m #[(.int g1), (.int g2), (.int g3), (.int g4), (.int g5), (.int g6)] maxLocals)) t := fun t k => k124 t (st125 t k)
    have k133 : ∀ t, Steps p.tables e below (T125.setTop (mkF m 192 #[.val (.int g1), .val (.int g2), .val (.int g3), .val (.int g4), .val (.int g5), .val (.int g6), .val (.int r1), .val (.int (0 : Int32)), .val (.long r2), .second, .val (.long r3), .second, .val (.ref b108), .val (.int (0 : Int32)), .val (.int i118), .val (.int i123), .unset, .unset, .unset, .unset, .unset, .unset] [(.int ((((g4.toUInt32 >>> ((2 : Int32) &&& 31).toUInt32).toInt32) &&& (255 : Int32)).toUInt32.toUInt16.toUInt32.toInt32)), (.int (0 : Int32)), (.ref b125), (.ref b125)])) t → Steps p.tables e below (s₁.setTop (entryFrame m #[(.int g1), (.int g2), (.int g3), (.int g4), (.int g5), (.int g6)] maxLocals)) t := fun t k => k132 t (by
      show Steps p.tables e below (T125.setTop (mkF m 182 #[.val (.int g1), .val (.int g2), .val (.int g3), .val (.int g4), .val (.int g5), .val (.int g6), .val (.int r1), .val (.int (0 : Int32)), .val (.long r2), .second, .val (.long r3), .second, .val (.ref b108), .val (.int (0 : Int32)), .val (.int i118), .val (.int i123), .unset, .unset, .unset, .unset, .unset, .unset] [(.ref b125)])) _
      refine XS.dup X125.here hx rfl (hb hby at_182) rfl rfl ?_
      show Steps p.tables e below (T125.setTop (mkF m 183 #[.val (.int g1), .val (.int g2), .val (.int g3), .val (.int g4), .val (.int g5), .val (.int g6), .val (.int r1), .val (.int (0 : Int32)), .val (.long r2), .second, .val (.long r3), .second, .val (.ref b108), .val (.int (0 : Int32)), .val (.int i118), .val (.int i123), .unset, .unset, .unset, .unset, .unset, .unset] [(.ref b125), (.ref b125)])) _
      refine XS.iconst X125.here hx rfl (hb hby at_183) ?_
      show Steps p.tables e below (T125.setTop (mkF m 184 #[.val (.int g1), .val (.int g2), .val (.int g3), .val (.int g4), .val (.int g5), .val (.int g6), .val (.int r1), .val (.int (0 : Int32)), .val (.long r2), .second, .val (.long r3), .second, .val (.ref b108), .val (.int (0 : Int32)), .val (.int i118), .val (.int i123), .unset, .unset, .unset, .unset, .unset, .unset] [(.int (0 : Int32)), (.ref b125), (.ref b125)])) _
      refine XS.iloadN X125.here hx rfl (hb hby at_184) rfl ?_
      show Steps p.tables e below (T125.setTop (mkF m 185 #[.val (.int g1), .val (.int g2), .val (.int g3), .val (.int g4), .val (.int g5), .val (.int g6), .val (.int r1), .val (.int (0 : Int32)), .val (.long r2), .second, .val (.long r3), .second, .val (.ref b108), .val (.int (0 : Int32)), .val (.int i118), .val (.int i123), .unset, .unset, .unset, .unset, .unset, .unset] [(.int g4), (.int (0 : Int32)), (.ref b125), (.ref b125)])) _
      refine XS.iconst X125.here hx rfl (hb hby at_185) ?_
      show Steps p.tables e below (T125.setTop (mkF m 186 #[.val (.int g1), .val (.int g2), .val (.int g3), .val (.int g4), .val (.int g5), .val (.int g6), .val (.int r1), .val (.int (0 : Int32)), .val (.long r2), .second, .val (.long r3), .second, .val (.ref b108), .val (.int (0 : Int32)), .val (.int i118), .val (.int i123), .unset, .unset, .unset, .unset, .unset, .unset] [(.int (2 : Int32)), (.int g4), (.int (0 : Int32)), (.ref b125), (.ref b125)])) _
      refine XS.iushr X125.here hx rfl (hb hby at_186) rfl ?_
      show Steps p.tables e below (T125.setTop (mkF m 187 #[.val (.int g1), .val (.int g2), .val (.int g3), .val (.int g4), .val (.int g5), .val (.int g6), .val (.int r1), .val (.int (0 : Int32)), .val (.long r2), .second, .val (.long r3), .second, .val (.ref b108), .val (.int (0 : Int32)), .val (.int i118), .val (.int i123), .unset, .unset, .unset, .unset, .unset, .unset] [(.int ((g4.toUInt32 >>> ((2 : Int32) &&& 31).toUInt32).toInt32)), (.int (0 : Int32)), (.ref b125), (.ref b125)])) _
      refine XS.sipush X125.here hx rfl (hb hby at_187) ?_
      show Steps p.tables e below (T125.setTop (mkF m 190 #[.val (.int g1), .val (.int g2), .val (.int g3), .val (.int g4), .val (.int g5), .val (.int g6), .val (.int r1), .val (.int (0 : Int32)), .val (.long r2), .second, .val (.long r3), .second, .val (.ref b108), .val (.int (0 : Int32)), .val (.int i118), .val (.int i123), .unset, .unset, .unset, .unset, .unset, .unset] [(.int (255 : Int32)), (.int ((g4.toUInt32 >>> ((2 : Int32) &&& 31).toUInt32).toInt32)), (.int (0 : Int32)), (.ref b125), (.ref b125)])) _
      refine XS.iand X125.here hx rfl (hb hby at_190) rfl ?_
      show Steps p.tables e below (T125.setTop (mkF m 191 #[.val (.int g1), .val (.int g2), .val (.int g3), .val (.int g4), .val (.int g5), .val (.int g6), .val (.int r1), .val (.int (0 : Int32)), .val (.long r2), .second, .val (.long r3), .second, .val (.ref b108), .val (.int (0 : Int32)), .val (.int i118), .val (.int i123), .unset, .unset, .unset, .unset, .unset, .unset] [(.int (((g4.toUInt32 >>> ((2 : Int32) &&& 31).toUInt32).toInt32) &&& (255 : Int32))), (.int (0 : Int32)), (.ref b125), (.ref b125)])) _
      refine XS.i2c X125.here hx rfl (hb hby at_191) rfl ?_
      exact k)
    obtain ⟨ch1, hch1⟩ : ∃ z : Int32, z = ((((g4.toUInt32 >>> ((2 : Int32) &&& 31).toUInt32).toInt32) &&& (255 : Int32)).toUInt32.toUInt16.toUInt32.toInt32) := ⟨_, rfl⟩
    
    have k134 : ∀ t, Steps p.tables e below (T125.setTop (mkF m 192 #[.val (.int g1), .val (.int g2), .val (.int g3), .val (.int g4), .val (.int g5), .val (.int g6), .val (.int r1), .val (.int (0 : Int32)), .val (.long r2), .second, .val (.long r3), .second, .val (.ref b108), .val (.int (0 : Int32)), .val (.int i118), .val (.int i123), .unset, .unset, .unset, .unset, .unset, .unset] [(.int ch1), (.int (0 : Int32)), (.ref b125), (.ref b125)])) t → Steps p.tables e below (s₁.setTop (entryFrame m #[(.int g1), (.int g2), (.int g3), (.int g4), (.int g5), (.int g6)] maxLocals)) t := fun t k => k133 t (by
      show Steps p.tables e below (T125.setTop (mkF m 192 #[.val (.int g1), .val (.int g2), .val (.int g3), .val (.int g4), .val (.int g5), .val (.int g6), .val (.int r1), .val (.int (0 : Int32)), .val (.long r2), .second, .val (.long r3), .second, .val (.ref b108), .val (.int (0 : Int32)), .val (.int i118), .val (.int i123), .unset, .unset, .unset, .unset, .unset, .unset] [(.int ((((g4.toUInt32 >>> ((2 : Int32) &&& 31).toUInt32).toInt32) &&& (255 : Int32)).toUInt32.toUInt16.toUInt32.toInt32)), (.int (0 : Int32)), (.ref b125), (.ref b125)])) _
      refine castTop (g' := (mkF m 192 #[.val (.int g1), .val (.int g2), .val (.int g3), .val (.int g4), .val (.int g5), .val (.int g6), .val (.int r1), .val (.int (0 : Int32)), .val (.long r2), .second, .val (.long r3), .second, .val (.ref b108), .val (.int (0 : Int32)), .val (.int i118), .val (.int i123), .unset, .unset, .unset, .unset, .unset, .unset] [(.int ch1), (.int (0 : Int32)), (.ref b125), (.ref b125)])) (by rw [hch1]) ?_
      exact k)
    obtain ⟨c135, Ar135, Aq135, As135, An135, Ah135, Ag135⟩ := id V131
    have hin135 : ¬ ((0 : Int32) < 0 ∨ c135.slots.size ≤ ((0 : Int32)).toNatClampNeg) := inb_of As135 ⟨by decide, by decide⟩
    obtain ⟨T135, h135, X135, e135, W135, st135⟩ := stC X125 hx hZ e125 Ar135 (j := (0 : Int32)) hin135 (g := (mkF m 192 #[.val (.int g1), .val (.int g2), .val (.int g3), .val (.int g4), .val (.int g5), .val (.int g6), .val (.int r1), .val (.int (0 : Int32)), .val (.long r2), .second, .val (.long r3), .second, .val (.ref b108), .val (.int (0 : Int32)), .val (.int i118), .val (.int i123), .unset, .unset, .unset, .unset, .unset, .unset] [(.int ch1), (.int (0 : Int32)), (.ref b125), (.ref b125)])) rfl rfl (hb hby at_192)
    have V136 : Arv Z h135 b125 k125 .char (2 : Int32) [(.int (nar .char ch1)), (.int (0 : Int32))] (.int (0 : Int32)) := Arv.set Ar135 Aq135 As135 An135 Ah135 Ag135 (fits_nar_char _) W135 0 rfl (Nat.le_of_ble_eq_true rfl)
    have F137 := F128.wr W135
    have F138 := F129.other W135 n126
    have Z139 : n0 ≤ h135.size := Nat.le_trans Z130 (Nat.le_of_eq W135.size.symm)
    have N140 := Fr.snoc X135 N121 g127
    have k141 : ∀ t, Steps p.tables e below (T135.setTop (mkF m 193 #[.val (.int g1), .val (.int g2), .val (.int g3), .val (.int g4), .val (.int g5), .val (.int g6), .val (.int r1), .val (.int (0 : Int32)), .val (.long r2), .second, .val (.long r3), .second, .val (.ref b108), .val (.int (0 : Int32)), .val (.int i118), .val (.int i123), .unset, .unset, .unset, .unset, .unset, .unset] [(.ref b125)])) t → Steps p.tables e below (s₁.setTop (entryFrame m #[(.int g1), (.int g2), (.int g3), (.int g4), (.int g5), (.int g6)] maxLocals)) t := fun t k => k134 t (st135 t k)
    have k142 : ∀ t, Steps p.tables e below (T135.setTop (mkF m 204 #[.val (.int g1), .val (.int g2), .val (.int g3), .val (.int g4), .val (.int g5), .val (.int g6), .val (.int r1), .val (.int (0 : Int32)), .val (.long r2), .second, .val (.long r3), .second, .val (.ref b108), .val (.int (0 : Int32)), .val (.int i118), .val (.int i123), .unset, .unset, .unset, .unset, .unset, .unset] [(.int ((((g4.toUInt32 >>> ((10 : Int32) &&& 31).toUInt32).toInt32) &&& (255 : Int32)).toUInt32.toUInt16.toUInt32.toInt32)), (.int (1 : Int32)), (.ref b125), (.ref b125)])) t → Steps p.tables e below (s₁.setTop (entryFrame m #[(.int g1), (.int g2), (.int g3), (.int g4), (.int g5), (.int g6)] maxLocals)) t := fun t k => k141 t (by
      show Steps p.tables e below (T135.setTop (mkF m 193 #[.val (.int g1), .val (.int g2), .val (.int g3), .val (.int g4), .val (.int g5), .val (.int g6), .val (.int r1), .val (.int (0 : Int32)), .val (.long r2), .second, .val (.long r3), .second, .val (.ref b108), .val (.int (0 : Int32)), .val (.int i118), .val (.int i123), .unset, .unset, .unset, .unset, .unset, .unset] [(.ref b125)])) _
      refine XS.dup X135.here hx rfl (hb hby at_193) rfl rfl ?_
      show Steps p.tables e below (T135.setTop (mkF m 194 #[.val (.int g1), .val (.int g2), .val (.int g3), .val (.int g4), .val (.int g5), .val (.int g6), .val (.int r1), .val (.int (0 : Int32)), .val (.long r2), .second, .val (.long r3), .second, .val (.ref b108), .val (.int (0 : Int32)), .val (.int i118), .val (.int i123), .unset, .unset, .unset, .unset, .unset, .unset] [(.ref b125), (.ref b125)])) _
      refine XS.iconst X135.here hx rfl (hb hby at_194) ?_
      show Steps p.tables e below (T135.setTop (mkF m 195 #[.val (.int g1), .val (.int g2), .val (.int g3), .val (.int g4), .val (.int g5), .val (.int g6), .val (.int r1), .val (.int (0 : Int32)), .val (.long r2), .second, .val (.long r3), .second, .val (.ref b108), .val (.int (0 : Int32)), .val (.int i118), .val (.int i123), .unset, .unset, .unset, .unset, .unset, .unset] [(.int (1 : Int32)), (.ref b125), (.ref b125)])) _
      refine XS.iloadN X135.here hx rfl (hb hby at_195) rfl ?_
      show Steps p.tables e below (T135.setTop (mkF m 196 #[.val (.int g1), .val (.int g2), .val (.int g3), .val (.int g4), .val (.int g5), .val (.int g6), .val (.int r1), .val (.int (0 : Int32)), .val (.long r2), .second, .val (.long r3), .second, .val (.ref b108), .val (.int (0 : Int32)), .val (.int i118), .val (.int i123), .unset, .unset, .unset, .unset, .unset, .unset] [(.int g4), (.int (1 : Int32)), (.ref b125), (.ref b125)])) _
      refine XS.bipush X135.here hx rfl (hb hby at_196) ?_
      show Steps p.tables e below (T135.setTop (mkF m 198 #[.val (.int g1), .val (.int g2), .val (.int g3), .val (.int g4), .val (.int g5), .val (.int g6), .val (.int r1), .val (.int (0 : Int32)), .val (.long r2), .second, .val (.long r3), .second, .val (.ref b108), .val (.int (0 : Int32)), .val (.int i118), .val (.int i123), .unset, .unset, .unset, .unset, .unset, .unset] [(.int (10 : Int32)), (.int g4), (.int (1 : Int32)), (.ref b125), (.ref b125)])) _
      refine XS.iushr X135.here hx rfl (hb hby at_198) rfl ?_
      show Steps p.tables e below (T135.setTop (mkF m 199 #[.val (.int g1), .val (.int g2), .val (.int g3), .val (.int g4), .val (.int g5), .val (.int g6), .val (.int r1), .val (.int (0 : Int32)), .val (.long r2), .second, .val (.long r3), .second, .val (.ref b108), .val (.int (0 : Int32)), .val (.int i118), .val (.int i123), .unset, .unset, .unset, .unset, .unset, .unset] [(.int ((g4.toUInt32 >>> ((10 : Int32) &&& 31).toUInt32).toInt32)), (.int (1 : Int32)), (.ref b125), (.ref b125)])) _
      refine XS.sipush X135.here hx rfl (hb hby at_199) ?_
      show Steps p.tables e below (T135.setTop (mkF m 202 #[.val (.int g1), .val (.int g2), .val (.int g3), .val (.int g4), .val (.int g5), .val (.int g6), .val (.int r1), .val (.int (0 : Int32)), .val (.long r2), .second, .val (.long r3), .second, .val (.ref b108), .val (.int (0 : Int32)), .val (.int i118), .val (.int i123), .unset, .unset, .unset, .unset, .unset, .unset] [(.int (255 : Int32)), (.int ((g4.toUInt32 >>> ((10 : Int32) &&& 31).toUInt32).toInt32)), (.int (1 : Int32)), (.ref b125), (.ref b125)])) _
      refine XS.iand X135.here hx rfl (hb hby at_202) rfl ?_
      show Steps p.tables e below (T135.setTop (mkF m 203 #[.val (.int g1), .val (.int g2), .val (.int g3), .val (.int g4), .val (.int g5), .val (.int g6), .val (.int r1), .val (.int (0 : Int32)), .val (.long r2), .second, .val (.long r3), .second, .val (.ref b108), .val (.int (0 : Int32)), .val (.int i118), .val (.int i123), .unset, .unset, .unset, .unset, .unset, .unset] [(.int (((g4.toUInt32 >>> ((10 : Int32) &&& 31).toUInt32).toInt32) &&& (255 : Int32))), (.int (1 : Int32)), (.ref b125), (.ref b125)])) _
      refine XS.i2c X135.here hx rfl (hb hby at_203) rfl ?_
      exact k)
    obtain ⟨ch2, hch2⟩ : ∃ z : Int32, z = ((((g4.toUInt32 >>> ((10 : Int32) &&& 31).toUInt32).toInt32) &&& (255 : Int32)).toUInt32.toUInt16.toUInt32.toInt32) := ⟨_, rfl⟩
    
    have k143 : ∀ t, Steps p.tables e below (T135.setTop (mkF m 204 #[.val (.int g1), .val (.int g2), .val (.int g3), .val (.int g4), .val (.int g5), .val (.int g6), .val (.int r1), .val (.int (0 : Int32)), .val (.long r2), .second, .val (.long r3), .second, .val (.ref b108), .val (.int (0 : Int32)), .val (.int i118), .val (.int i123), .unset, .unset, .unset, .unset, .unset, .unset] [(.int ch2), (.int (1 : Int32)), (.ref b125), (.ref b125)])) t → Steps p.tables e below (s₁.setTop (entryFrame m #[(.int g1), (.int g2), (.int g3), (.int g4), (.int g5), (.int g6)] maxLocals)) t := fun t k => k142 t (by
      show Steps p.tables e below (T135.setTop (mkF m 204 #[.val (.int g1), .val (.int g2), .val (.int g3), .val (.int g4), .val (.int g5), .val (.int g6), .val (.int r1), .val (.int (0 : Int32)), .val (.long r2), .second, .val (.long r3), .second, .val (.ref b108), .val (.int (0 : Int32)), .val (.int i118), .val (.int i123), .unset, .unset, .unset, .unset, .unset, .unset] [(.int ((((g4.toUInt32 >>> ((10 : Int32) &&& 31).toUInt32).toInt32) &&& (255 : Int32)).toUInt32.toUInt16.toUInt32.toInt32)), (.int (1 : Int32)), (.ref b125), (.ref b125)])) _
      refine castTop (g' := (mkF m 204 #[.val (.int g1), .val (.int g2), .val (.int g3), .val (.int g4), .val (.int g5), .val (.int g6), .val (.int r1), .val (.int (0 : Int32)), .val (.long r2), .second, .val (.long r3), .second, .val (.ref b108), .val (.int (0 : Int32)), .val (.int i118), .val (.int i123), .unset, .unset, .unset, .unset, .unset, .unset] [(.int ch2), (.int (1 : Int32)), (.ref b125), (.ref b125)])) (by rw [hch2]) ?_
      exact k)
    obtain ⟨c144, Ar144, Aq144, As144, An144, Ah144, Ag144⟩ := id V136
    have hin144 : ¬ ((1 : Int32) < 0 ∨ c144.slots.size ≤ ((1 : Int32)).toNatClampNeg) := inb_of As144 ⟨by decide, by decide⟩
    obtain ⟨T144, h144, X144, e144, W144, st144⟩ := stC X135 hx hZ e135 Ar144 (j := (1 : Int32)) hin144 (g := (mkF m 204 #[.val (.int g1), .val (.int g2), .val (.int g3), .val (.int g4), .val (.int g5), .val (.int g6), .val (.int r1), .val (.int (0 : Int32)), .val (.long r2), .second, .val (.long r3), .second, .val (.ref b108), .val (.int (0 : Int32)), .val (.int i118), .val (.int i123), .unset, .unset, .unset, .unset, .unset, .unset] [(.int ch2), (.int (1 : Int32)), (.ref b125), (.ref b125)])) rfl rfl (hb hby at_204)
    have V145 : Arv Z h144 b125 k125 .char (2 : Int32) [(.int (nar .char ch1)), (.int (nar .char ch2))] (.int (0 : Int32)) := Arv.set Ar144 Aq144 As144 An144 Ah144 Ag144 (fits_nar_char _) W144 1 rfl (Nat.le_of_ble_eq_true rfl)
    have F146 := F137.wr W144
    have F147 := F138.other W144 n126
    have Z148 : n0 ≤ h144.size := Nat.le_trans Z139 (Nat.le_of_eq W144.size.symm)
    have N149 := Fr.snoc X144 N140 g127
    have k150 : ∀ t, Steps p.tables e below (T144.setTop (mkF m 205 #[.val (.int g1), .val (.int g2), .val (.int g3), .val (.int g4), .val (.int g5), .val (.int g6), .val (.int r1), .val (.int (0 : Int32)), .val (.long r2), .second, .val (.long r3), .second, .val (.ref b108), .val (.int (0 : Int32)), .val (.int i118), .val (.int i123), .unset, .unset, .unset, .unset, .unset, .unset] [(.ref b125)])) t → Steps p.tables e below (s₁.setTop (entryFrame m #[(.int g1), (.int g2), (.int g3), (.int g4), (.int g5), (.int g6)] maxLocals)) t := fun t k => k143 t (st144 t k)
    have k151 : ∀ t, Steps p.tables e below (T144.setTop (mkF m 207 #[.val (.int g1), .val (.int g2), .val (.int g3), .val (.int g4), .val (.int g5), .val (.int g6), .val (.int r1), .val (.int (0 : Int32)), .val (.long r2), .second, .val (.long r3), .second, .val (.ref b108), .val (.int (0 : Int32)), .val (.int i118), .val (.int i123), .val (.ref b125), .unset, .unset, .unset, .unset, .unset] [])) t → Steps p.tables e below (s₁.setTop (entryFrame m #[(.int g1), (.int g2), (.int g3), (.int g4), (.int g5), (.int g6)] maxLocals)) t := fun t k => k150 t (by
      show Steps p.tables e below (T144.setTop (mkF m 205 #[.val (.int g1), .val (.int g2), .val (.int g3), .val (.int g4), .val (.int g5), .val (.int g6), .val (.int r1), .val (.int (0 : Int32)), .val (.long r2), .second, .val (.long r3), .second, .val (.ref b108), .val (.int (0 : Int32)), .val (.int i118), .val (.int i123), .unset, .unset, .unset, .unset, .unset, .unset] [(.ref b125)])) _
      refine XS.astore X144.here hx rfl (hb hby at_205) rfl rfl (l' := #[.val (.int g1), .val (.int g2), .val (.int g3), .val (.int g4), .val (.int g5), .val (.int g6), .val (.int r1), .val (.int (0 : Int32)), .val (.long r2), .second, .val (.long r3), .second, .val (.ref b108), .val (.int (0 : Int32)), .val (.int i118), .val (.int i123), .val (.ref b125), .unset, .unset, .unset, .unset, .unset]) rfl ?_
      exact k)
    obtain ⟨T152, h152, X152, e152, E152, A152, D152, -, st152⟩ := newO X144 hx hZ hown (hw _ (List.mem_of_getElem? (i := 8) rfl)) (hw _ (List.mem_of_getElem? (i := 9) rfl)) (hw _ (List.mem_of_getElem? (i := 10) rfl)) e144 (g := (mkF m 207 #[.val (.int g1), .val (.int g2), .val (.int g3), .val (.int g4), .val (.int g5), .val (.int g6), .val (.int r1), .val (.int (0 : Int32)), .val (.long r2), .second, .val (.long r3), .second, .val (.ref b108), .val (.int (0 : Int32)), .val (.int i118), .val (.int i123), .val (.ref b125), .unset, .unset, .unset, .unset, .unset] [])) rfl (hb hby at_207) (by decide) (by decide)
    obtain ⟨b152, g152⟩ : ∃ z, z = h144.size := ⟨_, rfl⟩
    rw [← g152] at A152 D152 st152
    have n153 : b108 ≠ b152 := Nat.ne_of_lt (Nat.lt_of_lt_of_le F147.lt (Nat.le_of_eq g152.symm))
    have n154 : b125 ≠ b152 := Nat.ne_of_lt (Nat.lt_of_lt_of_le V145.lt (Nat.le_of_eq g152.symm))
    have g155 : n0 ≤ b152 := Nat.le_trans Z148 (Nat.le_of_eq g152.symm)
    have F156 := F146.ext E152
    have F157 := F147.ext E152
    have F158 := V145.ext E152
    have Z159 : n0 ≤ h152.size := Nat.le_trans Z148 E152.1
    have F160 : Fld Z h152 b152 "com/example/round2/round2/eval/TopicResult" "topic" "Ljava/lang/String;" .null := D152 (Or.inr (hw _ (List.mem_of_getElem? (i := 45) rfl))) (ty := (.object "java/lang/String")) (by decide)
    have F161 : Fld Z h152 b152 "com/example/round2/round2/eval/TopicResult" "retrieved" "I" (.int (0 : Int32)) := D152 (Or.inr (hw _ (List.mem_of_getElem? (i := 47) rfl))) (ty := .int) (by decide)
    have F162 : Fld Z h152 b152 "com/example/round2/round2/eval/TopicResult" "relevant" "I" (.int (0 : Int32)) := D152 (Or.inr (hw _ (List.mem_of_getElem? (i := 49) rfl))) (ty := .int) (by decide)
    have F163 : Fld Z h152 b152 "com/example/round2/round2/eval/TopicResult" "relevantRanks" "[I" .null := D152 (Or.inr (hw _ (List.mem_of_getElem? (i := 51) rfl))) (ty := (.array .int)) (by decide)
    have k164 : ∀ t, Steps p.tables e below (T152.setTop (mkF m 210 #[.val (.int g1), .val (.int g2), .val (.int g3), .val (.int g4), .val (.int g5), .val (.int g6), .val (.int r1), .val (.int (0 : Int32)), .val (.long r2), .second, .val (.long r3), .second, .val (.ref b108), .val (.int (0 : Int32)), .val (.int i118), .val (.int i123), .val (.ref b125), .unset, .unset, .unset, .unset, .unset] [(.ref b152)])) t → Steps p.tables e below (s₁.setTop (entryFrame m #[(.int g1), (.int g2), (.int g3), (.int g4), (.int g5), (.int g6)] maxLocals)) t := fun t k => k151 t (st152 t k)
    have k165 : ∀ t, Steps p.tables e below (T152.setTop (mkF m 211 #[.val (.int g1), .val (.int g2), .val (.int g3), .val (.int g4), .val (.int g5), .val (.int g6), .val (.int r1), .val (.int (0 : Int32)), .val (.long r2), .second, .val (.long r3), .second, .val (.ref b108), .val (.int (0 : Int32)), .val (.int i118), .val (.int i123), .val (.ref b125), .unset, .unset, .unset, .unset, .unset] [(.ref b152), (.ref b152)])) t → Steps p.tables e below (s₁.setTop (entryFrame m #[(.int g1), (.int g2), (.int g3), (.int g4), (.int g5), (.int g6)] maxLocals)) t := fun t k => k164 t (by
      show Steps p.tables e below (T152.setTop (mkF m 210 #[.val (.int g1), .val (.int g2), .val (.int g3), .val (.int g4), .val (.int g5), .val (.int g6), .val (.int r1), .val (.int (0 : Int32)), .val (.long r2), .second, .val (.long r3), .second, .val (.ref b108), .val (.int (0 : Int32)), .val (.int i118), .val (.int i123), .val (.ref b125), .unset, .unset, .unset, .unset, .unset] [(.ref b152)])) _
      refine XS.dup X152.here hx rfl (hb hby at_210) rfl rfl ?_
      exact k)
    obtain ⟨T166, h166, X166, e166, E166, A166, D166, -, st166⟩ := newO X152 hx hZ hown (hw _ (List.mem_of_getElem? (i := 11) rfl)) (hw _ (List.mem_of_getElem? (i := 12) rfl)) (hw _ (List.mem_of_getElem? (i := 13) rfl)) e152 (g := (mkF m 211 #[.val (.int g1), .val (.int g2), .val (.int g3), .val (.int g4), .val (.int g5), .val (.int g6), .val (.int r1), .val (.int (0 : Int32)), .val (.long r2), .second, .val (.long r3), .second, .val (.ref b108), .val (.int (0 : Int32)), .val (.int i118), .val (.int i123), .val (.ref b125), .unset, .unset, .unset, .unset, .unset] [(.ref b152), (.ref b152)])) rfl (hb hby at_211) (by decide) (by decide)
    obtain ⟨b166, g166⟩ : ∃ z, z = h152.size := ⟨_, rfl⟩
    rw [← g166] at A166 D166 st166
    have n167 : b108 ≠ b166 := Nat.ne_of_lt (Nat.lt_of_lt_of_le F157.lt (Nat.le_of_eq g166.symm))
    have n168 : b125 ≠ b166 := Nat.ne_of_lt (Nat.lt_of_lt_of_le F158.lt (Nat.le_of_eq g166.symm))
    have n169 : b152 ≠ b166 := Nat.ne_of_lt (Nat.lt_of_lt_of_le A152.lt (Nat.le_of_eq g166.symm))
    have g170 : n0 ≤ b166 := Nat.le_trans Z159 (Nat.le_of_eq g166.symm)
    have F171 := F156.ext E166
    have F172 := F157.ext E166
    have F173 := F158.ext E166
    have F174 := A152.ext E166
    have F175 := F160.ext E166
    have F176 := F161.ext E166
    have F177 := F162.ext E166
    have F178 := F163.ext E166
    have Z179 : n0 ≤ h166.size := Nat.le_trans Z159 E166.1
    have F180 : Fld Z h166 b166 "java/lang/String" "coder" "B" (.int (0 : Int32)) := D166 (Or.inr (hw _ (List.mem_of_getElem? (i := 37) rfl))) (ty := .byte) (by decide)
    have F181 : Fld Z h166 b166 "java/lang/String" "value" "[B" .null := D166 (Or.inr (hw _ (List.mem_of_getElem? (i := 39) rfl))) (ty := (.array .byte)) (by decide)
    have k182 : ∀ t, Steps p.tables e below (T166.setTop (mkF m 214 #[.val (.int g1), .val (.int g2), .val (.int g3), .val (.int g4), .val (.int g5), .val (.int g6), .val (.int r1), .val (.int (0 : Int32)), .val (.long r2), .second, .val (.long r3), .second, .val (.ref b108), .val (.int (0 : Int32)), .val (.int i118), .val (.int i123), .val (.ref b125), .unset, .unset, .unset, .unset, .unset] [(.ref b166), (.ref b152), (.ref b152)])) t → Steps p.tables e below (s₁.setTop (entryFrame m #[(.int g1), (.int g2), (.int g3), (.int g4), (.int g5), (.int g6)] maxLocals)) t := fun t k => k165 t (st166 t k)
    have hc1 := own_ch hch1
    have hc2 := own_ch hch2
    have k183 : ∀ t, Steps p.tables e below (T166.setTop (mkF m 217 #[.val (.int g1), .val (.int g2), .val (.int g3), .val (.int g4), .val (.int g5), .val (.int g6), .val (.int r1), .val (.int (0 : Int32)), .val (.long r2), .second, .val (.long r3), .second, .val (.ref b108), .val (.int (0 : Int32)), .val (.int i118), .val (.int i123), .val (.ref b125), .unset, .unset, .unset, .unset, .unset] [(.ref b125), (.ref b166), (.ref b166), (.ref b152), (.ref b152)])) t → Steps p.tables e below (s₁.setTop (entryFrame m #[(.int g1), (.int g2), (.int g3), (.int g4), (.int g5), (.int g6)] maxLocals)) t := fun t k => k182 t (by
      show Steps p.tables e below (T166.setTop (mkF m 214 #[.val (.int g1), .val (.int g2), .val (.int g3), .val (.int g4), .val (.int g5), .val (.int g6), .val (.int r1), .val (.int (0 : Int32)), .val (.long r2), .second, .val (.long r3), .second, .val (.ref b108), .val (.int (0 : Int32)), .val (.int i118), .val (.int i123), .val (.ref b125), .unset, .unset, .unset, .unset, .unset] [(.ref b166), (.ref b152), (.ref b152)])) _
      refine XS.dup X166.here hx rfl (hb hby at_214) rfl rfl ?_
      show Steps p.tables e below (T166.setTop (mkF m 215 #[.val (.int g1), .val (.int g2), .val (.int g3), .val (.int g4), .val (.int g5), .val (.int g6), .val (.int r1), .val (.int (0 : Int32)), .val (.long r2), .second, .val (.long r3), .second, .val (.ref b108), .val (.int (0 : Int32)), .val (.int i118), .val (.int i123), .val (.ref b125), .unset, .unset, .unset, .unset, .unset] [(.ref b166), (.ref b166), (.ref b152), (.ref b152)])) _
      refine XS.aload X166.here hx rfl (hb hby at_215) rfl rfl ?_
      exact k)
    obtain ⟨_, _, ⟨T184, L184, k184, n184⟩, -, X184, ⟨Lc184, hQ184, l184, y184, z184⟩, st184⟩ := X166.specialBack hx (y := (⟨"java/lang/String", "<init>", "([C)V"⟩ : MethodName)) rfl hown (mvT hZ (hw _ (List.mem_of_getElem? (i := 14) rfl))) (mvT hZ (hw _ (List.mem_of_getElem? (i := 15) rfl))) (mvT hZ (hw _ (List.mem_of_getElem? (i := 16) rfl))) (by decide) (backOf (W := 3) (rm2 l Z a0 hw [] b166 b125 k125 cs (nar .char ch1) (nar .char ch2) h166 n0 Z179 F181 F180 A166 g170 F173 n168 F171 hcs hc1 hc2) hZ (hw _ (List.mem_of_getElem? (i := 16) rfl)) (hw _ (List.mem_of_getElem? (i := 13) rfl)) (by decide) (by decide)) (g := (mkF m 217 #[.val (.int g1), .val (.int g2), .val (.int g3), .val (.int g4), .val (.int g5), .val (.int g6), .val (.int r1), .val (.int (0 : Int32)), .val (.long r2), .second, .val (.long r3), .second, .val (.ref b108), .val (.int (0 : Int32)), .val (.int i118), .val (.int i123), .val (.ref b125), .unset, .unset, .unset, .unset, .unset] [(.ref b125), (.ref b166), (.ref b166), (.ref b152), (.ref b152)])) rfl (by rw [hml]; rfl) (Steps.refl _) (a := b166) (argsL := [(.ref b125)]) (rest := [(.ref b166), (.ref b152), (.ref b152)]) (lenOf pd__28_5bC_29V rfl) rfl (by show 2 * 0 + _ ≤ _; exact Nat.le_of_eq rfl) (hb hby at_217) (fun _ _ => ⟨rfl, e166, (by decide : 4 + 1 ≤ _), (by decide : 10 + 2 ≤ _)⟩)
    dsimp only [Pt.U, Pt.locs, Pt.cells, Pt.slots] at X184 l184 y184 z184 st184 hQ184
    subst l184 y184 z184
    obtain ⟨h184, e184⟩ : ∃ h', T184.heap = h' := ⟨_, rfl⟩
    rw [e184] at hQ184
    obtain ⟨t184, kk184, rfl, N184q, zt184, K184, G184e, G184v, G184c, V184⟩ := hQ184
    have N185 := Fr.app N149 N184q
    have k186 : ∀ t, Steps p.tables e below (T184.setTop (mkF m 220 #[.val (.int g1), .val (.int g2), .val (.int g3), .val (.int g4), .val (.int g5), .val (.int g6), .val (.int r1), .val (.int (0 : Int32)), .val (.long r2), .second, .val (.long r3), .second, .val (.ref b108), .val (.int (0 : Int32)), .val (.int i118), .val (.int i123), .val (.ref b125), .unset, .unset, .unset, .unset, .unset] [(.ref b166), (.ref b152), (.ref b152)])) t → Steps p.tables e below (s₁.setTop (entryFrame m #[(.int g1), (.int g2), (.int g3), (.int g4), (.int g5), (.int g6)] maxLocals)) t := fun t k => k183 t (st184.trans k)
    have F187 := F172.keep K184 (ninS n167 nin0)
    have F188 := F174.keep K184
    have F189 := F175.keep K184 (ninS n169 nin0)
    have F190 := F176.keep K184 (ninS n169 nin0)
    have F191 := F177.keep K184 (ninS n169 nin0)
    have F192 := F178.keep K184 (ninS n169 nin0)
    have F193 := A166.keep K184
    have Z194 : n0 ≤ h184.size := Nat.le_trans Z179 K184.1
    have k195 : ∀ t, Steps p.tables e below (T184.setTop (mkF m 226 #[.val (.int g1), .val (.int g2), .val (.int g3), .val (.int g4), .val (.int g5), .val (.int g6), .val (.int r1), .val (.int (0 : Int32)), .val (.long r2), .second, .val (.long r3), .second, .val (.ref b108), .val (.int (0 : Int32)), .val (.int i118), .val (.int i123), .val (.ref b125), .unset, .unset, .unset, .unset, .unset] [(.ref b108), (.int i123), (.int i118), (.ref b166), (.ref b152), (.ref b152)])) t → Steps p.tables e below (s₁.setTop (entryFrame m #[(.int g1), (.int g2), (.int g3), (.int g4), (.int g5), (.int g6)] maxLocals)) t := fun t k => k186 t (by
      show Steps p.tables e below (T184.setTop (mkF m 220 #[.val (.int g1), .val (.int g2), .val (.int g3), .val (.int g4), .val (.int g5), .val (.int g6), .val (.int r1), .val (.int (0 : Int32)), .val (.long r2), .second, .val (.long r3), .second, .val (.ref b108), .val (.int (0 : Int32)), .val (.int i118), .val (.int i123), .val (.ref b125), .unset, .unset, .unset, .unset, .unset] [(.ref b166), (.ref b152), (.ref b152)])) _
      refine XS.iload X184.here hx rfl (hb hby at_220) rfl ?_
      show Steps p.tables e below (T184.setTop (mkF m 222 #[.val (.int g1), .val (.int g2), .val (.int g3), .val (.int g4), .val (.int g5), .val (.int g6), .val (.int r1), .val (.int (0 : Int32)), .val (.long r2), .second, .val (.long r3), .second, .val (.ref b108), .val (.int (0 : Int32)), .val (.int i118), .val (.int i123), .val (.ref b125), .unset, .unset, .unset, .unset, .unset] [(.int i118), (.ref b166), (.ref b152), (.ref b152)])) _
      refine XS.iload X184.here hx rfl (hb hby at_222) rfl ?_
      show Steps p.tables e below (T184.setTop (mkF m 224 #[.val (.int g1), .val (.int g2), .val (.int g3), .val (.int g4), .val (.int g5), .val (.int g6), .val (.int r1), .val (.int (0 : Int32)), .val (.long r2), .second, .val (.long r3), .second, .val (.ref b108), .val (.int (0 : Int32)), .val (.int i118), .val (.int i123), .val (.ref b125), .unset, .unset, .unset, .unset, .unset] [(.int i123), (.int i118), (.ref b166), (.ref b152), (.ref b152)])) _
      refine XS.aload X184.here hx rfl (hb hby at_224) rfl rfl ?_
      exact k)
    obtain ⟨_, _, ⟨T196, L196, k196, n196⟩, -, X196, ⟨Lc196, hQ196, l196, y196, z196⟩, st196⟩ := X184.specialBack hx (y := (⟨"com/example/round2/round2/eval/TopicResult", "<init>", "(Ljava/lang/String;II[I)V"⟩ : MethodName)) rfl hown (mvT hZ (hw _ (List.mem_of_getElem? (i := 40) rfl))) (mvT hZ (hw _ (List.mem_of_getElem? (i := 41) rfl))) (mvT hZ (hw _ (List.mem_of_getElem? (i := 42) rfl))) (by decide) (backOf (W := 1) (rm8 l Z a0 hw [] b152 b166 i118 i123 b108 h184 n0 Z194 F189 F190 F191 F192 F188 g155) hZ (hw _ (List.mem_of_getElem? (i := 42) rfl)) (hw _ (List.mem_of_getElem? (i := 10) rfl)) (by decide) (by decide)) (g := (mkF m 226 #[.val (.int g1), .val (.int g2), .val (.int g3), .val (.int g4), .val (.int g5), .val (.int g6), .val (.int r1), .val (.int (0 : Int32)), .val (.long r2), .second, .val (.long r3), .second, .val (.ref b108), .val (.int (0 : Int32)), .val (.int i118), .val (.int i123), .val (.ref b125), .unset, .unset, .unset, .unset, .unset] [(.ref b108), (.int i123), (.int i118), (.ref b166), (.ref b152), (.ref b152)])) rfl (by rw [hml]; rfl) (Steps.refl _) (a := b152) (argsL := [(.ref b166), (.int i118), (.int i123), (.ref b108)]) (rest := [(.ref b152)]) (lenOf pd__28Ljava_2flang_2fString_3bII_5bI_29V rfl) rfl (by show 2 * 0 + _ ≤ _; exact Nat.le_of_eq rfl) (hb hby at_226) (fun _ _ => ⟨rfl, e184, (by decide : 5 + 0 ≤ _), (by decide : 12 + 0 ≤ _)⟩)
    dsimp only [Pt.U, Pt.locs, Pt.cells, Pt.slots] at X196 l196 y196 z196 st196 hQ196
    subst l196 y196 z196
    obtain ⟨h196, e196⟩ : ∃ h', T196.heap = h' := ⟨_, rfl⟩
    rw [e196] at hQ196
    obtain ⟨rfl, N196q, K196, G196a, G196b, G196c⟩ := hQ196
    have N197 := Fr.app N185 N196q
    have k198 : ∀ t, Steps p.tables e below (T196.setTop (mkF m 229 #[.val (.int g1), .val (.int g2), .val (.int g3), .val (.int g4), .val (.int g5), .val (.int g6), .val (.int r1), .val (.int (0 : Int32)), .val (.long r2), .second, .val (.long r3), .second, .val (.ref b108), .val (.int (0 : Int32)), .val (.int i118), .val (.int i123), .val (.ref b125), .unset, .unset, .unset, .unset, .unset] [(.ref b152)])) t → Steps p.tables e below (s₁.setTop (entryFrame m #[(.int g1), (.int g2), (.int g3), (.int g4), (.int g5), (.int g6)] maxLocals)) t := fun t k => k195 t (st196.trans k)
    have F199 := F187.keep K196 (ninS n153 nin0)
    have F200 := F188.keep K196
    have F201 := F193.keep K196
    have Z202 : n0 ≤ h196.size := Nat.le_trans Z194 K196.1
    have k203 : ∀ t, Steps p.tables e below (T196.setTop (mkF m 233 #[.val (.int g1), .val (.int g2), .val (.int g3), .val (.int g4), .val (.int g5), .val (.int g6), .val (.int r1), .val (.int (0 : Int32)), .val (.long r2), .second, .val (.long r3), .second, .val (.ref b108), .val (.int (0 : Int32)), .val (.int i118), .val (.int i123), .val (.ref b125), .val (.ref b152), .unset, .unset, .unset, .unset] [(.ref b152)])) t → Steps p.tables e below (s₁.setTop (entryFrame m #[(.int g1), (.int g2), (.int g3), (.int g4), (.int g5), (.int g6)] maxLocals)) t := fun t k => k198 t (by
      show Steps p.tables e below (T196.setTop (mkF m 229 #[.val (.int g1), .val (.int g2), .val (.int g3), .val (.int g4), .val (.int g5), .val (.int g6), .val (.int r1), .val (.int (0 : Int32)), .val (.long r2), .second, .val (.long r3), .second, .val (.ref b108), .val (.int (0 : Int32)), .val (.int i118), .val (.int i123), .val (.ref b125), .unset, .unset, .unset, .unset, .unset] [(.ref b152)])) _
      refine XS.astore X196.here hx rfl (hb hby at_229) rfl rfl (l' := #[.val (.int g1), .val (.int g2), .val (.int g3), .val (.int g4), .val (.int g5), .val (.int g6), .val (.int r1), .val (.int (0 : Int32)), .val (.long r2), .second, .val (.long r3), .second, .val (.ref b108), .val (.int (0 : Int32)), .val (.int i118), .val (.int i123), .val (.ref b125), .val (.ref b152), .unset, .unset, .unset, .unset]) rfl ?_
      show Steps p.tables e below (T196.setTop (mkF m 231 #[.val (.int g1), .val (.int g2), .val (.int g3), .val (.int g4), .val (.int g5), .val (.int g6), .val (.int r1), .val (.int (0 : Int32)), .val (.long r2), .second, .val (.long r3), .second, .val (.ref b108), .val (.int (0 : Int32)), .val (.int i118), .val (.int i123), .val (.ref b125), .val (.ref b152), .unset, .unset, .unset, .unset] [])) _
      refine XS.aload X196.here hx rfl (hb hby at_231) rfl rfl ?_
      exact k)
    obtain ⟨cq204, kq204, q204a, q204b, q204c⟩ := isOf hZ e196 G196a
    obtain ⟨_, _, ⟨T204, L204, k204, n204⟩, -, X204, ⟨Lc204, hQ204, l204, y204, z204⟩, st204⟩ := X196.virtualBack hx (y := (⟨"com/example/round2/round2/eval/TopicResult", "reciprocalRank", "()D"⟩ : MethodName)) (z := (⟨"com/example/round2/round2/eval/TopicResult", "reciprocalRank", "()D"⟩ : MethodName)) hown (mvT hZ (hw _ (List.mem_of_getElem? (i := 52) rfl))) (mvT hZ (hw _ (List.mem_of_getElem? (i := 53) rfl))) (notFace_of_selects (args := #[]) (mvT hZ (hw _ (List.mem_of_getElem? (i := 55) rfl)))) (mvT hZ (hw _ (List.mem_of_getElem? (i := 55) rfl))) (mvT hZ (hw _ (List.mem_of_getElem? (i := 54) rfl))) (by decide) (backOf (W := 0) (rrk0 l Z a0 hw [] b152 b108 k108 h196 n0 Z202 G196c F199) hZ (hw _ (List.mem_of_getElem? (i := 56) rfl)) (hw _ (List.mem_of_getElem? (i := 10) rfl)) (by decide) (by decide)) q204a q204c (g := (mkF m 233 #[.val (.int g1), .val (.int g2), .val (.int g3), .val (.int g4), .val (.int g5), .val (.int g6), .val (.int r1), .val (.int (0 : Int32)), .val (.long r2), .second, .val (.long r3), .second, .val (.ref b108), .val (.int (0 : Int32)), .val (.int i118), .val (.int i123), .val (.ref b125), .val (.ref b152), .unset, .unset, .unset, .unset] [(.ref b152)])) rfl (by rw [hml]; rfl) (Steps.refl _) (argsL := []) (rest := []) (lenOf pd__28_29D rfl) rfl (by show 2 * 0 + _ ≤ _; exact Nat.le_of_eq rfl) (hb hby at_233) (fun _ _ => ⟨rfl, e196, (by decide : 5 + 0 ≤ _), (by decide : 12 + 0 ≤ _)⟩)
    dsimp only [Pt.U, Pt.locs, Pt.cells, Pt.slots] at X204 l204 y204 z204 st204 hQ204
    subst l204 y204 z204
    obtain ⟨rfl, N204q, e204⟩ := hQ204
    have N205 := Fr.app N197 N204q
    have k206 : ∀ t, Steps p.tables e below (T204.setTop (mkF m 236 #[.val (.int g1), .val (.int g2), .val (.int g3), .val (.int g4), .val (.int g5), .val (.int g6), .val (.int r1), .val (.int (0 : Int32)), .val (.long r2), .second, .val (.long r3), .second, .val (.ref b108), .val (.int (0 : Int32)), .val (.int i118), .val (.int i123), .val (.ref b125), .val (.ref b152), .unset, .unset, .unset, .unset] [(.double (0 : UInt64))])) t → Steps p.tables e below (s₁.setTop (entryFrame m #[(.int g1), (.int g2), (.int g3), (.int g4), (.int g5), (.int g6)] maxLocals)) t := fun t k => k203 t (st204.trans k)
    have k207 : ∀ t, Steps p.tables e below (T204.setTop (mkF m 255 #[.val (.int g1), .val (.int g2), .val (.int g3), .val (.int g4), .val (.int g5), .val (.int g6), .val (.int r1), .val (.int (0 : Int32)), .val (.long r2), .second, .val (.long r3), .second, .val (.ref b108), .val (.int (0 : Int32)), .val (.int i118), .val (.int i123), .val (.ref b125), .val (.ref b152), .val (.double (0 : UInt64)), .second, .unset, .unset] [(.int (1 : Int32))])) t → Steps p.tables e below (s₁.setTop (entryFrame m #[(.int g1), (.int g2), (.int g3), (.int g4), (.int g5), (.int g6)] maxLocals)) t := fun t k => k206 t (by
      show Steps p.tables e below (T204.setTop (mkF m 236 #[.val (.int g1), .val (.int g2), .val (.int g3), .val (.int g4), .val (.int g5), .val (.int g6), .val (.int r1), .val (.int (0 : Int32)), .val (.long r2), .second, .val (.long r3), .second, .val (.ref b108), .val (.int (0 : Int32)), .val (.int i118), .val (.int i123), .val (.ref b125), .val (.ref b152), .unset, .unset, .unset, .unset] [(.double (0 : UInt64))])) _
      refine XS.dstore X204.here hx rfl (hb hby at_236) rfl (l' := #[.val (.int g1), .val (.int g2), .val (.int g3), .val (.int g4), .val (.int g5), .val (.int g6), .val (.int r1), .val (.int (0 : Int32)), .val (.long r2), .second, .val (.long r3), .second, .val (.ref b108), .val (.int (0 : Int32)), .val (.int i118), .val (.int i123), .val (.ref b125), .val (.ref b152), .val (.double (0 : UInt64)), .second, .unset, .unset]) rfl ?_
      show Steps p.tables e below (T204.setTop (mkF m 238 #[.val (.int g1), .val (.int g2), .val (.int g3), .val (.int g4), .val (.int g5), .val (.int g6), .val (.int r1), .val (.int (0 : Int32)), .val (.long r2), .second, .val (.long r3), .second, .val (.ref b108), .val (.int (0 : Int32)), .val (.int i118), .val (.int i123), .val (.ref b125), .val (.ref b152), .val (.double (0 : UInt64)), .second, .unset, .unset] [])) _
      refine XS.iload X204.here hx rfl (hb hby at_238) rfl ?_
      show Steps p.tables e below (T204.setTop (mkF m 240 #[.val (.int g1), .val (.int g2), .val (.int g3), .val (.int g4), .val (.int g5), .val (.int g6), .val (.int r1), .val (.int (0 : Int32)), .val (.long r2), .second, .val (.long r3), .second, .val (.ref b108), .val (.int (0 : Int32)), .val (.int i118), .val (.int i123), .val (.ref b125), .val (.ref b152), .val (.double (0 : UInt64)), .second, .unset, .unset] [(.int (0 : Int32))])) _
      refine XS.ifNo X204.here hx rfl (hb hby at_240) rfl ((if0 _ _).trans (teq (by decide)).2) ?_
      show Steps p.tables e below (T204.setTop (mkF m 243 #[.val (.int g1), .val (.int g2), .val (.int g3), .val (.int g4), .val (.int g5), .val (.int g6), .val (.int r1), .val (.int (0 : Int32)), .val (.long r2), .second, .val (.long r3), .second, .val (.ref b108), .val (.int (0 : Int32)), .val (.int i118), .val (.int i123), .val (.ref b125), .val (.ref b152), .val (.double (0 : UInt64)), .second, .unset, .unset] [])) _
      refine XS.dload X204.here hx rfl (hb hby at_243) rfl ?_
      show Steps p.tables e below (T204.setTop (mkF m 245 #[.val (.int g1), .val (.int g2), .val (.int g3), .val (.int g4), .val (.int g5), .val (.int g6), .val (.int r1), .val (.int (0 : Int32)), .val (.long r2), .second, .val (.long r3), .second, .val (.ref b108), .val (.int (0 : Int32)), .val (.int i118), .val (.int i123), .val (.ref b125), .val (.ref b152), .val (.double (0 : UInt64)), .second, .unset, .unset] [(.double (0 : UInt64))])) _
      refine XS.dconst0 X204.here hx rfl (hb hby at_245) (v := (0 : UInt64)) rfl ?_
      show Steps p.tables e below (T204.setTop (mkF m 246 #[.val (.int g1), .val (.int g2), .val (.int g3), .val (.int g4), .val (.int g5), .val (.int g6), .val (.int r1), .val (.int (0 : Int32)), .val (.long r2), .second, .val (.long r3), .second, .val (.ref b108), .val (.int (0 : Int32)), .val (.int i118), .val (.int i123), .val (.ref b125), .val (.ref b152), .val (.double (0 : UInt64)), .second, .unset, .unset] [(.double (0 : UInt64)), (.double (0 : UInt64))])) _
      refine XS.dcmpS X204.here hx rfl (hb hby at_246) rfl rfl ?_
      show Steps p.tables e below (T204.setTop (mkF m 247 #[.val (.int g1), .val (.int g2), .val (.int g3), .val (.int g4), .val (.int g5), .val (.int g6), .val (.int r1), .val (.int (0 : Int32)), .val (.long r2), .second, .val (.long r3), .second, .val (.ref b108), .val (.int (0 : Int32)), .val (.int i118), .val (.int i123), .val (.ref b125), .val (.ref b152), .val (.double (0 : UInt64)), .second, .unset, .unset] [(.int (cmpValue (FP.dcmp (0 : UInt64) (0 : UInt64)) .l))])) _
      refine XS.ifNo X204.here hx rfl (hb hby at_247) rfl ((if0 _ _).trans (teq (Dy.cmp_eq (dy0 0) (dy0 0) rfl .l)).2) ?_
      show Steps p.tables e below (T204.setTop (mkF m 250 #[.val (.int g1), .val (.int g2), .val (.int g3), .val (.int g4), .val (.int g5), .val (.int g6), .val (.int r1), .val (.int (0 : Int32)), .val (.long r2), .second, .val (.long r3), .second, .val (.ref b108), .val (.int (0 : Int32)), .val (.int i118), .val (.int i123), .val (.ref b125), .val (.ref b152), .val (.double (0 : UInt64)), .second, .unset, .unset] [])) _
      refine XS.iconst X204.here hx rfl (hb hby at_250) ?_
      show Steps p.tables e below (T204.setTop (mkF m 251 #[.val (.int g1), .val (.int g2), .val (.int g3), .val (.int g4), .val (.int g5), .val (.int g6), .val (.int r1), .val (.int (0 : Int32)), .val (.long r2), .second, .val (.long r3), .second, .val (.ref b108), .val (.int (0 : Int32)), .val (.int i118), .val (.int i123), .val (.ref b125), .val (.ref b152), .val (.double (0 : UInt64)), .second, .unset, .unset] [(.int (1 : Int32))])) _
      refine XS.goto X204.here hx rfl (pc0 := 251) (pc' := 255) rfl (hb hby at_251) (by decide) (by decide) ?_
      exact k)
    obtain ⟨fs, hr, hrun, hended, hW, hsame⟩ := X204.leave (v := some (.int (1 : Int32))) (fun h => by rw [Bd.returns] at h; cases h)
    refine ⟨_, _, k207 _ (retOut X204 hx (t := .boolean) Bd.returns rfl (Or.inl ⟨rfl, Or.inr (Or.inl rfl), _, rfl⟩) (hb hby at_255) hr), hrun, hended, _, _, rfl, ?_, ⟨_, rfl⟩, hW, hsame.mono (by decide) (by decide)⟩
    show Q_rm0 Z g1 g2 g3 g4 g5 g6 cs h0 n0 _ T204.heap _
    rw [e204]
    exact ⟨rfl, N205⟩
  · have k208 : ∀ t, Steps p.tables e below (s₁.setTop (mkF m 82 #[.val (.int g1), .val (.int g2), .val (.int g3), .val (.int g4), .val (.int g5), .val (.int g6), .val (.int r1), .val (.int (1 : Int32)), .val (.long r2), .second, .val (.long r3), .second, .unset, .unset, .unset, .unset, .unset, .unset, .unset, .unset, .unset, .unset] [(.int (1 : Int32))])) t → Steps p.tables e below (s₁.setTop (entryFrame m #[(.int g1), (.int g2), (.int g3), (.int g4), (.int g5), (.int g6)] maxLocals)) t := fun t k => k106 t (by
      show Steps p.tables e below (s₁.setTop (mkF m 59 #[.val (.int g1), .val (.int g2), .val (.int g3), .val (.int g4), .val (.int g5), .val (.int g6), .val (.int r1), .val (.int (1 : Int32)), .val (.long r2), .second, .val (.long r3), .second, .unset, .unset, .unset, .unset, .unset, .unset, .unset, .unset, .unset, .unset] [])) _
      refine XS.iload X0.here hx rfl (hb hby at_59) rfl ?_
      show Steps p.tables e below (s₁.setTop (mkF m 61 #[.val (.int g1), .val (.int g2), .val (.int g3), .val (.int g4), .val (.int g5), .val (.int g6), .val (.int r1), .val (.int (1 : Int32)), .val (.long r2), .second, .val (.long r3), .second, .unset, .unset, .unset, .unset, .unset, .unset, .unset, .unset, .unset, .unset] [(.int (1 : Int32))])) _
      refine XS.ifYes X0.here hx rfl (pc0 := 61) (pc' := 75) rfl (hb hby at_61) rfl ((if0 _ _).trans (feq (by decide)).2) (by decide) (by decide) ?_
      show Steps p.tables e below (s₁.setTop (mkF m 75 #[.val (.int g1), .val (.int g2), .val (.int g3), .val (.int g4), .val (.int g5), .val (.int g6), .val (.int r1), .val (.int (1 : Int32)), .val (.long r2), .second, .val (.long r3), .second, .unset, .unset, .unset, .unset, .unset, .unset, .unset, .unset, .unset, .unset] [])) _
      refine XS.iload X0.here hx rfl (hb hby at_75) rfl ?_
      show Steps p.tables e below (s₁.setTop (mkF m 77 #[.val (.int g1), .val (.int g2), .val (.int g3), .val (.int g4), .val (.int g5), .val (.int g6), .val (.int r1), .val (.int (1 : Int32)), .val (.long r2), .second, .val (.long r3), .second, .unset, .unset, .unset, .unset, .unset, .unset, .unset, .unset, .unset, .unset] [(.int (1 : Int32))])) _
      refine XS.iconst X0.here hx rfl (hb hby at_77) ?_
      show Steps p.tables e below (s₁.setTop (mkF m 78 #[.val (.int g1), .val (.int g2), .val (.int g3), .val (.int g4), .val (.int g5), .val (.int g6), .val (.int r1), .val (.int (1 : Int32)), .val (.long r2), .second, .val (.long r3), .second, .unset, .unset, .unset, .unset, .unset, .unset, .unset, .unset, .unset, .unset] [(.int (1 : Int32)), (.int (1 : Int32))])) _
      refine XS.icmpNo X0.here hx rfl (hb hby at_78) rfl (teq (by decide)).2 ?_
      show Steps p.tables e below (s₁.setTop (mkF m 81 #[.val (.int g1), .val (.int g2), .val (.int g3), .val (.int g4), .val (.int g5), .val (.int g6), .val (.int r1), .val (.int (1 : Int32)), .val (.long r2), .second, .val (.long r3), .second, .unset, .unset, .unset, .unset, .unset, .unset, .unset, .unset, .unset, .unset] [])) _
      refine XS.iconst X0.here hx rfl (hb hby at_81) ?_
      exact k)
    obtain ⟨T209, h209, k209, X209, e209, E209, A209, st209⟩ := newP X0 hx hZ (hw _ (List.mem_of_getElem? (i := 2) rfl)) e0 (g := (mkF m 82 #[.val (.int g1), .val (.int g2), .val (.int g3), .val (.int g4), .val (.int g5), .val (.int g6), .val (.int r1), .val (.int (1 : Int32)), .val (.long r2), .second, .val (.long r3), .second, .unset, .unset, .unset, .unset, .unset, .unset, .unset, .unset, .unset, .unset] [(.int (1 : Int32))])) rfl (hb hby at_82) rfl (by decide) (cap := 1) (by decide) (by decide) (by decide) (by decide)
    obtain ⟨b209, g209⟩ : ∃ z, z = h0.size := ⟨_, rfl⟩
    rw [← g209] at A209 st209
    have g210 : n0 ≤ b209 := Nat.le_trans Z0 (Nat.le_of_eq g209.symm)
    have F211 := Scs.ext E209
    have Z212 : n0 ≤ h209.size := Nat.le_trans Z0 E209.1
    have V213 : Arv Z h209 b209 k209 .int (1 : Int32) [(.int (0 : Int32))] (.int (0 : Int32)) := (Arv.new A209 (by decide)).pad (pad_rep [] (.int (0 : Int32)) 1)
    have k214 : ∀ t, Steps p.tables e below (T209.setTop (mkF m 84 #[.val (.int g1), .val (.int g2), .val (.int g3), .val (.int g4), .val (.int g5), .val (.int g6), .val (.int r1), .val (.int (1 : Int32)), .val (.long r2), .second, .val (.long r3), .second, .unset, .unset, .unset, .unset, .unset, .unset, .unset, .unset, .unset, .unset] [(.ref b209)])) t → Steps p.tables e below (s₁.setTop (entryFrame m #[(.int g1), (.int g2), (.int g3), (.int g4), (.int g5), (.int g6)] maxLocals)) t := fun t k => k208 t (st209 t k)
    have k215 : ∀ t, Steps p.tables e below (T209.setTop (mkF m 88 #[.val (.int g1), .val (.int g2), .val (.int g3), .val (.int g4), .val (.int g5), .val (.int g6), .val (.int r1), .val (.int (1 : Int32)), .val (.long r2), .second, .val (.long r3), .second, .unset, .unset, .unset, .unset, .unset, .unset, .unset, .unset, .unset, .unset] [(.int r1), (.int (0 : Int32)), (.ref b209), (.ref b209)])) t → Steps p.tables e below (s₁.setTop (entryFrame m #[(.int g1), (.int g2), (.int g3), (.int g4), (.int g5), (.int g6)] maxLocals)) t := fun t k => k214 t (by
      show Steps p.tables e below (T209.setTop (mkF m 84 #[.val (.int g1), .val (.int g2), .val (.int g3), .val (.int g4), .val (.int g5), .val (.int g6), .val (.int r1), .val (.int (1 : Int32)), .val (.long r2), .second, .val (.long r3), .second, .unset, .unset, .unset, .unset, .unset, .unset, .unset, .unset, .unset, .unset] [(.ref b209)])) _
      refine XS.dup X209.here hx rfl (hb hby at_84) rfl rfl ?_
      show Steps p.tables e below (T209.setTop (mkF m 85 #[.val (.int g1), .val (.int g2), .val (.int g3), .val (.int g4), .val (.int g5), .val (.int g6), .val (.int r1), .val (.int (1 : Int32)), .val (.long r2), .second, .val (.long r3), .second, .unset, .unset, .unset, .unset, .unset, .unset, .unset, .unset, .unset, .unset] [(.ref b209), (.ref b209)])) _
      refine XS.iconst X209.here hx rfl (hb hby at_85) ?_
      show Steps p.tables e below (T209.setTop (mkF m 86 #[.val (.int g1), .val (.int g2), .val (.int g3), .val (.int g4), .val (.int g5), .val (.int g6), .val (.int r1), .val (.int (1 : Int32)), .val (.long r2), .second, .val (.long r3), .second, .unset, .unset, .unset, .unset, .unset, .unset, .unset, .unset, .unset, .unset] [(.int (0 : Int32)), (.ref b209), (.ref b209)])) _
      refine XS.iload X209.here hx rfl (hb hby at_86) rfl ?_
      exact k)
    obtain ⟨c216, Ar216, Aq216, As216, An216, Ah216, Ag216⟩ := id V213
    have hin216 : ¬ ((0 : Int32) < 0 ∨ c216.slots.size ≤ ((0 : Int32)).toNatClampNeg) := inb_of As216 ⟨by decide, by decide⟩
    obtain ⟨T216, h216, X216, e216, W216, st216⟩ := stI X209 hx hZ e209 Ar216 (j := (0 : Int32)) hin216 (g := (mkF m 88 #[.val (.int g1), .val (.int g2), .val (.int g3), .val (.int g4), .val (.int g5), .val (.int g6), .val (.int r1), .val (.int (1 : Int32)), .val (.long r2), .second, .val (.long r3), .second, .unset, .unset, .unset, .unset, .unset, .unset, .unset, .unset, .unset, .unset] [(.int r1), (.int (0 : Int32)), (.ref b209), (.ref b209)])) rfl rfl (hb hby at_88)
    have V217 := Arv.set Ar216 Aq216 As216 An216 Ah216 Ag216 rfl W216 0 rfl (Nat.le_of_ble_eq_true rfl)
    have F218 := F211.wr W216
    have Z219 : n0 ≤ h216.size := Nat.le_trans Z212 (Nat.le_of_eq W216.size.symm)
    have N220 := Fr.snoc X216 N0 g210
    have k221 : ∀ t, Steps p.tables e below (T216.setTop (mkF m 89 #[.val (.int g1), .val (.int g2), .val (.int g3), .val (.int g4), .val (.int g5), .val (.int g6), .val (.int r1), .val (.int (1 : Int32)), .val (.long r2), .second, .val (.long r3), .second, .unset, .unset, .unset, .unset, .unset, .unset, .unset, .unset, .unset, .unset] [(.ref b209)])) t → Steps p.tables e below (s₁.setTop (entryFrame m #[(.int g1), (.int g2), (.int g3), (.int g4), (.int g5), (.int g6)] maxLocals)) t := fun t k => k215 t (st216 t k)
    have k222 : ∀ t, Steps p.tables e below (T216.setTop (mkF m 162 #[.val (.int g1), .val (.int g2), .val (.int g3), .val (.int g4), .val (.int g5), .val (.int g6), .val (.int r1), .val (.int (1 : Int32)), .val (.long r2), .second, .val (.long r3), .second, .val (.ref b209), .val (.int r1), .unset, .unset, .unset, .unset, .unset, .unset, .unset, .unset] [(.int (g5 &&& (2147483647 : Int32))), (.int r1)])) t → Steps p.tables e below (s₁.setTop (entryFrame m #[(.int g1), (.int g2), (.int g3), (.int g4), (.int g5), (.int g6)] maxLocals)) t := fun t k => k221 t (by
      show Steps p.tables e below (T216.setTop (mkF m 89 #[.val (.int g1), .val (.int g2), .val (.int g3), .val (.int g4), .val (.int g5), .val (.int g6), .val (.int r1), .val (.int (1 : Int32)), .val (.long r2), .second, .val (.long r3), .second, .unset, .unset, .unset, .unset, .unset, .unset, .unset, .unset, .unset, .unset] [(.ref b209)])) _
      refine XS.astore X216.here hx rfl (hb hby at_89) rfl rfl (l' := #[.val (.int g1), .val (.int g2), .val (.int g3), .val (.int g4), .val (.int g5), .val (.int g6), .val (.int r1), .val (.int (1 : Int32)), .val (.long r2), .second, .val (.long r3), .second, .val (.ref b209), .unset, .unset, .unset, .unset, .unset, .unset, .unset, .unset, .unset]) rfl ?_
      show Steps p.tables e below (T216.setTop (mkF m 91 #[.val (.int g1), .val (.int g2), .val (.int g3), .val (.int g4), .val (.int g5), .val (.int g6), .val (.int r1), .val (.int (1 : Int32)), .val (.long r2), .second, .val (.long r3), .second, .val (.ref b209), .unset, .unset, .unset, .unset, .unset, .unset, .unset, .unset, .unset] [])) _
      refine XS.iload X216.here hx rfl (hb hby at_91) rfl ?_
      show Steps p.tables e below (T216.setTop (mkF m 93 #[.val (.int g1), .val (.int g2), .val (.int g3), .val (.int g4), .val (.int g5), .val (.int g6), .val (.int r1), .val (.int (1 : Int32)), .val (.long r2), .second, .val (.long r3), .second, .val (.ref b209), .unset, .unset, .unset, .unset, .unset, .unset, .unset, .unset, .unset] [(.int r1)])) _
      refine XS.istore X216.here hx rfl (hb hby at_93) rfl (l' := #[.val (.int g1), .val (.int g2), .val (.int g3), .val (.int g4), .val (.int g5), .val (.int g6), .val (.int r1), .val (.int (1 : Int32)), .val (.long r2), .second, .val (.long r3), .second, .val (.ref b209), .val (.int r1), .unset, .unset, .unset, .unset, .unset, .unset, .unset, .unset]) rfl ?_
      show Steps p.tables e below (T216.setTop (mkF m 95 #[.val (.int g1), .val (.int g2), .val (.int g3), .val (.int g4), .val (.int g5), .val (.int g6), .val (.int r1), .val (.int (1 : Int32)), .val (.long r2), .second, .val (.long r3), .second, .val (.ref b209), .val (.int r1), .unset, .unset, .unset, .unset, .unset, .unset, .unset, .unset] [])) _
      refine XS.goto X216.here hx rfl (pc0 := 95) (pc' := 155) rfl (hb hby at_95) (by decide) (by decide) ?_
      show Steps p.tables e below (T216.setTop (mkF m 155 #[.val (.int g1), .val (.int g2), .val (.int g3), .val (.int g4), .val (.int g5), .val (.int g6), .val (.int r1), .val (.int (1 : Int32)), .val (.long r2), .second, .val (.long r3), .second, .val (.ref b209), .val (.int r1), .unset, .unset, .unset, .unset, .unset, .unset, .unset, .unset] [])) _
      refine XS.iload X216.here hx rfl (hb hby at_155) rfl ?_
      show Steps p.tables e below (T216.setTop (mkF m 157 #[.val (.int g1), .val (.int g2), .val (.int g3), .val (.int g4), .val (.int g5), .val (.int g6), .val (.int r1), .val (.int (1 : Int32)), .val (.long r2), .second, .val (.long r3), .second, .val (.ref b209), .val (.int r1), .unset, .unset, .unset, .unset, .unset, .unset, .unset, .unset] [(.int r1)])) _
      refine XS.iload X216.here hx rfl (hb hby at_157) rfl ?_
      show Steps p.tables e below (T216.setTop (mkF m 159 #[.val (.int g1), .val (.int g2), .val (.int g3), .val (.int g4), .val (.int g5), .val (.int g6), .val (.int r1), .val (.int (1 : Int32)), .val (.long r2), .second, .val (.long r3), .second, .val (.ref b209), .val (.int r1), .unset, .unset, .unset, .unset, .unset, .unset, .unset, .unset] [(.int g5), (.int r1)])) _
      refine X216.ldcInt hx hown (mvT hZ (hw _ (List.mem_of_getElem? (i := 0) rfl))) (g := (mkF m 159 #[.val (.int g1), .val (.int g2), .val (.int g3), .val (.int g4), .val (.int g5), .val (.int g6), .val (.int r1), .val (.int (1 : Int32)), .val (.long r2), .second, .val (.long r3), .second, .val (.ref b209), .val (.int r1), .unset, .unset, .unset, .unset, .unset, .unset, .unset, .unset] [(.int g5), (.int r1)])) rfl (hb hby at_159) _ ?_
      show Steps p.tables e below (T216.setTop (mkF m 161 #[.val (.int g1), .val (.int g2), .val (.int g3), .val (.int g4), .val (.int g5), .val (.int g6), .val (.int r1), .val (.int (1 : Int32)), .val (.long r2), .second, .val (.long r3), .second, .val (.ref b209), .val (.int r1), .unset, .unset, .unset, .unset, .unset, .unset, .unset, .unset] [(.int (2147483647 : Int32)), (.int g5), (.int r1)])) _
      refine XS.iand X216.here hx rfl (hb hby at_161) rfl ?_
      exact k)
    obtain ⟨_, _, ⟨T223, L223, k223, n223⟩, -, X223, ⟨Lc223, hQ223, l223, y223, z223⟩, st223⟩ := Jvm.LawKit.callS X216 hx (y := (⟨"java/lang/Math", "max", "(II)I"⟩ : MethodName)) hown (mvT hZ (hw _ (List.mem_of_getElem? (i := 3) rfl))) (mvT hZ (hw _ (List.mem_of_getElem? (i := 4) rfl))) (mvT hZ (hw _ (List.mem_of_getElem? (i := 5) rfl))) (mvT hZ (hw _ (List.mem_of_getElem? (i := 6) rfl))) (by decide) (backOf (W := 0) (rm1 l Z a0 hw [] r1 (g5 &&& (2147483647 : Int32)) h216 n0 Z219 ) hZ (hw _ (List.mem_of_getElem? (i := 6) rfl)) (hw _ (List.mem_of_getElem? (i := 5) rfl)) (by decide) (by decide)) (g := (mkF m 162 #[.val (.int g1), .val (.int g2), .val (.int g3), .val (.int g4), .val (.int g5), .val (.int g6), .val (.int r1), .val (.int (1 : Int32)), .val (.long r2), .second, .val (.long r3), .second, .val (.ref b209), .val (.int r1), .unset, .unset, .unset, .unset, .unset, .unset, .unset, .unset] [(.int (g5 &&& (2147483647 : Int32))), (.int r1)])) rfl (by rw [hml]; rfl) (argsL := [(.int r1), (.int (g5 &&& (2147483647 : Int32)))]) (rest := []) (lenOf pd__28II_29I rfl) rfl (by show 2 * 0 + _ ≤ _; exact Nat.le_of_eq rfl) (hb hby at_162) (fun _ _ => ⟨rfl, e216, (by decide : 1 + 0 ≤ _), (by decide : 1 + 0 ≤ _)⟩)
    dsimp only [Pt.U, Pt.locs, Pt.cells, Pt.slots] at X223 l223 y223 z223 st223 hQ223
    subst l223 y223 z223
    obtain ⟨rfl, N223q, e223⟩ := hQ223
    have N224 := Fr.app N220 N223q
    have k225 : ∀ t, Steps p.tables e below (T223.setTop (mkF m 165 #[.val (.int g1), .val (.int g2), .val (.int g3), .val (.int g4), .val (.int g5), .val (.int g6), .val (.int r1), .val (.int (1 : Int32)), .val (.long r2), .second, .val (.long r3), .second, .val (.ref b209), .val (.int r1), .unset, .unset, .unset, .unset, .unset, .unset, .unset, .unset] [(.int (if r1 < (g5 &&& (2147483647 : Int32)) then (g5 &&& (2147483647 : Int32)) else r1))])) t → Steps p.tables e below (s₁.setTop (entryFrame m #[(.int g1), (.int g2), (.int g3), (.int g4), (.int g5), (.int g6)] maxLocals)) t := fun t k => k222 t (st223 t k)
    obtain ⟨i226, hi226⟩ : ∃ z : Int32, z = (if r1 < (g5 &&& (2147483647 : Int32)) then (g5 &&& (2147483647 : Int32)) else r1) := ⟨_, rfl⟩
    have k227 : ∀ t, Steps p.tables e below (T223.setTop (mkF m 174 #[.val (.int g1), .val (.int g2), .val (.int g3), .val (.int g4), .val (.int g5), .val (.int g6), .val (.int r1), .val (.int (1 : Int32)), .val (.long r2), .second, .val (.long r3), .second, .val (.ref b209), .val (.int r1), .val (.int i226), .unset, .unset, .unset, .unset, .unset, .unset, .unset] [(.int (g6 &&& (2147483647 : Int32))), (.int (1 : Int32))])) t → Steps p.tables e below (s₁.setTop (entryFrame m #[(.int g1), (.int g2), (.int g3), (.int g4), (.int g5), (.int g6)] maxLocals)) t := fun t k => k225 t (by
      show Steps p.tables e below (T223.setTop (mkF m 165 #[.val (.int g1), .val (.int g2), .val (.int g3), .val (.int g4), .val (.int g5), .val (.int g6), .val (.int r1), .val (.int (1 : Int32)), .val (.long r2), .second, .val (.long r3), .second, .val (.ref b209), .val (.int r1), .unset, .unset, .unset, .unset, .unset, .unset, .unset, .unset] [(.int (if r1 < (g5 &&& (2147483647 : Int32)) then (g5 &&& (2147483647 : Int32)) else r1))])) _
      refine castTop (g' := (mkF m 165 #[.val (.int g1), .val (.int g2), .val (.int g3), .val (.int g4), .val (.int g5), .val (.int g6), .val (.int r1), .val (.int (1 : Int32)), .val (.long r2), .second, .val (.long r3), .second, .val (.ref b209), .val (.int r1), .unset, .unset, .unset, .unset, .unset, .unset, .unset, .unset] [(.int i226)])) (by rw [hi226]) ?_
      show Steps p.tables e below (T223.setTop (mkF m 165 #[.val (.int g1), .val (.int g2), .val (.int g3), .val (.int g4), .val (.int g5), .val (.int g6), .val (.int r1), .val (.int (1 : Int32)), .val (.long r2), .second, .val (.long r3), .second, .val (.ref b209), .val (.int r1), .unset, .unset, .unset, .unset, .unset, .unset, .unset, .unset] [(.int i226)])) _
      refine XS.istore X223.here hx rfl (hb hby at_165) rfl (l' := #[.val (.int g1), .val (.int g2), .val (.int g3), .val (.int g4), .val (.int g5), .val (.int g6), .val (.int r1), .val (.int (1 : Int32)), .val (.long r2), .second, .val (.long r3), .second, .val (.ref b209), .val (.int r1), .val (.int i226), .unset, .unset, .unset, .unset, .unset, .unset, .unset]) rfl ?_
      show Steps p.tables e below (T223.setTop (mkF m 167 #[.val (.int g1), .val (.int g2), .val (.int g3), .val (.int g4), .val (.int g5), .val (.int g6), .val (.int r1), .val (.int (1 : Int32)), .val (.long r2), .second, .val (.long r3), .second, .val (.ref b209), .val (.int r1), .val (.int i226), .unset, .unset, .unset, .unset, .unset, .unset, .unset] [])) _
      refine XS.iload X223.here hx rfl (hb hby at_167) rfl ?_
      show Steps p.tables e below (T223.setTop (mkF m 169 #[.val (.int g1), .val (.int g2), .val (.int g3), .val (.int g4), .val (.int g5), .val (.int g6), .val (.int r1), .val (.int (1 : Int32)), .val (.long r2), .second, .val (.long r3), .second, .val (.ref b209), .val (.int r1), .val (.int i226), .unset, .unset, .unset, .unset, .unset, .unset, .unset] [(.int (1 : Int32))])) _
      refine XS.iload X223.here hx rfl (hb hby at_169) rfl ?_
      show Steps p.tables e below (T223.setTop (mkF m 171 #[.val (.int g1), .val (.int g2), .val (.int g3), .val (.int g4), .val (.int g5), .val (.int g6), .val (.int r1), .val (.int (1 : Int32)), .val (.long r2), .second, .val (.long r3), .second, .val (.ref b209), .val (.int r1), .val (.int i226), .unset, .unset, .unset, .unset, .unset, .unset, .unset] [(.int g6), (.int (1 : Int32))])) _
      refine X223.ldcInt hx hown (mvT hZ (hw _ (List.mem_of_getElem? (i := 0) rfl))) (g := (mkF m 171 #[.val (.int g1), .val (.int g2), .val (.int g3), .val (.int g4), .val (.int g5), .val (.int g6), .val (.int r1), .val (.int (1 : Int32)), .val (.long r2), .second, .val (.long r3), .second, .val (.ref b209), .val (.int r1), .val (.int i226), .unset, .unset, .unset, .unset, .unset, .unset, .unset] [(.int g6), (.int (1 : Int32))])) rfl (hb hby at_171) _ ?_
      show Steps p.tables e below (T223.setTop (mkF m 173 #[.val (.int g1), .val (.int g2), .val (.int g3), .val (.int g4), .val (.int g5), .val (.int g6), .val (.int r1), .val (.int (1 : Int32)), .val (.long r2), .second, .val (.long r3), .second, .val (.ref b209), .val (.int r1), .val (.int i226), .unset, .unset, .unset, .unset, .unset, .unset, .unset] [(.int (2147483647 : Int32)), (.int g6), (.int (1 : Int32))])) _
      refine XS.iand X223.here hx rfl (hb hby at_173) rfl ?_
      exact k)
    obtain ⟨_, _, ⟨T228, L228, k228, n228⟩, -, X228, ⟨Lc228, hQ228, l228, y228, z228⟩, st228⟩ := Jvm.LawKit.callS X223 hx (y := (⟨"java/lang/Math", "max", "(II)I"⟩ : MethodName)) hown (mvT hZ (hw _ (List.mem_of_getElem? (i := 3) rfl))) (mvT hZ (hw _ (List.mem_of_getElem? (i := 4) rfl))) (mvT hZ (hw _ (List.mem_of_getElem? (i := 5) rfl))) (mvT hZ (hw _ (List.mem_of_getElem? (i := 6) rfl))) (by decide) (backOf (W := 0) (rm1 l Z a0 hw [] (1 : Int32) (g6 &&& (2147483647 : Int32)) h216 n0 Z219 ) hZ (hw _ (List.mem_of_getElem? (i := 6) rfl)) (hw _ (List.mem_of_getElem? (i := 5) rfl)) (by decide) (by decide)) (g := (mkF m 174 #[.val (.int g1), .val (.int g2), .val (.int g3), .val (.int g4), .val (.int g5), .val (.int g6), .val (.int r1), .val (.int (1 : Int32)), .val (.long r2), .second, .val (.long r3), .second, .val (.ref b209), .val (.int r1), .val (.int i226), .unset, .unset, .unset, .unset, .unset, .unset, .unset] [(.int (g6 &&& (2147483647 : Int32))), (.int (1 : Int32))])) rfl (by rw [hml]; rfl) (argsL := [(.int (1 : Int32)), (.int (g6 &&& (2147483647 : Int32)))]) (rest := []) (lenOf pd__28II_29I rfl) rfl (by show 2 * 0 + _ ≤ _; exact Nat.le_of_eq rfl) (hb hby at_174) (fun _ _ => ⟨rfl, e223, (by decide : 1 + 0 ≤ _), (by decide : 1 + 0 ≤ _)⟩)
    dsimp only [Pt.U, Pt.locs, Pt.cells, Pt.slots] at X228 l228 y228 z228 st228 hQ228
    subst l228 y228 z228
    obtain ⟨rfl, N228q, e228⟩ := hQ228
    have N229 := Fr.app N224 N228q
    have k230 : ∀ t, Steps p.tables e below (T228.setTop (mkF m 177 #[.val (.int g1), .val (.int g2), .val (.int g3), .val (.int g4), .val (.int g5), .val (.int g6), .val (.int r1), .val (.int (1 : Int32)), .val (.long r2), .second, .val (.long r3), .second, .val (.ref b209), .val (.int r1), .val (.int i226), .unset, .unset, .unset, .unset, .unset, .unset, .unset] [(.int (if (1 : Int32) < (g6 &&& (2147483647 : Int32)) then (g6 &&& (2147483647 : Int32)) else (1 : Int32)))])) t → Steps p.tables e below (s₁.setTop (entryFrame m #[(.int g1), (.int g2), (.int g3), (.int g4), (.int g5), (.int g6)] maxLocals)) t := fun t k => k227 t (st228 t k)
    obtain ⟨i231, hi231⟩ : ∃ z : Int32, z = (if (1 : Int32) < (g6 &&& (2147483647 : Int32)) then (g6 &&& (2147483647 : Int32)) else (1 : Int32)) := ⟨_, rfl⟩
    have k232 : ∀ t, Steps p.tables e below (T228.setTop (mkF m 180 #[.val (.int g1), .val (.int g2), .val (.int g3), .val (.int g4), .val (.int g5), .val (.int g6), .val (.int r1), .val (.int (1 : Int32)), .val (.long r2), .second, .val (.long r3), .second, .val (.ref b209), .val (.int r1), .val (.int i226), .val (.int i231), .unset, .unset, .unset, .unset, .unset, .unset] [(.int (2 : Int32))])) t → Steps p.tables e below (s₁.setTop (entryFrame m #[(.int g1), (.int g2), (.int g3), (.int g4), (.int g5), (.int g6)] maxLocals)) t := fun t k => k230 t (by
      show Steps p.tables e below (T228.setTop (mkF m 177 #[.val (.int g1), .val (.int g2), .val (.int g3), .val (.int g4), .val (.int g5), .val (.int g6), .val (.int r1), .val (.int (1 : Int32)), .val (.long r2), .second, .val (.long r3), .second, .val (.ref b209), .val (.int r1), .val (.int i226), .unset, .unset, .unset, .unset, .unset, .unset, .unset] [(.int (if (1 : Int32) < (g6 &&& (2147483647 : Int32)) then (g6 &&& (2147483647 : Int32)) else (1 : Int32)))])) _
      refine castTop (g' := (mkF m 177 #[.val (.int g1), .val (.int g2), .val (.int g3), .val (.int g4), .val (.int g5), .val (.int g6), .val (.int r1), .val (.int (1 : Int32)), .val (.long r2), .second, .val (.long r3), .second, .val (.ref b209), .val (.int r1), .val (.int i226), .unset, .unset, .unset, .unset, .unset, .unset, .unset] [(.int i231)])) (by rw [hi231]) ?_
      show Steps p.tables e below (T228.setTop (mkF m 177 #[.val (.int g1), .val (.int g2), .val (.int g3), .val (.int g4), .val (.int g5), .val (.int g6), .val (.int r1), .val (.int (1 : Int32)), .val (.long r2), .second, .val (.long r3), .second, .val (.ref b209), .val (.int r1), .val (.int i226), .unset, .unset, .unset, .unset, .unset, .unset, .unset] [(.int i231)])) _
      refine XS.istore X228.here hx rfl (hb hby at_177) rfl (l' := #[.val (.int g1), .val (.int g2), .val (.int g3), .val (.int g4), .val (.int g5), .val (.int g6), .val (.int r1), .val (.int (1 : Int32)), .val (.long r2), .second, .val (.long r3), .second, .val (.ref b209), .val (.int r1), .val (.int i226), .val (.int i231), .unset, .unset, .unset, .unset, .unset, .unset]) rfl ?_
      show Steps p.tables e below (T228.setTop (mkF m 179 #[.val (.int g1), .val (.int g2), .val (.int g3), .val (.int g4), .val (.int g5), .val (.int g6), .val (.int r1), .val (.int (1 : Int32)), .val (.long r2), .second, .val (.long r3), .second, .val (.ref b209), .val (.int r1), .val (.int i226), .val (.int i231), .unset, .unset, .unset, .unset, .unset, .unset] [])) _
      refine XS.iconst X228.here hx rfl (hb hby at_179) ?_
      exact k)
    obtain ⟨T233, h233, k233, X233, e233, E233, A233, st233⟩ := newP X228 hx hZ (hw _ (List.mem_of_getElem? (i := 7) rfl)) e228 (g := (mkF m 180 #[.val (.int g1), .val (.int g2), .val (.int g3), .val (.int g4), .val (.int g5), .val (.int g6), .val (.int r1), .val (.int (1 : Int32)), .val (.long r2), .second, .val (.long r3), .second, .val (.ref b209), .val (.int r1), .val (.int i226), .val (.int i231), .unset, .unset, .unset, .unset, .unset, .unset] [(.int (2 : Int32))])) rfl (hb hby at_180) rfl (by decide) (cap := 2) (by decide) (by decide) (by decide) (by decide)
    obtain ⟨b233, g233⟩ : ∃ z, z = h216.size := ⟨_, rfl⟩
    rw [← g233] at A233 st233
    have n234 : b209 ≠ b233 := Nat.ne_of_lt (Nat.lt_of_lt_of_le V217.lt (Nat.le_of_eq g233.symm))
    have g235 : n0 ≤ b233 := Nat.le_trans Z219 (Nat.le_of_eq g233.symm)
    have F236 := F218.ext E233
    have F237 := V217.ext E233
    have Z238 : n0 ≤ h233.size := Nat.le_trans Z219 E233.1
    have V239 : Arv Z h233 b233 k233 .char (2 : Int32) [(.int (0 : Int32)), (.int (0 : Int32))] (.int (0 : Int32)) := (Arv.new A233 (by decide)).pad (pad_rep [] (.int (0 : Int32)) 2)
    have k240 : ∀ t, Steps p.tables e below (T233.setTop (mkF m 182 #[.val (.int g1), .val (.int g2), .val (.int g3), .val (.int g4), .val (.int g5), .val (.int g6), .val (.int r1), .val (.int (1 : Int32)), .val (.long r2), .second, .val (.long r3), .second, .val (.ref b209), .val (.int r1), .val (.int i226), .val (.int i231), .unset, .unset, .unset, .unset, .unset, .unset] [(.ref b233)])) t → Steps p.tables e below (s₁.setTop (entryFrame m #[(.int g1), (.int g2), (.int g3), (.int g4), (.int g5), (.int g6)] maxLocals)) t := fun t k => k232 t (st233 t k)
    have k241 : ∀ t, Steps p.tables e below (T233.setTop (mkF m 192 #[.val (.int g1), .val (.int g2), .val (.int g3), .val (.int g4), .val (.int g5), .val (.int g6), .val (.int r1), .val (.int (1 : Int32)), .val (.long r2), .second, .val (.long r3), .second, .val (.ref b209), .val (.int r1), .val (.int i226), .val (.int i231), .unset, .unset, .unset, .unset, .unset, .unset] [(.int ((((g4.toUInt32 >>> ((2 : Int32) &&& 31).toUInt32).toInt32) &&& (255 : Int32)).toUInt32.toUInt16.toUInt32.toInt32)), (.int (0 : Int32)), (.ref b233), (.ref b233)])) t → Steps p.tables e below (s₁.setTop (entryFrame m #[(.int g1), (.int g2), (.int g3), (.int g4), (.int g5), (.int g6)] maxLocals)) t := fun t k => k240 t (by
      show Steps p.tables e below (T233.setTop (mkF m 182 #[.val (.int g1), .val (.int g2), .val (.int g3), .val (.int g4), .val (.int g5), .val (.int g6), .val (.int r1), .val (.int (1 : Int32)), .val (.long r2), .second, .val (.long r3), .second, .val (.ref b209), .val (.int r1), .val (.int i226), .val (.int i231), .unset, .unset, .unset, .unset, .unset, .unset] [(.ref b233)])) _
      refine XS.dup X233.here hx rfl (hb hby at_182) rfl rfl ?_
      show Steps p.tables e below (T233.setTop (mkF m 183 #[.val (.int g1), .val (.int g2), .val (.int g3), .val (.int g4), .val (.int g5), .val (.int g6), .val (.int r1), .val (.int (1 : Int32)), .val (.long r2), .second, .val (.long r3), .second, .val (.ref b209), .val (.int r1), .val (.int i226), .val (.int i231), .unset, .unset, .unset, .unset, .unset, .unset] [(.ref b233), (.ref b233)])) _
      refine XS.iconst X233.here hx rfl (hb hby at_183) ?_
      show Steps p.tables e below (T233.setTop (mkF m 184 #[.val (.int g1), .val (.int g2), .val (.int g3), .val (.int g4), .val (.int g5), .val (.int g6), .val (.int r1), .val (.int (1 : Int32)), .val (.long r2), .second, .val (.long r3), .second, .val (.ref b209), .val (.int r1), .val (.int i226), .val (.int i231), .unset, .unset, .unset, .unset, .unset, .unset] [(.int (0 : Int32)), (.ref b233), (.ref b233)])) _
      refine XS.iloadN X233.here hx rfl (hb hby at_184) rfl ?_
      show Steps p.tables e below (T233.setTop (mkF m 185 #[.val (.int g1), .val (.int g2), .val (.int g3), .val (.int g4), .val (.int g5), .val (.int g6), .val (.int r1), .val (.int (1 : Int32)), .val (.long r2), .second, .val (.long r3), .second, .val (.ref b209), .val (.int r1), .val (.int i226), .val (.int i231), .unset, .unset, .unset, .unset, .unset, .unset] [(.int g4), (.int (0 : Int32)), (.ref b233), (.ref b233)])) _
      refine XS.iconst X233.here hx rfl (hb hby at_185) ?_
      show Steps p.tables e below (T233.setTop (mkF m 186 #[.val (.int g1), .val (.int g2), .val (.int g3), .val (.int g4), .val (.int g5), .val (.int g6), .val (.int r1), .val (.int (1 : Int32)), .val (.long r2), .second, .val (.long r3), .second, .val (.ref b209), .val (.int r1), .val (.int i226), .val (.int i231), .unset, .unset, .unset, .unset, .unset, .unset] [(.int (2 : Int32)), (.int g4), (.int (0 : Int32)), (.ref b233), (.ref b233)])) _
      refine XS.iushr X233.here hx rfl (hb hby at_186) rfl ?_
      show Steps p.tables e below (T233.setTop (mkF m 187 #[.val (.int g1), .val (.int g2), .val (.int g3), .val (.int g4), .val (.int g5), .val (.int g6), .val (.int r1), .val (.int (1 : Int32)), .val (.long r2), .second, .val (.long r3), .second, .val (.ref b209), .val (.int r1), .val (.int i226), .val (.int i231), .unset, .unset, .unset, .unset, .unset, .unset] [(.int ((g4.toUInt32 >>> ((2 : Int32) &&& 31).toUInt32).toInt32)), (.int (0 : Int32)), (.ref b233), (.ref b233)])) _
      refine XS.sipush X233.here hx rfl (hb hby at_187) ?_
      show Steps p.tables e below (T233.setTop (mkF m 190 #[.val (.int g1), .val (.int g2), .val (.int g3), .val (.int g4), .val (.int g5), .val (.int g6), .val (.int r1), .val (.int (1 : Int32)), .val (.long r2), .second, .val (.long r3), .second, .val (.ref b209), .val (.int r1), .val (.int i226), .val (.int i231), .unset, .unset, .unset, .unset, .unset, .unset] [(.int (255 : Int32)), (.int ((g4.toUInt32 >>> ((2 : Int32) &&& 31).toUInt32).toInt32)), (.int (0 : Int32)), (.ref b233), (.ref b233)])) _
      refine XS.iand X233.here hx rfl (hb hby at_190) rfl ?_
      show Steps p.tables e below (T233.setTop (mkF m 191 #[.val (.int g1), .val (.int g2), .val (.int g3), .val (.int g4), .val (.int g5), .val (.int g6), .val (.int r1), .val (.int (1 : Int32)), .val (.long r2), .second, .val (.long r3), .second, .val (.ref b209), .val (.int r1), .val (.int i226), .val (.int i231), .unset, .unset, .unset, .unset, .unset, .unset] [(.int (((g4.toUInt32 >>> ((2 : Int32) &&& 31).toUInt32).toInt32) &&& (255 : Int32))), (.int (0 : Int32)), (.ref b233), (.ref b233)])) _
      refine XS.i2c X233.here hx rfl (hb hby at_191) rfl ?_
      exact k)
    obtain ⟨ch1, hch1⟩ : ∃ z : Int32, z = ((((g4.toUInt32 >>> ((2 : Int32) &&& 31).toUInt32).toInt32) &&& (255 : Int32)).toUInt32.toUInt16.toUInt32.toInt32) := ⟨_, rfl⟩
    
    have k242 : ∀ t, Steps p.tables e below (T233.setTop (mkF m 192 #[.val (.int g1), .val (.int g2), .val (.int g3), .val (.int g4), .val (.int g5), .val (.int g6), .val (.int r1), .val (.int (1 : Int32)), .val (.long r2), .second, .val (.long r3), .second, .val (.ref b209), .val (.int r1), .val (.int i226), .val (.int i231), .unset, .unset, .unset, .unset, .unset, .unset] [(.int ch1), (.int (0 : Int32)), (.ref b233), (.ref b233)])) t → Steps p.tables e below (s₁.setTop (entryFrame m #[(.int g1), (.int g2), (.int g3), (.int g4), (.int g5), (.int g6)] maxLocals)) t := fun t k => k241 t (by
      show Steps p.tables e below (T233.setTop (mkF m 192 #[.val (.int g1), .val (.int g2), .val (.int g3), .val (.int g4), .val (.int g5), .val (.int g6), .val (.int r1), .val (.int (1 : Int32)), .val (.long r2), .second, .val (.long r3), .second, .val (.ref b209), .val (.int r1), .val (.int i226), .val (.int i231), .unset, .unset, .unset, .unset, .unset, .unset] [(.int ((((g4.toUInt32 >>> ((2 : Int32) &&& 31).toUInt32).toInt32) &&& (255 : Int32)).toUInt32.toUInt16.toUInt32.toInt32)), (.int (0 : Int32)), (.ref b233), (.ref b233)])) _
      refine castTop (g' := (mkF m 192 #[.val (.int g1), .val (.int g2), .val (.int g3), .val (.int g4), .val (.int g5), .val (.int g6), .val (.int r1), .val (.int (1 : Int32)), .val (.long r2), .second, .val (.long r3), .second, .val (.ref b209), .val (.int r1), .val (.int i226), .val (.int i231), .unset, .unset, .unset, .unset, .unset, .unset] [(.int ch1), (.int (0 : Int32)), (.ref b233), (.ref b233)])) (by rw [hch1]) ?_
      exact k)
    obtain ⟨c243, Ar243, Aq243, As243, An243, Ah243, Ag243⟩ := id V239
    have hin243 : ¬ ((0 : Int32) < 0 ∨ c243.slots.size ≤ ((0 : Int32)).toNatClampNeg) := inb_of As243 ⟨by decide, by decide⟩
    obtain ⟨T243, h243, X243, e243, W243, st243⟩ := stC X233 hx hZ e233 Ar243 (j := (0 : Int32)) hin243 (g := (mkF m 192 #[.val (.int g1), .val (.int g2), .val (.int g3), .val (.int g4), .val (.int g5), .val (.int g6), .val (.int r1), .val (.int (1 : Int32)), .val (.long r2), .second, .val (.long r3), .second, .val (.ref b209), .val (.int r1), .val (.int i226), .val (.int i231), .unset, .unset, .unset, .unset, .unset, .unset] [(.int ch1), (.int (0 : Int32)), (.ref b233), (.ref b233)])) rfl rfl (hb hby at_192)
    have V244 : Arv Z h243 b233 k233 .char (2 : Int32) [(.int (nar .char ch1)), (.int (0 : Int32))] (.int (0 : Int32)) := Arv.set Ar243 Aq243 As243 An243 Ah243 Ag243 (fits_nar_char _) W243 0 rfl (Nat.le_of_ble_eq_true rfl)
    have F245 := F236.wr W243
    have F246 := F237.other W243 n234
    have Z247 : n0 ≤ h243.size := Nat.le_trans Z238 (Nat.le_of_eq W243.size.symm)
    have N248 := Fr.snoc X243 N229 g235
    have k249 : ∀ t, Steps p.tables e below (T243.setTop (mkF m 193 #[.val (.int g1), .val (.int g2), .val (.int g3), .val (.int g4), .val (.int g5), .val (.int g6), .val (.int r1), .val (.int (1 : Int32)), .val (.long r2), .second, .val (.long r3), .second, .val (.ref b209), .val (.int r1), .val (.int i226), .val (.int i231), .unset, .unset, .unset, .unset, .unset, .unset] [(.ref b233)])) t → Steps p.tables e below (s₁.setTop (entryFrame m #[(.int g1), (.int g2), (.int g3), (.int g4), (.int g5), (.int g6)] maxLocals)) t := fun t k => k242 t (st243 t k)
    have k250 : ∀ t, Steps p.tables e below (T243.setTop (mkF m 204 #[.val (.int g1), .val (.int g2), .val (.int g3), .val (.int g4), .val (.int g5), .val (.int g6), .val (.int r1), .val (.int (1 : Int32)), .val (.long r2), .second, .val (.long r3), .second, .val (.ref b209), .val (.int r1), .val (.int i226), .val (.int i231), .unset, .unset, .unset, .unset, .unset, .unset] [(.int ((((g4.toUInt32 >>> ((10 : Int32) &&& 31).toUInt32).toInt32) &&& (255 : Int32)).toUInt32.toUInt16.toUInt32.toInt32)), (.int (1 : Int32)), (.ref b233), (.ref b233)])) t → Steps p.tables e below (s₁.setTop (entryFrame m #[(.int g1), (.int g2), (.int g3), (.int g4), (.int g5), (.int g6)] maxLocals)) t := fun t k => k249 t (by
      show Steps p.tables e below (T243.setTop (mkF m 193 #[.val (.int g1), .val (.int g2), .val (.int g3), .val (.int g4), .val (.int g5), .val (.int g6), .val (.int r1), .val (.int (1 : Int32)), .val (.long r2), .second, .val (.long r3), .second, .val (.ref b209), .val (.int r1), .val (.int i226), .val (.int i231), .unset, .unset, .unset, .unset, .unset, .unset] [(.ref b233)])) _
      refine XS.dup X243.here hx rfl (hb hby at_193) rfl rfl ?_
      show Steps p.tables e below (T243.setTop (mkF m 194 #[.val (.int g1), .val (.int g2), .val (.int g3), .val (.int g4), .val (.int g5), .val (.int g6), .val (.int r1), .val (.int (1 : Int32)), .val (.long r2), .second, .val (.long r3), .second, .val (.ref b209), .val (.int r1), .val (.int i226), .val (.int i231), .unset, .unset, .unset, .unset, .unset, .unset] [(.ref b233), (.ref b233)])) _
      refine XS.iconst X243.here hx rfl (hb hby at_194) ?_
      show Steps p.tables e below (T243.setTop (mkF m 195 #[.val (.int g1), .val (.int g2), .val (.int g3), .val (.int g4), .val (.int g5), .val (.int g6), .val (.int r1), .val (.int (1 : Int32)), .val (.long r2), .second, .val (.long r3), .second, .val (.ref b209), .val (.int r1), .val (.int i226), .val (.int i231), .unset, .unset, .unset, .unset, .unset, .unset] [(.int (1 : Int32)), (.ref b233), (.ref b233)])) _
      refine XS.iloadN X243.here hx rfl (hb hby at_195) rfl ?_
      show Steps p.tables e below (T243.setTop (mkF m 196 #[.val (.int g1), .val (.int g2), .val (.int g3), .val (.int g4), .val (.int g5), .val (.int g6), .val (.int r1), .val (.int (1 : Int32)), .val (.long r2), .second, .val (.long r3), .second, .val (.ref b209), .val (.int r1), .val (.int i226), .val (.int i231), .unset, .unset, .unset, .unset, .unset, .unset] [(.int g4), (.int (1 : Int32)), (.ref b233), (.ref b233)])) _
      refine XS.bipush X243.here hx rfl (hb hby at_196) ?_
      show Steps p.tables e below (T243.setTop (mkF m 198 #[.val (.int g1), .val (.int g2), .val (.int g3), .val (.int g4), .val (.int g5), .val (.int g6), .val (.int r1), .val (.int (1 : Int32)), .val (.long r2), .second, .val (.long r3), .second, .val (.ref b209), .val (.int r1), .val (.int i226), .val (.int i231), .unset, .unset, .unset, .unset, .unset, .unset] [(.int (10 : Int32)), (.int g4), (.int (1 : Int32)), (.ref b233), (.ref b233)])) _
      refine XS.iushr X243.here hx rfl (hb hby at_198) rfl ?_
      show Steps p.tables e below (T243.setTop (mkF m 199 #[.val (.int g1), .val (.int g2), .val (.int g3), .val (.int g4), .val (.int g5), .val (.int g6), .val (.int r1), .val (.int (1 : Int32)), .val (.long r2), .second, .val (.long r3), .second, .val (.ref b209), .val (.int r1), .val (.int i226), .val (.int i231), .unset, .unset, .unset, .unset, .unset, .unset] [(.int ((g4.toUInt32 >>> ((10 : Int32) &&& 31).toUInt32).toInt32)), (.int (1 : Int32)), (.ref b233), (.ref b233)])) _
      refine XS.sipush X243.here hx rfl (hb hby at_199) ?_
      show Steps p.tables e below (T243.setTop (mkF m 202 #[.val (.int g1), .val (.int g2), .val (.int g3), .val (.int g4), .val (.int g5), .val (.int g6), .val (.int r1), .val (.int (1 : Int32)), .val (.long r2), .second, .val (.long r3), .second, .val (.ref b209), .val (.int r1), .val (.int i226), .val (.int i231), .unset, .unset, .unset, .unset, .unset, .unset] [(.int (255 : Int32)), (.int ((g4.toUInt32 >>> ((10 : Int32) &&& 31).toUInt32).toInt32)), (.int (1 : Int32)), (.ref b233), (.ref b233)])) _
      refine XS.iand X243.here hx rfl (hb hby at_202) rfl ?_
      show Steps p.tables e below (T243.setTop (mkF m 203 #[.val (.int g1), .val (.int g2), .val (.int g3), .val (.int g4), .val (.int g5), .val (.int g6), .val (.int r1), .val (.int (1 : Int32)), .val (.long r2), .second, .val (.long r3), .second, .val (.ref b209), .val (.int r1), .val (.int i226), .val (.int i231), .unset, .unset, .unset, .unset, .unset, .unset] [(.int (((g4.toUInt32 >>> ((10 : Int32) &&& 31).toUInt32).toInt32) &&& (255 : Int32))), (.int (1 : Int32)), (.ref b233), (.ref b233)])) _
      refine XS.i2c X243.here hx rfl (hb hby at_203) rfl ?_
      exact k)
    obtain ⟨ch2, hch2⟩ : ∃ z : Int32, z = ((((g4.toUInt32 >>> ((10 : Int32) &&& 31).toUInt32).toInt32) &&& (255 : Int32)).toUInt32.toUInt16.toUInt32.toInt32) := ⟨_, rfl⟩
    
    have k251 : ∀ t, Steps p.tables e below (T243.setTop (mkF m 204 #[.val (.int g1), .val (.int g2), .val (.int g3), .val (.int g4), .val (.int g5), .val (.int g6), .val (.int r1), .val (.int (1 : Int32)), .val (.long r2), .second, .val (.long r3), .second, .val (.ref b209), .val (.int r1), .val (.int i226), .val (.int i231), .unset, .unset, .unset, .unset, .unset, .unset] [(.int ch2), (.int (1 : Int32)), (.ref b233), (.ref b233)])) t → Steps p.tables e below (s₁.setTop (entryFrame m #[(.int g1), (.int g2), (.int g3), (.int g4), (.int g5), (.int g6)] maxLocals)) t := fun t k => k250 t (by
      show Steps p.tables e below (T243.setTop (mkF m 204 #[.val (.int g1), .val (.int g2), .val (.int g3), .val (.int g4), .val (.int g5), .val (.int g6), .val (.int r1), .val (.int (1 : Int32)), .val (.long r2), .second, .val (.long r3), .second, .val (.ref b209), .val (.int r1), .val (.int i226), .val (.int i231), .unset, .unset, .unset, .unset, .unset, .unset] [(.int ((((g4.toUInt32 >>> ((10 : Int32) &&& 31).toUInt32).toInt32) &&& (255 : Int32)).toUInt32.toUInt16.toUInt32.toInt32)), (.int (1 : Int32)), (.ref b233), (.ref b233)])) _
      refine castTop (g' := (mkF m 204 #[.val (.int g1), .val (.int g2), .val (.int g3), .val (.int g4), .val (.int g5), .val (.int g6), .val (.int r1), .val (.int (1 : Int32)), .val (.long r2), .second, .val (.long r3), .second, .val (.ref b209), .val (.int r1), .val (.int i226), .val (.int i231), .unset, .unset, .unset, .unset, .unset, .unset] [(.int ch2), (.int (1 : Int32)), (.ref b233), (.ref b233)])) (by rw [hch2]) ?_
      exact k)
    obtain ⟨c252, Ar252, Aq252, As252, An252, Ah252, Ag252⟩ := id V244
    have hin252 : ¬ ((1 : Int32) < 0 ∨ c252.slots.size ≤ ((1 : Int32)).toNatClampNeg) := inb_of As252 ⟨by decide, by decide⟩
    obtain ⟨T252, h252, X252, e252, W252, st252⟩ := stC X243 hx hZ e243 Ar252 (j := (1 : Int32)) hin252 (g := (mkF m 204 #[.val (.int g1), .val (.int g2), .val (.int g3), .val (.int g4), .val (.int g5), .val (.int g6), .val (.int r1), .val (.int (1 : Int32)), .val (.long r2), .second, .val (.long r3), .second, .val (.ref b209), .val (.int r1), .val (.int i226), .val (.int i231), .unset, .unset, .unset, .unset, .unset, .unset] [(.int ch2), (.int (1 : Int32)), (.ref b233), (.ref b233)])) rfl rfl (hb hby at_204)
    have V253 : Arv Z h252 b233 k233 .char (2 : Int32) [(.int (nar .char ch1)), (.int (nar .char ch2))] (.int (0 : Int32)) := Arv.set Ar252 Aq252 As252 An252 Ah252 Ag252 (fits_nar_char _) W252 1 rfl (Nat.le_of_ble_eq_true rfl)
    have F254 := F245.wr W252
    have F255 := F246.other W252 n234
    have Z256 : n0 ≤ h252.size := Nat.le_trans Z247 (Nat.le_of_eq W252.size.symm)
    have N257 := Fr.snoc X252 N248 g235
    have k258 : ∀ t, Steps p.tables e below (T252.setTop (mkF m 205 #[.val (.int g1), .val (.int g2), .val (.int g3), .val (.int g4), .val (.int g5), .val (.int g6), .val (.int r1), .val (.int (1 : Int32)), .val (.long r2), .second, .val (.long r3), .second, .val (.ref b209), .val (.int r1), .val (.int i226), .val (.int i231), .unset, .unset, .unset, .unset, .unset, .unset] [(.ref b233)])) t → Steps p.tables e below (s₁.setTop (entryFrame m #[(.int g1), (.int g2), (.int g3), (.int g4), (.int g5), (.int g6)] maxLocals)) t := fun t k => k251 t (st252 t k)
    have k259 : ∀ t, Steps p.tables e below (T252.setTop (mkF m 207 #[.val (.int g1), .val (.int g2), .val (.int g3), .val (.int g4), .val (.int g5), .val (.int g6), .val (.int r1), .val (.int (1 : Int32)), .val (.long r2), .second, .val (.long r3), .second, .val (.ref b209), .val (.int r1), .val (.int i226), .val (.int i231), .val (.ref b233), .unset, .unset, .unset, .unset, .unset] [])) t → Steps p.tables e below (s₁.setTop (entryFrame m #[(.int g1), (.int g2), (.int g3), (.int g4), (.int g5), (.int g6)] maxLocals)) t := fun t k => k258 t (by
      show Steps p.tables e below (T252.setTop (mkF m 205 #[.val (.int g1), .val (.int g2), .val (.int g3), .val (.int g4), .val (.int g5), .val (.int g6), .val (.int r1), .val (.int (1 : Int32)), .val (.long r2), .second, .val (.long r3), .second, .val (.ref b209), .val (.int r1), .val (.int i226), .val (.int i231), .unset, .unset, .unset, .unset, .unset, .unset] [(.ref b233)])) _
      refine XS.astore X252.here hx rfl (hb hby at_205) rfl rfl (l' := #[.val (.int g1), .val (.int g2), .val (.int g3), .val (.int g4), .val (.int g5), .val (.int g6), .val (.int r1), .val (.int (1 : Int32)), .val (.long r2), .second, .val (.long r3), .second, .val (.ref b209), .val (.int r1), .val (.int i226), .val (.int i231), .val (.ref b233), .unset, .unset, .unset, .unset, .unset]) rfl ?_
      exact k)
    obtain ⟨T260, h260, X260, e260, E260, A260, D260, -, st260⟩ := newO X252 hx hZ hown (hw _ (List.mem_of_getElem? (i := 8) rfl)) (hw _ (List.mem_of_getElem? (i := 9) rfl)) (hw _ (List.mem_of_getElem? (i := 10) rfl)) e252 (g := (mkF m 207 #[.val (.int g1), .val (.int g2), .val (.int g3), .val (.int g4), .val (.int g5), .val (.int g6), .val (.int r1), .val (.int (1 : Int32)), .val (.long r2), .second, .val (.long r3), .second, .val (.ref b209), .val (.int r1), .val (.int i226), .val (.int i231), .val (.ref b233), .unset, .unset, .unset, .unset, .unset] [])) rfl (hb hby at_207) (by decide) (by decide)
    obtain ⟨b260, g260⟩ : ∃ z, z = h252.size := ⟨_, rfl⟩
    rw [← g260] at A260 D260 st260
    have n261 : b209 ≠ b260 := Nat.ne_of_lt (Nat.lt_of_lt_of_le F255.lt (Nat.le_of_eq g260.symm))
    have n262 : b233 ≠ b260 := Nat.ne_of_lt (Nat.lt_of_lt_of_le V253.lt (Nat.le_of_eq g260.symm))
    have g263 : n0 ≤ b260 := Nat.le_trans Z256 (Nat.le_of_eq g260.symm)
    have F264 := F254.ext E260
    have F265 := F255.ext E260
    have F266 := V253.ext E260
    have Z267 : n0 ≤ h260.size := Nat.le_trans Z256 E260.1
    have F268 : Fld Z h260 b260 "com/example/round2/round2/eval/TopicResult" "topic" "Ljava/lang/String;" .null := D260 (Or.inr (hw _ (List.mem_of_getElem? (i := 45) rfl))) (ty := (.object "java/lang/String")) (by decide)
    have F269 : Fld Z h260 b260 "com/example/round2/round2/eval/TopicResult" "retrieved" "I" (.int (0 : Int32)) := D260 (Or.inr (hw _ (List.mem_of_getElem? (i := 47) rfl))) (ty := .int) (by decide)
    have F270 : Fld Z h260 b260 "com/example/round2/round2/eval/TopicResult" "relevant" "I" (.int (0 : Int32)) := D260 (Or.inr (hw _ (List.mem_of_getElem? (i := 49) rfl))) (ty := .int) (by decide)
    have F271 : Fld Z h260 b260 "com/example/round2/round2/eval/TopicResult" "relevantRanks" "[I" .null := D260 (Or.inr (hw _ (List.mem_of_getElem? (i := 51) rfl))) (ty := (.array .int)) (by decide)
    have k272 : ∀ t, Steps p.tables e below (T260.setTop (mkF m 210 #[.val (.int g1), .val (.int g2), .val (.int g3), .val (.int g4), .val (.int g5), .val (.int g6), .val (.int r1), .val (.int (1 : Int32)), .val (.long r2), .second, .val (.long r3), .second, .val (.ref b209), .val (.int r1), .val (.int i226), .val (.int i231), .val (.ref b233), .unset, .unset, .unset, .unset, .unset] [(.ref b260)])) t → Steps p.tables e below (s₁.setTop (entryFrame m #[(.int g1), (.int g2), (.int g3), (.int g4), (.int g5), (.int g6)] maxLocals)) t := fun t k => k259 t (st260 t k)
    have k273 : ∀ t, Steps p.tables e below (T260.setTop (mkF m 211 #[.val (.int g1), .val (.int g2), .val (.int g3), .val (.int g4), .val (.int g5), .val (.int g6), .val (.int r1), .val (.int (1 : Int32)), .val (.long r2), .second, .val (.long r3), .second, .val (.ref b209), .val (.int r1), .val (.int i226), .val (.int i231), .val (.ref b233), .unset, .unset, .unset, .unset, .unset] [(.ref b260), (.ref b260)])) t → Steps p.tables e below (s₁.setTop (entryFrame m #[(.int g1), (.int g2), (.int g3), (.int g4), (.int g5), (.int g6)] maxLocals)) t := fun t k => k272 t (by
      show Steps p.tables e below (T260.setTop (mkF m 210 #[.val (.int g1), .val (.int g2), .val (.int g3), .val (.int g4), .val (.int g5), .val (.int g6), .val (.int r1), .val (.int (1 : Int32)), .val (.long r2), .second, .val (.long r3), .second, .val (.ref b209), .val (.int r1), .val (.int i226), .val (.int i231), .val (.ref b233), .unset, .unset, .unset, .unset, .unset] [(.ref b260)])) _
      refine XS.dup X260.here hx rfl (hb hby at_210) rfl rfl ?_
      exact k)
    obtain ⟨T274, h274, X274, e274, E274, A274, D274, -, st274⟩ := newO X260 hx hZ hown (hw _ (List.mem_of_getElem? (i := 11) rfl)) (hw _ (List.mem_of_getElem? (i := 12) rfl)) (hw _ (List.mem_of_getElem? (i := 13) rfl)) e260 (g := (mkF m 211 #[.val (.int g1), .val (.int g2), .val (.int g3), .val (.int g4), .val (.int g5), .val (.int g6), .val (.int r1), .val (.int (1 : Int32)), .val (.long r2), .second, .val (.long r3), .second, .val (.ref b209), .val (.int r1), .val (.int i226), .val (.int i231), .val (.ref b233), .unset, .unset, .unset, .unset, .unset] [(.ref b260), (.ref b260)])) rfl (hb hby at_211) (by decide) (by decide)
    obtain ⟨b274, g274⟩ : ∃ z, z = h260.size := ⟨_, rfl⟩
    rw [← g274] at A274 D274 st274
    have n275 : b209 ≠ b274 := Nat.ne_of_lt (Nat.lt_of_lt_of_le F265.lt (Nat.le_of_eq g274.symm))
    have n276 : b233 ≠ b274 := Nat.ne_of_lt (Nat.lt_of_lt_of_le F266.lt (Nat.le_of_eq g274.symm))
    have n277 : b260 ≠ b274 := Nat.ne_of_lt (Nat.lt_of_lt_of_le A260.lt (Nat.le_of_eq g274.symm))
    have g278 : n0 ≤ b274 := Nat.le_trans Z267 (Nat.le_of_eq g274.symm)
    have F279 := F264.ext E274
    have F280 := F265.ext E274
    have F281 := F266.ext E274
    have F282 := A260.ext E274
    have F283 := F268.ext E274
    have F284 := F269.ext E274
    have F285 := F270.ext E274
    have F286 := F271.ext E274
    have Z287 : n0 ≤ h274.size := Nat.le_trans Z267 E274.1
    have F288 : Fld Z h274 b274 "java/lang/String" "coder" "B" (.int (0 : Int32)) := D274 (Or.inr (hw _ (List.mem_of_getElem? (i := 37) rfl))) (ty := .byte) (by decide)
    have F289 : Fld Z h274 b274 "java/lang/String" "value" "[B" .null := D274 (Or.inr (hw _ (List.mem_of_getElem? (i := 39) rfl))) (ty := (.array .byte)) (by decide)
    have k290 : ∀ t, Steps p.tables e below (T274.setTop (mkF m 214 #[.val (.int g1), .val (.int g2), .val (.int g3), .val (.int g4), .val (.int g5), .val (.int g6), .val (.int r1), .val (.int (1 : Int32)), .val (.long r2), .second, .val (.long r3), .second, .val (.ref b209), .val (.int r1), .val (.int i226), .val (.int i231), .val (.ref b233), .unset, .unset, .unset, .unset, .unset] [(.ref b274), (.ref b260), (.ref b260)])) t → Steps p.tables e below (s₁.setTop (entryFrame m #[(.int g1), (.int g2), (.int g3), (.int g4), (.int g5), (.int g6)] maxLocals)) t := fun t k => k273 t (st274 t k)
    have hc1 := own_ch hch1
    have hc2 := own_ch hch2
    have k291 : ∀ t, Steps p.tables e below (T274.setTop (mkF m 217 #[.val (.int g1), .val (.int g2), .val (.int g3), .val (.int g4), .val (.int g5), .val (.int g6), .val (.int r1), .val (.int (1 : Int32)), .val (.long r2), .second, .val (.long r3), .second, .val (.ref b209), .val (.int r1), .val (.int i226), .val (.int i231), .val (.ref b233), .unset, .unset, .unset, .unset, .unset] [(.ref b233), (.ref b274), (.ref b274), (.ref b260), (.ref b260)])) t → Steps p.tables e below (s₁.setTop (entryFrame m #[(.int g1), (.int g2), (.int g3), (.int g4), (.int g5), (.int g6)] maxLocals)) t := fun t k => k290 t (by
      show Steps p.tables e below (T274.setTop (mkF m 214 #[.val (.int g1), .val (.int g2), .val (.int g3), .val (.int g4), .val (.int g5), .val (.int g6), .val (.int r1), .val (.int (1 : Int32)), .val (.long r2), .second, .val (.long r3), .second, .val (.ref b209), .val (.int r1), .val (.int i226), .val (.int i231), .val (.ref b233), .unset, .unset, .unset, .unset, .unset] [(.ref b274), (.ref b260), (.ref b260)])) _
      refine XS.dup X274.here hx rfl (hb hby at_214) rfl rfl ?_
      show Steps p.tables e below (T274.setTop (mkF m 215 #[.val (.int g1), .val (.int g2), .val (.int g3), .val (.int g4), .val (.int g5), .val (.int g6), .val (.int r1), .val (.int (1 : Int32)), .val (.long r2), .second, .val (.long r3), .second, .val (.ref b209), .val (.int r1), .val (.int i226), .val (.int i231), .val (.ref b233), .unset, .unset, .unset, .unset, .unset] [(.ref b274), (.ref b274), (.ref b260), (.ref b260)])) _
      refine XS.aload X274.here hx rfl (hb hby at_215) rfl rfl ?_
      exact k)
    obtain ⟨_, _, ⟨T292, L292, k292, n292⟩, -, X292, ⟨Lc292, hQ292, l292, y292, z292⟩, st292⟩ := X274.specialBack hx (y := (⟨"java/lang/String", "<init>", "([C)V"⟩ : MethodName)) rfl hown (mvT hZ (hw _ (List.mem_of_getElem? (i := 14) rfl))) (mvT hZ (hw _ (List.mem_of_getElem? (i := 15) rfl))) (mvT hZ (hw _ (List.mem_of_getElem? (i := 16) rfl))) (by decide) (backOf (W := 3) (rm2 l Z a0 hw [] b274 b233 k233 cs (nar .char ch1) (nar .char ch2) h274 n0 Z287 F289 F288 A274 g278 F281 n276 F279 hcs hc1 hc2) hZ (hw _ (List.mem_of_getElem? (i := 16) rfl)) (hw _ (List.mem_of_getElem? (i := 13) rfl)) (by decide) (by decide)) (g := (mkF m 217 #[.val (.int g1), .val (.int g2), .val (.int g3), .val (.int g4), .val (.int g5), .val (.int g6), .val (.int r1), .val (.int (1 : Int32)), .val (.long r2), .second, .val (.long r3), .second, .val (.ref b209), .val (.int r1), .val (.int i226), .val (.int i231), .val (.ref b233), .unset, .unset, .unset, .unset, .unset] [(.ref b233), (.ref b274), (.ref b274), (.ref b260), (.ref b260)])) rfl (by rw [hml]; rfl) (Steps.refl _) (a := b274) (argsL := [(.ref b233)]) (rest := [(.ref b274), (.ref b260), (.ref b260)]) (lenOf pd__28_5bC_29V rfl) rfl (by show 2 * 0 + _ ≤ _; exact Nat.le_of_eq rfl) (hb hby at_217) (fun _ _ => ⟨rfl, e274, (by decide : 4 + 1 ≤ _), (by decide : 11 + 2 ≤ _)⟩)
    dsimp only [Pt.U, Pt.locs, Pt.cells, Pt.slots] at X292 l292 y292 z292 st292 hQ292
    subst l292 y292 z292
    obtain ⟨h292, e292⟩ : ∃ h', T292.heap = h' := ⟨_, rfl⟩
    rw [e292] at hQ292
    obtain ⟨t292, kk292, rfl, N292q, zt292, K292, G292e, G292v, G292c, V292⟩ := hQ292
    have N293 := Fr.app N257 N292q
    have k294 : ∀ t, Steps p.tables e below (T292.setTop (mkF m 220 #[.val (.int g1), .val (.int g2), .val (.int g3), .val (.int g4), .val (.int g5), .val (.int g6), .val (.int r1), .val (.int (1 : Int32)), .val (.long r2), .second, .val (.long r3), .second, .val (.ref b209), .val (.int r1), .val (.int i226), .val (.int i231), .val (.ref b233), .unset, .unset, .unset, .unset, .unset] [(.ref b274), (.ref b260), (.ref b260)])) t → Steps p.tables e below (s₁.setTop (entryFrame m #[(.int g1), (.int g2), (.int g3), (.int g4), (.int g5), (.int g6)] maxLocals)) t := fun t k => k291 t (st292.trans k)
    have F295 := F280.keep K292 (ninS n275 nin0)
    have F296 := F282.keep K292
    have F297 := F283.keep K292 (ninS n277 nin0)
    have F298 := F284.keep K292 (ninS n277 nin0)
    have F299 := F285.keep K292 (ninS n277 nin0)
    have F300 := F286.keep K292 (ninS n277 nin0)
    have F301 := A274.keep K292
    have Z302 : n0 ≤ h292.size := Nat.le_trans Z287 K292.1
    have k303 : ∀ t, Steps p.tables e below (T292.setTop (mkF m 226 #[.val (.int g1), .val (.int g2), .val (.int g3), .val (.int g4), .val (.int g5), .val (.int g6), .val (.int r1), .val (.int (1 : Int32)), .val (.long r2), .second, .val (.long r3), .second, .val (.ref b209), .val (.int r1), .val (.int i226), .val (.int i231), .val (.ref b233), .unset, .unset, .unset, .unset, .unset] [(.ref b209), (.int i231), (.int i226), (.ref b274), (.ref b260), (.ref b260)])) t → Steps p.tables e below (s₁.setTop (entryFrame m #[(.int g1), (.int g2), (.int g3), (.int g4), (.int g5), (.int g6)] maxLocals)) t := fun t k => k294 t (by
      show Steps p.tables e below (T292.setTop (mkF m 220 #[.val (.int g1), .val (.int g2), .val (.int g3), .val (.int g4), .val (.int g5), .val (.int g6), .val (.int r1), .val (.int (1 : Int32)), .val (.long r2), .second, .val (.long r3), .second, .val (.ref b209), .val (.int r1), .val (.int i226), .val (.int i231), .val (.ref b233), .unset, .unset, .unset, .unset, .unset] [(.ref b274), (.ref b260), (.ref b260)])) _
      refine XS.iload X292.here hx rfl (hb hby at_220) rfl ?_
      show Steps p.tables e below (T292.setTop (mkF m 222 #[.val (.int g1), .val (.int g2), .val (.int g3), .val (.int g4), .val (.int g5), .val (.int g6), .val (.int r1), .val (.int (1 : Int32)), .val (.long r2), .second, .val (.long r3), .second, .val (.ref b209), .val (.int r1), .val (.int i226), .val (.int i231), .val (.ref b233), .unset, .unset, .unset, .unset, .unset] [(.int i226), (.ref b274), (.ref b260), (.ref b260)])) _
      refine XS.iload X292.here hx rfl (hb hby at_222) rfl ?_
      show Steps p.tables e below (T292.setTop (mkF m 224 #[.val (.int g1), .val (.int g2), .val (.int g3), .val (.int g4), .val (.int g5), .val (.int g6), .val (.int r1), .val (.int (1 : Int32)), .val (.long r2), .second, .val (.long r3), .second, .val (.ref b209), .val (.int r1), .val (.int i226), .val (.int i231), .val (.ref b233), .unset, .unset, .unset, .unset, .unset] [(.int i231), (.int i226), (.ref b274), (.ref b260), (.ref b260)])) _
      refine XS.aload X292.here hx rfl (hb hby at_224) rfl rfl ?_
      exact k)
    obtain ⟨_, _, ⟨T304, L304, k304, n304⟩, -, X304, ⟨Lc304, hQ304, l304, y304, z304⟩, st304⟩ := X292.specialBack hx (y := (⟨"com/example/round2/round2/eval/TopicResult", "<init>", "(Ljava/lang/String;II[I)V"⟩ : MethodName)) rfl hown (mvT hZ (hw _ (List.mem_of_getElem? (i := 40) rfl))) (mvT hZ (hw _ (List.mem_of_getElem? (i := 41) rfl))) (mvT hZ (hw _ (List.mem_of_getElem? (i := 42) rfl))) (by decide) (backOf (W := 1) (rm8 l Z a0 hw [] b260 b274 i226 i231 b209 h292 n0 Z302 F297 F298 F299 F300 F296 g263) hZ (hw _ (List.mem_of_getElem? (i := 42) rfl)) (hw _ (List.mem_of_getElem? (i := 10) rfl)) (by decide) (by decide)) (g := (mkF m 226 #[.val (.int g1), .val (.int g2), .val (.int g3), .val (.int g4), .val (.int g5), .val (.int g6), .val (.int r1), .val (.int (1 : Int32)), .val (.long r2), .second, .val (.long r3), .second, .val (.ref b209), .val (.int r1), .val (.int i226), .val (.int i231), .val (.ref b233), .unset, .unset, .unset, .unset, .unset] [(.ref b209), (.int i231), (.int i226), (.ref b274), (.ref b260), (.ref b260)])) rfl (by rw [hml]; rfl) (Steps.refl _) (a := b260) (argsL := [(.ref b274), (.int i226), (.int i231), (.ref b209)]) (rest := [(.ref b260)]) (lenOf pd__28Ljava_2flang_2fString_3bII_5bI_29V rfl) rfl (by show 2 * 0 + _ ≤ _; exact Nat.le_of_eq rfl) (hb hby at_226) (fun _ _ => ⟨rfl, e292, (by decide : 5 + 0 ≤ _), (by decide : 13 + 0 ≤ _)⟩)
    dsimp only [Pt.U, Pt.locs, Pt.cells, Pt.slots] at X304 l304 y304 z304 st304 hQ304
    subst l304 y304 z304
    obtain ⟨h304, e304⟩ : ∃ h', T304.heap = h' := ⟨_, rfl⟩
    rw [e304] at hQ304
    obtain ⟨rfl, N304q, K304, G304a, G304b, G304c⟩ := hQ304
    have N305 := Fr.app N293 N304q
    have k306 : ∀ t, Steps p.tables e below (T304.setTop (mkF m 229 #[.val (.int g1), .val (.int g2), .val (.int g3), .val (.int g4), .val (.int g5), .val (.int g6), .val (.int r1), .val (.int (1 : Int32)), .val (.long r2), .second, .val (.long r3), .second, .val (.ref b209), .val (.int r1), .val (.int i226), .val (.int i231), .val (.ref b233), .unset, .unset, .unset, .unset, .unset] [(.ref b260)])) t → Steps p.tables e below (s₁.setTop (entryFrame m #[(.int g1), (.int g2), (.int g3), (.int g4), (.int g5), (.int g6)] maxLocals)) t := fun t k => k303 t (st304.trans k)
    have F307 := F295.keep K304 (ninS n261 nin0)
    have F308 := F296.keep K304
    have F309 := F301.keep K304
    have Z310 : n0 ≤ h304.size := Nat.le_trans Z302 K304.1
    have k311 : ∀ t, Steps p.tables e below (T304.setTop (mkF m 233 #[.val (.int g1), .val (.int g2), .val (.int g3), .val (.int g4), .val (.int g5), .val (.int g6), .val (.int r1), .val (.int (1 : Int32)), .val (.long r2), .second, .val (.long r3), .second, .val (.ref b209), .val (.int r1), .val (.int i226), .val (.int i231), .val (.ref b233), .val (.ref b260), .unset, .unset, .unset, .unset] [(.ref b260)])) t → Steps p.tables e below (s₁.setTop (entryFrame m #[(.int g1), (.int g2), (.int g3), (.int g4), (.int g5), (.int g6)] maxLocals)) t := fun t k => k306 t (by
      show Steps p.tables e below (T304.setTop (mkF m 229 #[.val (.int g1), .val (.int g2), .val (.int g3), .val (.int g4), .val (.int g5), .val (.int g6), .val (.int r1), .val (.int (1 : Int32)), .val (.long r2), .second, .val (.long r3), .second, .val (.ref b209), .val (.int r1), .val (.int i226), .val (.int i231), .val (.ref b233), .unset, .unset, .unset, .unset, .unset] [(.ref b260)])) _
      refine XS.astore X304.here hx rfl (hb hby at_229) rfl rfl (l' := #[.val (.int g1), .val (.int g2), .val (.int g3), .val (.int g4), .val (.int g5), .val (.int g6), .val (.int r1), .val (.int (1 : Int32)), .val (.long r2), .second, .val (.long r3), .second, .val (.ref b209), .val (.int r1), .val (.int i226), .val (.int i231), .val (.ref b233), .val (.ref b260), .unset, .unset, .unset, .unset]) rfl ?_
      show Steps p.tables e below (T304.setTop (mkF m 231 #[.val (.int g1), .val (.int g2), .val (.int g3), .val (.int g4), .val (.int g5), .val (.int g6), .val (.int r1), .val (.int (1 : Int32)), .val (.long r2), .second, .val (.long r3), .second, .val (.ref b209), .val (.int r1), .val (.int i226), .val (.int i231), .val (.ref b233), .val (.ref b260), .unset, .unset, .unset, .unset] [])) _
      refine XS.aload X304.here hx rfl (hb hby at_231) rfl rfl ?_
      exact k)
    obtain ⟨cq312, kq312, q312a, q312b, q312c⟩ := isOf hZ e304 G304a
    obtain ⟨_, _, ⟨T312, L312, k312, n312⟩, -, X312, ⟨Lc312, hQ312, l312, y312, z312⟩, st312⟩ := X304.virtualBack hx (y := (⟨"com/example/round2/round2/eval/TopicResult", "reciprocalRank", "()D"⟩ : MethodName)) (z := (⟨"com/example/round2/round2/eval/TopicResult", "reciprocalRank", "()D"⟩ : MethodName)) hown (mvT hZ (hw _ (List.mem_of_getElem? (i := 52) rfl))) (mvT hZ (hw _ (List.mem_of_getElem? (i := 53) rfl))) (notFace_of_selects (args := #[]) (mvT hZ (hw _ (List.mem_of_getElem? (i := 55) rfl)))) (mvT hZ (hw _ (List.mem_of_getElem? (i := 55) rfl))) (mvT hZ (hw _ (List.mem_of_getElem? (i := 54) rfl))) (by decide) (backOf (W := 0) (rrk1 l Z a0 hw [] b260 b209 k209 r1 h304 n0 Z310 G304c F307 (own_nn hz)) hZ (hw _ (List.mem_of_getElem? (i := 56) rfl)) (hw _ (List.mem_of_getElem? (i := 10) rfl)) (by decide) (by decide)) q312a q312c (g := (mkF m 233 #[.val (.int g1), .val (.int g2), .val (.int g3), .val (.int g4), .val (.int g5), .val (.int g6), .val (.int r1), .val (.int (1 : Int32)), .val (.long r2), .second, .val (.long r3), .second, .val (.ref b209), .val (.int r1), .val (.int i226), .val (.int i231), .val (.ref b233), .val (.ref b260), .unset, .unset, .unset, .unset] [(.ref b260)])) rfl (by rw [hml]; rfl) (Steps.refl _) (argsL := []) (rest := []) (lenOf pd__28_29D rfl) rfl (by show 2 * 0 + _ ≤ _; exact Nat.le_of_eq rfl) (hb hby at_233) (fun _ _ => ⟨rfl, e304, (by decide : 5 + 0 ≤ _), (by decide : 13 + 0 ≤ _)⟩)
    dsimp only [Pt.U, Pt.locs, Pt.cells, Pt.slots] at X312 l312 y312 z312 st312 hQ312
    subst l312 y312 z312
    obtain ⟨rfl, N312q, e312⟩ := hQ312
    have N313 := Fr.app N305 N312q
    have k314 : ∀ t, Steps p.tables e below (T312.setTop (mkF m 236 #[.val (.int g1), .val (.int g2), .val (.int g3), .val (.int g4), .val (.int g5), .val (.int g6), .val (.int r1), .val (.int (1 : Int32)), .val (.long r2), .second, .val (.long r3), .second, .val (.ref b209), .val (.int r1), .val (.int i226), .val (.int i231), .val (.ref b233), .val (.ref b260), .unset, .unset, .unset, .unset] [(.double (FP.ddiv (4607182418800017408 : UInt64) (FP.i2d r1)))])) t → Steps p.tables e below (s₁.setTop (entryFrame m #[(.int g1), (.int g2), (.int g3), (.int g4), (.int g5), (.int g6)] maxLocals)) t := fun t k => k311 t (st312.trans k)
    obtain ⟨rr, hrr⟩ : ∃ z : UInt64, z = (FP.ddiv (4607182418800017408 : UInt64) (FP.i2d r1)) := ⟨_, rfl⟩
    obtain ⟨xr, hxr⟩ : ∃ z : UInt64, FP.i2d r1 = z := ⟨_, rfl⟩
    obtain ⟨ex, hex⟩ : ∃ z : UInt64, FP.ddiv (4607182418800017408 : UInt64) xr = z := ⟨_, rfl⟩
    have eex : ex = rr := by rw [← hex, ← hxr, hrr]
    obtain ⟨Q1, Q2, Q3, Q4⟩ := own_rr hr hrr
    have Q1' : cmpValue (FP.dcmp rr ex) .l = (0 : Int32) := by rw [eex]; exact Q1
    have k315 : ∀ t, Steps p.tables e below (T312.setTop (mkF m 289 #[.val (.int g1), .val (.int g2), .val (.int g3), .val (.int g4), .val (.int g5), .val (.int g6), .val (.int r1), .val (.int (1 : Int32)), .val (.long r2), .second, .val (.long r3), .second, .val (.ref b209), .val (.int r1), .val (.int i226), .val (.int i231), .val (.ref b233), .val (.ref b260), .val (.double rr), .second, .val (.double ex), .second] [(.int (cmpValue (FP.dcmp rr (4607182418800017408 : UInt64)) .l))])) t → Steps p.tables e below (s₁.setTop (entryFrame m #[(.int g1), (.int g2), (.int g3), (.int g4), (.int g5), (.int g6)] maxLocals)) t := fun t k => k314 t (by
      show Steps p.tables e below (T312.setTop (mkF m 236 #[.val (.int g1), .val (.int g2), .val (.int g3), .val (.int g4), .val (.int g5), .val (.int g6), .val (.int r1), .val (.int (1 : Int32)), .val (.long r2), .second, .val (.long r3), .second, .val (.ref b209), .val (.int r1), .val (.int i226), .val (.int i231), .val (.ref b233), .val (.ref b260), .unset, .unset, .unset, .unset] [(.double (FP.ddiv (4607182418800017408 : UInt64) (FP.i2d r1)))])) _
      refine castTop (g' := (mkF m 236 #[.val (.int g1), .val (.int g2), .val (.int g3), .val (.int g4), .val (.int g5), .val (.int g6), .val (.int r1), .val (.int (1 : Int32)), .val (.long r2), .second, .val (.long r3), .second, .val (.ref b209), .val (.int r1), .val (.int i226), .val (.int i231), .val (.ref b233), .val (.ref b260), .unset, .unset, .unset, .unset] [(.double rr)])) (by rw [hrr]) ?_
      show Steps p.tables e below (T312.setTop (mkF m 236 #[.val (.int g1), .val (.int g2), .val (.int g3), .val (.int g4), .val (.int g5), .val (.int g6), .val (.int r1), .val (.int (1 : Int32)), .val (.long r2), .second, .val (.long r3), .second, .val (.ref b209), .val (.int r1), .val (.int i226), .val (.int i231), .val (.ref b233), .val (.ref b260), .unset, .unset, .unset, .unset] [(.double rr)])) _
      refine XS.dstore X312.here hx rfl (hb hby at_236) rfl (l' := #[.val (.int g1), .val (.int g2), .val (.int g3), .val (.int g4), .val (.int g5), .val (.int g6), .val (.int r1), .val (.int (1 : Int32)), .val (.long r2), .second, .val (.long r3), .second, .val (.ref b209), .val (.int r1), .val (.int i226), .val (.int i231), .val (.ref b233), .val (.ref b260), .val (.double rr), .second, .unset, .unset]) rfl ?_
      show Steps p.tables e below (T312.setTop (mkF m 238 #[.val (.int g1), .val (.int g2), .val (.int g3), .val (.int g4), .val (.int g5), .val (.int g6), .val (.int r1), .val (.int (1 : Int32)), .val (.long r2), .second, .val (.long r3), .second, .val (.ref b209), .val (.int r1), .val (.int i226), .val (.int i231), .val (.ref b233), .val (.ref b260), .val (.double rr), .second, .unset, .unset] [])) _
      refine XS.iload X312.here hx rfl (hb hby at_238) rfl ?_
      show Steps p.tables e below (T312.setTop (mkF m 240 #[.val (.int g1), .val (.int g2), .val (.int g3), .val (.int g4), .val (.int g5), .val (.int g6), .val (.int r1), .val (.int (1 : Int32)), .val (.long r2), .second, .val (.long r3), .second, .val (.ref b209), .val (.int r1), .val (.int i226), .val (.int i231), .val (.ref b233), .val (.ref b260), .val (.double rr), .second, .unset, .unset] [(.int (1 : Int32))])) _
      refine XS.ifYes X312.here hx rfl (pc0 := 240) (pc' := 256) rfl (hb hby at_240) rfl ((if0 _ _).trans (feq (by decide)).2) (by decide) (by decide) ?_
      show Steps p.tables e below (T312.setTop (mkF m 256 #[.val (.int g1), .val (.int g2), .val (.int g3), .val (.int g4), .val (.int g5), .val (.int g6), .val (.int r1), .val (.int (1 : Int32)), .val (.long r2), .second, .val (.long r3), .second, .val (.ref b209), .val (.int r1), .val (.int i226), .val (.int i231), .val (.ref b233), .val (.ref b260), .val (.double rr), .second, .unset, .unset] [])) _
      refine XS.dconst1 X312.here hx rfl (hb hby at_256) (v := (4607182418800017408 : UInt64)) rfl ?_
      show Steps p.tables e below (T312.setTop (mkF m 257 #[.val (.int g1), .val (.int g2), .val (.int g3), .val (.int g4), .val (.int g5), .val (.int g6), .val (.int r1), .val (.int (1 : Int32)), .val (.long r2), .second, .val (.long r3), .second, .val (.ref b209), .val (.int r1), .val (.int i226), .val (.int i231), .val (.ref b233), .val (.ref b260), .val (.double rr), .second, .unset, .unset] [(.double (4607182418800017408 : UInt64))])) _
      refine XS.iload X312.here hx rfl (hb hby at_257) rfl ?_
      show Steps p.tables e below (T312.setTop (mkF m 259 #[.val (.int g1), .val (.int g2), .val (.int g3), .val (.int g4), .val (.int g5), .val (.int g6), .val (.int r1), .val (.int (1 : Int32)), .val (.long r2), .second, .val (.long r3), .second, .val (.ref b209), .val (.int r1), .val (.int i226), .val (.int i231), .val (.ref b233), .val (.ref b260), .val (.double rr), .second, .unset, .unset] [(.int r1), (.double (4607182418800017408 : UInt64))])) _
      refine XS.i2dS X312.here hx rfl (hb hby at_259) rfl hxr ?_
      show Steps p.tables e below (T312.setTop (mkF m 260 #[.val (.int g1), .val (.int g2), .val (.int g3), .val (.int g4), .val (.int g5), .val (.int g6), .val (.int r1), .val (.int (1 : Int32)), .val (.long r2), .second, .val (.long r3), .second, .val (.ref b209), .val (.int r1), .val (.int i226), .val (.int i231), .val (.ref b233), .val (.ref b260), .val (.double rr), .second, .unset, .unset] [(.double xr), (.double (4607182418800017408 : UInt64))])) _
      refine XS.ddivS X312.here hx rfl (hb hby at_260) rfl ((by rw [← hxr]; exact own_nn hz)) hex ?_
      show Steps p.tables e below (T312.setTop (mkF m 261 #[.val (.int g1), .val (.int g2), .val (.int g3), .val (.int g4), .val (.int g5), .val (.int g6), .val (.int r1), .val (.int (1 : Int32)), .val (.long r2), .second, .val (.long r3), .second, .val (.ref b209), .val (.int r1), .val (.int i226), .val (.int i231), .val (.ref b233), .val (.ref b260), .val (.double rr), .second, .unset, .unset] [(.double ex)])) _
      refine XS.dstore X312.here hx rfl (hb hby at_261) rfl (l' := #[.val (.int g1), .val (.int g2), .val (.int g3), .val (.int g4), .val (.int g5), .val (.int g6), .val (.int r1), .val (.int (1 : Int32)), .val (.long r2), .second, .val (.long r3), .second, .val (.ref b209), .val (.int r1), .val (.int i226), .val (.int i231), .val (.ref b233), .val (.ref b260), .val (.double rr), .second, .val (.double ex), .second]) rfl ?_
      show Steps p.tables e below (T312.setTop (mkF m 263 #[.val (.int g1), .val (.int g2), .val (.int g3), .val (.int g4), .val (.int g5), .val (.int g6), .val (.int r1), .val (.int (1 : Int32)), .val (.long r2), .second, .val (.long r3), .second, .val (.ref b209), .val (.int r1), .val (.int i226), .val (.int i231), .val (.ref b233), .val (.ref b260), .val (.double rr), .second, .val (.double ex), .second] [])) _
      refine XS.dload X312.here hx rfl (hb hby at_263) rfl ?_
      show Steps p.tables e below (T312.setTop (mkF m 265 #[.val (.int g1), .val (.int g2), .val (.int g3), .val (.int g4), .val (.int g5), .val (.int g6), .val (.int r1), .val (.int (1 : Int32)), .val (.long r2), .second, .val (.long r3), .second, .val (.ref b209), .val (.int r1), .val (.int i226), .val (.int i231), .val (.ref b233), .val (.ref b260), .val (.double rr), .second, .val (.double ex), .second] [(.double rr)])) _
      refine XS.dload X312.here hx rfl (hb hby at_265) rfl ?_
      show Steps p.tables e below (T312.setTop (mkF m 267 #[.val (.int g1), .val (.int g2), .val (.int g3), .val (.int g4), .val (.int g5), .val (.int g6), .val (.int r1), .val (.int (1 : Int32)), .val (.long r2), .second, .val (.long r3), .second, .val (.ref b209), .val (.int r1), .val (.int i226), .val (.int i231), .val (.ref b233), .val (.ref b260), .val (.double rr), .second, .val (.double ex), .second] [(.double ex), (.double rr)])) _
      refine XS.dcmpS X312.here hx rfl (hb hby at_267) rfl rfl ?_
      show Steps p.tables e below (T312.setTop (mkF m 268 #[.val (.int g1), .val (.int g2), .val (.int g3), .val (.int g4), .val (.int g5), .val (.int g6), .val (.int r1), .val (.int (1 : Int32)), .val (.long r2), .second, .val (.long r3), .second, .val (.ref b209), .val (.int r1), .val (.int i226), .val (.int i231), .val (.ref b233), .val (.ref b260), .val (.double rr), .second, .val (.double ex), .second] [(.int (cmpValue (FP.dcmp rr ex) .l))])) _
      refine XS.ifNo X312.here hx rfl (hb hby at_268) rfl ((if0 _ _).trans (teq Q1').2) ?_
      show Steps p.tables e below (T312.setTop (mkF m 271 #[.val (.int g1), .val (.int g2), .val (.int g3), .val (.int g4), .val (.int g5), .val (.int g6), .val (.int r1), .val (.int (1 : Int32)), .val (.long r2), .second, .val (.long r3), .second, .val (.ref b209), .val (.int r1), .val (.int i226), .val (.int i231), .val (.ref b233), .val (.ref b260), .val (.double rr), .second, .val (.double ex), .second] [])) _
      refine XS.dload X312.here hx rfl (hb hby at_271) rfl ?_
      show Steps p.tables e below (T312.setTop (mkF m 273 #[.val (.int g1), .val (.int g2), .val (.int g3), .val (.int g4), .val (.int g5), .val (.int g6), .val (.int r1), .val (.int (1 : Int32)), .val (.long r2), .second, .val (.long r3), .second, .val (.ref b209), .val (.int r1), .val (.int i226), .val (.int i231), .val (.ref b233), .val (.ref b260), .val (.double rr), .second, .val (.double ex), .second] [(.double rr)])) _
      refine XS.dconst0 X312.here hx rfl (hb hby at_273) (v := (0 : UInt64)) rfl ?_
      show Steps p.tables e below (T312.setTop (mkF m 274 #[.val (.int g1), .val (.int g2), .val (.int g3), .val (.int g4), .val (.int g5), .val (.int g6), .val (.int r1), .val (.int (1 : Int32)), .val (.long r2), .second, .val (.long r3), .second, .val (.ref b209), .val (.int r1), .val (.int i226), .val (.int i231), .val (.ref b233), .val (.ref b260), .val (.double rr), .second, .val (.double ex), .second] [(.double (0 : UInt64)), (.double rr)])) _
      refine XS.dcmpS X312.here hx rfl (hb hby at_274) rfl rfl ?_
      show Steps p.tables e below (T312.setTop (mkF m 275 #[.val (.int g1), .val (.int g2), .val (.int g3), .val (.int g4), .val (.int g5), .val (.int g6), .val (.int r1), .val (.int (1 : Int32)), .val (.long r2), .second, .val (.long r3), .second, .val (.ref b209), .val (.int r1), .val (.int i226), .val (.int i231), .val (.ref b233), .val (.ref b260), .val (.double rr), .second, .val (.double ex), .second] [(.int (cmpValue (FP.dcmp rr (0 : UInt64)) .l))])) _
      refine XS.ifNo X312.here hx rfl (hb hby at_275) rfl ((if0 _ _).trans (tlt Q2).2.2.2) ?_
      show Steps p.tables e below (T312.setTop (mkF m 278 #[.val (.int g1), .val (.int g2), .val (.int g3), .val (.int g4), .val (.int g5), .val (.int g6), .val (.int r1), .val (.int (1 : Int32)), .val (.long r2), .second, .val (.long r3), .second, .val (.ref b209), .val (.int r1), .val (.int i226), .val (.int i231), .val (.ref b233), .val (.ref b260), .val (.double rr), .second, .val (.double ex), .second] [])) _
      refine XS.dload X312.here hx rfl (hb hby at_278) rfl ?_
      show Steps p.tables e below (T312.setTop (mkF m 280 #[.val (.int g1), .val (.int g2), .val (.int g3), .val (.int g4), .val (.int g5), .val (.int g6), .val (.int r1), .val (.int (1 : Int32)), .val (.long r2), .second, .val (.long r3), .second, .val (.ref b209), .val (.int r1), .val (.int i226), .val (.int i231), .val (.ref b233), .val (.ref b260), .val (.double rr), .second, .val (.double ex), .second] [(.double rr)])) _
      refine XS.dconst1 X312.here hx rfl (hb hby at_280) (v := (4607182418800017408 : UInt64)) rfl ?_
      show Steps p.tables e below (T312.setTop (mkF m 281 #[.val (.int g1), .val (.int g2), .val (.int g3), .val (.int g4), .val (.int g5), .val (.int g6), .val (.int r1), .val (.int (1 : Int32)), .val (.long r2), .second, .val (.long r3), .second, .val (.ref b209), .val (.int r1), .val (.int i226), .val (.int i231), .val (.ref b233), .val (.ref b260), .val (.double rr), .second, .val (.double ex), .second] [(.double (4607182418800017408 : UInt64)), (.double rr)])) _
      refine XS.dcmpS X312.here hx rfl (hb hby at_281) rfl rfl ?_
      show Steps p.tables e below (T312.setTop (mkF m 282 #[.val (.int g1), .val (.int g2), .val (.int g3), .val (.int g4), .val (.int g5), .val (.int g6), .val (.int r1), .val (.int (1 : Int32)), .val (.long r2), .second, .val (.long r3), .second, .val (.ref b209), .val (.int r1), .val (.int i226), .val (.int i231), .val (.ref b233), .val (.ref b260), .val (.double rr), .second, .val (.double ex), .second] [(.int (cmpValue (FP.dcmp rr (4607182418800017408 : UInt64)) .g))])) _
      refine XS.ifNo X312.here hx rfl (hb hby at_282) rfl ((if0 _ _).trans (flt Q3).2.2.1) ?_
      show Steps p.tables e below (T312.setTop (mkF m 285 #[.val (.int g1), .val (.int g2), .val (.int g3), .val (.int g4), .val (.int g5), .val (.int g6), .val (.int r1), .val (.int (1 : Int32)), .val (.long r2), .second, .val (.long r3), .second, .val (.ref b209), .val (.int r1), .val (.int i226), .val (.int i231), .val (.ref b233), .val (.ref b260), .val (.double rr), .second, .val (.double ex), .second] [])) _
      refine XS.dload X312.here hx rfl (hb hby at_285) rfl ?_
      show Steps p.tables e below (T312.setTop (mkF m 287 #[.val (.int g1), .val (.int g2), .val (.int g3), .val (.int g4), .val (.int g5), .val (.int g6), .val (.int r1), .val (.int (1 : Int32)), .val (.long r2), .second, .val (.long r3), .second, .val (.ref b209), .val (.int r1), .val (.int i226), .val (.int i231), .val (.ref b233), .val (.ref b260), .val (.double rr), .second, .val (.double ex), .second] [(.double rr)])) _
      refine XS.dconst1 X312.here hx rfl (hb hby at_287) (v := (4607182418800017408 : UInt64)) rfl ?_
      show Steps p.tables e below (T312.setTop (mkF m 288 #[.val (.int g1), .val (.int g2), .val (.int g3), .val (.int g4), .val (.int g5), .val (.int g6), .val (.int r1), .val (.int (1 : Int32)), .val (.long r2), .second, .val (.long r3), .second, .val (.ref b209), .val (.int r1), .val (.int i226), .val (.int i231), .val (.ref b233), .val (.ref b260), .val (.double rr), .second, .val (.double ex), .second] [(.double (4607182418800017408 : UInt64)), (.double rr)])) _
      refine XS.dcmpS X312.here hx rfl (hb hby at_288) rfl rfl ?_
      exact k)
    obtain ⟨i317, hi317⟩ : ∃ z : Int32, z = (if (cmpValue (FP.dcmp rr (4607182418800017408 : UInt64)) .l) = (0 : Int32) then (1 : Int32) else (0 : Int32)) := ⟨_, rfl⟩
    have k318 : ∀ t, Steps p.tables e below (T312.setTop (mkF m 297 #[.val (.int g1), .val (.int g2), .val (.int g3), .val (.int g4), .val (.int g5), .val (.int g6), .val (.int r1), .val (.int (1 : Int32)), .val (.long r2), .second, .val (.long r3), .second, .val (.ref b209), .val (.int r1), .val (.int i226), .val (.int i231), .val (.ref b233), .val (.ref b260), .val (.double rr), .second, .val (.double ex), .second] [(.int i317)])) t → Steps p.tables e below (s₁.setTop (entryFrame m #[(.int g1), (.int g2), (.int g3), (.int g4), (.int g5), (.int g6)] maxLocals)) t := fun t k => k315 t (by
      by_cases c316 : (cmpValue (FP.dcmp rr (4607182418800017408 : UInt64)) .l) = (0 : Int32)
      · rw [if_pos c316] at hi317
        show Steps p.tables e below (T312.setTop (mkF m 289 #[.val (.int g1), .val (.int g2), .val (.int g3), .val (.int g4), .val (.int g5), .val (.int g6), .val (.int r1), .val (.int (1 : Int32)), .val (.long r2), .second, .val (.long r3), .second, .val (.ref b209), .val (.int r1), .val (.int i226), .val (.int i231), .val (.ref b233), .val (.ref b260), .val (.double rr), .second, .val (.double ex), .second] [(.int (cmpValue (FP.dcmp rr (4607182418800017408 : UInt64)) .l))])) _
        refine XS.ifNo X312.here hx rfl (hb hby at_289) rfl ((if0 _ _).trans (teq c316).2) ?_
        show Steps p.tables e below (T312.setTop (mkF m 292 #[.val (.int g1), .val (.int g2), .val (.int g3), .val (.int g4), .val (.int g5), .val (.int g6), .val (.int r1), .val (.int (1 : Int32)), .val (.long r2), .second, .val (.long r3), .second, .val (.ref b209), .val (.int r1), .val (.int i226), .val (.int i231), .val (.ref b233), .val (.ref b260), .val (.double rr), .second, .val (.double ex), .second] [])) _
        refine XS.iconst X312.here hx rfl (hb hby at_292) ?_
        show Steps p.tables e below (T312.setTop (mkF m 293 #[.val (.int g1), .val (.int g2), .val (.int g3), .val (.int g4), .val (.int g5), .val (.int g6), .val (.int r1), .val (.int (1 : Int32)), .val (.long r2), .second, .val (.long r3), .second, .val (.ref b209), .val (.int r1), .val (.int i226), .val (.int i231), .val (.ref b233), .val (.ref b260), .val (.double rr), .second, .val (.double ex), .second] [(.int (1 : Int32))])) _
        refine XS.goto X312.here hx rfl (pc0 := 293) (pc' := 297) rfl (hb hby at_293) (by decide) (by decide) ?_
        show Steps p.tables e below (T312.setTop (mkF m 297 #[.val (.int g1), .val (.int g2), .val (.int g3), .val (.int g4), .val (.int g5), .val (.int g6), .val (.int r1), .val (.int (1 : Int32)), .val (.long r2), .second, .val (.long r3), .second, .val (.ref b209), .val (.int r1), .val (.int i226), .val (.int i231), .val (.ref b233), .val (.ref b260), .val (.double rr), .second, .val (.double ex), .second] [(.int (1 : Int32))])) _
        exact castTop (by rw [hi317]) k
      · rw [if_neg c316] at hi317
        show Steps p.tables e below (T312.setTop (mkF m 289 #[.val (.int g1), .val (.int g2), .val (.int g3), .val (.int g4), .val (.int g5), .val (.int g6), .val (.int r1), .val (.int (1 : Int32)), .val (.long r2), .second, .val (.long r3), .second, .val (.ref b209), .val (.int r1), .val (.int i226), .val (.int i231), .val (.ref b233), .val (.ref b260), .val (.double rr), .second, .val (.double ex), .second] [(.int (cmpValue (FP.dcmp rr (4607182418800017408 : UInt64)) .l))])) _
        refine XS.ifYes X312.here hx rfl (pc0 := 289) (pc' := 296) rfl (hb hby at_289) rfl ((if0 _ _).trans (feq c316).2) (by decide) (by decide) ?_
        show Steps p.tables e below (T312.setTop (mkF m 296 #[.val (.int g1), .val (.int g2), .val (.int g3), .val (.int g4), .val (.int g5), .val (.int g6), .val (.int r1), .val (.int (1 : Int32)), .val (.long r2), .second, .val (.long r3), .second, .val (.ref b209), .val (.int r1), .val (.int i226), .val (.int i231), .val (.ref b233), .val (.ref b260), .val (.double rr), .second, .val (.double ex), .second] [])) _
        refine XS.iconst X312.here hx rfl (hb hby at_296) ?_
        show Steps p.tables e below (T312.setTop (mkF m 297 #[.val (.int g1), .val (.int g2), .val (.int g3), .val (.int g4), .val (.int g5), .val (.int g6), .val (.int r1), .val (.int (1 : Int32)), .val (.long r2), .second, .val (.long r3), .second, .val (.ref b209), .val (.int r1), .val (.int i226), .val (.int i231), .val (.ref b233), .val (.ref b260), .val (.double rr), .second, .val (.double ex), .second] [(.int (0 : Int32))])) _
        exact castTop (by rw [hi317]) k)
    have k319 : ∀ t, Steps p.tables e below (T312.setTop (mkF m 300 #[.val (.int g1), .val (.int g2), .val (.int g3), .val (.int g4), .val (.int g5), .val (.int g6), .val (.int r1), .val (.int (1 : Int32)), .val (.long r2), .second, .val (.long r3), .second, .val (.ref b209), .val (.int r1), .val (.int i226), .val (.int i231), .val (.ref b233), .val (.ref b260), .val (.double rr), .second, .val (.double ex), .second] [(.int (1 : Int32)), (.int r1), (.int i317)])) t → Steps p.tables e below (s₁.setTop (entryFrame m #[(.int g1), (.int g2), (.int g3), (.int g4), (.int g5), (.int g6)] maxLocals)) t := fun t k => k318 t (by
      show Steps p.tables e below (T312.setTop (mkF m 297 #[.val (.int g1), .val (.int g2), .val (.int g3), .val (.int g4), .val (.int g5), .val (.int g6), .val (.int r1), .val (.int (1 : Int32)), .val (.long r2), .second, .val (.long r3), .second, .val (.ref b209), .val (.int r1), .val (.int i226), .val (.int i231), .val (.ref b233), .val (.ref b260), .val (.double rr), .second, .val (.double ex), .second] [(.int i317)])) _
      refine XS.iload X312.here hx rfl (hb hby at_297) rfl ?_
      show Steps p.tables e below (T312.setTop (mkF m 299 #[.val (.int g1), .val (.int g2), .val (.int g3), .val (.int g4), .val (.int g5), .val (.int g6), .val (.int r1), .val (.int (1 : Int32)), .val (.long r2), .second, .val (.long r3), .second, .val (.ref b209), .val (.int r1), .val (.int i226), .val (.int i231), .val (.ref b233), .val (.ref b260), .val (.double rr), .second, .val (.double ex), .second] [(.int r1), (.int i317)])) _
      refine XS.iconst X312.here hx rfl (hb hby at_299) ?_
      exact k)
    obtain ⟨i321, hi321⟩ : ∃ z : Int32, z = (if r1 = (1 : Int32) then (1 : Int32) else (0 : Int32)) := ⟨_, rfl⟩
    have k322 : ∀ t, Steps p.tables e below (T312.setTop (mkF m 308 #[.val (.int g1), .val (.int g2), .val (.int g3), .val (.int g4), .val (.int g5), .val (.int g6), .val (.int r1), .val (.int (1 : Int32)), .val (.long r2), .second, .val (.long r3), .second, .val (.ref b209), .val (.int r1), .val (.int i226), .val (.int i231), .val (.ref b233), .val (.ref b260), .val (.double rr), .second, .val (.double ex), .second] [(.int i321), (.int i317)])) t → Steps p.tables e below (s₁.setTop (entryFrame m #[(.int g1), (.int g2), (.int g3), (.int g4), (.int g5), (.int g6)] maxLocals)) t := fun t k => k319 t (by
      by_cases c320 : r1 = (1 : Int32)
      · rw [if_pos c320] at hi321
        show Steps p.tables e below (T312.setTop (mkF m 300 #[.val (.int g1), .val (.int g2), .val (.int g3), .val (.int g4), .val (.int g5), .val (.int g6), .val (.int r1), .val (.int (1 : Int32)), .val (.long r2), .second, .val (.long r3), .second, .val (.ref b209), .val (.int r1), .val (.int i226), .val (.int i231), .val (.ref b233), .val (.ref b260), .val (.double rr), .second, .val (.double ex), .second] [(.int (1 : Int32)), (.int r1), (.int i317)])) _
        refine XS.icmpNo X312.here hx rfl (hb hby at_300) rfl (teq c320).2 ?_
        show Steps p.tables e below (T312.setTop (mkF m 303 #[.val (.int g1), .val (.int g2), .val (.int g3), .val (.int g4), .val (.int g5), .val (.int g6), .val (.int r1), .val (.int (1 : Int32)), .val (.long r2), .second, .val (.long r3), .second, .val (.ref b209), .val (.int r1), .val (.int i226), .val (.int i231), .val (.ref b233), .val (.ref b260), .val (.double rr), .second, .val (.double ex), .second] [(.int i317)])) _
        refine XS.iconst X312.here hx rfl (hb hby at_303) ?_
        show Steps p.tables e below (T312.setTop (mkF m 304 #[.val (.int g1), .val (.int g2), .val (.int g3), .val (.int g4), .val (.int g5), .val (.int g6), .val (.int r1), .val (.int (1 : Int32)), .val (.long r2), .second, .val (.long r3), .second, .val (.ref b209), .val (.int r1), .val (.int i226), .val (.int i231), .val (.ref b233), .val (.ref b260), .val (.double rr), .second, .val (.double ex), .second] [(.int (1 : Int32)), (.int i317)])) _
        refine XS.goto X312.here hx rfl (pc0 := 304) (pc' := 308) rfl (hb hby at_304) (by decide) (by decide) ?_
        show Steps p.tables e below (T312.setTop (mkF m 308 #[.val (.int g1), .val (.int g2), .val (.int g3), .val (.int g4), .val (.int g5), .val (.int g6), .val (.int r1), .val (.int (1 : Int32)), .val (.long r2), .second, .val (.long r3), .second, .val (.ref b209), .val (.int r1), .val (.int i226), .val (.int i231), .val (.ref b233), .val (.ref b260), .val (.double rr), .second, .val (.double ex), .second] [(.int (1 : Int32)), (.int i317)])) _
        exact castTop (by rw [hi321]) k
      · rw [if_neg c320] at hi321
        show Steps p.tables e below (T312.setTop (mkF m 300 #[.val (.int g1), .val (.int g2), .val (.int g3), .val (.int g4), .val (.int g5), .val (.int g6), .val (.int r1), .val (.int (1 : Int32)), .val (.long r2), .second, .val (.long r3), .second, .val (.ref b209), .val (.int r1), .val (.int i226), .val (.int i231), .val (.ref b233), .val (.ref b260), .val (.double rr), .second, .val (.double ex), .second] [(.int (1 : Int32)), (.int r1), (.int i317)])) _
        refine XS.icmpYes X312.here hx rfl (pc0 := 300) (pc' := 307) rfl (hb hby at_300) rfl (feq c320).2 (by decide) (by decide) ?_
        show Steps p.tables e below (T312.setTop (mkF m 307 #[.val (.int g1), .val (.int g2), .val (.int g3), .val (.int g4), .val (.int g5), .val (.int g6), .val (.int r1), .val (.int (1 : Int32)), .val (.long r2), .second, .val (.long r3), .second, .val (.ref b209), .val (.int r1), .val (.int i226), .val (.int i231), .val (.ref b233), .val (.ref b260), .val (.double rr), .second, .val (.double ex), .second] [(.int i317)])) _
        refine XS.iconst X312.here hx rfl (hb hby at_307) ?_
        show Steps p.tables e below (T312.setTop (mkF m 308 #[.val (.int g1), .val (.int g2), .val (.int g3), .val (.int g4), .val (.int g5), .val (.int g6), .val (.int r1), .val (.int (1 : Int32)), .val (.long r2), .second, .val (.long r3), .second, .val (.ref b209), .val (.int r1), .val (.int i226), .val (.int i231), .val (.ref b233), .val (.ref b260), .val (.double rr), .second, .val (.double ex), .second] [(.int (0 : Int32)), (.int i317)])) _
        exact castTop (by rw [hi321]) k)
    have hii : i317 = i321 := by rw [hi317, hi321]; exact own_iff Q4
    have k323 : ∀ t, Steps p.tables e below (T312.setTop (mkF m 313 #[.val (.int g1), .val (.int g2), .val (.int g3), .val (.int g4), .val (.int g5), .val (.int g6), .val (.int r1), .val (.int (1 : Int32)), .val (.long r2), .second, .val (.long r3), .second, .val (.ref b209), .val (.int r1), .val (.int i226), .val (.int i231), .val (.ref b233), .val (.ref b260), .val (.double rr), .second, .val (.double ex), .second] [(.ref b260)])) t → Steps p.tables e below (s₁.setTop (entryFrame m #[(.int g1), (.int g2), (.int g3), (.int g4), (.int g5), (.int g6)] maxLocals)) t := fun t k => k322 t (by
      show Steps p.tables e below (T312.setTop (mkF m 308 #[.val (.int g1), .val (.int g2), .val (.int g3), .val (.int g4), .val (.int g5), .val (.int g6), .val (.int r1), .val (.int (1 : Int32)), .val (.long r2), .second, .val (.long r3), .second, .val (.ref b209), .val (.int r1), .val (.int i226), .val (.int i231), .val (.ref b233), .val (.ref b260), .val (.double rr), .second, .val (.double ex), .second] [(.int i321), (.int i317)])) _
      refine XS.icmpNo X312.here hx rfl (hb hby at_308) rfl (teq hii).2 ?_
      show Steps p.tables e below (T312.setTop (mkF m 311 #[.val (.int g1), .val (.int g2), .val (.int g3), .val (.int g4), .val (.int g5), .val (.int g6), .val (.int r1), .val (.int (1 : Int32)), .val (.long r2), .second, .val (.long r3), .second, .val (.ref b209), .val (.int r1), .val (.int i226), .val (.int i231), .val (.ref b233), .val (.ref b260), .val (.double rr), .second, .val (.double ex), .second] [])) _
      refine XS.aload X312.here hx rfl (hb hby at_311) rfl rfl ?_
      exact k)
    obtain ⟨cq324, kq324, q324a, q324b, q324c⟩ := isOf hZ e312 G304a
    obtain ⟨_, _, ⟨T324, L324, k324, n324⟩, -, X324, ⟨Lc324, hQ324, l324, y324, z324⟩, st324⟩ := X312.virtualBack hx (y := (⟨"com/example/round2/round2/eval/TopicResult", "getRelevantRetrieved", "()I"⟩ : MethodName)) (z := (⟨"com/example/round2/round2/eval/TopicResult", "getRelevantRetrieved", "()I"⟩ : MethodName)) hown (mvT hZ (hw _ (List.mem_of_getElem? (i := 57) rfl))) (mvT hZ (hw _ (List.mem_of_getElem? (i := 58) rfl))) (notFace_of_selects (args := #[]) (mvT hZ (hw _ (List.mem_of_getElem? (i := 60) rfl)))) (mvT hZ (hw _ (List.mem_of_getElem? (i := 60) rfl))) (mvT hZ (hw _ (List.mem_of_getElem? (i := 59) rfl))) (by decide) (backOf (W := 0) (grr1 l Z a0 hw [] b260 b209 k209 r1 h304 n0 Z310 G304c F307) hZ (hw _ (List.mem_of_getElem? (i := 61) rfl)) (hw _ (List.mem_of_getElem? (i := 10) rfl)) (by decide) (by decide)) q324a q324c (g := (mkF m 313 #[.val (.int g1), .val (.int g2), .val (.int g3), .val (.int g4), .val (.int g5), .val (.int g6), .val (.int r1), .val (.int (1 : Int32)), .val (.long r2), .second, .val (.long r3), .second, .val (.ref b209), .val (.int r1), .val (.int i226), .val (.int i231), .val (.ref b233), .val (.ref b260), .val (.double rr), .second, .val (.double ex), .second] [(.ref b260)])) rfl (by rw [hml]; rfl) (Steps.refl _) (argsL := []) (rest := []) (lenOf pd__28_29I rfl) rfl (by show 2 * 0 + _ ≤ _; exact Nat.le_of_eq rfl) (hb hby at_313) (fun _ _ => ⟨rfl, e312, (by decide : 5 + 0 ≤ _), (by decide : 13 + 0 ≤ _)⟩)
    dsimp only [Pt.U, Pt.locs, Pt.cells, Pt.slots] at X324 l324 y324 z324 st324 hQ324
    subst l324 y324 z324
    obtain ⟨rfl, N324q, e324⟩ := hQ324
    have N325 := Fr.app N313 N324q
    have k326 : ∀ t, Steps p.tables e below (T324.setTop (mkF m 316 #[.val (.int g1), .val (.int g2), .val (.int g3), .val (.int g4), .val (.int g5), .val (.int g6), .val (.int r1), .val (.int (1 : Int32)), .val (.long r2), .second, .val (.long r3), .second, .val (.ref b209), .val (.int r1), .val (.int i226), .val (.int i231), .val (.ref b233), .val (.ref b260), .val (.double rr), .second, .val (.double ex), .second] [(.int (1 : Int32))])) t → Steps p.tables e below (s₁.setTop (entryFrame m #[(.int g1), (.int g2), (.int g3), (.int g4), (.int g5), (.int g6)] maxLocals)) t := fun t k => k323 t (st324.trans k)
    have k327 : ∀ t, Steps p.tables e below (T324.setTop (mkF m 326 #[.val (.int g1), .val (.int g2), .val (.int g3), .val (.int g4), .val (.int g5), .val (.int g6), .val (.int r1), .val (.int (1 : Int32)), .val (.long r2), .second, .val (.long r3), .second, .val (.ref b209), .val (.int r1), .val (.int i226), .val (.int i231), .val (.ref b233), .val (.ref b260), .val (.double rr), .second, .val (.double ex), .second] [(.int (1 : Int32))])) t → Steps p.tables e below (s₁.setTop (entryFrame m #[(.int g1), (.int g2), (.int g3), (.int g4), (.int g5), (.int g6)] maxLocals)) t := fun t k => k326 t (by
      show Steps p.tables e below (T324.setTop (mkF m 316 #[.val (.int g1), .val (.int g2), .val (.int g3), .val (.int g4), .val (.int g5), .val (.int g6), .val (.int r1), .val (.int (1 : Int32)), .val (.long r2), .second, .val (.long r3), .second, .val (.ref b209), .val (.int r1), .val (.int i226), .val (.int i231), .val (.ref b233), .val (.ref b260), .val (.double rr), .second, .val (.double ex), .second] [(.int (1 : Int32))])) _
      refine XS.iload X324.here hx rfl (hb hby at_316) rfl ?_
      show Steps p.tables e below (T324.setTop (mkF m 318 #[.val (.int g1), .val (.int g2), .val (.int g3), .val (.int g4), .val (.int g5), .val (.int g6), .val (.int r1), .val (.int (1 : Int32)), .val (.long r2), .second, .val (.long r3), .second, .val (.ref b209), .val (.int r1), .val (.int i226), .val (.int i231), .val (.ref b233), .val (.ref b260), .val (.double rr), .second, .val (.double ex), .second] [(.int (1 : Int32)), (.int (1 : Int32))])) _
      refine XS.icmpNo X324.here hx rfl (hb hby at_318) rfl (teq (by decide)).2 ?_
      show Steps p.tables e below (T324.setTop (mkF m 321 #[.val (.int g1), .val (.int g2), .val (.int g3), .val (.int g4), .val (.int g5), .val (.int g6), .val (.int r1), .val (.int (1 : Int32)), .val (.long r2), .second, .val (.long r3), .second, .val (.ref b209), .val (.int r1), .val (.int i226), .val (.int i231), .val (.ref b233), .val (.ref b260), .val (.double rr), .second, .val (.double ex), .second] [])) _
      refine XS.iconst X324.here hx rfl (hb hby at_321) ?_
      show Steps p.tables e below (T324.setTop (mkF m 322 #[.val (.int g1), .val (.int g2), .val (.int g3), .val (.int g4), .val (.int g5), .val (.int g6), .val (.int r1), .val (.int (1 : Int32)), .val (.long r2), .second, .val (.long r3), .second, .val (.ref b209), .val (.int r1), .val (.int i226), .val (.int i231), .val (.ref b233), .val (.ref b260), .val (.double rr), .second, .val (.double ex), .second] [(.int (1 : Int32))])) _
      refine XS.goto X324.here hx rfl (pc0 := 322) (pc' := 326) rfl (hb hby at_322) (by decide) (by decide) ?_
      exact k)
    obtain ⟨fs, hr, hrun, hended, hW, hsame⟩ := X324.leave (v := some (.int (1 : Int32))) (fun h => by rw [Bd.returns] at h; cases h)
    refine ⟨_, _, k327 _ (retOut X324 hx (t := .boolean) Bd.returns rfl (Or.inl ⟨rfl, Or.inr (Or.inl rfl), _, rfl⟩) (hb hby at_326) hr), hrun, hended, _, _, rfl, ?_, ⟨_, rfl⟩, hW, hsame.mono (by decide) (by decide)⟩
    show Q_rm0 Z g1 g2 g3 g4 g5 g6 cs h0 n0 _ T324.heap _
    rw [e324]
    exact ⟨rfl, N325⟩
  · have k328 : ∀ t, Steps p.tables e below (s₁.setTop (mkF m 105 #[.val (.int g1), .val (.int g2), .val (.int g3), .val (.int g4), .val (.int g5), .val (.int g6), .val (.int r1), .val (.int (2 : Int32)), .val (.long r2), .second, .val (.long r3), .second, .unset, .unset, .unset, .unset, .unset, .unset, .unset, .unset, .unset, .unset] [(.int (2 : Int32))])) t → Steps p.tables e below (s₁.setTop (entryFrame m #[(.int g1), (.int g2), (.int g3), (.int g4), (.int g5), (.int g6)] maxLocals)) t := fun t k => k106 t (by
      show Steps p.tables e below (s₁.setTop (mkF m 59 #[.val (.int g1), .val (.int g2), .val (.int g3), .val (.int g4), .val (.int g5), .val (.int g6), .val (.int r1), .val (.int (2 : Int32)), .val (.long r2), .second, .val (.long r3), .second, .unset, .unset, .unset, .unset, .unset, .unset, .unset, .unset, .unset, .unset] [])) _
      refine XS.iload X0.here hx rfl (hb hby at_59) rfl ?_
      show Steps p.tables e below (s₁.setTop (mkF m 61 #[.val (.int g1), .val (.int g2), .val (.int g3), .val (.int g4), .val (.int g5), .val (.int g6), .val (.int r1), .val (.int (2 : Int32)), .val (.long r2), .second, .val (.long r3), .second, .unset, .unset, .unset, .unset, .unset, .unset, .unset, .unset, .unset, .unset] [(.int (2 : Int32))])) _
      refine XS.ifYes X0.here hx rfl (pc0 := 61) (pc' := 75) rfl (hb hby at_61) rfl ((if0 _ _).trans (feq (by decide)).2) (by decide) (by decide) ?_
      show Steps p.tables e below (s₁.setTop (mkF m 75 #[.val (.int g1), .val (.int g2), .val (.int g3), .val (.int g4), .val (.int g5), .val (.int g6), .val (.int r1), .val (.int (2 : Int32)), .val (.long r2), .second, .val (.long r3), .second, .unset, .unset, .unset, .unset, .unset, .unset, .unset, .unset, .unset, .unset] [])) _
      refine XS.iload X0.here hx rfl (hb hby at_75) rfl ?_
      show Steps p.tables e below (s₁.setTop (mkF m 77 #[.val (.int g1), .val (.int g2), .val (.int g3), .val (.int g4), .val (.int g5), .val (.int g6), .val (.int r1), .val (.int (2 : Int32)), .val (.long r2), .second, .val (.long r3), .second, .unset, .unset, .unset, .unset, .unset, .unset, .unset, .unset, .unset, .unset] [(.int (2 : Int32))])) _
      refine XS.iconst X0.here hx rfl (hb hby at_77) ?_
      show Steps p.tables e below (s₁.setTop (mkF m 78 #[.val (.int g1), .val (.int g2), .val (.int g3), .val (.int g4), .val (.int g5), .val (.int g6), .val (.int r1), .val (.int (2 : Int32)), .val (.long r2), .second, .val (.long r3), .second, .unset, .unset, .unset, .unset, .unset, .unset, .unset, .unset, .unset, .unset] [(.int (1 : Int32)), (.int (2 : Int32))])) _
      refine XS.icmpYes X0.here hx rfl (pc0 := 78) (pc' := 98) rfl (hb hby at_78) rfl (feq (by decide)).2 (by decide) (by decide) ?_
      show Steps p.tables e below (s₁.setTop (mkF m 98 #[.val (.int g1), .val (.int g2), .val (.int g3), .val (.int g4), .val (.int g5), .val (.int g6), .val (.int r1), .val (.int (2 : Int32)), .val (.long r2), .second, .val (.long r3), .second, .unset, .unset, .unset, .unset, .unset, .unset, .unset, .unset, .unset, .unset] [])) _
      refine XS.iload X0.here hx rfl (hb hby at_98) rfl ?_
      show Steps p.tables e below (s₁.setTop (mkF m 100 #[.val (.int g1), .val (.int g2), .val (.int g3), .val (.int g4), .val (.int g5), .val (.int g6), .val (.int r1), .val (.int (2 : Int32)), .val (.long r2), .second, .val (.long r3), .second, .unset, .unset, .unset, .unset, .unset, .unset, .unset, .unset, .unset, .unset] [(.int (2 : Int32))])) _
      refine XS.iconst X0.here hx rfl (hb hby at_100) ?_
      show Steps p.tables e below (s₁.setTop (mkF m 101 #[.val (.int g1), .val (.int g2), .val (.int g3), .val (.int g4), .val (.int g5), .val (.int g6), .val (.int r1), .val (.int (2 : Int32)), .val (.long r2), .second, .val (.long r3), .second, .unset, .unset, .unset, .unset, .unset, .unset, .unset, .unset, .unset, .unset] [(.int (2 : Int32)), (.int (2 : Int32))])) _
      refine XS.icmpNo X0.here hx rfl (hb hby at_101) rfl (teq (by decide)).2 ?_
      show Steps p.tables e below (s₁.setTop (mkF m 104 #[.val (.int g1), .val (.int g2), .val (.int g3), .val (.int g4), .val (.int g5), .val (.int g6), .val (.int r1), .val (.int (2 : Int32)), .val (.long r2), .second, .val (.long r3), .second, .unset, .unset, .unset, .unset, .unset, .unset, .unset, .unset, .unset, .unset] [])) _
      refine XS.iconst X0.here hx rfl (hb hby at_104) ?_
      exact k)
    obtain ⟨T329, h329, k329, X329, e329, E329, A329, st329⟩ := newP X0 hx hZ (hw _ (List.mem_of_getElem? (i := 2) rfl)) e0 (g := (mkF m 105 #[.val (.int g1), .val (.int g2), .val (.int g3), .val (.int g4), .val (.int g5), .val (.int g6), .val (.int r1), .val (.int (2 : Int32)), .val (.long r2), .second, .val (.long r3), .second, .unset, .unset, .unset, .unset, .unset, .unset, .unset, .unset, .unset, .unset] [(.int (2 : Int32))])) rfl (hb hby at_105) rfl (by decide) (cap := 2) (by decide) (by decide) (by decide) (by decide)
    obtain ⟨b329, g329⟩ : ∃ z, z = h0.size := ⟨_, rfl⟩
    rw [← g329] at A329 st329
    have g330 : n0 ≤ b329 := Nat.le_trans Z0 (Nat.le_of_eq g329.symm)
    have F331 := Scs.ext E329
    have Z332 : n0 ≤ h329.size := Nat.le_trans Z0 E329.1
    have V333 : Arv Z h329 b329 k329 .int (2 : Int32) [(.int (0 : Int32)), (.int (0 : Int32))] (.int (0 : Int32)) := (Arv.new A329 (by decide)).pad (pad_rep [] (.int (0 : Int32)) 2)
    have k334 : ∀ t, Steps p.tables e below (T329.setTop (mkF m 107 #[.val (.int g1), .val (.int g2), .val (.int g3), .val (.int g4), .val (.int g5), .val (.int g6), .val (.int r1), .val (.int (2 : Int32)), .val (.long r2), .second, .val (.long r3), .second, .unset, .unset, .unset, .unset, .unset, .unset, .unset, .unset, .unset, .unset] [(.ref b329)])) t → Steps p.tables e below (s₁.setTop (entryFrame m #[(.int g1), (.int g2), (.int g3), (.int g4), (.int g5), (.int g6)] maxLocals)) t := fun t k => k328 t (st329 t k)
    have k335 : ∀ t, Steps p.tables e below (T329.setTop (mkF m 111 #[.val (.int g1), .val (.int g2), .val (.int g3), .val (.int g4), .val (.int g5), .val (.int g6), .val (.int r1), .val (.int (2 : Int32)), .val (.long r2), .second, .val (.long r3), .second, .unset, .unset, .unset, .unset, .unset, .unset, .unset, .unset, .unset, .unset] [(.int r1), (.int (0 : Int32)), (.ref b329), (.ref b329)])) t → Steps p.tables e below (s₁.setTop (entryFrame m #[(.int g1), (.int g2), (.int g3), (.int g4), (.int g5), (.int g6)] maxLocals)) t := fun t k => k334 t (by
      show Steps p.tables e below (T329.setTop (mkF m 107 #[.val (.int g1), .val (.int g2), .val (.int g3), .val (.int g4), .val (.int g5), .val (.int g6), .val (.int r1), .val (.int (2 : Int32)), .val (.long r2), .second, .val (.long r3), .second, .unset, .unset, .unset, .unset, .unset, .unset, .unset, .unset, .unset, .unset] [(.ref b329)])) _
      refine XS.dup X329.here hx rfl (hb hby at_107) rfl rfl ?_
      show Steps p.tables e below (T329.setTop (mkF m 108 #[.val (.int g1), .val (.int g2), .val (.int g3), .val (.int g4), .val (.int g5), .val (.int g6), .val (.int r1), .val (.int (2 : Int32)), .val (.long r2), .second, .val (.long r3), .second, .unset, .unset, .unset, .unset, .unset, .unset, .unset, .unset, .unset, .unset] [(.ref b329), (.ref b329)])) _
      refine XS.iconst X329.here hx rfl (hb hby at_108) ?_
      show Steps p.tables e below (T329.setTop (mkF m 109 #[.val (.int g1), .val (.int g2), .val (.int g3), .val (.int g4), .val (.int g5), .val (.int g6), .val (.int r1), .val (.int (2 : Int32)), .val (.long r2), .second, .val (.long r3), .second, .unset, .unset, .unset, .unset, .unset, .unset, .unset, .unset, .unset, .unset] [(.int (0 : Int32)), (.ref b329), (.ref b329)])) _
      refine XS.iload X329.here hx rfl (hb hby at_109) rfl ?_
      exact k)
    obtain ⟨c336, Ar336, Aq336, As336, An336, Ah336, Ag336⟩ := id V333
    have hin336 : ¬ ((0 : Int32) < 0 ∨ c336.slots.size ≤ ((0 : Int32)).toNatClampNeg) := inb_of As336 ⟨by decide, by decide⟩
    obtain ⟨T336, h336, X336, e336, W336, st336⟩ := stI X329 hx hZ e329 Ar336 (j := (0 : Int32)) hin336 (g := (mkF m 111 #[.val (.int g1), .val (.int g2), .val (.int g3), .val (.int g4), .val (.int g5), .val (.int g6), .val (.int r1), .val (.int (2 : Int32)), .val (.long r2), .second, .val (.long r3), .second, .unset, .unset, .unset, .unset, .unset, .unset, .unset, .unset, .unset, .unset] [(.int r1), (.int (0 : Int32)), (.ref b329), (.ref b329)])) rfl rfl (hb hby at_111)
    have V337 := Arv.set Ar336 Aq336 As336 An336 Ah336 Ag336 rfl W336 0 rfl (Nat.le_of_ble_eq_true rfl)
    have F338 := F331.wr W336
    have Z339 : n0 ≤ h336.size := Nat.le_trans Z332 (Nat.le_of_eq W336.size.symm)
    have N340 := Fr.snoc X336 N0 g330
    have k341 : ∀ t, Steps p.tables e below (T336.setTop (mkF m 112 #[.val (.int g1), .val (.int g2), .val (.int g3), .val (.int g4), .val (.int g5), .val (.int g6), .val (.int r1), .val (.int (2 : Int32)), .val (.long r2), .second, .val (.long r3), .second, .unset, .unset, .unset, .unset, .unset, .unset, .unset, .unset, .unset, .unset] [(.ref b329)])) t → Steps p.tables e below (s₁.setTop (entryFrame m #[(.int g1), (.int g2), (.int g3), (.int g4), (.int g5), (.int g6)] maxLocals)) t := fun t k => k335 t (st336 t k)
    have k342 : ∀ t, Steps p.tables e below (T336.setTop (mkF m 117 #[.val (.int g1), .val (.int g2), .val (.int g3), .val (.int g4), .val (.int g5), .val (.int g6), .val (.int r1), .val (.int (2 : Int32)), .val (.long r2), .second, .val (.long r3), .second, .unset, .unset, .unset, .unset, .unset, .unset, .unset, .unset, .unset, .unset] [(.int (r2.toInt32)), (.int (1 : Int32)), (.ref b329), (.ref b329)])) t → Steps p.tables e below (s₁.setTop (entryFrame m #[(.int g1), (.int g2), (.int g3), (.int g4), (.int g5), (.int g6)] maxLocals)) t := fun t k => k341 t (by
      show Steps p.tables e below (T336.setTop (mkF m 112 #[.val (.int g1), .val (.int g2), .val (.int g3), .val (.int g4), .val (.int g5), .val (.int g6), .val (.int r1), .val (.int (2 : Int32)), .val (.long r2), .second, .val (.long r3), .second, .unset, .unset, .unset, .unset, .unset, .unset, .unset, .unset, .unset, .unset] [(.ref b329)])) _
      refine XS.dup X336.here hx rfl (hb hby at_112) rfl rfl ?_
      show Steps p.tables e below (T336.setTop (mkF m 113 #[.val (.int g1), .val (.int g2), .val (.int g3), .val (.int g4), .val (.int g5), .val (.int g6), .val (.int r1), .val (.int (2 : Int32)), .val (.long r2), .second, .val (.long r3), .second, .unset, .unset, .unset, .unset, .unset, .unset, .unset, .unset, .unset, .unset] [(.ref b329), (.ref b329)])) _
      refine XS.iconst X336.here hx rfl (hb hby at_113) ?_
      show Steps p.tables e below (T336.setTop (mkF m 114 #[.val (.int g1), .val (.int g2), .val (.int g3), .val (.int g4), .val (.int g5), .val (.int g6), .val (.int r1), .val (.int (2 : Int32)), .val (.long r2), .second, .val (.long r3), .second, .unset, .unset, .unset, .unset, .unset, .unset, .unset, .unset, .unset, .unset] [(.int (1 : Int32)), (.ref b329), (.ref b329)])) _
      refine XS.lload X336.here hx rfl (hb hby at_114) rfl ?_
      show Steps p.tables e below (T336.setTop (mkF m 116 #[.val (.int g1), .val (.int g2), .val (.int g3), .val (.int g4), .val (.int g5), .val (.int g6), .val (.int r1), .val (.int (2 : Int32)), .val (.long r2), .second, .val (.long r3), .second, .unset, .unset, .unset, .unset, .unset, .unset, .unset, .unset, .unset, .unset] [(.long r2), (.int (1 : Int32)), (.ref b329), (.ref b329)])) _
      refine XS.l2i X336.here hx rfl (hb hby at_116) rfl ?_
      exact k)
    obtain ⟨c343, Ar343, Aq343, As343, An343, Ah343, Ag343⟩ := id V337
    have hin343 : ¬ ((1 : Int32) < 0 ∨ c343.slots.size ≤ ((1 : Int32)).toNatClampNeg) := inb_of As343 ⟨by decide, by decide⟩
    obtain ⟨T343, h343, X343, e343, W343, st343⟩ := stI X336 hx hZ e336 Ar343 (j := (1 : Int32)) hin343 (g := (mkF m 117 #[.val (.int g1), .val (.int g2), .val (.int g3), .val (.int g4), .val (.int g5), .val (.int g6), .val (.int r1), .val (.int (2 : Int32)), .val (.long r2), .second, .val (.long r3), .second, .unset, .unset, .unset, .unset, .unset, .unset, .unset, .unset, .unset, .unset] [(.int (r2.toInt32)), (.int (1 : Int32)), (.ref b329), (.ref b329)])) rfl rfl (hb hby at_117)
    have V344 := Arv.set Ar343 Aq343 As343 An343 Ah343 Ag343 rfl W343 1 rfl (Nat.le_of_ble_eq_true rfl)
    have F345 := F338.wr W343
    have Z346 : n0 ≤ h343.size := Nat.le_trans Z339 (Nat.le_of_eq W343.size.symm)
    have N347 := Fr.snoc X343 N340 g330
    have k348 : ∀ t, Steps p.tables e below (T343.setTop (mkF m 118 #[.val (.int g1), .val (.int g2), .val (.int g3), .val (.int g4), .val (.int g5), .val (.int g6), .val (.int r1), .val (.int (2 : Int32)), .val (.long r2), .second, .val (.long r3), .second, .unset, .unset, .unset, .unset, .unset, .unset, .unset, .unset, .unset, .unset] [(.ref b329)])) t → Steps p.tables e below (s₁.setTop (entryFrame m #[(.int g1), (.int g2), (.int g3), (.int g4), (.int g5), (.int g6)] maxLocals)) t := fun t k => k342 t (st343 t k)
    have k349 : ∀ t, Steps p.tables e below (T343.setTop (mkF m 162 #[.val (.int g1), .val (.int g2), .val (.int g3), .val (.int g4), .val (.int g5), .val (.int g6), .val (.int r1), .val (.int (2 : Int32)), .val (.long r2), .second, .val (.long r3), .second, .val (.ref b329), .val (.int (r2.toInt32)), .unset, .unset, .unset, .unset, .unset, .unset, .unset, .unset] [(.int (g5 &&& (2147483647 : Int32))), (.int (r2.toInt32))])) t → Steps p.tables e below (s₁.setTop (entryFrame m #[(.int g1), (.int g2), (.int g3), (.int g4), (.int g5), (.int g6)] maxLocals)) t := fun t k => k348 t (by
      show Steps p.tables e below (T343.setTop (mkF m 118 #[.val (.int g1), .val (.int g2), .val (.int g3), .val (.int g4), .val (.int g5), .val (.int g6), .val (.int r1), .val (.int (2 : Int32)), .val (.long r2), .second, .val (.long r3), .second, .unset, .unset, .unset, .unset, .unset, .unset, .unset, .unset, .unset, .unset] [(.ref b329)])) _
      refine XS.astore X343.here hx rfl (hb hby at_118) rfl rfl (l' := #[.val (.int g1), .val (.int g2), .val (.int g3), .val (.int g4), .val (.int g5), .val (.int g6), .val (.int r1), .val (.int (2 : Int32)), .val (.long r2), .second, .val (.long r3), .second, .val (.ref b329), .unset, .unset, .unset, .unset, .unset, .unset, .unset, .unset, .unset]) rfl ?_
      show Steps p.tables e below (T343.setTop (mkF m 120 #[.val (.int g1), .val (.int g2), .val (.int g3), .val (.int g4), .val (.int g5), .val (.int g6), .val (.int r1), .val (.int (2 : Int32)), .val (.long r2), .second, .val (.long r3), .second, .val (.ref b329), .unset, .unset, .unset, .unset, .unset, .unset, .unset, .unset, .unset] [])) _
      refine XS.lload X343.here hx rfl (hb hby at_120) rfl ?_
      show Steps p.tables e below (T343.setTop (mkF m 122 #[.val (.int g1), .val (.int g2), .val (.int g3), .val (.int g4), .val (.int g5), .val (.int g6), .val (.int r1), .val (.int (2 : Int32)), .val (.long r2), .second, .val (.long r3), .second, .val (.ref b329), .unset, .unset, .unset, .unset, .unset, .unset, .unset, .unset, .unset] [(.long r2)])) _
      refine XS.l2i X343.here hx rfl (hb hby at_122) rfl ?_
      show Steps p.tables e below (T343.setTop (mkF m 123 #[.val (.int g1), .val (.int g2), .val (.int g3), .val (.int g4), .val (.int g5), .val (.int g6), .val (.int r1), .val (.int (2 : Int32)), .val (.long r2), .second, .val (.long r3), .second, .val (.ref b329), .unset, .unset, .unset, .unset, .unset, .unset, .unset, .unset, .unset] [(.int (r2.toInt32))])) _
      refine XS.istore X343.here hx rfl (hb hby at_123) rfl (l' := #[.val (.int g1), .val (.int g2), .val (.int g3), .val (.int g4), .val (.int g5), .val (.int g6), .val (.int r1), .val (.int (2 : Int32)), .val (.long r2), .second, .val (.long r3), .second, .val (.ref b329), .val (.int (r2.toInt32)), .unset, .unset, .unset, .unset, .unset, .unset, .unset, .unset]) rfl ?_
      show Steps p.tables e below (T343.setTop (mkF m 125 #[.val (.int g1), .val (.int g2), .val (.int g3), .val (.int g4), .val (.int g5), .val (.int g6), .val (.int r1), .val (.int (2 : Int32)), .val (.long r2), .second, .val (.long r3), .second, .val (.ref b329), .val (.int (r2.toInt32)), .unset, .unset, .unset, .unset, .unset, .unset, .unset, .unset] [])) _
      refine XS.goto X343.here hx rfl (pc0 := 125) (pc' := 155) rfl (hb hby at_125) (by decide) (by decide) ?_
      show Steps p.tables e below (T343.setTop (mkF m 155 #[.val (.int g1), .val (.int g2), .val (.int g3), .val (.int g4), .val (.int g5), .val (.int g6), .val (.int r1), .val (.int (2 : Int32)), .val (.long r2), .second, .val (.long r3), .second, .val (.ref b329), .val (.int (r2.toInt32)), .unset, .unset, .unset, .unset, .unset, .unset, .unset, .unset] [])) _
      refine XS.iload X343.here hx rfl (hb hby at_155) rfl ?_
      show Steps p.tables e below (T343.setTop (mkF m 157 #[.val (.int g1), .val (.int g2), .val (.int g3), .val (.int g4), .val (.int g5), .val (.int g6), .val (.int r1), .val (.int (2 : Int32)), .val (.long r2), .second, .val (.long r3), .second, .val (.ref b329), .val (.int (r2.toInt32)), .unset, .unset, .unset, .unset, .unset, .unset, .unset, .unset] [(.int (r2.toInt32))])) _
      refine XS.iload X343.here hx rfl (hb hby at_157) rfl ?_
      show Steps p.tables e below (T343.setTop (mkF m 159 #[.val (.int g1), .val (.int g2), .val (.int g3), .val (.int g4), .val (.int g5), .val (.int g6), .val (.int r1), .val (.int (2 : Int32)), .val (.long r2), .second, .val (.long r3), .second, .val (.ref b329), .val (.int (r2.toInt32)), .unset, .unset, .unset, .unset, .unset, .unset, .unset, .unset] [(.int g5), (.int (r2.toInt32))])) _
      refine X343.ldcInt hx hown (mvT hZ (hw _ (List.mem_of_getElem? (i := 0) rfl))) (g := (mkF m 159 #[.val (.int g1), .val (.int g2), .val (.int g3), .val (.int g4), .val (.int g5), .val (.int g6), .val (.int r1), .val (.int (2 : Int32)), .val (.long r2), .second, .val (.long r3), .second, .val (.ref b329), .val (.int (r2.toInt32)), .unset, .unset, .unset, .unset, .unset, .unset, .unset, .unset] [(.int g5), (.int (r2.toInt32))])) rfl (hb hby at_159) _ ?_
      show Steps p.tables e below (T343.setTop (mkF m 161 #[.val (.int g1), .val (.int g2), .val (.int g3), .val (.int g4), .val (.int g5), .val (.int g6), .val (.int r1), .val (.int (2 : Int32)), .val (.long r2), .second, .val (.long r3), .second, .val (.ref b329), .val (.int (r2.toInt32)), .unset, .unset, .unset, .unset, .unset, .unset, .unset, .unset] [(.int (2147483647 : Int32)), (.int g5), (.int (r2.toInt32))])) _
      refine XS.iand X343.here hx rfl (hb hby at_161) rfl ?_
      exact k)
    obtain ⟨_, _, ⟨T350, L350, k350, n350⟩, -, X350, ⟨Lc350, hQ350, l350, y350, z350⟩, st350⟩ := Jvm.LawKit.callS X343 hx (y := (⟨"java/lang/Math", "max", "(II)I"⟩ : MethodName)) hown (mvT hZ (hw _ (List.mem_of_getElem? (i := 3) rfl))) (mvT hZ (hw _ (List.mem_of_getElem? (i := 4) rfl))) (mvT hZ (hw _ (List.mem_of_getElem? (i := 5) rfl))) (mvT hZ (hw _ (List.mem_of_getElem? (i := 6) rfl))) (by decide) (backOf (W := 0) (rm1 l Z a0 hw [] (r2.toInt32) (g5 &&& (2147483647 : Int32)) h343 n0 Z346 ) hZ (hw _ (List.mem_of_getElem? (i := 6) rfl)) (hw _ (List.mem_of_getElem? (i := 5) rfl)) (by decide) (by decide)) (g := (mkF m 162 #[.val (.int g1), .val (.int g2), .val (.int g3), .val (.int g4), .val (.int g5), .val (.int g6), .val (.int r1), .val (.int (2 : Int32)), .val (.long r2), .second, .val (.long r3), .second, .val (.ref b329), .val (.int (r2.toInt32)), .unset, .unset, .unset, .unset, .unset, .unset, .unset, .unset] [(.int (g5 &&& (2147483647 : Int32))), (.int (r2.toInt32))])) rfl (by rw [hml]; rfl) (argsL := [(.int (r2.toInt32)), (.int (g5 &&& (2147483647 : Int32)))]) (rest := []) (lenOf pd__28II_29I rfl) rfl (by show 2 * 0 + _ ≤ _; exact Nat.le_of_eq rfl) (hb hby at_162) (fun _ _ => ⟨rfl, e343, (by decide : 1 + 0 ≤ _), (by decide : 2 + 0 ≤ _)⟩)
    dsimp only [Pt.U, Pt.locs, Pt.cells, Pt.slots] at X350 l350 y350 z350 st350 hQ350
    subst l350 y350 z350
    obtain ⟨rfl, N350q, e350⟩ := hQ350
    have N351 := Fr.app N347 N350q
    have k352 : ∀ t, Steps p.tables e below (T350.setTop (mkF m 165 #[.val (.int g1), .val (.int g2), .val (.int g3), .val (.int g4), .val (.int g5), .val (.int g6), .val (.int r1), .val (.int (2 : Int32)), .val (.long r2), .second, .val (.long r3), .second, .val (.ref b329), .val (.int (r2.toInt32)), .unset, .unset, .unset, .unset, .unset, .unset, .unset, .unset] [(.int (if (r2.toInt32) < (g5 &&& (2147483647 : Int32)) then (g5 &&& (2147483647 : Int32)) else (r2.toInt32)))])) t → Steps p.tables e below (s₁.setTop (entryFrame m #[(.int g1), (.int g2), (.int g3), (.int g4), (.int g5), (.int g6)] maxLocals)) t := fun t k => k349 t (st350 t k)
    obtain ⟨i353, hi353⟩ : ∃ z : Int32, z = (if (r2.toInt32) < (g5 &&& (2147483647 : Int32)) then (g5 &&& (2147483647 : Int32)) else (r2.toInt32)) := ⟨_, rfl⟩
    have k354 : ∀ t, Steps p.tables e below (T350.setTop (mkF m 174 #[.val (.int g1), .val (.int g2), .val (.int g3), .val (.int g4), .val (.int g5), .val (.int g6), .val (.int r1), .val (.int (2 : Int32)), .val (.long r2), .second, .val (.long r3), .second, .val (.ref b329), .val (.int (r2.toInt32)), .val (.int i353), .unset, .unset, .unset, .unset, .unset, .unset, .unset] [(.int (g6 &&& (2147483647 : Int32))), (.int (2 : Int32))])) t → Steps p.tables e below (s₁.setTop (entryFrame m #[(.int g1), (.int g2), (.int g3), (.int g4), (.int g5), (.int g6)] maxLocals)) t := fun t k => k352 t (by
      show Steps p.tables e below (T350.setTop (mkF m 165 #[.val (.int g1), .val (.int g2), .val (.int g3), .val (.int g4), .val (.int g5), .val (.int g6), .val (.int r1), .val (.int (2 : Int32)), .val (.long r2), .second, .val (.long r3), .second, .val (.ref b329), .val (.int (r2.toInt32)), .unset, .unset, .unset, .unset, .unset, .unset, .unset, .unset] [(.int (if (r2.toInt32) < (g5 &&& (2147483647 : Int32)) then (g5 &&& (2147483647 : Int32)) else (r2.toInt32)))])) _
      refine castTop (g' := (mkF m 165 #[.val (.int g1), .val (.int g2), .val (.int g3), .val (.int g4), .val (.int g5), .val (.int g6), .val (.int r1), .val (.int (2 : Int32)), .val (.long r2), .second, .val (.long r3), .second, .val (.ref b329), .val (.int (r2.toInt32)), .unset, .unset, .unset, .unset, .unset, .unset, .unset, .unset] [(.int i353)])) (by rw [hi353]) ?_
      show Steps p.tables e below (T350.setTop (mkF m 165 #[.val (.int g1), .val (.int g2), .val (.int g3), .val (.int g4), .val (.int g5), .val (.int g6), .val (.int r1), .val (.int (2 : Int32)), .val (.long r2), .second, .val (.long r3), .second, .val (.ref b329), .val (.int (r2.toInt32)), .unset, .unset, .unset, .unset, .unset, .unset, .unset, .unset] [(.int i353)])) _
      refine XS.istore X350.here hx rfl (hb hby at_165) rfl (l' := #[.val (.int g1), .val (.int g2), .val (.int g3), .val (.int g4), .val (.int g5), .val (.int g6), .val (.int r1), .val (.int (2 : Int32)), .val (.long r2), .second, .val (.long r3), .second, .val (.ref b329), .val (.int (r2.toInt32)), .val (.int i353), .unset, .unset, .unset, .unset, .unset, .unset, .unset]) rfl ?_
      show Steps p.tables e below (T350.setTop (mkF m 167 #[.val (.int g1), .val (.int g2), .val (.int g3), .val (.int g4), .val (.int g5), .val (.int g6), .val (.int r1), .val (.int (2 : Int32)), .val (.long r2), .second, .val (.long r3), .second, .val (.ref b329), .val (.int (r2.toInt32)), .val (.int i353), .unset, .unset, .unset, .unset, .unset, .unset, .unset] [])) _
      refine XS.iload X350.here hx rfl (hb hby at_167) rfl ?_
      show Steps p.tables e below (T350.setTop (mkF m 169 #[.val (.int g1), .val (.int g2), .val (.int g3), .val (.int g4), .val (.int g5), .val (.int g6), .val (.int r1), .val (.int (2 : Int32)), .val (.long r2), .second, .val (.long r3), .second, .val (.ref b329), .val (.int (r2.toInt32)), .val (.int i353), .unset, .unset, .unset, .unset, .unset, .unset, .unset] [(.int (2 : Int32))])) _
      refine XS.iload X350.here hx rfl (hb hby at_169) rfl ?_
      show Steps p.tables e below (T350.setTop (mkF m 171 #[.val (.int g1), .val (.int g2), .val (.int g3), .val (.int g4), .val (.int g5), .val (.int g6), .val (.int r1), .val (.int (2 : Int32)), .val (.long r2), .second, .val (.long r3), .second, .val (.ref b329), .val (.int (r2.toInt32)), .val (.int i353), .unset, .unset, .unset, .unset, .unset, .unset, .unset] [(.int g6), (.int (2 : Int32))])) _
      refine X350.ldcInt hx hown (mvT hZ (hw _ (List.mem_of_getElem? (i := 0) rfl))) (g := (mkF m 171 #[.val (.int g1), .val (.int g2), .val (.int g3), .val (.int g4), .val (.int g5), .val (.int g6), .val (.int r1), .val (.int (2 : Int32)), .val (.long r2), .second, .val (.long r3), .second, .val (.ref b329), .val (.int (r2.toInt32)), .val (.int i353), .unset, .unset, .unset, .unset, .unset, .unset, .unset] [(.int g6), (.int (2 : Int32))])) rfl (hb hby at_171) _ ?_
      show Steps p.tables e below (T350.setTop (mkF m 173 #[.val (.int g1), .val (.int g2), .val (.int g3), .val (.int g4), .val (.int g5), .val (.int g6), .val (.int r1), .val (.int (2 : Int32)), .val (.long r2), .second, .val (.long r3), .second, .val (.ref b329), .val (.int (r2.toInt32)), .val (.int i353), .unset, .unset, .unset, .unset, .unset, .unset, .unset] [(.int (2147483647 : Int32)), (.int g6), (.int (2 : Int32))])) _
      refine XS.iand X350.here hx rfl (hb hby at_173) rfl ?_
      exact k)
    obtain ⟨_, _, ⟨T355, L355, k355, n355⟩, -, X355, ⟨Lc355, hQ355, l355, y355, z355⟩, st355⟩ := Jvm.LawKit.callS X350 hx (y := (⟨"java/lang/Math", "max", "(II)I"⟩ : MethodName)) hown (mvT hZ (hw _ (List.mem_of_getElem? (i := 3) rfl))) (mvT hZ (hw _ (List.mem_of_getElem? (i := 4) rfl))) (mvT hZ (hw _ (List.mem_of_getElem? (i := 5) rfl))) (mvT hZ (hw _ (List.mem_of_getElem? (i := 6) rfl))) (by decide) (backOf (W := 0) (rm1 l Z a0 hw [] (2 : Int32) (g6 &&& (2147483647 : Int32)) h343 n0 Z346 ) hZ (hw _ (List.mem_of_getElem? (i := 6) rfl)) (hw _ (List.mem_of_getElem? (i := 5) rfl)) (by decide) (by decide)) (g := (mkF m 174 #[.val (.int g1), .val (.int g2), .val (.int g3), .val (.int g4), .val (.int g5), .val (.int g6), .val (.int r1), .val (.int (2 : Int32)), .val (.long r2), .second, .val (.long r3), .second, .val (.ref b329), .val (.int (r2.toInt32)), .val (.int i353), .unset, .unset, .unset, .unset, .unset, .unset, .unset] [(.int (g6 &&& (2147483647 : Int32))), (.int (2 : Int32))])) rfl (by rw [hml]; rfl) (argsL := [(.int (2 : Int32)), (.int (g6 &&& (2147483647 : Int32)))]) (rest := []) (lenOf pd__28II_29I rfl) rfl (by show 2 * 0 + _ ≤ _; exact Nat.le_of_eq rfl) (hb hby at_174) (fun _ _ => ⟨rfl, e350, (by decide : 1 + 0 ≤ _), (by decide : 2 + 0 ≤ _)⟩)
    dsimp only [Pt.U, Pt.locs, Pt.cells, Pt.slots] at X355 l355 y355 z355 st355 hQ355
    subst l355 y355 z355
    obtain ⟨rfl, N355q, e355⟩ := hQ355
    have N356 := Fr.app N351 N355q
    have k357 : ∀ t, Steps p.tables e below (T355.setTop (mkF m 177 #[.val (.int g1), .val (.int g2), .val (.int g3), .val (.int g4), .val (.int g5), .val (.int g6), .val (.int r1), .val (.int (2 : Int32)), .val (.long r2), .second, .val (.long r3), .second, .val (.ref b329), .val (.int (r2.toInt32)), .val (.int i353), .unset, .unset, .unset, .unset, .unset, .unset, .unset] [(.int (if (2 : Int32) < (g6 &&& (2147483647 : Int32)) then (g6 &&& (2147483647 : Int32)) else (2 : Int32)))])) t → Steps p.tables e below (s₁.setTop (entryFrame m #[(.int g1), (.int g2), (.int g3), (.int g4), (.int g5), (.int g6)] maxLocals)) t := fun t k => k354 t (st355 t k)
    obtain ⟨i358, hi358⟩ : ∃ z : Int32, z = (if (2 : Int32) < (g6 &&& (2147483647 : Int32)) then (g6 &&& (2147483647 : Int32)) else (2 : Int32)) := ⟨_, rfl⟩
    have k359 : ∀ t, Steps p.tables e below (T355.setTop (mkF m 180 #[.val (.int g1), .val (.int g2), .val (.int g3), .val (.int g4), .val (.int g5), .val (.int g6), .val (.int r1), .val (.int (2 : Int32)), .val (.long r2), .second, .val (.long r3), .second, .val (.ref b329), .val (.int (r2.toInt32)), .val (.int i353), .val (.int i358), .unset, .unset, .unset, .unset, .unset, .unset] [(.int (2 : Int32))])) t → Steps p.tables e below (s₁.setTop (entryFrame m #[(.int g1), (.int g2), (.int g3), (.int g4), (.int g5), (.int g6)] maxLocals)) t := fun t k => k357 t (by
      show Steps p.tables e below (T355.setTop (mkF m 177 #[.val (.int g1), .val (.int g2), .val (.int g3), .val (.int g4), .val (.int g5), .val (.int g6), .val (.int r1), .val (.int (2 : Int32)), .val (.long r2), .second, .val (.long r3), .second, .val (.ref b329), .val (.int (r2.toInt32)), .val (.int i353), .unset, .unset, .unset, .unset, .unset, .unset, .unset] [(.int (if (2 : Int32) < (g6 &&& (2147483647 : Int32)) then (g6 &&& (2147483647 : Int32)) else (2 : Int32)))])) _
      refine castTop (g' := (mkF m 177 #[.val (.int g1), .val (.int g2), .val (.int g3), .val (.int g4), .val (.int g5), .val (.int g6), .val (.int r1), .val (.int (2 : Int32)), .val (.long r2), .second, .val (.long r3), .second, .val (.ref b329), .val (.int (r2.toInt32)), .val (.int i353), .unset, .unset, .unset, .unset, .unset, .unset, .unset] [(.int i358)])) (by rw [hi358]) ?_
      show Steps p.tables e below (T355.setTop (mkF m 177 #[.val (.int g1), .val (.int g2), .val (.int g3), .val (.int g4), .val (.int g5), .val (.int g6), .val (.int r1), .val (.int (2 : Int32)), .val (.long r2), .second, .val (.long r3), .second, .val (.ref b329), .val (.int (r2.toInt32)), .val (.int i353), .unset, .unset, .unset, .unset, .unset, .unset, .unset] [(.int i358)])) _
      refine XS.istore X355.here hx rfl (hb hby at_177) rfl (l' := #[.val (.int g1), .val (.int g2), .val (.int g3), .val (.int g4), .val (.int g5), .val (.int g6), .val (.int r1), .val (.int (2 : Int32)), .val (.long r2), .second, .val (.long r3), .second, .val (.ref b329), .val (.int (r2.toInt32)), .val (.int i353), .val (.int i358), .unset, .unset, .unset, .unset, .unset, .unset]) rfl ?_
      show Steps p.tables e below (T355.setTop (mkF m 179 #[.val (.int g1), .val (.int g2), .val (.int g3), .val (.int g4), .val (.int g5), .val (.int g6), .val (.int r1), .val (.int (2 : Int32)), .val (.long r2), .second, .val (.long r3), .second, .val (.ref b329), .val (.int (r2.toInt32)), .val (.int i353), .val (.int i358), .unset, .unset, .unset, .unset, .unset, .unset] [])) _
      refine XS.iconst X355.here hx rfl (hb hby at_179) ?_
      exact k)
    obtain ⟨T360, h360, k360, X360, e360, E360, A360, st360⟩ := newP X355 hx hZ (hw _ (List.mem_of_getElem? (i := 7) rfl)) e355 (g := (mkF m 180 #[.val (.int g1), .val (.int g2), .val (.int g3), .val (.int g4), .val (.int g5), .val (.int g6), .val (.int r1), .val (.int (2 : Int32)), .val (.long r2), .second, .val (.long r3), .second, .val (.ref b329), .val (.int (r2.toInt32)), .val (.int i353), .val (.int i358), .unset, .unset, .unset, .unset, .unset, .unset] [(.int (2 : Int32))])) rfl (hb hby at_180) rfl (by decide) (cap := 2) (by decide) (by decide) (by decide) (by decide)
    obtain ⟨b360, g360⟩ : ∃ z, z = h343.size := ⟨_, rfl⟩
    rw [← g360] at A360 st360
    have n361 : b329 ≠ b360 := Nat.ne_of_lt (Nat.lt_of_lt_of_le V344.lt (Nat.le_of_eq g360.symm))
    have g362 : n0 ≤ b360 := Nat.le_trans Z346 (Nat.le_of_eq g360.symm)
    have F363 := F345.ext E360
    have F364 := V344.ext E360
    have Z365 : n0 ≤ h360.size := Nat.le_trans Z346 E360.1
    have V366 : Arv Z h360 b360 k360 .char (2 : Int32) [(.int (0 : Int32)), (.int (0 : Int32))] (.int (0 : Int32)) := (Arv.new A360 (by decide)).pad (pad_rep [] (.int (0 : Int32)) 2)
    have k367 : ∀ t, Steps p.tables e below (T360.setTop (mkF m 182 #[.val (.int g1), .val (.int g2), .val (.int g3), .val (.int g4), .val (.int g5), .val (.int g6), .val (.int r1), .val (.int (2 : Int32)), .val (.long r2), .second, .val (.long r3), .second, .val (.ref b329), .val (.int (r2.toInt32)), .val (.int i353), .val (.int i358), .unset, .unset, .unset, .unset, .unset, .unset] [(.ref b360)])) t → Steps p.tables e below (s₁.setTop (entryFrame m #[(.int g1), (.int g2), (.int g3), (.int g4), (.int g5), (.int g6)] maxLocals)) t := fun t k => k359 t (st360 t k)
    have k368 : ∀ t, Steps p.tables e below (T360.setTop (mkF m 192 #[.val (.int g1), .val (.int g2), .val (.int g3), .val (.int g4), .val (.int g5), .val (.int g6), .val (.int r1), .val (.int (2 : Int32)), .val (.long r2), .second, .val (.long r3), .second, .val (.ref b329), .val (.int (r2.toInt32)), .val (.int i353), .val (.int i358), .unset, .unset, .unset, .unset, .unset, .unset] [(.int ((((g4.toUInt32 >>> ((2 : Int32) &&& 31).toUInt32).toInt32) &&& (255 : Int32)).toUInt32.toUInt16.toUInt32.toInt32)), (.int (0 : Int32)), (.ref b360), (.ref b360)])) t → Steps p.tables e below (s₁.setTop (entryFrame m #[(.int g1), (.int g2), (.int g3), (.int g4), (.int g5), (.int g6)] maxLocals)) t := fun t k => k367 t (by
      show Steps p.tables e below (T360.setTop (mkF m 182 #[.val (.int g1), .val (.int g2), .val (.int g3), .val (.int g4), .val (.int g5), .val (.int g6), .val (.int r1), .val (.int (2 : Int32)), .val (.long r2), .second, .val (.long r3), .second, .val (.ref b329), .val (.int (r2.toInt32)), .val (.int i353), .val (.int i358), .unset, .unset, .unset, .unset, .unset, .unset] [(.ref b360)])) _
      refine XS.dup X360.here hx rfl (hb hby at_182) rfl rfl ?_
      show Steps p.tables e below (T360.setTop (mkF m 183 #[.val (.int g1), .val (.int g2), .val (.int g3), .val (.int g4), .val (.int g5), .val (.int g6), .val (.int r1), .val (.int (2 : Int32)), .val (.long r2), .second, .val (.long r3), .second, .val (.ref b329), .val (.int (r2.toInt32)), .val (.int i353), .val (.int i358), .unset, .unset, .unset, .unset, .unset, .unset] [(.ref b360), (.ref b360)])) _
      refine XS.iconst X360.here hx rfl (hb hby at_183) ?_
      show Steps p.tables e below (T360.setTop (mkF m 184 #[.val (.int g1), .val (.int g2), .val (.int g3), .val (.int g4), .val (.int g5), .val (.int g6), .val (.int r1), .val (.int (2 : Int32)), .val (.long r2), .second, .val (.long r3), .second, .val (.ref b329), .val (.int (r2.toInt32)), .val (.int i353), .val (.int i358), .unset, .unset, .unset, .unset, .unset, .unset] [(.int (0 : Int32)), (.ref b360), (.ref b360)])) _
      refine XS.iloadN X360.here hx rfl (hb hby at_184) rfl ?_
      show Steps p.tables e below (T360.setTop (mkF m 185 #[.val (.int g1), .val (.int g2), .val (.int g3), .val (.int g4), .val (.int g5), .val (.int g6), .val (.int r1), .val (.int (2 : Int32)), .val (.long r2), .second, .val (.long r3), .second, .val (.ref b329), .val (.int (r2.toInt32)), .val (.int i353), .val (.int i358), .unset, .unset, .unset, .unset, .unset, .unset] [(.int g4), (.int (0 : Int32)), (.ref b360), (.ref b360)])) _
      refine XS.iconst X360.here hx rfl (hb hby at_185) ?_
      show Steps p.tables e below (T360.setTop (mkF m 186 #[.val (.int g1), .val (.int g2), .val (.int g3), .val (.int g4), .val (.int g5), .val (.int g6), .val (.int r1), .val (.int (2 : Int32)), .val (.long r2), .second, .val (.long r3), .second, .val (.ref b329), .val (.int (r2.toInt32)), .val (.int i353), .val (.int i358), .unset, .unset, .unset, .unset, .unset, .unset] [(.int (2 : Int32)), (.int g4), (.int (0 : Int32)), (.ref b360), (.ref b360)])) _
      refine XS.iushr X360.here hx rfl (hb hby at_186) rfl ?_
      show Steps p.tables e below (T360.setTop (mkF m 187 #[.val (.int g1), .val (.int g2), .val (.int g3), .val (.int g4), .val (.int g5), .val (.int g6), .val (.int r1), .val (.int (2 : Int32)), .val (.long r2), .second, .val (.long r3), .second, .val (.ref b329), .val (.int (r2.toInt32)), .val (.int i353), .val (.int i358), .unset, .unset, .unset, .unset, .unset, .unset] [(.int ((g4.toUInt32 >>> ((2 : Int32) &&& 31).toUInt32).toInt32)), (.int (0 : Int32)), (.ref b360), (.ref b360)])) _
      refine XS.sipush X360.here hx rfl (hb hby at_187) ?_
      show Steps p.tables e below (T360.setTop (mkF m 190 #[.val (.int g1), .val (.int g2), .val (.int g3), .val (.int g4), .val (.int g5), .val (.int g6), .val (.int r1), .val (.int (2 : Int32)), .val (.long r2), .second, .val (.long r3), .second, .val (.ref b329), .val (.int (r2.toInt32)), .val (.int i353), .val (.int i358), .unset, .unset, .unset, .unset, .unset, .unset] [(.int (255 : Int32)), (.int ((g4.toUInt32 >>> ((2 : Int32) &&& 31).toUInt32).toInt32)), (.int (0 : Int32)), (.ref b360), (.ref b360)])) _
      refine XS.iand X360.here hx rfl (hb hby at_190) rfl ?_
      show Steps p.tables e below (T360.setTop (mkF m 191 #[.val (.int g1), .val (.int g2), .val (.int g3), .val (.int g4), .val (.int g5), .val (.int g6), .val (.int r1), .val (.int (2 : Int32)), .val (.long r2), .second, .val (.long r3), .second, .val (.ref b329), .val (.int (r2.toInt32)), .val (.int i353), .val (.int i358), .unset, .unset, .unset, .unset, .unset, .unset] [(.int (((g4.toUInt32 >>> ((2 : Int32) &&& 31).toUInt32).toInt32) &&& (255 : Int32))), (.int (0 : Int32)), (.ref b360), (.ref b360)])) _
      refine XS.i2c X360.here hx rfl (hb hby at_191) rfl ?_
      exact k)
    obtain ⟨ch1, hch1⟩ : ∃ z : Int32, z = ((((g4.toUInt32 >>> ((2 : Int32) &&& 31).toUInt32).toInt32) &&& (255 : Int32)).toUInt32.toUInt16.toUInt32.toInt32) := ⟨_, rfl⟩
    
    have k369 : ∀ t, Steps p.tables e below (T360.setTop (mkF m 192 #[.val (.int g1), .val (.int g2), .val (.int g3), .val (.int g4), .val (.int g5), .val (.int g6), .val (.int r1), .val (.int (2 : Int32)), .val (.long r2), .second, .val (.long r3), .second, .val (.ref b329), .val (.int (r2.toInt32)), .val (.int i353), .val (.int i358), .unset, .unset, .unset, .unset, .unset, .unset] [(.int ch1), (.int (0 : Int32)), (.ref b360), (.ref b360)])) t → Steps p.tables e below (s₁.setTop (entryFrame m #[(.int g1), (.int g2), (.int g3), (.int g4), (.int g5), (.int g6)] maxLocals)) t := fun t k => k368 t (by
      show Steps p.tables e below (T360.setTop (mkF m 192 #[.val (.int g1), .val (.int g2), .val (.int g3), .val (.int g4), .val (.int g5), .val (.int g6), .val (.int r1), .val (.int (2 : Int32)), .val (.long r2), .second, .val (.long r3), .second, .val (.ref b329), .val (.int (r2.toInt32)), .val (.int i353), .val (.int i358), .unset, .unset, .unset, .unset, .unset, .unset] [(.int ((((g4.toUInt32 >>> ((2 : Int32) &&& 31).toUInt32).toInt32) &&& (255 : Int32)).toUInt32.toUInt16.toUInt32.toInt32)), (.int (0 : Int32)), (.ref b360), (.ref b360)])) _
      refine castTop (g' := (mkF m 192 #[.val (.int g1), .val (.int g2), .val (.int g3), .val (.int g4), .val (.int g5), .val (.int g6), .val (.int r1), .val (.int (2 : Int32)), .val (.long r2), .second, .val (.long r3), .second, .val (.ref b329), .val (.int (r2.toInt32)), .val (.int i353), .val (.int i358), .unset, .unset, .unset, .unset, .unset, .unset] [(.int ch1), (.int (0 : Int32)), (.ref b360), (.ref b360)])) (by rw [hch1]) ?_
      exact k)
    obtain ⟨c370, Ar370, Aq370, As370, An370, Ah370, Ag370⟩ := id V366
    have hin370 : ¬ ((0 : Int32) < 0 ∨ c370.slots.size ≤ ((0 : Int32)).toNatClampNeg) := inb_of As370 ⟨by decide, by decide⟩
    obtain ⟨T370, h370, X370, e370, W370, st370⟩ := stC X360 hx hZ e360 Ar370 (j := (0 : Int32)) hin370 (g := (mkF m 192 #[.val (.int g1), .val (.int g2), .val (.int g3), .val (.int g4), .val (.int g5), .val (.int g6), .val (.int r1), .val (.int (2 : Int32)), .val (.long r2), .second, .val (.long r3), .second, .val (.ref b329), .val (.int (r2.toInt32)), .val (.int i353), .val (.int i358), .unset, .unset, .unset, .unset, .unset, .unset] [(.int ch1), (.int (0 : Int32)), (.ref b360), (.ref b360)])) rfl rfl (hb hby at_192)
    have V371 : Arv Z h370 b360 k360 .char (2 : Int32) [(.int (nar .char ch1)), (.int (0 : Int32))] (.int (0 : Int32)) := Arv.set Ar370 Aq370 As370 An370 Ah370 Ag370 (fits_nar_char _) W370 0 rfl (Nat.le_of_ble_eq_true rfl)
    have F372 := F363.wr W370
    have F373 := F364.other W370 n361
    have Z374 : n0 ≤ h370.size := Nat.le_trans Z365 (Nat.le_of_eq W370.size.symm)
    have N375 := Fr.snoc X370 N356 g362
    have k376 : ∀ t, Steps p.tables e below (T370.setTop (mkF m 193 #[.val (.int g1), .val (.int g2), .val (.int g3), .val (.int g4), .val (.int g5), .val (.int g6), .val (.int r1), .val (.int (2 : Int32)), .val (.long r2), .second, .val (.long r3), .second, .val (.ref b329), .val (.int (r2.toInt32)), .val (.int i353), .val (.int i358), .unset, .unset, .unset, .unset, .unset, .unset] [(.ref b360)])) t → Steps p.tables e below (s₁.setTop (entryFrame m #[(.int g1), (.int g2), (.int g3), (.int g4), (.int g5), (.int g6)] maxLocals)) t := fun t k => k369 t (st370 t k)
    have k377 : ∀ t, Steps p.tables e below (T370.setTop (mkF m 204 #[.val (.int g1), .val (.int g2), .val (.int g3), .val (.int g4), .val (.int g5), .val (.int g6), .val (.int r1), .val (.int (2 : Int32)), .val (.long r2), .second, .val (.long r3), .second, .val (.ref b329), .val (.int (r2.toInt32)), .val (.int i353), .val (.int i358), .unset, .unset, .unset, .unset, .unset, .unset] [(.int ((((g4.toUInt32 >>> ((10 : Int32) &&& 31).toUInt32).toInt32) &&& (255 : Int32)).toUInt32.toUInt16.toUInt32.toInt32)), (.int (1 : Int32)), (.ref b360), (.ref b360)])) t → Steps p.tables e below (s₁.setTop (entryFrame m #[(.int g1), (.int g2), (.int g3), (.int g4), (.int g5), (.int g6)] maxLocals)) t := fun t k => k376 t (by
      show Steps p.tables e below (T370.setTop (mkF m 193 #[.val (.int g1), .val (.int g2), .val (.int g3), .val (.int g4), .val (.int g5), .val (.int g6), .val (.int r1), .val (.int (2 : Int32)), .val (.long r2), .second, .val (.long r3), .second, .val (.ref b329), .val (.int (r2.toInt32)), .val (.int i353), .val (.int i358), .unset, .unset, .unset, .unset, .unset, .unset] [(.ref b360)])) _
      refine XS.dup X370.here hx rfl (hb hby at_193) rfl rfl ?_
      show Steps p.tables e below (T370.setTop (mkF m 194 #[.val (.int g1), .val (.int g2), .val (.int g3), .val (.int g4), .val (.int g5), .val (.int g6), .val (.int r1), .val (.int (2 : Int32)), .val (.long r2), .second, .val (.long r3), .second, .val (.ref b329), .val (.int (r2.toInt32)), .val (.int i353), .val (.int i358), .unset, .unset, .unset, .unset, .unset, .unset] [(.ref b360), (.ref b360)])) _
      refine XS.iconst X370.here hx rfl (hb hby at_194) ?_
      show Steps p.tables e below (T370.setTop (mkF m 195 #[.val (.int g1), .val (.int g2), .val (.int g3), .val (.int g4), .val (.int g5), .val (.int g6), .val (.int r1), .val (.int (2 : Int32)), .val (.long r2), .second, .val (.long r3), .second, .val (.ref b329), .val (.int (r2.toInt32)), .val (.int i353), .val (.int i358), .unset, .unset, .unset, .unset, .unset, .unset] [(.int (1 : Int32)), (.ref b360), (.ref b360)])) _
      refine XS.iloadN X370.here hx rfl (hb hby at_195) rfl ?_
      show Steps p.tables e below (T370.setTop (mkF m 196 #[.val (.int g1), .val (.int g2), .val (.int g3), .val (.int g4), .val (.int g5), .val (.int g6), .val (.int r1), .val (.int (2 : Int32)), .val (.long r2), .second, .val (.long r3), .second, .val (.ref b329), .val (.int (r2.toInt32)), .val (.int i353), .val (.int i358), .unset, .unset, .unset, .unset, .unset, .unset] [(.int g4), (.int (1 : Int32)), (.ref b360), (.ref b360)])) _
      refine XS.bipush X370.here hx rfl (hb hby at_196) ?_
      show Steps p.tables e below (T370.setTop (mkF m 198 #[.val (.int g1), .val (.int g2), .val (.int g3), .val (.int g4), .val (.int g5), .val (.int g6), .val (.int r1), .val (.int (2 : Int32)), .val (.long r2), .second, .val (.long r3), .second, .val (.ref b329), .val (.int (r2.toInt32)), .val (.int i353), .val (.int i358), .unset, .unset, .unset, .unset, .unset, .unset] [(.int (10 : Int32)), (.int g4), (.int (1 : Int32)), (.ref b360), (.ref b360)])) _
      refine XS.iushr X370.here hx rfl (hb hby at_198) rfl ?_
      show Steps p.tables e below (T370.setTop (mkF m 199 #[.val (.int g1), .val (.int g2), .val (.int g3), .val (.int g4), .val (.int g5), .val (.int g6), .val (.int r1), .val (.int (2 : Int32)), .val (.long r2), .second, .val (.long r3), .second, .val (.ref b329), .val (.int (r2.toInt32)), .val (.int i353), .val (.int i358), .unset, .unset, .unset, .unset, .unset, .unset] [(.int ((g4.toUInt32 >>> ((10 : Int32) &&& 31).toUInt32).toInt32)), (.int (1 : Int32)), (.ref b360), (.ref b360)])) _
      refine XS.sipush X370.here hx rfl (hb hby at_199) ?_
      show Steps p.tables e below (T370.setTop (mkF m 202 #[.val (.int g1), .val (.int g2), .val (.int g3), .val (.int g4), .val (.int g5), .val (.int g6), .val (.int r1), .val (.int (2 : Int32)), .val (.long r2), .second, .val (.long r3), .second, .val (.ref b329), .val (.int (r2.toInt32)), .val (.int i353), .val (.int i358), .unset, .unset, .unset, .unset, .unset, .unset] [(.int (255 : Int32)), (.int ((g4.toUInt32 >>> ((10 : Int32) &&& 31).toUInt32).toInt32)), (.int (1 : Int32)), (.ref b360), (.ref b360)])) _
      refine XS.iand X370.here hx rfl (hb hby at_202) rfl ?_
      show Steps p.tables e below (T370.setTop (mkF m 203 #[.val (.int g1), .val (.int g2), .val (.int g3), .val (.int g4), .val (.int g5), .val (.int g6), .val (.int r1), .val (.int (2 : Int32)), .val (.long r2), .second, .val (.long r3), .second, .val (.ref b329), .val (.int (r2.toInt32)), .val (.int i353), .val (.int i358), .unset, .unset, .unset, .unset, .unset, .unset] [(.int (((g4.toUInt32 >>> ((10 : Int32) &&& 31).toUInt32).toInt32) &&& (255 : Int32))), (.int (1 : Int32)), (.ref b360), (.ref b360)])) _
      refine XS.i2c X370.here hx rfl (hb hby at_203) rfl ?_
      exact k)
    obtain ⟨ch2, hch2⟩ : ∃ z : Int32, z = ((((g4.toUInt32 >>> ((10 : Int32) &&& 31).toUInt32).toInt32) &&& (255 : Int32)).toUInt32.toUInt16.toUInt32.toInt32) := ⟨_, rfl⟩
    
    have k378 : ∀ t, Steps p.tables e below (T370.setTop (mkF m 204 #[.val (.int g1), .val (.int g2), .val (.int g3), .val (.int g4), .val (.int g5), .val (.int g6), .val (.int r1), .val (.int (2 : Int32)), .val (.long r2), .second, .val (.long r3), .second, .val (.ref b329), .val (.int (r2.toInt32)), .val (.int i353), .val (.int i358), .unset, .unset, .unset, .unset, .unset, .unset] [(.int ch2), (.int (1 : Int32)), (.ref b360), (.ref b360)])) t → Steps p.tables e below (s₁.setTop (entryFrame m #[(.int g1), (.int g2), (.int g3), (.int g4), (.int g5), (.int g6)] maxLocals)) t := fun t k => k377 t (by
      show Steps p.tables e below (T370.setTop (mkF m 204 #[.val (.int g1), .val (.int g2), .val (.int g3), .val (.int g4), .val (.int g5), .val (.int g6), .val (.int r1), .val (.int (2 : Int32)), .val (.long r2), .second, .val (.long r3), .second, .val (.ref b329), .val (.int (r2.toInt32)), .val (.int i353), .val (.int i358), .unset, .unset, .unset, .unset, .unset, .unset] [(.int ((((g4.toUInt32 >>> ((10 : Int32) &&& 31).toUInt32).toInt32) &&& (255 : Int32)).toUInt32.toUInt16.toUInt32.toInt32)), (.int (1 : Int32)), (.ref b360), (.ref b360)])) _
      refine castTop (g' := (mkF m 204 #[.val (.int g1), .val (.int g2), .val (.int g3), .val (.int g4), .val (.int g5), .val (.int g6), .val (.int r1), .val (.int (2 : Int32)), .val (.long r2), .second, .val (.long r3), .second, .val (.ref b329), .val (.int (r2.toInt32)), .val (.int i353), .val (.int i358), .unset, .unset, .unset, .unset, .unset, .unset] [(.int ch2), (.int (1 : Int32)), (.ref b360), (.ref b360)])) (by rw [hch2]) ?_
      exact k)
    obtain ⟨c379, Ar379, Aq379, As379, An379, Ah379, Ag379⟩ := id V371
    have hin379 : ¬ ((1 : Int32) < 0 ∨ c379.slots.size ≤ ((1 : Int32)).toNatClampNeg) := inb_of As379 ⟨by decide, by decide⟩
    obtain ⟨T379, h379, X379, e379, W379, st379⟩ := stC X370 hx hZ e370 Ar379 (j := (1 : Int32)) hin379 (g := (mkF m 204 #[.val (.int g1), .val (.int g2), .val (.int g3), .val (.int g4), .val (.int g5), .val (.int g6), .val (.int r1), .val (.int (2 : Int32)), .val (.long r2), .second, .val (.long r3), .second, .val (.ref b329), .val (.int (r2.toInt32)), .val (.int i353), .val (.int i358), .unset, .unset, .unset, .unset, .unset, .unset] [(.int ch2), (.int (1 : Int32)), (.ref b360), (.ref b360)])) rfl rfl (hb hby at_204)
    have V380 : Arv Z h379 b360 k360 .char (2 : Int32) [(.int (nar .char ch1)), (.int (nar .char ch2))] (.int (0 : Int32)) := Arv.set Ar379 Aq379 As379 An379 Ah379 Ag379 (fits_nar_char _) W379 1 rfl (Nat.le_of_ble_eq_true rfl)
    have F381 := F372.wr W379
    have F382 := F373.other W379 n361
    have Z383 : n0 ≤ h379.size := Nat.le_trans Z374 (Nat.le_of_eq W379.size.symm)
    have N384 := Fr.snoc X379 N375 g362
    have k385 : ∀ t, Steps p.tables e below (T379.setTop (mkF m 205 #[.val (.int g1), .val (.int g2), .val (.int g3), .val (.int g4), .val (.int g5), .val (.int g6), .val (.int r1), .val (.int (2 : Int32)), .val (.long r2), .second, .val (.long r3), .second, .val (.ref b329), .val (.int (r2.toInt32)), .val (.int i353), .val (.int i358), .unset, .unset, .unset, .unset, .unset, .unset] [(.ref b360)])) t → Steps p.tables e below (s₁.setTop (entryFrame m #[(.int g1), (.int g2), (.int g3), (.int g4), (.int g5), (.int g6)] maxLocals)) t := fun t k => k378 t (st379 t k)
    have k386 : ∀ t, Steps p.tables e below (T379.setTop (mkF m 207 #[.val (.int g1), .val (.int g2), .val (.int g3), .val (.int g4), .val (.int g5), .val (.int g6), .val (.int r1), .val (.int (2 : Int32)), .val (.long r2), .second, .val (.long r3), .second, .val (.ref b329), .val (.int (r2.toInt32)), .val (.int i353), .val (.int i358), .val (.ref b360), .unset, .unset, .unset, .unset, .unset] [])) t → Steps p.tables e below (s₁.setTop (entryFrame m #[(.int g1), (.int g2), (.int g3), (.int g4), (.int g5), (.int g6)] maxLocals)) t := fun t k => k385 t (by
      show Steps p.tables e below (T379.setTop (mkF m 205 #[.val (.int g1), .val (.int g2), .val (.int g3), .val (.int g4), .val (.int g5), .val (.int g6), .val (.int r1), .val (.int (2 : Int32)), .val (.long r2), .second, .val (.long r3), .second, .val (.ref b329), .val (.int (r2.toInt32)), .val (.int i353), .val (.int i358), .unset, .unset, .unset, .unset, .unset, .unset] [(.ref b360)])) _
      refine XS.astore X379.here hx rfl (hb hby at_205) rfl rfl (l' := #[.val (.int g1), .val (.int g2), .val (.int g3), .val (.int g4), .val (.int g5), .val (.int g6), .val (.int r1), .val (.int (2 : Int32)), .val (.long r2), .second, .val (.long r3), .second, .val (.ref b329), .val (.int (r2.toInt32)), .val (.int i353), .val (.int i358), .val (.ref b360), .unset, .unset, .unset, .unset, .unset]) rfl ?_
      exact k)
    obtain ⟨T387, h387, X387, e387, E387, A387, D387, -, st387⟩ := newO X379 hx hZ hown (hw _ (List.mem_of_getElem? (i := 8) rfl)) (hw _ (List.mem_of_getElem? (i := 9) rfl)) (hw _ (List.mem_of_getElem? (i := 10) rfl)) e379 (g := (mkF m 207 #[.val (.int g1), .val (.int g2), .val (.int g3), .val (.int g4), .val (.int g5), .val (.int g6), .val (.int r1), .val (.int (2 : Int32)), .val (.long r2), .second, .val (.long r3), .second, .val (.ref b329), .val (.int (r2.toInt32)), .val (.int i353), .val (.int i358), .val (.ref b360), .unset, .unset, .unset, .unset, .unset] [])) rfl (hb hby at_207) (by decide) (by decide)
    obtain ⟨b387, g387⟩ : ∃ z, z = h379.size := ⟨_, rfl⟩
    rw [← g387] at A387 D387 st387
    have n388 : b329 ≠ b387 := Nat.ne_of_lt (Nat.lt_of_lt_of_le F382.lt (Nat.le_of_eq g387.symm))
    have n389 : b360 ≠ b387 := Nat.ne_of_lt (Nat.lt_of_lt_of_le V380.lt (Nat.le_of_eq g387.symm))
    have g390 : n0 ≤ b387 := Nat.le_trans Z383 (Nat.le_of_eq g387.symm)
    have F391 := F381.ext E387
    have F392 := F382.ext E387
    have F393 := V380.ext E387
    have Z394 : n0 ≤ h387.size := Nat.le_trans Z383 E387.1
    have F395 : Fld Z h387 b387 "com/example/round2/round2/eval/TopicResult" "topic" "Ljava/lang/String;" .null := D387 (Or.inr (hw _ (List.mem_of_getElem? (i := 45) rfl))) (ty := (.object "java/lang/String")) (by decide)
    have F396 : Fld Z h387 b387 "com/example/round2/round2/eval/TopicResult" "retrieved" "I" (.int (0 : Int32)) := D387 (Or.inr (hw _ (List.mem_of_getElem? (i := 47) rfl))) (ty := .int) (by decide)
    have F397 : Fld Z h387 b387 "com/example/round2/round2/eval/TopicResult" "relevant" "I" (.int (0 : Int32)) := D387 (Or.inr (hw _ (List.mem_of_getElem? (i := 49) rfl))) (ty := .int) (by decide)
    have F398 : Fld Z h387 b387 "com/example/round2/round2/eval/TopicResult" "relevantRanks" "[I" .null := D387 (Or.inr (hw _ (List.mem_of_getElem? (i := 51) rfl))) (ty := (.array .int)) (by decide)
    have k399 : ∀ t, Steps p.tables e below (T387.setTop (mkF m 210 #[.val (.int g1), .val (.int g2), .val (.int g3), .val (.int g4), .val (.int g5), .val (.int g6), .val (.int r1), .val (.int (2 : Int32)), .val (.long r2), .second, .val (.long r3), .second, .val (.ref b329), .val (.int (r2.toInt32)), .val (.int i353), .val (.int i358), .val (.ref b360), .unset, .unset, .unset, .unset, .unset] [(.ref b387)])) t → Steps p.tables e below (s₁.setTop (entryFrame m #[(.int g1), (.int g2), (.int g3), (.int g4), (.int g5), (.int g6)] maxLocals)) t := fun t k => k386 t (st387 t k)
    have k400 : ∀ t, Steps p.tables e below (T387.setTop (mkF m 211 #[.val (.int g1), .val (.int g2), .val (.int g3), .val (.int g4), .val (.int g5), .val (.int g6), .val (.int r1), .val (.int (2 : Int32)), .val (.long r2), .second, .val (.long r3), .second, .val (.ref b329), .val (.int (r2.toInt32)), .val (.int i353), .val (.int i358), .val (.ref b360), .unset, .unset, .unset, .unset, .unset] [(.ref b387), (.ref b387)])) t → Steps p.tables e below (s₁.setTop (entryFrame m #[(.int g1), (.int g2), (.int g3), (.int g4), (.int g5), (.int g6)] maxLocals)) t := fun t k => k399 t (by
      show Steps p.tables e below (T387.setTop (mkF m 210 #[.val (.int g1), .val (.int g2), .val (.int g3), .val (.int g4), .val (.int g5), .val (.int g6), .val (.int r1), .val (.int (2 : Int32)), .val (.long r2), .second, .val (.long r3), .second, .val (.ref b329), .val (.int (r2.toInt32)), .val (.int i353), .val (.int i358), .val (.ref b360), .unset, .unset, .unset, .unset, .unset] [(.ref b387)])) _
      refine XS.dup X387.here hx rfl (hb hby at_210) rfl rfl ?_
      exact k)
    obtain ⟨T401, h401, X401, e401, E401, A401, D401, -, st401⟩ := newO X387 hx hZ hown (hw _ (List.mem_of_getElem? (i := 11) rfl)) (hw _ (List.mem_of_getElem? (i := 12) rfl)) (hw _ (List.mem_of_getElem? (i := 13) rfl)) e387 (g := (mkF m 211 #[.val (.int g1), .val (.int g2), .val (.int g3), .val (.int g4), .val (.int g5), .val (.int g6), .val (.int r1), .val (.int (2 : Int32)), .val (.long r2), .second, .val (.long r3), .second, .val (.ref b329), .val (.int (r2.toInt32)), .val (.int i353), .val (.int i358), .val (.ref b360), .unset, .unset, .unset, .unset, .unset] [(.ref b387), (.ref b387)])) rfl (hb hby at_211) (by decide) (by decide)
    obtain ⟨b401, g401⟩ : ∃ z, z = h387.size := ⟨_, rfl⟩
    rw [← g401] at A401 D401 st401
    have n402 : b329 ≠ b401 := Nat.ne_of_lt (Nat.lt_of_lt_of_le F392.lt (Nat.le_of_eq g401.symm))
    have n403 : b360 ≠ b401 := Nat.ne_of_lt (Nat.lt_of_lt_of_le F393.lt (Nat.le_of_eq g401.symm))
    have n404 : b387 ≠ b401 := Nat.ne_of_lt (Nat.lt_of_lt_of_le A387.lt (Nat.le_of_eq g401.symm))
    have g405 : n0 ≤ b401 := Nat.le_trans Z394 (Nat.le_of_eq g401.symm)
    have F406 := F391.ext E401
    have F407 := F392.ext E401
    have F408 := F393.ext E401
    have F409 := A387.ext E401
    have F410 := F395.ext E401
    have F411 := F396.ext E401
    have F412 := F397.ext E401
    have F413 := F398.ext E401
    have Z414 : n0 ≤ h401.size := Nat.le_trans Z394 E401.1
    have F415 : Fld Z h401 b401 "java/lang/String" "coder" "B" (.int (0 : Int32)) := D401 (Or.inr (hw _ (List.mem_of_getElem? (i := 37) rfl))) (ty := .byte) (by decide)
    have F416 : Fld Z h401 b401 "java/lang/String" "value" "[B" .null := D401 (Or.inr (hw _ (List.mem_of_getElem? (i := 39) rfl))) (ty := (.array .byte)) (by decide)
    have k417 : ∀ t, Steps p.tables e below (T401.setTop (mkF m 214 #[.val (.int g1), .val (.int g2), .val (.int g3), .val (.int g4), .val (.int g5), .val (.int g6), .val (.int r1), .val (.int (2 : Int32)), .val (.long r2), .second, .val (.long r3), .second, .val (.ref b329), .val (.int (r2.toInt32)), .val (.int i353), .val (.int i358), .val (.ref b360), .unset, .unset, .unset, .unset, .unset] [(.ref b401), (.ref b387), (.ref b387)])) t → Steps p.tables e below (s₁.setTop (entryFrame m #[(.int g1), (.int g2), (.int g3), (.int g4), (.int g5), (.int g6)] maxLocals)) t := fun t k => k400 t (st401 t k)
    have hc1 := own_ch hch1
    have hc2 := own_ch hch2
    have k418 : ∀ t, Steps p.tables e below (T401.setTop (mkF m 217 #[.val (.int g1), .val (.int g2), .val (.int g3), .val (.int g4), .val (.int g5), .val (.int g6), .val (.int r1), .val (.int (2 : Int32)), .val (.long r2), .second, .val (.long r3), .second, .val (.ref b329), .val (.int (r2.toInt32)), .val (.int i353), .val (.int i358), .val (.ref b360), .unset, .unset, .unset, .unset, .unset] [(.ref b360), (.ref b401), (.ref b401), (.ref b387), (.ref b387)])) t → Steps p.tables e below (s₁.setTop (entryFrame m #[(.int g1), (.int g2), (.int g3), (.int g4), (.int g5), (.int g6)] maxLocals)) t := fun t k => k417 t (by
      show Steps p.tables e below (T401.setTop (mkF m 214 #[.val (.int g1), .val (.int g2), .val (.int g3), .val (.int g4), .val (.int g5), .val (.int g6), .val (.int r1), .val (.int (2 : Int32)), .val (.long r2), .second, .val (.long r3), .second, .val (.ref b329), .val (.int (r2.toInt32)), .val (.int i353), .val (.int i358), .val (.ref b360), .unset, .unset, .unset, .unset, .unset] [(.ref b401), (.ref b387), (.ref b387)])) _
      refine XS.dup X401.here hx rfl (hb hby at_214) rfl rfl ?_
      show Steps p.tables e below (T401.setTop (mkF m 215 #[.val (.int g1), .val (.int g2), .val (.int g3), .val (.int g4), .val (.int g5), .val (.int g6), .val (.int r1), .val (.int (2 : Int32)), .val (.long r2), .second, .val (.long r3), .second, .val (.ref b329), .val (.int (r2.toInt32)), .val (.int i353), .val (.int i358), .val (.ref b360), .unset, .unset, .unset, .unset, .unset] [(.ref b401), (.ref b401), (.ref b387), (.ref b387)])) _
      refine XS.aload X401.here hx rfl (hb hby at_215) rfl rfl ?_
      exact k)
    obtain ⟨_, _, ⟨T419, L419, k419, n419⟩, -, X419, ⟨Lc419, hQ419, l419, y419, z419⟩, st419⟩ := X401.specialBack hx (y := (⟨"java/lang/String", "<init>", "([C)V"⟩ : MethodName)) rfl hown (mvT hZ (hw _ (List.mem_of_getElem? (i := 14) rfl))) (mvT hZ (hw _ (List.mem_of_getElem? (i := 15) rfl))) (mvT hZ (hw _ (List.mem_of_getElem? (i := 16) rfl))) (by decide) (backOf (W := 3) (rm2 l Z a0 hw [] b401 b360 k360 cs (nar .char ch1) (nar .char ch2) h401 n0 Z414 F416 F415 A401 g405 F408 n403 F406 hcs hc1 hc2) hZ (hw _ (List.mem_of_getElem? (i := 16) rfl)) (hw _ (List.mem_of_getElem? (i := 13) rfl)) (by decide) (by decide)) (g := (mkF m 217 #[.val (.int g1), .val (.int g2), .val (.int g3), .val (.int g4), .val (.int g5), .val (.int g6), .val (.int r1), .val (.int (2 : Int32)), .val (.long r2), .second, .val (.long r3), .second, .val (.ref b329), .val (.int (r2.toInt32)), .val (.int i353), .val (.int i358), .val (.ref b360), .unset, .unset, .unset, .unset, .unset] [(.ref b360), (.ref b401), (.ref b401), (.ref b387), (.ref b387)])) rfl (by rw [hml]; rfl) (Steps.refl _) (a := b401) (argsL := [(.ref b360)]) (rest := [(.ref b401), (.ref b387), (.ref b387)]) (lenOf pd__28_5bC_29V rfl) rfl (by show 2 * 0 + _ ≤ _; exact Nat.le_of_eq rfl) (hb hby at_217) (fun _ _ => ⟨rfl, e401, (by decide : 4 + 1 ≤ _), (by decide : 12 + 2 ≤ _)⟩)
    dsimp only [Pt.U, Pt.locs, Pt.cells, Pt.slots] at X419 l419 y419 z419 st419 hQ419
    subst l419 y419 z419
    obtain ⟨h419, e419⟩ : ∃ h', T419.heap = h' := ⟨_, rfl⟩
    rw [e419] at hQ419
    obtain ⟨t419, kk419, rfl, N419q, zt419, K419, G419e, G419v, G419c, V419⟩ := hQ419
    have N420 := Fr.app N384 N419q
    have k421 : ∀ t, Steps p.tables e below (T419.setTop (mkF m 220 #[.val (.int g1), .val (.int g2), .val (.int g3), .val (.int g4), .val (.int g5), .val (.int g6), .val (.int r1), .val (.int (2 : Int32)), .val (.long r2), .second, .val (.long r3), .second, .val (.ref b329), .val (.int (r2.toInt32)), .val (.int i353), .val (.int i358), .val (.ref b360), .unset, .unset, .unset, .unset, .unset] [(.ref b401), (.ref b387), (.ref b387)])) t → Steps p.tables e below (s₁.setTop (entryFrame m #[(.int g1), (.int g2), (.int g3), (.int g4), (.int g5), (.int g6)] maxLocals)) t := fun t k => k418 t (st419.trans k)
    have F422 := F407.keep K419 (ninS n402 nin0)
    have F423 := F409.keep K419
    have F424 := F410.keep K419 (ninS n404 nin0)
    have F425 := F411.keep K419 (ninS n404 nin0)
    have F426 := F412.keep K419 (ninS n404 nin0)
    have F427 := F413.keep K419 (ninS n404 nin0)
    have F428 := A401.keep K419
    have Z429 : n0 ≤ h419.size := Nat.le_trans Z414 K419.1
    have k430 : ∀ t, Steps p.tables e below (T419.setTop (mkF m 226 #[.val (.int g1), .val (.int g2), .val (.int g3), .val (.int g4), .val (.int g5), .val (.int g6), .val (.int r1), .val (.int (2 : Int32)), .val (.long r2), .second, .val (.long r3), .second, .val (.ref b329), .val (.int (r2.toInt32)), .val (.int i353), .val (.int i358), .val (.ref b360), .unset, .unset, .unset, .unset, .unset] [(.ref b329), (.int i358), (.int i353), (.ref b401), (.ref b387), (.ref b387)])) t → Steps p.tables e below (s₁.setTop (entryFrame m #[(.int g1), (.int g2), (.int g3), (.int g4), (.int g5), (.int g6)] maxLocals)) t := fun t k => k421 t (by
      show Steps p.tables e below (T419.setTop (mkF m 220 #[.val (.int g1), .val (.int g2), .val (.int g3), .val (.int g4), .val (.int g5), .val (.int g6), .val (.int r1), .val (.int (2 : Int32)), .val (.long r2), .second, .val (.long r3), .second, .val (.ref b329), .val (.int (r2.toInt32)), .val (.int i353), .val (.int i358), .val (.ref b360), .unset, .unset, .unset, .unset, .unset] [(.ref b401), (.ref b387), (.ref b387)])) _
      refine XS.iload X419.here hx rfl (hb hby at_220) rfl ?_
      show Steps p.tables e below (T419.setTop (mkF m 222 #[.val (.int g1), .val (.int g2), .val (.int g3), .val (.int g4), .val (.int g5), .val (.int g6), .val (.int r1), .val (.int (2 : Int32)), .val (.long r2), .second, .val (.long r3), .second, .val (.ref b329), .val (.int (r2.toInt32)), .val (.int i353), .val (.int i358), .val (.ref b360), .unset, .unset, .unset, .unset, .unset] [(.int i353), (.ref b401), (.ref b387), (.ref b387)])) _
      refine XS.iload X419.here hx rfl (hb hby at_222) rfl ?_
      show Steps p.tables e below (T419.setTop (mkF m 224 #[.val (.int g1), .val (.int g2), .val (.int g3), .val (.int g4), .val (.int g5), .val (.int g6), .val (.int r1), .val (.int (2 : Int32)), .val (.long r2), .second, .val (.long r3), .second, .val (.ref b329), .val (.int (r2.toInt32)), .val (.int i353), .val (.int i358), .val (.ref b360), .unset, .unset, .unset, .unset, .unset] [(.int i358), (.int i353), (.ref b401), (.ref b387), (.ref b387)])) _
      refine XS.aload X419.here hx rfl (hb hby at_224) rfl rfl ?_
      exact k)
    obtain ⟨_, _, ⟨T431, L431, k431, n431⟩, -, X431, ⟨Lc431, hQ431, l431, y431, z431⟩, st431⟩ := X419.specialBack hx (y := (⟨"com/example/round2/round2/eval/TopicResult", "<init>", "(Ljava/lang/String;II[I)V"⟩ : MethodName)) rfl hown (mvT hZ (hw _ (List.mem_of_getElem? (i := 40) rfl))) (mvT hZ (hw _ (List.mem_of_getElem? (i := 41) rfl))) (mvT hZ (hw _ (List.mem_of_getElem? (i := 42) rfl))) (by decide) (backOf (W := 1) (rm8 l Z a0 hw [] b387 b401 i353 i358 b329 h419 n0 Z429 F424 F425 F426 F427 F423 g390) hZ (hw _ (List.mem_of_getElem? (i := 42) rfl)) (hw _ (List.mem_of_getElem? (i := 10) rfl)) (by decide) (by decide)) (g := (mkF m 226 #[.val (.int g1), .val (.int g2), .val (.int g3), .val (.int g4), .val (.int g5), .val (.int g6), .val (.int r1), .val (.int (2 : Int32)), .val (.long r2), .second, .val (.long r3), .second, .val (.ref b329), .val (.int (r2.toInt32)), .val (.int i353), .val (.int i358), .val (.ref b360), .unset, .unset, .unset, .unset, .unset] [(.ref b329), (.int i358), (.int i353), (.ref b401), (.ref b387), (.ref b387)])) rfl (by rw [hml]; rfl) (Steps.refl _) (a := b387) (argsL := [(.ref b401), (.int i353), (.int i358), (.ref b329)]) (rest := [(.ref b387)]) (lenOf pd__28Ljava_2flang_2fString_3bII_5bI_29V rfl) rfl (by show 2 * 0 + _ ≤ _; exact Nat.le_of_eq rfl) (hb hby at_226) (fun _ _ => ⟨rfl, e419, (by decide : 5 + 0 ≤ _), (by decide : 14 + 0 ≤ _)⟩)
    dsimp only [Pt.U, Pt.locs, Pt.cells, Pt.slots] at X431 l431 y431 z431 st431 hQ431
    subst l431 y431 z431
    obtain ⟨h431, e431⟩ : ∃ h', T431.heap = h' := ⟨_, rfl⟩
    rw [e431] at hQ431
    obtain ⟨rfl, N431q, K431, G431a, G431b, G431c⟩ := hQ431
    have N432 := Fr.app N420 N431q
    have k433 : ∀ t, Steps p.tables e below (T431.setTop (mkF m 229 #[.val (.int g1), .val (.int g2), .val (.int g3), .val (.int g4), .val (.int g5), .val (.int g6), .val (.int r1), .val (.int (2 : Int32)), .val (.long r2), .second, .val (.long r3), .second, .val (.ref b329), .val (.int (r2.toInt32)), .val (.int i353), .val (.int i358), .val (.ref b360), .unset, .unset, .unset, .unset, .unset] [(.ref b387)])) t → Steps p.tables e below (s₁.setTop (entryFrame m #[(.int g1), (.int g2), (.int g3), (.int g4), (.int g5), (.int g6)] maxLocals)) t := fun t k => k430 t (st431.trans k)
    have F434 := F422.keep K431 (ninS n388 nin0)
    have F435 := F423.keep K431
    have F436 := F428.keep K431
    have Z437 : n0 ≤ h431.size := Nat.le_trans Z429 K431.1
    have k438 : ∀ t, Steps p.tables e below (T431.setTop (mkF m 233 #[.val (.int g1), .val (.int g2), .val (.int g3), .val (.int g4), .val (.int g5), .val (.int g6), .val (.int r1), .val (.int (2 : Int32)), .val (.long r2), .second, .val (.long r3), .second, .val (.ref b329), .val (.int (r2.toInt32)), .val (.int i353), .val (.int i358), .val (.ref b360), .val (.ref b387), .unset, .unset, .unset, .unset] [(.ref b387)])) t → Steps p.tables e below (s₁.setTop (entryFrame m #[(.int g1), (.int g2), (.int g3), (.int g4), (.int g5), (.int g6)] maxLocals)) t := fun t k => k433 t (by
      show Steps p.tables e below (T431.setTop (mkF m 229 #[.val (.int g1), .val (.int g2), .val (.int g3), .val (.int g4), .val (.int g5), .val (.int g6), .val (.int r1), .val (.int (2 : Int32)), .val (.long r2), .second, .val (.long r3), .second, .val (.ref b329), .val (.int (r2.toInt32)), .val (.int i353), .val (.int i358), .val (.ref b360), .unset, .unset, .unset, .unset, .unset] [(.ref b387)])) _
      refine XS.astore X431.here hx rfl (hb hby at_229) rfl rfl (l' := #[.val (.int g1), .val (.int g2), .val (.int g3), .val (.int g4), .val (.int g5), .val (.int g6), .val (.int r1), .val (.int (2 : Int32)), .val (.long r2), .second, .val (.long r3), .second, .val (.ref b329), .val (.int (r2.toInt32)), .val (.int i353), .val (.int i358), .val (.ref b360), .val (.ref b387), .unset, .unset, .unset, .unset]) rfl ?_
      show Steps p.tables e below (T431.setTop (mkF m 231 #[.val (.int g1), .val (.int g2), .val (.int g3), .val (.int g4), .val (.int g5), .val (.int g6), .val (.int r1), .val (.int (2 : Int32)), .val (.long r2), .second, .val (.long r3), .second, .val (.ref b329), .val (.int (r2.toInt32)), .val (.int i353), .val (.int i358), .val (.ref b360), .val (.ref b387), .unset, .unset, .unset, .unset] [])) _
      refine XS.aload X431.here hx rfl (hb hby at_231) rfl rfl ?_
      exact k)
    obtain ⟨cq439, kq439, q439a, q439b, q439c⟩ := isOf hZ e431 G431a
    obtain ⟨_, _, ⟨T439, L439, k439, n439⟩, -, X439, ⟨Lc439, hQ439, l439, y439, z439⟩, st439⟩ := X431.virtualBack hx (y := (⟨"com/example/round2/round2/eval/TopicResult", "reciprocalRank", "()D"⟩ : MethodName)) (z := (⟨"com/example/round2/round2/eval/TopicResult", "reciprocalRank", "()D"⟩ : MethodName)) hown (mvT hZ (hw _ (List.mem_of_getElem? (i := 52) rfl))) (mvT hZ (hw _ (List.mem_of_getElem? (i := 53) rfl))) (notFace_of_selects (args := #[]) (mvT hZ (hw _ (List.mem_of_getElem? (i := 55) rfl)))) (mvT hZ (hw _ (List.mem_of_getElem? (i := 55) rfl))) (mvT hZ (hw _ (List.mem_of_getElem? (i := 54) rfl))) (by decide) (backOf (W := 0) (rrk2 l Z a0 hw [] b387 b329 k329 r1 (r2.toInt32) h431 n0 Z437 G431c F434 (own_nn hz)) hZ (hw _ (List.mem_of_getElem? (i := 56) rfl)) (hw _ (List.mem_of_getElem? (i := 10) rfl)) (by decide) (by decide)) q439a q439c (g := (mkF m 233 #[.val (.int g1), .val (.int g2), .val (.int g3), .val (.int g4), .val (.int g5), .val (.int g6), .val (.int r1), .val (.int (2 : Int32)), .val (.long r2), .second, .val (.long r3), .second, .val (.ref b329), .val (.int (r2.toInt32)), .val (.int i353), .val (.int i358), .val (.ref b360), .val (.ref b387), .unset, .unset, .unset, .unset] [(.ref b387)])) rfl (by rw [hml]; rfl) (Steps.refl _) (argsL := []) (rest := []) (lenOf pd__28_29D rfl) rfl (by show 2 * 0 + _ ≤ _; exact Nat.le_of_eq rfl) (hb hby at_233) (fun _ _ => ⟨rfl, e431, (by decide : 5 + 0 ≤ _), (by decide : 14 + 0 ≤ _)⟩)
    dsimp only [Pt.U, Pt.locs, Pt.cells, Pt.slots] at X439 l439 y439 z439 st439 hQ439
    subst l439 y439 z439
    obtain ⟨rfl, N439q, e439⟩ := hQ439
    have N440 := Fr.app N432 N439q
    have k441 : ∀ t, Steps p.tables e below (T439.setTop (mkF m 236 #[.val (.int g1), .val (.int g2), .val (.int g3), .val (.int g4), .val (.int g5), .val (.int g6), .val (.int r1), .val (.int (2 : Int32)), .val (.long r2), .second, .val (.long r3), .second, .val (.ref b329), .val (.int (r2.toInt32)), .val (.int i353), .val (.int i358), .val (.ref b360), .val (.ref b387), .unset, .unset, .unset, .unset] [(.double (FP.ddiv (4607182418800017408 : UInt64) (FP.i2d r1)))])) t → Steps p.tables e below (s₁.setTop (entryFrame m #[(.int g1), (.int g2), (.int g3), (.int g4), (.int g5), (.int g6)] maxLocals)) t := fun t k => k438 t (st439.trans k)
    obtain ⟨rr, hrr⟩ : ∃ z : UInt64, z = (FP.ddiv (4607182418800017408 : UInt64) (FP.i2d r1)) := ⟨_, rfl⟩
    obtain ⟨xr, hxr⟩ : ∃ z : UInt64, FP.i2d r1 = z := ⟨_, rfl⟩
    obtain ⟨ex, hex⟩ : ∃ z : UInt64, FP.ddiv (4607182418800017408 : UInt64) xr = z := ⟨_, rfl⟩
    have eex : ex = rr := by rw [← hex, ← hxr, hrr]
    obtain ⟨Q1, Q2, Q3, Q4⟩ := own_rr hr hrr
    have Q1' : cmpValue (FP.dcmp rr ex) .l = (0 : Int32) := by rw [eex]; exact Q1
    have k442 : ∀ t, Steps p.tables e below (T439.setTop (mkF m 289 #[.val (.int g1), .val (.int g2), .val (.int g3), .val (.int g4), .val (.int g5), .val (.int g6), .val (.int r1), .val (.int (2 : Int32)), .val (.long r2), .second, .val (.long r3), .second, .val (.ref b329), .val (.int (r2.toInt32)), .val (.int i353), .val (.int i358), .val (.ref b360), .val (.ref b387), .val (.double rr), .second, .val (.double ex), .second] [(.int (cmpValue (FP.dcmp rr (4607182418800017408 : UInt64)) .l))])) t → Steps p.tables e below (s₁.setTop (entryFrame m #[(.int g1), (.int g2), (.int g3), (.int g4), (.int g5), (.int g6)] maxLocals)) t := fun t k => k441 t (by
      show Steps p.tables e below (T439.setTop (mkF m 236 #[.val (.int g1), .val (.int g2), .val (.int g3), .val (.int g4), .val (.int g5), .val (.int g6), .val (.int r1), .val (.int (2 : Int32)), .val (.long r2), .second, .val (.long r3), .second, .val (.ref b329), .val (.int (r2.toInt32)), .val (.int i353), .val (.int i358), .val (.ref b360), .val (.ref b387), .unset, .unset, .unset, .unset] [(.double (FP.ddiv (4607182418800017408 : UInt64) (FP.i2d r1)))])) _
      refine castTop (g' := (mkF m 236 #[.val (.int g1), .val (.int g2), .val (.int g3), .val (.int g4), .val (.int g5), .val (.int g6), .val (.int r1), .val (.int (2 : Int32)), .val (.long r2), .second, .val (.long r3), .second, .val (.ref b329), .val (.int (r2.toInt32)), .val (.int i353), .val (.int i358), .val (.ref b360), .val (.ref b387), .unset, .unset, .unset, .unset] [(.double rr)])) (by rw [hrr]) ?_
      show Steps p.tables e below (T439.setTop (mkF m 236 #[.val (.int g1), .val (.int g2), .val (.int g3), .val (.int g4), .val (.int g5), .val (.int g6), .val (.int r1), .val (.int (2 : Int32)), .val (.long r2), .second, .val (.long r3), .second, .val (.ref b329), .val (.int (r2.toInt32)), .val (.int i353), .val (.int i358), .val (.ref b360), .val (.ref b387), .unset, .unset, .unset, .unset] [(.double rr)])) _
      refine XS.dstore X439.here hx rfl (hb hby at_236) rfl (l' := #[.val (.int g1), .val (.int g2), .val (.int g3), .val (.int g4), .val (.int g5), .val (.int g6), .val (.int r1), .val (.int (2 : Int32)), .val (.long r2), .second, .val (.long r3), .second, .val (.ref b329), .val (.int (r2.toInt32)), .val (.int i353), .val (.int i358), .val (.ref b360), .val (.ref b387), .val (.double rr), .second, .unset, .unset]) rfl ?_
      show Steps p.tables e below (T439.setTop (mkF m 238 #[.val (.int g1), .val (.int g2), .val (.int g3), .val (.int g4), .val (.int g5), .val (.int g6), .val (.int r1), .val (.int (2 : Int32)), .val (.long r2), .second, .val (.long r3), .second, .val (.ref b329), .val (.int (r2.toInt32)), .val (.int i353), .val (.int i358), .val (.ref b360), .val (.ref b387), .val (.double rr), .second, .unset, .unset] [])) _
      refine XS.iload X439.here hx rfl (hb hby at_238) rfl ?_
      show Steps p.tables e below (T439.setTop (mkF m 240 #[.val (.int g1), .val (.int g2), .val (.int g3), .val (.int g4), .val (.int g5), .val (.int g6), .val (.int r1), .val (.int (2 : Int32)), .val (.long r2), .second, .val (.long r3), .second, .val (.ref b329), .val (.int (r2.toInt32)), .val (.int i353), .val (.int i358), .val (.ref b360), .val (.ref b387), .val (.double rr), .second, .unset, .unset] [(.int (2 : Int32))])) _
      refine XS.ifYes X439.here hx rfl (pc0 := 240) (pc' := 256) rfl (hb hby at_240) rfl ((if0 _ _).trans (feq (by decide)).2) (by decide) (by decide) ?_
      show Steps p.tables e below (T439.setTop (mkF m 256 #[.val (.int g1), .val (.int g2), .val (.int g3), .val (.int g4), .val (.int g5), .val (.int g6), .val (.int r1), .val (.int (2 : Int32)), .val (.long r2), .second, .val (.long r3), .second, .val (.ref b329), .val (.int (r2.toInt32)), .val (.int i353), .val (.int i358), .val (.ref b360), .val (.ref b387), .val (.double rr), .second, .unset, .unset] [])) _
      refine XS.dconst1 X439.here hx rfl (hb hby at_256) (v := (4607182418800017408 : UInt64)) rfl ?_
      show Steps p.tables e below (T439.setTop (mkF m 257 #[.val (.int g1), .val (.int g2), .val (.int g3), .val (.int g4), .val (.int g5), .val (.int g6), .val (.int r1), .val (.int (2 : Int32)), .val (.long r2), .second, .val (.long r3), .second, .val (.ref b329), .val (.int (r2.toInt32)), .val (.int i353), .val (.int i358), .val (.ref b360), .val (.ref b387), .val (.double rr), .second, .unset, .unset] [(.double (4607182418800017408 : UInt64))])) _
      refine XS.iload X439.here hx rfl (hb hby at_257) rfl ?_
      show Steps p.tables e below (T439.setTop (mkF m 259 #[.val (.int g1), .val (.int g2), .val (.int g3), .val (.int g4), .val (.int g5), .val (.int g6), .val (.int r1), .val (.int (2 : Int32)), .val (.long r2), .second, .val (.long r3), .second, .val (.ref b329), .val (.int (r2.toInt32)), .val (.int i353), .val (.int i358), .val (.ref b360), .val (.ref b387), .val (.double rr), .second, .unset, .unset] [(.int r1), (.double (4607182418800017408 : UInt64))])) _
      refine XS.i2dS X439.here hx rfl (hb hby at_259) rfl hxr ?_
      show Steps p.tables e below (T439.setTop (mkF m 260 #[.val (.int g1), .val (.int g2), .val (.int g3), .val (.int g4), .val (.int g5), .val (.int g6), .val (.int r1), .val (.int (2 : Int32)), .val (.long r2), .second, .val (.long r3), .second, .val (.ref b329), .val (.int (r2.toInt32)), .val (.int i353), .val (.int i358), .val (.ref b360), .val (.ref b387), .val (.double rr), .second, .unset, .unset] [(.double xr), (.double (4607182418800017408 : UInt64))])) _
      refine XS.ddivS X439.here hx rfl (hb hby at_260) rfl ((by rw [← hxr]; exact own_nn hz)) hex ?_
      show Steps p.tables e below (T439.setTop (mkF m 261 #[.val (.int g1), .val (.int g2), .val (.int g3), .val (.int g4), .val (.int g5), .val (.int g6), .val (.int r1), .val (.int (2 : Int32)), .val (.long r2), .second, .val (.long r3), .second, .val (.ref b329), .val (.int (r2.toInt32)), .val (.int i353), .val (.int i358), .val (.ref b360), .val (.ref b387), .val (.double rr), .second, .unset, .unset] [(.double ex)])) _
      refine XS.dstore X439.here hx rfl (hb hby at_261) rfl (l' := #[.val (.int g1), .val (.int g2), .val (.int g3), .val (.int g4), .val (.int g5), .val (.int g6), .val (.int r1), .val (.int (2 : Int32)), .val (.long r2), .second, .val (.long r3), .second, .val (.ref b329), .val (.int (r2.toInt32)), .val (.int i353), .val (.int i358), .val (.ref b360), .val (.ref b387), .val (.double rr), .second, .val (.double ex), .second]) rfl ?_
      show Steps p.tables e below (T439.setTop (mkF m 263 #[.val (.int g1), .val (.int g2), .val (.int g3), .val (.int g4), .val (.int g5), .val (.int g6), .val (.int r1), .val (.int (2 : Int32)), .val (.long r2), .second, .val (.long r3), .second, .val (.ref b329), .val (.int (r2.toInt32)), .val (.int i353), .val (.int i358), .val (.ref b360), .val (.ref b387), .val (.double rr), .second, .val (.double ex), .second] [])) _
      refine XS.dload X439.here hx rfl (hb hby at_263) rfl ?_
      show Steps p.tables e below (T439.setTop (mkF m 265 #[.val (.int g1), .val (.int g2), .val (.int g3), .val (.int g4), .val (.int g5), .val (.int g6), .val (.int r1), .val (.int (2 : Int32)), .val (.long r2), .second, .val (.long r3), .second, .val (.ref b329), .val (.int (r2.toInt32)), .val (.int i353), .val (.int i358), .val (.ref b360), .val (.ref b387), .val (.double rr), .second, .val (.double ex), .second] [(.double rr)])) _
      refine XS.dload X439.here hx rfl (hb hby at_265) rfl ?_
      show Steps p.tables e below (T439.setTop (mkF m 267 #[.val (.int g1), .val (.int g2), .val (.int g3), .val (.int g4), .val (.int g5), .val (.int g6), .val (.int r1), .val (.int (2 : Int32)), .val (.long r2), .second, .val (.long r3), .second, .val (.ref b329), .val (.int (r2.toInt32)), .val (.int i353), .val (.int i358), .val (.ref b360), .val (.ref b387), .val (.double rr), .second, .val (.double ex), .second] [(.double ex), (.double rr)])) _
      refine XS.dcmpS X439.here hx rfl (hb hby at_267) rfl rfl ?_
      show Steps p.tables e below (T439.setTop (mkF m 268 #[.val (.int g1), .val (.int g2), .val (.int g3), .val (.int g4), .val (.int g5), .val (.int g6), .val (.int r1), .val (.int (2 : Int32)), .val (.long r2), .second, .val (.long r3), .second, .val (.ref b329), .val (.int (r2.toInt32)), .val (.int i353), .val (.int i358), .val (.ref b360), .val (.ref b387), .val (.double rr), .second, .val (.double ex), .second] [(.int (cmpValue (FP.dcmp rr ex) .l))])) _
      refine XS.ifNo X439.here hx rfl (hb hby at_268) rfl ((if0 _ _).trans (teq Q1').2) ?_
      show Steps p.tables e below (T439.setTop (mkF m 271 #[.val (.int g1), .val (.int g2), .val (.int g3), .val (.int g4), .val (.int g5), .val (.int g6), .val (.int r1), .val (.int (2 : Int32)), .val (.long r2), .second, .val (.long r3), .second, .val (.ref b329), .val (.int (r2.toInt32)), .val (.int i353), .val (.int i358), .val (.ref b360), .val (.ref b387), .val (.double rr), .second, .val (.double ex), .second] [])) _
      refine XS.dload X439.here hx rfl (hb hby at_271) rfl ?_
      show Steps p.tables e below (T439.setTop (mkF m 273 #[.val (.int g1), .val (.int g2), .val (.int g3), .val (.int g4), .val (.int g5), .val (.int g6), .val (.int r1), .val (.int (2 : Int32)), .val (.long r2), .second, .val (.long r3), .second, .val (.ref b329), .val (.int (r2.toInt32)), .val (.int i353), .val (.int i358), .val (.ref b360), .val (.ref b387), .val (.double rr), .second, .val (.double ex), .second] [(.double rr)])) _
      refine XS.dconst0 X439.here hx rfl (hb hby at_273) (v := (0 : UInt64)) rfl ?_
      show Steps p.tables e below (T439.setTop (mkF m 274 #[.val (.int g1), .val (.int g2), .val (.int g3), .val (.int g4), .val (.int g5), .val (.int g6), .val (.int r1), .val (.int (2 : Int32)), .val (.long r2), .second, .val (.long r3), .second, .val (.ref b329), .val (.int (r2.toInt32)), .val (.int i353), .val (.int i358), .val (.ref b360), .val (.ref b387), .val (.double rr), .second, .val (.double ex), .second] [(.double (0 : UInt64)), (.double rr)])) _
      refine XS.dcmpS X439.here hx rfl (hb hby at_274) rfl rfl ?_
      show Steps p.tables e below (T439.setTop (mkF m 275 #[.val (.int g1), .val (.int g2), .val (.int g3), .val (.int g4), .val (.int g5), .val (.int g6), .val (.int r1), .val (.int (2 : Int32)), .val (.long r2), .second, .val (.long r3), .second, .val (.ref b329), .val (.int (r2.toInt32)), .val (.int i353), .val (.int i358), .val (.ref b360), .val (.ref b387), .val (.double rr), .second, .val (.double ex), .second] [(.int (cmpValue (FP.dcmp rr (0 : UInt64)) .l))])) _
      refine XS.ifNo X439.here hx rfl (hb hby at_275) rfl ((if0 _ _).trans (tlt Q2).2.2.2) ?_
      show Steps p.tables e below (T439.setTop (mkF m 278 #[.val (.int g1), .val (.int g2), .val (.int g3), .val (.int g4), .val (.int g5), .val (.int g6), .val (.int r1), .val (.int (2 : Int32)), .val (.long r2), .second, .val (.long r3), .second, .val (.ref b329), .val (.int (r2.toInt32)), .val (.int i353), .val (.int i358), .val (.ref b360), .val (.ref b387), .val (.double rr), .second, .val (.double ex), .second] [])) _
      refine XS.dload X439.here hx rfl (hb hby at_278) rfl ?_
      show Steps p.tables e below (T439.setTop (mkF m 280 #[.val (.int g1), .val (.int g2), .val (.int g3), .val (.int g4), .val (.int g5), .val (.int g6), .val (.int r1), .val (.int (2 : Int32)), .val (.long r2), .second, .val (.long r3), .second, .val (.ref b329), .val (.int (r2.toInt32)), .val (.int i353), .val (.int i358), .val (.ref b360), .val (.ref b387), .val (.double rr), .second, .val (.double ex), .second] [(.double rr)])) _
      refine XS.dconst1 X439.here hx rfl (hb hby at_280) (v := (4607182418800017408 : UInt64)) rfl ?_
      show Steps p.tables e below (T439.setTop (mkF m 281 #[.val (.int g1), .val (.int g2), .val (.int g3), .val (.int g4), .val (.int g5), .val (.int g6), .val (.int r1), .val (.int (2 : Int32)), .val (.long r2), .second, .val (.long r3), .second, .val (.ref b329), .val (.int (r2.toInt32)), .val (.int i353), .val (.int i358), .val (.ref b360), .val (.ref b387), .val (.double rr), .second, .val (.double ex), .second] [(.double (4607182418800017408 : UInt64)), (.double rr)])) _
      refine XS.dcmpS X439.here hx rfl (hb hby at_281) rfl rfl ?_
      show Steps p.tables e below (T439.setTop (mkF m 282 #[.val (.int g1), .val (.int g2), .val (.int g3), .val (.int g4), .val (.int g5), .val (.int g6), .val (.int r1), .val (.int (2 : Int32)), .val (.long r2), .second, .val (.long r3), .second, .val (.ref b329), .val (.int (r2.toInt32)), .val (.int i353), .val (.int i358), .val (.ref b360), .val (.ref b387), .val (.double rr), .second, .val (.double ex), .second] [(.int (cmpValue (FP.dcmp rr (4607182418800017408 : UInt64)) .g))])) _
      refine XS.ifNo X439.here hx rfl (hb hby at_282) rfl ((if0 _ _).trans (flt Q3).2.2.1) ?_
      show Steps p.tables e below (T439.setTop (mkF m 285 #[.val (.int g1), .val (.int g2), .val (.int g3), .val (.int g4), .val (.int g5), .val (.int g6), .val (.int r1), .val (.int (2 : Int32)), .val (.long r2), .second, .val (.long r3), .second, .val (.ref b329), .val (.int (r2.toInt32)), .val (.int i353), .val (.int i358), .val (.ref b360), .val (.ref b387), .val (.double rr), .second, .val (.double ex), .second] [])) _
      refine XS.dload X439.here hx rfl (hb hby at_285) rfl ?_
      show Steps p.tables e below (T439.setTop (mkF m 287 #[.val (.int g1), .val (.int g2), .val (.int g3), .val (.int g4), .val (.int g5), .val (.int g6), .val (.int r1), .val (.int (2 : Int32)), .val (.long r2), .second, .val (.long r3), .second, .val (.ref b329), .val (.int (r2.toInt32)), .val (.int i353), .val (.int i358), .val (.ref b360), .val (.ref b387), .val (.double rr), .second, .val (.double ex), .second] [(.double rr)])) _
      refine XS.dconst1 X439.here hx rfl (hb hby at_287) (v := (4607182418800017408 : UInt64)) rfl ?_
      show Steps p.tables e below (T439.setTop (mkF m 288 #[.val (.int g1), .val (.int g2), .val (.int g3), .val (.int g4), .val (.int g5), .val (.int g6), .val (.int r1), .val (.int (2 : Int32)), .val (.long r2), .second, .val (.long r3), .second, .val (.ref b329), .val (.int (r2.toInt32)), .val (.int i353), .val (.int i358), .val (.ref b360), .val (.ref b387), .val (.double rr), .second, .val (.double ex), .second] [(.double (4607182418800017408 : UInt64)), (.double rr)])) _
      refine XS.dcmpS X439.here hx rfl (hb hby at_288) rfl rfl ?_
      exact k)
    obtain ⟨i444, hi444⟩ : ∃ z : Int32, z = (if (cmpValue (FP.dcmp rr (4607182418800017408 : UInt64)) .l) = (0 : Int32) then (1 : Int32) else (0 : Int32)) := ⟨_, rfl⟩
    have k445 : ∀ t, Steps p.tables e below (T439.setTop (mkF m 297 #[.val (.int g1), .val (.int g2), .val (.int g3), .val (.int g4), .val (.int g5), .val (.int g6), .val (.int r1), .val (.int (2 : Int32)), .val (.long r2), .second, .val (.long r3), .second, .val (.ref b329), .val (.int (r2.toInt32)), .val (.int i353), .val (.int i358), .val (.ref b360), .val (.ref b387), .val (.double rr), .second, .val (.double ex), .second] [(.int i444)])) t → Steps p.tables e below (s₁.setTop (entryFrame m #[(.int g1), (.int g2), (.int g3), (.int g4), (.int g5), (.int g6)] maxLocals)) t := fun t k => k442 t (by
      by_cases c443 : (cmpValue (FP.dcmp rr (4607182418800017408 : UInt64)) .l) = (0 : Int32)
      · rw [if_pos c443] at hi444
        show Steps p.tables e below (T439.setTop (mkF m 289 #[.val (.int g1), .val (.int g2), .val (.int g3), .val (.int g4), .val (.int g5), .val (.int g6), .val (.int r1), .val (.int (2 : Int32)), .val (.long r2), .second, .val (.long r3), .second, .val (.ref b329), .val (.int (r2.toInt32)), .val (.int i353), .val (.int i358), .val (.ref b360), .val (.ref b387), .val (.double rr), .second, .val (.double ex), .second] [(.int (cmpValue (FP.dcmp rr (4607182418800017408 : UInt64)) .l))])) _
        refine XS.ifNo X439.here hx rfl (hb hby at_289) rfl ((if0 _ _).trans (teq c443).2) ?_
        show Steps p.tables e below (T439.setTop (mkF m 292 #[.val (.int g1), .val (.int g2), .val (.int g3), .val (.int g4), .val (.int g5), .val (.int g6), .val (.int r1), .val (.int (2 : Int32)), .val (.long r2), .second, .val (.long r3), .second, .val (.ref b329), .val (.int (r2.toInt32)), .val (.int i353), .val (.int i358), .val (.ref b360), .val (.ref b387), .val (.double rr), .second, .val (.double ex), .second] [])) _
        refine XS.iconst X439.here hx rfl (hb hby at_292) ?_
        show Steps p.tables e below (T439.setTop (mkF m 293 #[.val (.int g1), .val (.int g2), .val (.int g3), .val (.int g4), .val (.int g5), .val (.int g6), .val (.int r1), .val (.int (2 : Int32)), .val (.long r2), .second, .val (.long r3), .second, .val (.ref b329), .val (.int (r2.toInt32)), .val (.int i353), .val (.int i358), .val (.ref b360), .val (.ref b387), .val (.double rr), .second, .val (.double ex), .second] [(.int (1 : Int32))])) _
        refine XS.goto X439.here hx rfl (pc0 := 293) (pc' := 297) rfl (hb hby at_293) (by decide) (by decide) ?_
        show Steps p.tables e below (T439.setTop (mkF m 297 #[.val (.int g1), .val (.int g2), .val (.int g3), .val (.int g4), .val (.int g5), .val (.int g6), .val (.int r1), .val (.int (2 : Int32)), .val (.long r2), .second, .val (.long r3), .second, .val (.ref b329), .val (.int (r2.toInt32)), .val (.int i353), .val (.int i358), .val (.ref b360), .val (.ref b387), .val (.double rr), .second, .val (.double ex), .second] [(.int (1 : Int32))])) _
        exact castTop (by rw [hi444]) k
      · rw [if_neg c443] at hi444
        show Steps p.tables e below (T439.setTop (mkF m 289 #[.val (.int g1), .val (.int g2), .val (.int g3), .val (.int g4), .val (.int g5), .val (.int g6), .val (.int r1), .val (.int (2 : Int32)), .val (.long r2), .second, .val (.long r3), .second, .val (.ref b329), .val (.int (r2.toInt32)), .val (.int i353), .val (.int i358), .val (.ref b360), .val (.ref b387), .val (.double rr), .second, .val (.double ex), .second] [(.int (cmpValue (FP.dcmp rr (4607182418800017408 : UInt64)) .l))])) _
        refine XS.ifYes X439.here hx rfl (pc0 := 289) (pc' := 296) rfl (hb hby at_289) rfl ((if0 _ _).trans (feq c443).2) (by decide) (by decide) ?_
        show Steps p.tables e below (T439.setTop (mkF m 296 #[.val (.int g1), .val (.int g2), .val (.int g3), .val (.int g4), .val (.int g5), .val (.int g6), .val (.int r1), .val (.int (2 : Int32)), .val (.long r2), .second, .val (.long r3), .second, .val (.ref b329), .val (.int (r2.toInt32)), .val (.int i353), .val (.int i358), .val (.ref b360), .val (.ref b387), .val (.double rr), .second, .val (.double ex), .second] [])) _
        refine XS.iconst X439.here hx rfl (hb hby at_296) ?_
        show Steps p.tables e below (T439.setTop (mkF m 297 #[.val (.int g1), .val (.int g2), .val (.int g3), .val (.int g4), .val (.int g5), .val (.int g6), .val (.int r1), .val (.int (2 : Int32)), .val (.long r2), .second, .val (.long r3), .second, .val (.ref b329), .val (.int (r2.toInt32)), .val (.int i353), .val (.int i358), .val (.ref b360), .val (.ref b387), .val (.double rr), .second, .val (.double ex), .second] [(.int (0 : Int32))])) _
        exact castTop (by rw [hi444]) k)
    have k446 : ∀ t, Steps p.tables e below (T439.setTop (mkF m 300 #[.val (.int g1), .val (.int g2), .val (.int g3), .val (.int g4), .val (.int g5), .val (.int g6), .val (.int r1), .val (.int (2 : Int32)), .val (.long r2), .second, .val (.long r3), .second, .val (.ref b329), .val (.int (r2.toInt32)), .val (.int i353), .val (.int i358), .val (.ref b360), .val (.ref b387), .val (.double rr), .second, .val (.double ex), .second] [(.int (1 : Int32)), (.int r1), (.int i444)])) t → Steps p.tables e below (s₁.setTop (entryFrame m #[(.int g1), (.int g2), (.int g3), (.int g4), (.int g5), (.int g6)] maxLocals)) t := fun t k => k445 t (by
      show Steps p.tables e below (T439.setTop (mkF m 297 #[.val (.int g1), .val (.int g2), .val (.int g3), .val (.int g4), .val (.int g5), .val (.int g6), .val (.int r1), .val (.int (2 : Int32)), .val (.long r2), .second, .val (.long r3), .second, .val (.ref b329), .val (.int (r2.toInt32)), .val (.int i353), .val (.int i358), .val (.ref b360), .val (.ref b387), .val (.double rr), .second, .val (.double ex), .second] [(.int i444)])) _
      refine XS.iload X439.here hx rfl (hb hby at_297) rfl ?_
      show Steps p.tables e below (T439.setTop (mkF m 299 #[.val (.int g1), .val (.int g2), .val (.int g3), .val (.int g4), .val (.int g5), .val (.int g6), .val (.int r1), .val (.int (2 : Int32)), .val (.long r2), .second, .val (.long r3), .second, .val (.ref b329), .val (.int (r2.toInt32)), .val (.int i353), .val (.int i358), .val (.ref b360), .val (.ref b387), .val (.double rr), .second, .val (.double ex), .second] [(.int r1), (.int i444)])) _
      refine XS.iconst X439.here hx rfl (hb hby at_299) ?_
      exact k)
    obtain ⟨i448, hi448⟩ : ∃ z : Int32, z = (if r1 = (1 : Int32) then (1 : Int32) else (0 : Int32)) := ⟨_, rfl⟩
    have k449 : ∀ t, Steps p.tables e below (T439.setTop (mkF m 308 #[.val (.int g1), .val (.int g2), .val (.int g3), .val (.int g4), .val (.int g5), .val (.int g6), .val (.int r1), .val (.int (2 : Int32)), .val (.long r2), .second, .val (.long r3), .second, .val (.ref b329), .val (.int (r2.toInt32)), .val (.int i353), .val (.int i358), .val (.ref b360), .val (.ref b387), .val (.double rr), .second, .val (.double ex), .second] [(.int i448), (.int i444)])) t → Steps p.tables e below (s₁.setTop (entryFrame m #[(.int g1), (.int g2), (.int g3), (.int g4), (.int g5), (.int g6)] maxLocals)) t := fun t k => k446 t (by
      by_cases c447 : r1 = (1 : Int32)
      · rw [if_pos c447] at hi448
        show Steps p.tables e below (T439.setTop (mkF m 300 #[.val (.int g1), .val (.int g2), .val (.int g3), .val (.int g4), .val (.int g5), .val (.int g6), .val (.int r1), .val (.int (2 : Int32)), .val (.long r2), .second, .val (.long r3), .second, .val (.ref b329), .val (.int (r2.toInt32)), .val (.int i353), .val (.int i358), .val (.ref b360), .val (.ref b387), .val (.double rr), .second, .val (.double ex), .second] [(.int (1 : Int32)), (.int r1), (.int i444)])) _
        refine XS.icmpNo X439.here hx rfl (hb hby at_300) rfl (teq c447).2 ?_
        show Steps p.tables e below (T439.setTop (mkF m 303 #[.val (.int g1), .val (.int g2), .val (.int g3), .val (.int g4), .val (.int g5), .val (.int g6), .val (.int r1), .val (.int (2 : Int32)), .val (.long r2), .second, .val (.long r3), .second, .val (.ref b329), .val (.int (r2.toInt32)), .val (.int i353), .val (.int i358), .val (.ref b360), .val (.ref b387), .val (.double rr), .second, .val (.double ex), .second] [(.int i444)])) _
        refine XS.iconst X439.here hx rfl (hb hby at_303) ?_
        show Steps p.tables e below (T439.setTop (mkF m 304 #[.val (.int g1), .val (.int g2), .val (.int g3), .val (.int g4), .val (.int g5), .val (.int g6), .val (.int r1), .val (.int (2 : Int32)), .val (.long r2), .second, .val (.long r3), .second, .val (.ref b329), .val (.int (r2.toInt32)), .val (.int i353), .val (.int i358), .val (.ref b360), .val (.ref b387), .val (.double rr), .second, .val (.double ex), .second] [(.int (1 : Int32)), (.int i444)])) _
        refine XS.goto X439.here hx rfl (pc0 := 304) (pc' := 308) rfl (hb hby at_304) (by decide) (by decide) ?_
        show Steps p.tables e below (T439.setTop (mkF m 308 #[.val (.int g1), .val (.int g2), .val (.int g3), .val (.int g4), .val (.int g5), .val (.int g6), .val (.int r1), .val (.int (2 : Int32)), .val (.long r2), .second, .val (.long r3), .second, .val (.ref b329), .val (.int (r2.toInt32)), .val (.int i353), .val (.int i358), .val (.ref b360), .val (.ref b387), .val (.double rr), .second, .val (.double ex), .second] [(.int (1 : Int32)), (.int i444)])) _
        exact castTop (by rw [hi448]) k
      · rw [if_neg c447] at hi448
        show Steps p.tables e below (T439.setTop (mkF m 300 #[.val (.int g1), .val (.int g2), .val (.int g3), .val (.int g4), .val (.int g5), .val (.int g6), .val (.int r1), .val (.int (2 : Int32)), .val (.long r2), .second, .val (.long r3), .second, .val (.ref b329), .val (.int (r2.toInt32)), .val (.int i353), .val (.int i358), .val (.ref b360), .val (.ref b387), .val (.double rr), .second, .val (.double ex), .second] [(.int (1 : Int32)), (.int r1), (.int i444)])) _
        refine XS.icmpYes X439.here hx rfl (pc0 := 300) (pc' := 307) rfl (hb hby at_300) rfl (feq c447).2 (by decide) (by decide) ?_
        show Steps p.tables e below (T439.setTop (mkF m 307 #[.val (.int g1), .val (.int g2), .val (.int g3), .val (.int g4), .val (.int g5), .val (.int g6), .val (.int r1), .val (.int (2 : Int32)), .val (.long r2), .second, .val (.long r3), .second, .val (.ref b329), .val (.int (r2.toInt32)), .val (.int i353), .val (.int i358), .val (.ref b360), .val (.ref b387), .val (.double rr), .second, .val (.double ex), .second] [(.int i444)])) _
        refine XS.iconst X439.here hx rfl (hb hby at_307) ?_
        show Steps p.tables e below (T439.setTop (mkF m 308 #[.val (.int g1), .val (.int g2), .val (.int g3), .val (.int g4), .val (.int g5), .val (.int g6), .val (.int r1), .val (.int (2 : Int32)), .val (.long r2), .second, .val (.long r3), .second, .val (.ref b329), .val (.int (r2.toInt32)), .val (.int i353), .val (.int i358), .val (.ref b360), .val (.ref b387), .val (.double rr), .second, .val (.double ex), .second] [(.int (0 : Int32)), (.int i444)])) _
        exact castTop (by rw [hi448]) k)
    have hii : i444 = i448 := by rw [hi444, hi448]; exact own_iff Q4
    have k450 : ∀ t, Steps p.tables e below (T439.setTop (mkF m 313 #[.val (.int g1), .val (.int g2), .val (.int g3), .val (.int g4), .val (.int g5), .val (.int g6), .val (.int r1), .val (.int (2 : Int32)), .val (.long r2), .second, .val (.long r3), .second, .val (.ref b329), .val (.int (r2.toInt32)), .val (.int i353), .val (.int i358), .val (.ref b360), .val (.ref b387), .val (.double rr), .second, .val (.double ex), .second] [(.ref b387)])) t → Steps p.tables e below (s₁.setTop (entryFrame m #[(.int g1), (.int g2), (.int g3), (.int g4), (.int g5), (.int g6)] maxLocals)) t := fun t k => k449 t (by
      show Steps p.tables e below (T439.setTop (mkF m 308 #[.val (.int g1), .val (.int g2), .val (.int g3), .val (.int g4), .val (.int g5), .val (.int g6), .val (.int r1), .val (.int (2 : Int32)), .val (.long r2), .second, .val (.long r3), .second, .val (.ref b329), .val (.int (r2.toInt32)), .val (.int i353), .val (.int i358), .val (.ref b360), .val (.ref b387), .val (.double rr), .second, .val (.double ex), .second] [(.int i448), (.int i444)])) _
      refine XS.icmpNo X439.here hx rfl (hb hby at_308) rfl (teq hii).2 ?_
      show Steps p.tables e below (T439.setTop (mkF m 311 #[.val (.int g1), .val (.int g2), .val (.int g3), .val (.int g4), .val (.int g5), .val (.int g6), .val (.int r1), .val (.int (2 : Int32)), .val (.long r2), .second, .val (.long r3), .second, .val (.ref b329), .val (.int (r2.toInt32)), .val (.int i353), .val (.int i358), .val (.ref b360), .val (.ref b387), .val (.double rr), .second, .val (.double ex), .second] [])) _
      refine XS.aload X439.here hx rfl (hb hby at_311) rfl rfl ?_
      exact k)
    obtain ⟨cq451, kq451, q451a, q451b, q451c⟩ := isOf hZ e439 G431a
    obtain ⟨_, _, ⟨T451, L451, k451, n451⟩, -, X451, ⟨Lc451, hQ451, l451, y451, z451⟩, st451⟩ := X439.virtualBack hx (y := (⟨"com/example/round2/round2/eval/TopicResult", "getRelevantRetrieved", "()I"⟩ : MethodName)) (z := (⟨"com/example/round2/round2/eval/TopicResult", "getRelevantRetrieved", "()I"⟩ : MethodName)) hown (mvT hZ (hw _ (List.mem_of_getElem? (i := 57) rfl))) (mvT hZ (hw _ (List.mem_of_getElem? (i := 58) rfl))) (notFace_of_selects (args := #[]) (mvT hZ (hw _ (List.mem_of_getElem? (i := 60) rfl)))) (mvT hZ (hw _ (List.mem_of_getElem? (i := 60) rfl))) (mvT hZ (hw _ (List.mem_of_getElem? (i := 59) rfl))) (by decide) (backOf (W := 0) (grr2 l Z a0 hw [] b387 b329 k329 r1 (r2.toInt32) h431 n0 Z437 G431c F434) hZ (hw _ (List.mem_of_getElem? (i := 61) rfl)) (hw _ (List.mem_of_getElem? (i := 10) rfl)) (by decide) (by decide)) q451a q451c (g := (mkF m 313 #[.val (.int g1), .val (.int g2), .val (.int g3), .val (.int g4), .val (.int g5), .val (.int g6), .val (.int r1), .val (.int (2 : Int32)), .val (.long r2), .second, .val (.long r3), .second, .val (.ref b329), .val (.int (r2.toInt32)), .val (.int i353), .val (.int i358), .val (.ref b360), .val (.ref b387), .val (.double rr), .second, .val (.double ex), .second] [(.ref b387)])) rfl (by rw [hml]; rfl) (Steps.refl _) (argsL := []) (rest := []) (lenOf pd__28_29I rfl) rfl (by show 2 * 0 + _ ≤ _; exact Nat.le_of_eq rfl) (hb hby at_313) (fun _ _ => ⟨rfl, e439, (by decide : 5 + 0 ≤ _), (by decide : 14 + 0 ≤ _)⟩)
    dsimp only [Pt.U, Pt.locs, Pt.cells, Pt.slots] at X451 l451 y451 z451 st451 hQ451
    subst l451 y451 z451
    obtain ⟨rfl, N451q, e451⟩ := hQ451
    have N452 := Fr.app N440 N451q
    have k453 : ∀ t, Steps p.tables e below (T451.setTop (mkF m 316 #[.val (.int g1), .val (.int g2), .val (.int g3), .val (.int g4), .val (.int g5), .val (.int g6), .val (.int r1), .val (.int (2 : Int32)), .val (.long r2), .second, .val (.long r3), .second, .val (.ref b329), .val (.int (r2.toInt32)), .val (.int i353), .val (.int i358), .val (.ref b360), .val (.ref b387), .val (.double rr), .second, .val (.double ex), .second] [(.int (2 : Int32))])) t → Steps p.tables e below (s₁.setTop (entryFrame m #[(.int g1), (.int g2), (.int g3), (.int g4), (.int g5), (.int g6)] maxLocals)) t := fun t k => k450 t (st451.trans k)
    have k454 : ∀ t, Steps p.tables e below (T451.setTop (mkF m 326 #[.val (.int g1), .val (.int g2), .val (.int g3), .val (.int g4), .val (.int g5), .val (.int g6), .val (.int r1), .val (.int (2 : Int32)), .val (.long r2), .second, .val (.long r3), .second, .val (.ref b329), .val (.int (r2.toInt32)), .val (.int i353), .val (.int i358), .val (.ref b360), .val (.ref b387), .val (.double rr), .second, .val (.double ex), .second] [(.int (1 : Int32))])) t → Steps p.tables e below (s₁.setTop (entryFrame m #[(.int g1), (.int g2), (.int g3), (.int g4), (.int g5), (.int g6)] maxLocals)) t := fun t k => k453 t (by
      show Steps p.tables e below (T451.setTop (mkF m 316 #[.val (.int g1), .val (.int g2), .val (.int g3), .val (.int g4), .val (.int g5), .val (.int g6), .val (.int r1), .val (.int (2 : Int32)), .val (.long r2), .second, .val (.long r3), .second, .val (.ref b329), .val (.int (r2.toInt32)), .val (.int i353), .val (.int i358), .val (.ref b360), .val (.ref b387), .val (.double rr), .second, .val (.double ex), .second] [(.int (2 : Int32))])) _
      refine XS.iload X451.here hx rfl (hb hby at_316) rfl ?_
      show Steps p.tables e below (T451.setTop (mkF m 318 #[.val (.int g1), .val (.int g2), .val (.int g3), .val (.int g4), .val (.int g5), .val (.int g6), .val (.int r1), .val (.int (2 : Int32)), .val (.long r2), .second, .val (.long r3), .second, .val (.ref b329), .val (.int (r2.toInt32)), .val (.int i353), .val (.int i358), .val (.ref b360), .val (.ref b387), .val (.double rr), .second, .val (.double ex), .second] [(.int (2 : Int32)), (.int (2 : Int32))])) _
      refine XS.icmpNo X451.here hx rfl (hb hby at_318) rfl (teq (by decide)).2 ?_
      show Steps p.tables e below (T451.setTop (mkF m 321 #[.val (.int g1), .val (.int g2), .val (.int g3), .val (.int g4), .val (.int g5), .val (.int g6), .val (.int r1), .val (.int (2 : Int32)), .val (.long r2), .second, .val (.long r3), .second, .val (.ref b329), .val (.int (r2.toInt32)), .val (.int i353), .val (.int i358), .val (.ref b360), .val (.ref b387), .val (.double rr), .second, .val (.double ex), .second] [])) _
      refine XS.iconst X451.here hx rfl (hb hby at_321) ?_
      show Steps p.tables e below (T451.setTop (mkF m 322 #[.val (.int g1), .val (.int g2), .val (.int g3), .val (.int g4), .val (.int g5), .val (.int g6), .val (.int r1), .val (.int (2 : Int32)), .val (.long r2), .second, .val (.long r3), .second, .val (.ref b329), .val (.int (r2.toInt32)), .val (.int i353), .val (.int i358), .val (.ref b360), .val (.ref b387), .val (.double rr), .second, .val (.double ex), .second] [(.int (1 : Int32))])) _
      refine XS.goto X451.here hx rfl (pc0 := 322) (pc' := 326) rfl (hb hby at_322) (by decide) (by decide) ?_
      exact k)
    obtain ⟨fs, hr, hrun, hended, hW, hsame⟩ := X451.leave (v := some (.int (1 : Int32))) (fun h => by rw [Bd.returns] at h; cases h)
    refine ⟨_, _, k454 _ (retOut X451 hx (t := .boolean) Bd.returns rfl (Or.inl ⟨rfl, Or.inr (Or.inl rfl), _, rfl⟩) (hb hby at_326) hr), hrun, hended, _, _, rfl, ?_, ⟨_, rfl⟩, hW, hsame.mono (by decide) (by decide)⟩
    show Q_rm0 Z g1 g2 g3 g4 g5 g6 cs h0 n0 _ T451.heap _
    rw [e451]
    exact ⟨rfl, N452⟩
  · have k455 : ∀ t, Steps p.tables e below (s₁.setTop (mkF m 129 #[.val (.int g1), .val (.int g2), .val (.int g3), .val (.int g4), .val (.int g5), .val (.int g6), .val (.int r1), .val (.int (3 : Int32)), .val (.long r2), .second, .val (.long r3), .second, .unset, .unset, .unset, .unset, .unset, .unset, .unset, .unset, .unset, .unset] [(.int (3 : Int32))])) t → Steps p.tables e below (s₁.setTop (entryFrame m #[(.int g1), (.int g2), (.int g3), (.int g4), (.int g5), (.int g6)] maxLocals)) t := fun t k => k106 t (by
      show Steps p.tables e below (s₁.setTop (mkF m 59 #[.val (.int g1), .val (.int g2), .val (.int g3), .val (.int g4), .val (.int g5), .val (.int g6), .val (.int r1), .val (.int (3 : Int32)), .val (.long r2), .second, .val (.long r3), .second, .unset, .unset, .unset, .unset, .unset, .unset, .unset, .unset, .unset, .unset] [])) _
      refine XS.iload X0.here hx rfl (hb hby at_59) rfl ?_
      show Steps p.tables e below (s₁.setTop (mkF m 61 #[.val (.int g1), .val (.int g2), .val (.int g3), .val (.int g4), .val (.int g5), .val (.int g6), .val (.int r1), .val (.int (3 : Int32)), .val (.long r2), .second, .val (.long r3), .second, .unset, .unset, .unset, .unset, .unset, .unset, .unset, .unset, .unset, .unset] [(.int (3 : Int32))])) _
      refine XS.ifYes X0.here hx rfl (pc0 := 61) (pc' := 75) rfl (hb hby at_61) rfl ((if0 _ _).trans (feq (by decide)).2) (by decide) (by decide) ?_
      show Steps p.tables e below (s₁.setTop (mkF m 75 #[.val (.int g1), .val (.int g2), .val (.int g3), .val (.int g4), .val (.int g5), .val (.int g6), .val (.int r1), .val (.int (3 : Int32)), .val (.long r2), .second, .val (.long r3), .second, .unset, .unset, .unset, .unset, .unset, .unset, .unset, .unset, .unset, .unset] [])) _
      refine XS.iload X0.here hx rfl (hb hby at_75) rfl ?_
      show Steps p.tables e below (s₁.setTop (mkF m 77 #[.val (.int g1), .val (.int g2), .val (.int g3), .val (.int g4), .val (.int g5), .val (.int g6), .val (.int r1), .val (.int (3 : Int32)), .val (.long r2), .second, .val (.long r3), .second, .unset, .unset, .unset, .unset, .unset, .unset, .unset, .unset, .unset, .unset] [(.int (3 : Int32))])) _
      refine XS.iconst X0.here hx rfl (hb hby at_77) ?_
      show Steps p.tables e below (s₁.setTop (mkF m 78 #[.val (.int g1), .val (.int g2), .val (.int g3), .val (.int g4), .val (.int g5), .val (.int g6), .val (.int r1), .val (.int (3 : Int32)), .val (.long r2), .second, .val (.long r3), .second, .unset, .unset, .unset, .unset, .unset, .unset, .unset, .unset, .unset, .unset] [(.int (1 : Int32)), (.int (3 : Int32))])) _
      refine XS.icmpYes X0.here hx rfl (pc0 := 78) (pc' := 98) rfl (hb hby at_78) rfl (feq (by decide)).2 (by decide) (by decide) ?_
      show Steps p.tables e below (s₁.setTop (mkF m 98 #[.val (.int g1), .val (.int g2), .val (.int g3), .val (.int g4), .val (.int g5), .val (.int g6), .val (.int r1), .val (.int (3 : Int32)), .val (.long r2), .second, .val (.long r3), .second, .unset, .unset, .unset, .unset, .unset, .unset, .unset, .unset, .unset, .unset] [])) _
      refine XS.iload X0.here hx rfl (hb hby at_98) rfl ?_
      show Steps p.tables e below (s₁.setTop (mkF m 100 #[.val (.int g1), .val (.int g2), .val (.int g3), .val (.int g4), .val (.int g5), .val (.int g6), .val (.int r1), .val (.int (3 : Int32)), .val (.long r2), .second, .val (.long r3), .second, .unset, .unset, .unset, .unset, .unset, .unset, .unset, .unset, .unset, .unset] [(.int (3 : Int32))])) _
      refine XS.iconst X0.here hx rfl (hb hby at_100) ?_
      show Steps p.tables e below (s₁.setTop (mkF m 101 #[.val (.int g1), .val (.int g2), .val (.int g3), .val (.int g4), .val (.int g5), .val (.int g6), .val (.int r1), .val (.int (3 : Int32)), .val (.long r2), .second, .val (.long r3), .second, .unset, .unset, .unset, .unset, .unset, .unset, .unset, .unset, .unset, .unset] [(.int (2 : Int32)), (.int (3 : Int32))])) _
      refine XS.icmpYes X0.here hx rfl (pc0 := 101) (pc' := 128) rfl (hb hby at_101) rfl (feq (by decide)).2 (by decide) (by decide) ?_
      show Steps p.tables e below (s₁.setTop (mkF m 128 #[.val (.int g1), .val (.int g2), .val (.int g3), .val (.int g4), .val (.int g5), .val (.int g6), .val (.int r1), .val (.int (3 : Int32)), .val (.long r2), .second, .val (.long r3), .second, .unset, .unset, .unset, .unset, .unset, .unset, .unset, .unset, .unset, .unset] [])) _
      refine XS.iconst X0.here hx rfl (hb hby at_128) ?_
      exact k)
    obtain ⟨T456, h456, k456, X456, e456, E456, A456, st456⟩ := newP X0 hx hZ (hw _ (List.mem_of_getElem? (i := 2) rfl)) e0 (g := (mkF m 129 #[.val (.int g1), .val (.int g2), .val (.int g3), .val (.int g4), .val (.int g5), .val (.int g6), .val (.int r1), .val (.int (3 : Int32)), .val (.long r2), .second, .val (.long r3), .second, .unset, .unset, .unset, .unset, .unset, .unset, .unset, .unset, .unset, .unset] [(.int (3 : Int32))])) rfl (hb hby at_129) rfl (by decide) (cap := 3) (by decide) (by decide) (by decide) (by decide)
    obtain ⟨b456, g456⟩ : ∃ z, z = h0.size := ⟨_, rfl⟩
    rw [← g456] at A456 st456
    have g457 : n0 ≤ b456 := Nat.le_trans Z0 (Nat.le_of_eq g456.symm)
    have F458 := Scs.ext E456
    have Z459 : n0 ≤ h456.size := Nat.le_trans Z0 E456.1
    have V460 : Arv Z h456 b456 k456 .int (3 : Int32) [(.int (0 : Int32)), (.int (0 : Int32)), (.int (0 : Int32))] (.int (0 : Int32)) := (Arv.new A456 (by decide)).pad (pad_rep [] (.int (0 : Int32)) 3)
    have k461 : ∀ t, Steps p.tables e below (T456.setTop (mkF m 131 #[.val (.int g1), .val (.int g2), .val (.int g3), .val (.int g4), .val (.int g5), .val (.int g6), .val (.int r1), .val (.int (3 : Int32)), .val (.long r2), .second, .val (.long r3), .second, .unset, .unset, .unset, .unset, .unset, .unset, .unset, .unset, .unset, .unset] [(.ref b456)])) t → Steps p.tables e below (s₁.setTop (entryFrame m #[(.int g1), (.int g2), (.int g3), (.int g4), (.int g5), (.int g6)] maxLocals)) t := fun t k => k455 t (st456 t k)
    have k462 : ∀ t, Steps p.tables e below (T456.setTop (mkF m 135 #[.val (.int g1), .val (.int g2), .val (.int g3), .val (.int g4), .val (.int g5), .val (.int g6), .val (.int r1), .val (.int (3 : Int32)), .val (.long r2), .second, .val (.long r3), .second, .unset, .unset, .unset, .unset, .unset, .unset, .unset, .unset, .unset, .unset] [(.int r1), (.int (0 : Int32)), (.ref b456), (.ref b456)])) t → Steps p.tables e below (s₁.setTop (entryFrame m #[(.int g1), (.int g2), (.int g3), (.int g4), (.int g5), (.int g6)] maxLocals)) t := fun t k => k461 t (by
      show Steps p.tables e below (T456.setTop (mkF m 131 #[.val (.int g1), .val (.int g2), .val (.int g3), .val (.int g4), .val (.int g5), .val (.int g6), .val (.int r1), .val (.int (3 : Int32)), .val (.long r2), .second, .val (.long r3), .second, .unset, .unset, .unset, .unset, .unset, .unset, .unset, .unset, .unset, .unset] [(.ref b456)])) _
      refine XS.dup X456.here hx rfl (hb hby at_131) rfl rfl ?_
      show Steps p.tables e below (T456.setTop (mkF m 132 #[.val (.int g1), .val (.int g2), .val (.int g3), .val (.int g4), .val (.int g5), .val (.int g6), .val (.int r1), .val (.int (3 : Int32)), .val (.long r2), .second, .val (.long r3), .second, .unset, .unset, .unset, .unset, .unset, .unset, .unset, .unset, .unset, .unset] [(.ref b456), (.ref b456)])) _
      refine XS.iconst X456.here hx rfl (hb hby at_132) ?_
      show Steps p.tables e below (T456.setTop (mkF m 133 #[.val (.int g1), .val (.int g2), .val (.int g3), .val (.int g4), .val (.int g5), .val (.int g6), .val (.int r1), .val (.int (3 : Int32)), .val (.long r2), .second, .val (.long r3), .second, .unset, .unset, .unset, .unset, .unset, .unset, .unset, .unset, .unset, .unset] [(.int (0 : Int32)), (.ref b456), (.ref b456)])) _
      refine XS.iload X456.here hx rfl (hb hby at_133) rfl ?_
      exact k)
    obtain ⟨c463, Ar463, Aq463, As463, An463, Ah463, Ag463⟩ := id V460
    have hin463 : ¬ ((0 : Int32) < 0 ∨ c463.slots.size ≤ ((0 : Int32)).toNatClampNeg) := inb_of As463 ⟨by decide, by decide⟩
    obtain ⟨T463, h463, X463, e463, W463, st463⟩ := stI X456 hx hZ e456 Ar463 (j := (0 : Int32)) hin463 (g := (mkF m 135 #[.val (.int g1), .val (.int g2), .val (.int g3), .val (.int g4), .val (.int g5), .val (.int g6), .val (.int r1), .val (.int (3 : Int32)), .val (.long r2), .second, .val (.long r3), .second, .unset, .unset, .unset, .unset, .unset, .unset, .unset, .unset, .unset, .unset] [(.int r1), (.int (0 : Int32)), (.ref b456), (.ref b456)])) rfl rfl (hb hby at_135)
    have V464 := Arv.set Ar463 Aq463 As463 An463 Ah463 Ag463 rfl W463 0 rfl (Nat.le_of_ble_eq_true rfl)
    have F465 := F458.wr W463
    have Z466 : n0 ≤ h463.size := Nat.le_trans Z459 (Nat.le_of_eq W463.size.symm)
    have N467 := Fr.snoc X463 N0 g457
    have k468 : ∀ t, Steps p.tables e below (T463.setTop (mkF m 136 #[.val (.int g1), .val (.int g2), .val (.int g3), .val (.int g4), .val (.int g5), .val (.int g6), .val (.int r1), .val (.int (3 : Int32)), .val (.long r2), .second, .val (.long r3), .second, .unset, .unset, .unset, .unset, .unset, .unset, .unset, .unset, .unset, .unset] [(.ref b456)])) t → Steps p.tables e below (s₁.setTop (entryFrame m #[(.int g1), (.int g2), (.int g3), (.int g4), (.int g5), (.int g6)] maxLocals)) t := fun t k => k462 t (st463 t k)
    have k469 : ∀ t, Steps p.tables e below (T463.setTop (mkF m 141 #[.val (.int g1), .val (.int g2), .val (.int g3), .val (.int g4), .val (.int g5), .val (.int g6), .val (.int r1), .val (.int (3 : Int32)), .val (.long r2), .second, .val (.long r3), .second, .unset, .unset, .unset, .unset, .unset, .unset, .unset, .unset, .unset, .unset] [(.int (r2.toInt32)), (.int (1 : Int32)), (.ref b456), (.ref b456)])) t → Steps p.tables e below (s₁.setTop (entryFrame m #[(.int g1), (.int g2), (.int g3), (.int g4), (.int g5), (.int g6)] maxLocals)) t := fun t k => k468 t (by
      show Steps p.tables e below (T463.setTop (mkF m 136 #[.val (.int g1), .val (.int g2), .val (.int g3), .val (.int g4), .val (.int g5), .val (.int g6), .val (.int r1), .val (.int (3 : Int32)), .val (.long r2), .second, .val (.long r3), .second, .unset, .unset, .unset, .unset, .unset, .unset, .unset, .unset, .unset, .unset] [(.ref b456)])) _
      refine XS.dup X463.here hx rfl (hb hby at_136) rfl rfl ?_
      show Steps p.tables e below (T463.setTop (mkF m 137 #[.val (.int g1), .val (.int g2), .val (.int g3), .val (.int g4), .val (.int g5), .val (.int g6), .val (.int r1), .val (.int (3 : Int32)), .val (.long r2), .second, .val (.long r3), .second, .unset, .unset, .unset, .unset, .unset, .unset, .unset, .unset, .unset, .unset] [(.ref b456), (.ref b456)])) _
      refine XS.iconst X463.here hx rfl (hb hby at_137) ?_
      show Steps p.tables e below (T463.setTop (mkF m 138 #[.val (.int g1), .val (.int g2), .val (.int g3), .val (.int g4), .val (.int g5), .val (.int g6), .val (.int r1), .val (.int (3 : Int32)), .val (.long r2), .second, .val (.long r3), .second, .unset, .unset, .unset, .unset, .unset, .unset, .unset, .unset, .unset, .unset] [(.int (1 : Int32)), (.ref b456), (.ref b456)])) _
      refine XS.lload X463.here hx rfl (hb hby at_138) rfl ?_
      show Steps p.tables e below (T463.setTop (mkF m 140 #[.val (.int g1), .val (.int g2), .val (.int g3), .val (.int g4), .val (.int g5), .val (.int g6), .val (.int r1), .val (.int (3 : Int32)), .val (.long r2), .second, .val (.long r3), .second, .unset, .unset, .unset, .unset, .unset, .unset, .unset, .unset, .unset, .unset] [(.long r2), (.int (1 : Int32)), (.ref b456), (.ref b456)])) _
      refine XS.l2i X463.here hx rfl (hb hby at_140) rfl ?_
      exact k)
    obtain ⟨c470, Ar470, Aq470, As470, An470, Ah470, Ag470⟩ := id V464
    have hin470 : ¬ ((1 : Int32) < 0 ∨ c470.slots.size ≤ ((1 : Int32)).toNatClampNeg) := inb_of As470 ⟨by decide, by decide⟩
    obtain ⟨T470, h470, X470, e470, W470, st470⟩ := stI X463 hx hZ e463 Ar470 (j := (1 : Int32)) hin470 (g := (mkF m 141 #[.val (.int g1), .val (.int g2), .val (.int g3), .val (.int g4), .val (.int g5), .val (.int g6), .val (.int r1), .val (.int (3 : Int32)), .val (.long r2), .second, .val (.long r3), .second, .unset, .unset, .unset, .unset, .unset, .unset, .unset, .unset, .unset, .unset] [(.int (r2.toInt32)), (.int (1 : Int32)), (.ref b456), (.ref b456)])) rfl rfl (hb hby at_141)
    have V471 := Arv.set Ar470 Aq470 As470 An470 Ah470 Ag470 rfl W470 1 rfl (Nat.le_of_ble_eq_true rfl)
    have F472 := F465.wr W470
    have Z473 : n0 ≤ h470.size := Nat.le_trans Z466 (Nat.le_of_eq W470.size.symm)
    have N474 := Fr.snoc X470 N467 g457
    have k475 : ∀ t, Steps p.tables e below (T470.setTop (mkF m 142 #[.val (.int g1), .val (.int g2), .val (.int g3), .val (.int g4), .val (.int g5), .val (.int g6), .val (.int r1), .val (.int (3 : Int32)), .val (.long r2), .second, .val (.long r3), .second, .unset, .unset, .unset, .unset, .unset, .unset, .unset, .unset, .unset, .unset] [(.ref b456)])) t → Steps p.tables e below (s₁.setTop (entryFrame m #[(.int g1), (.int g2), (.int g3), (.int g4), (.int g5), (.int g6)] maxLocals)) t := fun t k => k469 t (st470 t k)
    have k476 : ∀ t, Steps p.tables e below (T470.setTop (mkF m 147 #[.val (.int g1), .val (.int g2), .val (.int g3), .val (.int g4), .val (.int g5), .val (.int g6), .val (.int r1), .val (.int (3 : Int32)), .val (.long r2), .second, .val (.long r3), .second, .unset, .unset, .unset, .unset, .unset, .unset, .unset, .unset, .unset, .unset] [(.int (r3.toInt32)), (.int (2 : Int32)), (.ref b456), (.ref b456)])) t → Steps p.tables e below (s₁.setTop (entryFrame m #[(.int g1), (.int g2), (.int g3), (.int g4), (.int g5), (.int g6)] maxLocals)) t := fun t k => k475 t (by
      show Steps p.tables e below (T470.setTop (mkF m 142 #[.val (.int g1), .val (.int g2), .val (.int g3), .val (.int g4), .val (.int g5), .val (.int g6), .val (.int r1), .val (.int (3 : Int32)), .val (.long r2), .second, .val (.long r3), .second, .unset, .unset, .unset, .unset, .unset, .unset, .unset, .unset, .unset, .unset] [(.ref b456)])) _
      refine XS.dup X470.here hx rfl (hb hby at_142) rfl rfl ?_
      show Steps p.tables e below (T470.setTop (mkF m 143 #[.val (.int g1), .val (.int g2), .val (.int g3), .val (.int g4), .val (.int g5), .val (.int g6), .val (.int r1), .val (.int (3 : Int32)), .val (.long r2), .second, .val (.long r3), .second, .unset, .unset, .unset, .unset, .unset, .unset, .unset, .unset, .unset, .unset] [(.ref b456), (.ref b456)])) _
      refine XS.iconst X470.here hx rfl (hb hby at_143) ?_
      show Steps p.tables e below (T470.setTop (mkF m 144 #[.val (.int g1), .val (.int g2), .val (.int g3), .val (.int g4), .val (.int g5), .val (.int g6), .val (.int r1), .val (.int (3 : Int32)), .val (.long r2), .second, .val (.long r3), .second, .unset, .unset, .unset, .unset, .unset, .unset, .unset, .unset, .unset, .unset] [(.int (2 : Int32)), (.ref b456), (.ref b456)])) _
      refine XS.lload X470.here hx rfl (hb hby at_144) rfl ?_
      show Steps p.tables e below (T470.setTop (mkF m 146 #[.val (.int g1), .val (.int g2), .val (.int g3), .val (.int g4), .val (.int g5), .val (.int g6), .val (.int r1), .val (.int (3 : Int32)), .val (.long r2), .second, .val (.long r3), .second, .unset, .unset, .unset, .unset, .unset, .unset, .unset, .unset, .unset, .unset] [(.long r3), (.int (2 : Int32)), (.ref b456), (.ref b456)])) _
      refine XS.l2i X470.here hx rfl (hb hby at_146) rfl ?_
      exact k)
    obtain ⟨c477, Ar477, Aq477, As477, An477, Ah477, Ag477⟩ := id V471
    have hin477 : ¬ ((2 : Int32) < 0 ∨ c477.slots.size ≤ ((2 : Int32)).toNatClampNeg) := inb_of As477 ⟨by decide, by decide⟩
    obtain ⟨T477, h477, X477, e477, W477, st477⟩ := stI X470 hx hZ e470 Ar477 (j := (2 : Int32)) hin477 (g := (mkF m 147 #[.val (.int g1), .val (.int g2), .val (.int g3), .val (.int g4), .val (.int g5), .val (.int g6), .val (.int r1), .val (.int (3 : Int32)), .val (.long r2), .second, .val (.long r3), .second, .unset, .unset, .unset, .unset, .unset, .unset, .unset, .unset, .unset, .unset] [(.int (r3.toInt32)), (.int (2 : Int32)), (.ref b456), (.ref b456)])) rfl rfl (hb hby at_147)
    have V478 := Arv.set Ar477 Aq477 As477 An477 Ah477 Ag477 rfl W477 2 rfl (Nat.le_of_ble_eq_true rfl)
    have F479 := F472.wr W477
    have Z480 : n0 ≤ h477.size := Nat.le_trans Z473 (Nat.le_of_eq W477.size.symm)
    have N481 := Fr.snoc X477 N474 g457
    have k482 : ∀ t, Steps p.tables e below (T477.setTop (mkF m 148 #[.val (.int g1), .val (.int g2), .val (.int g3), .val (.int g4), .val (.int g5), .val (.int g6), .val (.int r1), .val (.int (3 : Int32)), .val (.long r2), .second, .val (.long r3), .second, .unset, .unset, .unset, .unset, .unset, .unset, .unset, .unset, .unset, .unset] [(.ref b456)])) t → Steps p.tables e below (s₁.setTop (entryFrame m #[(.int g1), (.int g2), (.int g3), (.int g4), (.int g5), (.int g6)] maxLocals)) t := fun t k => k476 t (st477 t k)
    have k483 : ∀ t, Steps p.tables e below (T477.setTop (mkF m 162 #[.val (.int g1), .val (.int g2), .val (.int g3), .val (.int g4), .val (.int g5), .val (.int g6), .val (.int r1), .val (.int (3 : Int32)), .val (.long r2), .second, .val (.long r3), .second, .val (.ref b456), .val (.int (r3.toInt32)), .unset, .unset, .unset, .unset, .unset, .unset, .unset, .unset] [(.int (g5 &&& (2147483647 : Int32))), (.int (r3.toInt32))])) t → Steps p.tables e below (s₁.setTop (entryFrame m #[(.int g1), (.int g2), (.int g3), (.int g4), (.int g5), (.int g6)] maxLocals)) t := fun t k => k482 t (by
      show Steps p.tables e below (T477.setTop (mkF m 148 #[.val (.int g1), .val (.int g2), .val (.int g3), .val (.int g4), .val (.int g5), .val (.int g6), .val (.int r1), .val (.int (3 : Int32)), .val (.long r2), .second, .val (.long r3), .second, .unset, .unset, .unset, .unset, .unset, .unset, .unset, .unset, .unset, .unset] [(.ref b456)])) _
      refine XS.astore X477.here hx rfl (hb hby at_148) rfl rfl (l' := #[.val (.int g1), .val (.int g2), .val (.int g3), .val (.int g4), .val (.int g5), .val (.int g6), .val (.int r1), .val (.int (3 : Int32)), .val (.long r2), .second, .val (.long r3), .second, .val (.ref b456), .unset, .unset, .unset, .unset, .unset, .unset, .unset, .unset, .unset]) rfl ?_
      show Steps p.tables e below (T477.setTop (mkF m 150 #[.val (.int g1), .val (.int g2), .val (.int g3), .val (.int g4), .val (.int g5), .val (.int g6), .val (.int r1), .val (.int (3 : Int32)), .val (.long r2), .second, .val (.long r3), .second, .val (.ref b456), .unset, .unset, .unset, .unset, .unset, .unset, .unset, .unset, .unset] [])) _
      refine XS.lload X477.here hx rfl (hb hby at_150) rfl ?_
      show Steps p.tables e below (T477.setTop (mkF m 152 #[.val (.int g1), .val (.int g2), .val (.int g3), .val (.int g4), .val (.int g5), .val (.int g6), .val (.int r1), .val (.int (3 : Int32)), .val (.long r2), .second, .val (.long r3), .second, .val (.ref b456), .unset, .unset, .unset, .unset, .unset, .unset, .unset, .unset, .unset] [(.long r3)])) _
      refine XS.l2i X477.here hx rfl (hb hby at_152) rfl ?_
      show Steps p.tables e below (T477.setTop (mkF m 153 #[.val (.int g1), .val (.int g2), .val (.int g3), .val (.int g4), .val (.int g5), .val (.int g6), .val (.int r1), .val (.int (3 : Int32)), .val (.long r2), .second, .val (.long r3), .second, .val (.ref b456), .unset, .unset, .unset, .unset, .unset, .unset, .unset, .unset, .unset] [(.int (r3.toInt32))])) _
      refine XS.istore X477.here hx rfl (hb hby at_153) rfl (l' := #[.val (.int g1), .val (.int g2), .val (.int g3), .val (.int g4), .val (.int g5), .val (.int g6), .val (.int r1), .val (.int (3 : Int32)), .val (.long r2), .second, .val (.long r3), .second, .val (.ref b456), .val (.int (r3.toInt32)), .unset, .unset, .unset, .unset, .unset, .unset, .unset, .unset]) rfl ?_
      show Steps p.tables e below (T477.setTop (mkF m 155 #[.val (.int g1), .val (.int g2), .val (.int g3), .val (.int g4), .val (.int g5), .val (.int g6), .val (.int r1), .val (.int (3 : Int32)), .val (.long r2), .second, .val (.long r3), .second, .val (.ref b456), .val (.int (r3.toInt32)), .unset, .unset, .unset, .unset, .unset, .unset, .unset, .unset] [])) _
      refine XS.iload X477.here hx rfl (hb hby at_155) rfl ?_
      show Steps p.tables e below (T477.setTop (mkF m 157 #[.val (.int g1), .val (.int g2), .val (.int g3), .val (.int g4), .val (.int g5), .val (.int g6), .val (.int r1), .val (.int (3 : Int32)), .val (.long r2), .second, .val (.long r3), .second, .val (.ref b456), .val (.int (r3.toInt32)), .unset, .unset, .unset, .unset, .unset, .unset, .unset, .unset] [(.int (r3.toInt32))])) _
      refine XS.iload X477.here hx rfl (hb hby at_157) rfl ?_
      show Steps p.tables e below (T477.setTop (mkF m 159 #[.val (.int g1), .val (.int g2), .val (.int g3), .val (.int g4), .val (.int g5), .val (.int g6), .val (.int r1), .val (.int (3 : Int32)), .val (.long r2), .second, .val (.long r3), .second, .val (.ref b456), .val (.int (r3.toInt32)), .unset, .unset, .unset, .unset, .unset, .unset, .unset, .unset] [(.int g5), (.int (r3.toInt32))])) _
      refine X477.ldcInt hx hown (mvT hZ (hw _ (List.mem_of_getElem? (i := 0) rfl))) (g := (mkF m 159 #[.val (.int g1), .val (.int g2), .val (.int g3), .val (.int g4), .val (.int g5), .val (.int g6), .val (.int r1), .val (.int (3 : Int32)), .val (.long r2), .second, .val (.long r3), .second, .val (.ref b456), .val (.int (r3.toInt32)), .unset, .unset, .unset, .unset, .unset, .unset, .unset, .unset] [(.int g5), (.int (r3.toInt32))])) rfl (hb hby at_159) _ ?_
      show Steps p.tables e below (T477.setTop (mkF m 161 #[.val (.int g1), .val (.int g2), .val (.int g3), .val (.int g4), .val (.int g5), .val (.int g6), .val (.int r1), .val (.int (3 : Int32)), .val (.long r2), .second, .val (.long r3), .second, .val (.ref b456), .val (.int (r3.toInt32)), .unset, .unset, .unset, .unset, .unset, .unset, .unset, .unset] [(.int (2147483647 : Int32)), (.int g5), (.int (r3.toInt32))])) _
      refine XS.iand X477.here hx rfl (hb hby at_161) rfl ?_
      exact k)
    obtain ⟨_, _, ⟨T484, L484, k484, n484⟩, -, X484, ⟨Lc484, hQ484, l484, y484, z484⟩, st484⟩ := Jvm.LawKit.callS X477 hx (y := (⟨"java/lang/Math", "max", "(II)I"⟩ : MethodName)) hown (mvT hZ (hw _ (List.mem_of_getElem? (i := 3) rfl))) (mvT hZ (hw _ (List.mem_of_getElem? (i := 4) rfl))) (mvT hZ (hw _ (List.mem_of_getElem? (i := 5) rfl))) (mvT hZ (hw _ (List.mem_of_getElem? (i := 6) rfl))) (by decide) (backOf (W := 0) (rm1 l Z a0 hw [] (r3.toInt32) (g5 &&& (2147483647 : Int32)) h477 n0 Z480 ) hZ (hw _ (List.mem_of_getElem? (i := 6) rfl)) (hw _ (List.mem_of_getElem? (i := 5) rfl)) (by decide) (by decide)) (g := (mkF m 162 #[.val (.int g1), .val (.int g2), .val (.int g3), .val (.int g4), .val (.int g5), .val (.int g6), .val (.int r1), .val (.int (3 : Int32)), .val (.long r2), .second, .val (.long r3), .second, .val (.ref b456), .val (.int (r3.toInt32)), .unset, .unset, .unset, .unset, .unset, .unset, .unset, .unset] [(.int (g5 &&& (2147483647 : Int32))), (.int (r3.toInt32))])) rfl (by rw [hml]; rfl) (argsL := [(.int (r3.toInt32)), (.int (g5 &&& (2147483647 : Int32)))]) (rest := []) (lenOf pd__28II_29I rfl) rfl (by show 2 * 0 + _ ≤ _; exact Nat.le_of_eq rfl) (hb hby at_162) (fun _ _ => ⟨rfl, e477, (by decide : 1 + 0 ≤ _), (by decide : 3 + 0 ≤ _)⟩)
    dsimp only [Pt.U, Pt.locs, Pt.cells, Pt.slots] at X484 l484 y484 z484 st484 hQ484
    subst l484 y484 z484
    obtain ⟨rfl, N484q, e484⟩ := hQ484
    have N485 := Fr.app N481 N484q
    have k486 : ∀ t, Steps p.tables e below (T484.setTop (mkF m 165 #[.val (.int g1), .val (.int g2), .val (.int g3), .val (.int g4), .val (.int g5), .val (.int g6), .val (.int r1), .val (.int (3 : Int32)), .val (.long r2), .second, .val (.long r3), .second, .val (.ref b456), .val (.int (r3.toInt32)), .unset, .unset, .unset, .unset, .unset, .unset, .unset, .unset] [(.int (if (r3.toInt32) < (g5 &&& (2147483647 : Int32)) then (g5 &&& (2147483647 : Int32)) else (r3.toInt32)))])) t → Steps p.tables e below (s₁.setTop (entryFrame m #[(.int g1), (.int g2), (.int g3), (.int g4), (.int g5), (.int g6)] maxLocals)) t := fun t k => k483 t (st484 t k)
    obtain ⟨i487, hi487⟩ : ∃ z : Int32, z = (if (r3.toInt32) < (g5 &&& (2147483647 : Int32)) then (g5 &&& (2147483647 : Int32)) else (r3.toInt32)) := ⟨_, rfl⟩
    have k488 : ∀ t, Steps p.tables e below (T484.setTop (mkF m 174 #[.val (.int g1), .val (.int g2), .val (.int g3), .val (.int g4), .val (.int g5), .val (.int g6), .val (.int r1), .val (.int (3 : Int32)), .val (.long r2), .second, .val (.long r3), .second, .val (.ref b456), .val (.int (r3.toInt32)), .val (.int i487), .unset, .unset, .unset, .unset, .unset, .unset, .unset] [(.int (g6 &&& (2147483647 : Int32))), (.int (3 : Int32))])) t → Steps p.tables e below (s₁.setTop (entryFrame m #[(.int g1), (.int g2), (.int g3), (.int g4), (.int g5), (.int g6)] maxLocals)) t := fun t k => k486 t (by
      show Steps p.tables e below (T484.setTop (mkF m 165 #[.val (.int g1), .val (.int g2), .val (.int g3), .val (.int g4), .val (.int g5), .val (.int g6), .val (.int r1), .val (.int (3 : Int32)), .val (.long r2), .second, .val (.long r3), .second, .val (.ref b456), .val (.int (r3.toInt32)), .unset, .unset, .unset, .unset, .unset, .unset, .unset, .unset] [(.int (if (r3.toInt32) < (g5 &&& (2147483647 : Int32)) then (g5 &&& (2147483647 : Int32)) else (r3.toInt32)))])) _
      refine castTop (g' := (mkF m 165 #[.val (.int g1), .val (.int g2), .val (.int g3), .val (.int g4), .val (.int g5), .val (.int g6), .val (.int r1), .val (.int (3 : Int32)), .val (.long r2), .second, .val (.long r3), .second, .val (.ref b456), .val (.int (r3.toInt32)), .unset, .unset, .unset, .unset, .unset, .unset, .unset, .unset] [(.int i487)])) (by rw [hi487]) ?_
      show Steps p.tables e below (T484.setTop (mkF m 165 #[.val (.int g1), .val (.int g2), .val (.int g3), .val (.int g4), .val (.int g5), .val (.int g6), .val (.int r1), .val (.int (3 : Int32)), .val (.long r2), .second, .val (.long r3), .second, .val (.ref b456), .val (.int (r3.toInt32)), .unset, .unset, .unset, .unset, .unset, .unset, .unset, .unset] [(.int i487)])) _
      refine XS.istore X484.here hx rfl (hb hby at_165) rfl (l' := #[.val (.int g1), .val (.int g2), .val (.int g3), .val (.int g4), .val (.int g5), .val (.int g6), .val (.int r1), .val (.int (3 : Int32)), .val (.long r2), .second, .val (.long r3), .second, .val (.ref b456), .val (.int (r3.toInt32)), .val (.int i487), .unset, .unset, .unset, .unset, .unset, .unset, .unset]) rfl ?_
      show Steps p.tables e below (T484.setTop (mkF m 167 #[.val (.int g1), .val (.int g2), .val (.int g3), .val (.int g4), .val (.int g5), .val (.int g6), .val (.int r1), .val (.int (3 : Int32)), .val (.long r2), .second, .val (.long r3), .second, .val (.ref b456), .val (.int (r3.toInt32)), .val (.int i487), .unset, .unset, .unset, .unset, .unset, .unset, .unset] [])) _
      refine XS.iload X484.here hx rfl (hb hby at_167) rfl ?_
      show Steps p.tables e below (T484.setTop (mkF m 169 #[.val (.int g1), .val (.int g2), .val (.int g3), .val (.int g4), .val (.int g5), .val (.int g6), .val (.int r1), .val (.int (3 : Int32)), .val (.long r2), .second, .val (.long r3), .second, .val (.ref b456), .val (.int (r3.toInt32)), .val (.int i487), .unset, .unset, .unset, .unset, .unset, .unset, .unset] [(.int (3 : Int32))])) _
      refine XS.iload X484.here hx rfl (hb hby at_169) rfl ?_
      show Steps p.tables e below (T484.setTop (mkF m 171 #[.val (.int g1), .val (.int g2), .val (.int g3), .val (.int g4), .val (.int g5), .val (.int g6), .val (.int r1), .val (.int (3 : Int32)), .val (.long r2), .second, .val (.long r3), .second, .val (.ref b456), .val (.int (r3.toInt32)), .val (.int i487), .unset, .unset, .unset, .unset, .unset, .unset, .unset] [(.int g6), (.int (3 : Int32))])) _
      refine X484.ldcInt hx hown (mvT hZ (hw _ (List.mem_of_getElem? (i := 0) rfl))) (g := (mkF m 171 #[.val (.int g1), .val (.int g2), .val (.int g3), .val (.int g4), .val (.int g5), .val (.int g6), .val (.int r1), .val (.int (3 : Int32)), .val (.long r2), .second, .val (.long r3), .second, .val (.ref b456), .val (.int (r3.toInt32)), .val (.int i487), .unset, .unset, .unset, .unset, .unset, .unset, .unset] [(.int g6), (.int (3 : Int32))])) rfl (hb hby at_171) _ ?_
      show Steps p.tables e below (T484.setTop (mkF m 173 #[.val (.int g1), .val (.int g2), .val (.int g3), .val (.int g4), .val (.int g5), .val (.int g6), .val (.int r1), .val (.int (3 : Int32)), .val (.long r2), .second, .val (.long r3), .second, .val (.ref b456), .val (.int (r3.toInt32)), .val (.int i487), .unset, .unset, .unset, .unset, .unset, .unset, .unset] [(.int (2147483647 : Int32)), (.int g6), (.int (3 : Int32))])) _
      refine XS.iand X484.here hx rfl (hb hby at_173) rfl ?_
      exact k)
    obtain ⟨_, _, ⟨T489, L489, k489, n489⟩, -, X489, ⟨Lc489, hQ489, l489, y489, z489⟩, st489⟩ := Jvm.LawKit.callS X484 hx (y := (⟨"java/lang/Math", "max", "(II)I"⟩ : MethodName)) hown (mvT hZ (hw _ (List.mem_of_getElem? (i := 3) rfl))) (mvT hZ (hw _ (List.mem_of_getElem? (i := 4) rfl))) (mvT hZ (hw _ (List.mem_of_getElem? (i := 5) rfl))) (mvT hZ (hw _ (List.mem_of_getElem? (i := 6) rfl))) (by decide) (backOf (W := 0) (rm1 l Z a0 hw [] (3 : Int32) (g6 &&& (2147483647 : Int32)) h477 n0 Z480 ) hZ (hw _ (List.mem_of_getElem? (i := 6) rfl)) (hw _ (List.mem_of_getElem? (i := 5) rfl)) (by decide) (by decide)) (g := (mkF m 174 #[.val (.int g1), .val (.int g2), .val (.int g3), .val (.int g4), .val (.int g5), .val (.int g6), .val (.int r1), .val (.int (3 : Int32)), .val (.long r2), .second, .val (.long r3), .second, .val (.ref b456), .val (.int (r3.toInt32)), .val (.int i487), .unset, .unset, .unset, .unset, .unset, .unset, .unset] [(.int (g6 &&& (2147483647 : Int32))), (.int (3 : Int32))])) rfl (by rw [hml]; rfl) (argsL := [(.int (3 : Int32)), (.int (g6 &&& (2147483647 : Int32)))]) (rest := []) (lenOf pd__28II_29I rfl) rfl (by show 2 * 0 + _ ≤ _; exact Nat.le_of_eq rfl) (hb hby at_174) (fun _ _ => ⟨rfl, e484, (by decide : 1 + 0 ≤ _), (by decide : 3 + 0 ≤ _)⟩)
    dsimp only [Pt.U, Pt.locs, Pt.cells, Pt.slots] at X489 l489 y489 z489 st489 hQ489
    subst l489 y489 z489
    obtain ⟨rfl, N489q, e489⟩ := hQ489
    have N490 := Fr.app N485 N489q
    have k491 : ∀ t, Steps p.tables e below (T489.setTop (mkF m 177 #[.val (.int g1), .val (.int g2), .val (.int g3), .val (.int g4), .val (.int g5), .val (.int g6), .val (.int r1), .val (.int (3 : Int32)), .val (.long r2), .second, .val (.long r3), .second, .val (.ref b456), .val (.int (r3.toInt32)), .val (.int i487), .unset, .unset, .unset, .unset, .unset, .unset, .unset] [(.int (if (3 : Int32) < (g6 &&& (2147483647 : Int32)) then (g6 &&& (2147483647 : Int32)) else (3 : Int32)))])) t → Steps p.tables e below (s₁.setTop (entryFrame m #[(.int g1), (.int g2), (.int g3), (.int g4), (.int g5), (.int g6)] maxLocals)) t := fun t k => k488 t (st489 t k)
    obtain ⟨i492, hi492⟩ : ∃ z : Int32, z = (if (3 : Int32) < (g6 &&& (2147483647 : Int32)) then (g6 &&& (2147483647 : Int32)) else (3 : Int32)) := ⟨_, rfl⟩
    have k493 : ∀ t, Steps p.tables e below (T489.setTop (mkF m 180 #[.val (.int g1), .val (.int g2), .val (.int g3), .val (.int g4), .val (.int g5), .val (.int g6), .val (.int r1), .val (.int (3 : Int32)), .val (.long r2), .second, .val (.long r3), .second, .val (.ref b456), .val (.int (r3.toInt32)), .val (.int i487), .val (.int i492), .unset, .unset, .unset, .unset, .unset, .unset] [(.int (2 : Int32))])) t → Steps p.tables e below (s₁.setTop (entryFrame m #[(.int g1), (.int g2), (.int g3), (.int g4), (.int g5), (.int g6)] maxLocals)) t := fun t k => k491 t (by
      show Steps p.tables e below (T489.setTop (mkF m 177 #[.val (.int g1), .val (.int g2), .val (.int g3), .val (.int g4), .val (.int g5), .val (.int g6), .val (.int r1), .val (.int (3 : Int32)), .val (.long r2), .second, .val (.long r3), .second, .val (.ref b456), .val (.int (r3.toInt32)), .val (.int i487), .unset, .unset, .unset, .unset, .unset, .unset, .unset] [(.int (if (3 : Int32) < (g6 &&& (2147483647 : Int32)) then (g6 &&& (2147483647 : Int32)) else (3 : Int32)))])) _
      refine castTop (g' := (mkF m 177 #[.val (.int g1), .val (.int g2), .val (.int g3), .val (.int g4), .val (.int g5), .val (.int g6), .val (.int r1), .val (.int (3 : Int32)), .val (.long r2), .second, .val (.long r3), .second, .val (.ref b456), .val (.int (r3.toInt32)), .val (.int i487), .unset, .unset, .unset, .unset, .unset, .unset, .unset] [(.int i492)])) (by rw [hi492]) ?_
      show Steps p.tables e below (T489.setTop (mkF m 177 #[.val (.int g1), .val (.int g2), .val (.int g3), .val (.int g4), .val (.int g5), .val (.int g6), .val (.int r1), .val (.int (3 : Int32)), .val (.long r2), .second, .val (.long r3), .second, .val (.ref b456), .val (.int (r3.toInt32)), .val (.int i487), .unset, .unset, .unset, .unset, .unset, .unset, .unset] [(.int i492)])) _
      refine XS.istore X489.here hx rfl (hb hby at_177) rfl (l' := #[.val (.int g1), .val (.int g2), .val (.int g3), .val (.int g4), .val (.int g5), .val (.int g6), .val (.int r1), .val (.int (3 : Int32)), .val (.long r2), .second, .val (.long r3), .second, .val (.ref b456), .val (.int (r3.toInt32)), .val (.int i487), .val (.int i492), .unset, .unset, .unset, .unset, .unset, .unset]) rfl ?_
      show Steps p.tables e below (T489.setTop (mkF m 179 #[.val (.int g1), .val (.int g2), .val (.int g3), .val (.int g4), .val (.int g5), .val (.int g6), .val (.int r1), .val (.int (3 : Int32)), .val (.long r2), .second, .val (.long r3), .second, .val (.ref b456), .val (.int (r3.toInt32)), .val (.int i487), .val (.int i492), .unset, .unset, .unset, .unset, .unset, .unset] [])) _
      refine XS.iconst X489.here hx rfl (hb hby at_179) ?_
      exact k)
    obtain ⟨T494, h494, k494, X494, e494, E494, A494, st494⟩ := newP X489 hx hZ (hw _ (List.mem_of_getElem? (i := 7) rfl)) e489 (g := (mkF m 180 #[.val (.int g1), .val (.int g2), .val (.int g3), .val (.int g4), .val (.int g5), .val (.int g6), .val (.int r1), .val (.int (3 : Int32)), .val (.long r2), .second, .val (.long r3), .second, .val (.ref b456), .val (.int (r3.toInt32)), .val (.int i487), .val (.int i492), .unset, .unset, .unset, .unset, .unset, .unset] [(.int (2 : Int32))])) rfl (hb hby at_180) rfl (by decide) (cap := 2) (by decide) (by decide) (by decide) (by decide)
    obtain ⟨b494, g494⟩ : ∃ z, z = h477.size := ⟨_, rfl⟩
    rw [← g494] at A494 st494
    have n495 : b456 ≠ b494 := Nat.ne_of_lt (Nat.lt_of_lt_of_le V478.lt (Nat.le_of_eq g494.symm))
    have g496 : n0 ≤ b494 := Nat.le_trans Z480 (Nat.le_of_eq g494.symm)
    have F497 := F479.ext E494
    have F498 := V478.ext E494
    have Z499 : n0 ≤ h494.size := Nat.le_trans Z480 E494.1
    have V500 : Arv Z h494 b494 k494 .char (2 : Int32) [(.int (0 : Int32)), (.int (0 : Int32))] (.int (0 : Int32)) := (Arv.new A494 (by decide)).pad (pad_rep [] (.int (0 : Int32)) 2)
    have k501 : ∀ t, Steps p.tables e below (T494.setTop (mkF m 182 #[.val (.int g1), .val (.int g2), .val (.int g3), .val (.int g4), .val (.int g5), .val (.int g6), .val (.int r1), .val (.int (3 : Int32)), .val (.long r2), .second, .val (.long r3), .second, .val (.ref b456), .val (.int (r3.toInt32)), .val (.int i487), .val (.int i492), .unset, .unset, .unset, .unset, .unset, .unset] [(.ref b494)])) t → Steps p.tables e below (s₁.setTop (entryFrame m #[(.int g1), (.int g2), (.int g3), (.int g4), (.int g5), (.int g6)] maxLocals)) t := fun t k => k493 t (st494 t k)
    have k502 : ∀ t, Steps p.tables e below (T494.setTop (mkF m 192 #[.val (.int g1), .val (.int g2), .val (.int g3), .val (.int g4), .val (.int g5), .val (.int g6), .val (.int r1), .val (.int (3 : Int32)), .val (.long r2), .second, .val (.long r3), .second, .val (.ref b456), .val (.int (r3.toInt32)), .val (.int i487), .val (.int i492), .unset, .unset, .unset, .unset, .unset, .unset] [(.int ((((g4.toUInt32 >>> ((2 : Int32) &&& 31).toUInt32).toInt32) &&& (255 : Int32)).toUInt32.toUInt16.toUInt32.toInt32)), (.int (0 : Int32)), (.ref b494), (.ref b494)])) t → Steps p.tables e below (s₁.setTop (entryFrame m #[(.int g1), (.int g2), (.int g3), (.int g4), (.int g5), (.int g6)] maxLocals)) t := fun t k => k501 t (by
      show Steps p.tables e below (T494.setTop (mkF m 182 #[.val (.int g1), .val (.int g2), .val (.int g3), .val (.int g4), .val (.int g5), .val (.int g6), .val (.int r1), .val (.int (3 : Int32)), .val (.long r2), .second, .val (.long r3), .second, .val (.ref b456), .val (.int (r3.toInt32)), .val (.int i487), .val (.int i492), .unset, .unset, .unset, .unset, .unset, .unset] [(.ref b494)])) _
      refine XS.dup X494.here hx rfl (hb hby at_182) rfl rfl ?_
      show Steps p.tables e below (T494.setTop (mkF m 183 #[.val (.int g1), .val (.int g2), .val (.int g3), .val (.int g4), .val (.int g5), .val (.int g6), .val (.int r1), .val (.int (3 : Int32)), .val (.long r2), .second, .val (.long r3), .second, .val (.ref b456), .val (.int (r3.toInt32)), .val (.int i487), .val (.int i492), .unset, .unset, .unset, .unset, .unset, .unset] [(.ref b494), (.ref b494)])) _
      refine XS.iconst X494.here hx rfl (hb hby at_183) ?_
      show Steps p.tables e below (T494.setTop (mkF m 184 #[.val (.int g1), .val (.int g2), .val (.int g3), .val (.int g4), .val (.int g5), .val (.int g6), .val (.int r1), .val (.int (3 : Int32)), .val (.long r2), .second, .val (.long r3), .second, .val (.ref b456), .val (.int (r3.toInt32)), .val (.int i487), .val (.int i492), .unset, .unset, .unset, .unset, .unset, .unset] [(.int (0 : Int32)), (.ref b494), (.ref b494)])) _
      refine XS.iloadN X494.here hx rfl (hb hby at_184) rfl ?_
      show Steps p.tables e below (T494.setTop (mkF m 185 #[.val (.int g1), .val (.int g2), .val (.int g3), .val (.int g4), .val (.int g5), .val (.int g6), .val (.int r1), .val (.int (3 : Int32)), .val (.long r2), .second, .val (.long r3), .second, .val (.ref b456), .val (.int (r3.toInt32)), .val (.int i487), .val (.int i492), .unset, .unset, .unset, .unset, .unset, .unset] [(.int g4), (.int (0 : Int32)), (.ref b494), (.ref b494)])) _
      refine XS.iconst X494.here hx rfl (hb hby at_185) ?_
      show Steps p.tables e below (T494.setTop (mkF m 186 #[.val (.int g1), .val (.int g2), .val (.int g3), .val (.int g4), .val (.int g5), .val (.int g6), .val (.int r1), .val (.int (3 : Int32)), .val (.long r2), .second, .val (.long r3), .second, .val (.ref b456), .val (.int (r3.toInt32)), .val (.int i487), .val (.int i492), .unset, .unset, .unset, .unset, .unset, .unset] [(.int (2 : Int32)), (.int g4), (.int (0 : Int32)), (.ref b494), (.ref b494)])) _
      refine XS.iushr X494.here hx rfl (hb hby at_186) rfl ?_
      show Steps p.tables e below (T494.setTop (mkF m 187 #[.val (.int g1), .val (.int g2), .val (.int g3), .val (.int g4), .val (.int g5), .val (.int g6), .val (.int r1), .val (.int (3 : Int32)), .val (.long r2), .second, .val (.long r3), .second, .val (.ref b456), .val (.int (r3.toInt32)), .val (.int i487), .val (.int i492), .unset, .unset, .unset, .unset, .unset, .unset] [(.int ((g4.toUInt32 >>> ((2 : Int32) &&& 31).toUInt32).toInt32)), (.int (0 : Int32)), (.ref b494), (.ref b494)])) _
      refine XS.sipush X494.here hx rfl (hb hby at_187) ?_
      show Steps p.tables e below (T494.setTop (mkF m 190 #[.val (.int g1), .val (.int g2), .val (.int g3), .val (.int g4), .val (.int g5), .val (.int g6), .val (.int r1), .val (.int (3 : Int32)), .val (.long r2), .second, .val (.long r3), .second, .val (.ref b456), .val (.int (r3.toInt32)), .val (.int i487), .val (.int i492), .unset, .unset, .unset, .unset, .unset, .unset] [(.int (255 : Int32)), (.int ((g4.toUInt32 >>> ((2 : Int32) &&& 31).toUInt32).toInt32)), (.int (0 : Int32)), (.ref b494), (.ref b494)])) _
      refine XS.iand X494.here hx rfl (hb hby at_190) rfl ?_
      show Steps p.tables e below (T494.setTop (mkF m 191 #[.val (.int g1), .val (.int g2), .val (.int g3), .val (.int g4), .val (.int g5), .val (.int g6), .val (.int r1), .val (.int (3 : Int32)), .val (.long r2), .second, .val (.long r3), .second, .val (.ref b456), .val (.int (r3.toInt32)), .val (.int i487), .val (.int i492), .unset, .unset, .unset, .unset, .unset, .unset] [(.int (((g4.toUInt32 >>> ((2 : Int32) &&& 31).toUInt32).toInt32) &&& (255 : Int32))), (.int (0 : Int32)), (.ref b494), (.ref b494)])) _
      refine XS.i2c X494.here hx rfl (hb hby at_191) rfl ?_
      exact k)
    obtain ⟨ch1, hch1⟩ : ∃ z : Int32, z = ((((g4.toUInt32 >>> ((2 : Int32) &&& 31).toUInt32).toInt32) &&& (255 : Int32)).toUInt32.toUInt16.toUInt32.toInt32) := ⟨_, rfl⟩
    
    have k503 : ∀ t, Steps p.tables e below (T494.setTop (mkF m 192 #[.val (.int g1), .val (.int g2), .val (.int g3), .val (.int g4), .val (.int g5), .val (.int g6), .val (.int r1), .val (.int (3 : Int32)), .val (.long r2), .second, .val (.long r3), .second, .val (.ref b456), .val (.int (r3.toInt32)), .val (.int i487), .val (.int i492), .unset, .unset, .unset, .unset, .unset, .unset] [(.int ch1), (.int (0 : Int32)), (.ref b494), (.ref b494)])) t → Steps p.tables e below (s₁.setTop (entryFrame m #[(.int g1), (.int g2), (.int g3), (.int g4), (.int g5), (.int g6)] maxLocals)) t := fun t k => k502 t (by
      show Steps p.tables e below (T494.setTop (mkF m 192 #[.val (.int g1), .val (.int g2), .val (.int g3), .val (.int g4), .val (.int g5), .val (.int g6), .val (.int r1), .val (.int (3 : Int32)), .val (.long r2), .second, .val (.long r3), .second, .val (.ref b456), .val (.int (r3.toInt32)), .val (.int i487), .val (.int i492), .unset, .unset, .unset, .unset, .unset, .unset] [(.int ((((g4.toUInt32 >>> ((2 : Int32) &&& 31).toUInt32).toInt32) &&& (255 : Int32)).toUInt32.toUInt16.toUInt32.toInt32)), (.int (0 : Int32)), (.ref b494), (.ref b494)])) _
      refine castTop (g' := (mkF m 192 #[.val (.int g1), .val (.int g2), .val (.int g3), .val (.int g4), .val (.int g5), .val (.int g6), .val (.int r1), .val (.int (3 : Int32)), .val (.long r2), .second, .val (.long r3), .second, .val (.ref b456), .val (.int (r3.toInt32)), .val (.int i487), .val (.int i492), .unset, .unset, .unset, .unset, .unset, .unset] [(.int ch1), (.int (0 : Int32)), (.ref b494), (.ref b494)])) (by rw [hch1]) ?_
      exact k)
    obtain ⟨c504, Ar504, Aq504, As504, An504, Ah504, Ag504⟩ := id V500
    have hin504 : ¬ ((0 : Int32) < 0 ∨ c504.slots.size ≤ ((0 : Int32)).toNatClampNeg) := inb_of As504 ⟨by decide, by decide⟩
    obtain ⟨T504, h504, X504, e504, W504, st504⟩ := stC X494 hx hZ e494 Ar504 (j := (0 : Int32)) hin504 (g := (mkF m 192 #[.val (.int g1), .val (.int g2), .val (.int g3), .val (.int g4), .val (.int g5), .val (.int g6), .val (.int r1), .val (.int (3 : Int32)), .val (.long r2), .second, .val (.long r3), .second, .val (.ref b456), .val (.int (r3.toInt32)), .val (.int i487), .val (.int i492), .unset, .unset, .unset, .unset, .unset, .unset] [(.int ch1), (.int (0 : Int32)), (.ref b494), (.ref b494)])) rfl rfl (hb hby at_192)
    have V505 : Arv Z h504 b494 k494 .char (2 : Int32) [(.int (nar .char ch1)), (.int (0 : Int32))] (.int (0 : Int32)) := Arv.set Ar504 Aq504 As504 An504 Ah504 Ag504 (fits_nar_char _) W504 0 rfl (Nat.le_of_ble_eq_true rfl)
    have F506 := F497.wr W504
    have F507 := F498.other W504 n495
    have Z508 : n0 ≤ h504.size := Nat.le_trans Z499 (Nat.le_of_eq W504.size.symm)
    have N509 := Fr.snoc X504 N490 g496
    have k510 : ∀ t, Steps p.tables e below (T504.setTop (mkF m 193 #[.val (.int g1), .val (.int g2), .val (.int g3), .val (.int g4), .val (.int g5), .val (.int g6), .val (.int r1), .val (.int (3 : Int32)), .val (.long r2), .second, .val (.long r3), .second, .val (.ref b456), .val (.int (r3.toInt32)), .val (.int i487), .val (.int i492), .unset, .unset, .unset, .unset, .unset, .unset] [(.ref b494)])) t → Steps p.tables e below (s₁.setTop (entryFrame m #[(.int g1), (.int g2), (.int g3), (.int g4), (.int g5), (.int g6)] maxLocals)) t := fun t k => k503 t (st504 t k)
    have k511 : ∀ t, Steps p.tables e below (T504.setTop (mkF m 204 #[.val (.int g1), .val (.int g2), .val (.int g3), .val (.int g4), .val (.int g5), .val (.int g6), .val (.int r1), .val (.int (3 : Int32)), .val (.long r2), .second, .val (.long r3), .second, .val (.ref b456), .val (.int (r3.toInt32)), .val (.int i487), .val (.int i492), .unset, .unset, .unset, .unset, .unset, .unset] [(.int ((((g4.toUInt32 >>> ((10 : Int32) &&& 31).toUInt32).toInt32) &&& (255 : Int32)).toUInt32.toUInt16.toUInt32.toInt32)), (.int (1 : Int32)), (.ref b494), (.ref b494)])) t → Steps p.tables e below (s₁.setTop (entryFrame m #[(.int g1), (.int g2), (.int g3), (.int g4), (.int g5), (.int g6)] maxLocals)) t := fun t k => k510 t (by
      show Steps p.tables e below (T504.setTop (mkF m 193 #[.val (.int g1), .val (.int g2), .val (.int g3), .val (.int g4), .val (.int g5), .val (.int g6), .val (.int r1), .val (.int (3 : Int32)), .val (.long r2), .second, .val (.long r3), .second, .val (.ref b456), .val (.int (r3.toInt32)), .val (.int i487), .val (.int i492), .unset, .unset, .unset, .unset, .unset, .unset] [(.ref b494)])) _
      refine XS.dup X504.here hx rfl (hb hby at_193) rfl rfl ?_
      show Steps p.tables e below (T504.setTop (mkF m 194 #[.val (.int g1), .val (.int g2), .val (.int g3), .val (.int g4), .val (.int g5), .val (.int g6), .val (.int r1), .val (.int (3 : Int32)), .val (.long r2), .second, .val (.long r3), .second, .val (.ref b456), .val (.int (r3.toInt32)), .val (.int i487), .val (.int i492), .unset, .unset, .unset, .unset, .unset, .unset] [(.ref b494), (.ref b494)])) _
      refine XS.iconst X504.here hx rfl (hb hby at_194) ?_
      show Steps p.tables e below (T504.setTop (mkF m 195 #[.val (.int g1), .val (.int g2), .val (.int g3), .val (.int g4), .val (.int g5), .val (.int g6), .val (.int r1), .val (.int (3 : Int32)), .val (.long r2), .second, .val (.long r3), .second, .val (.ref b456), .val (.int (r3.toInt32)), .val (.int i487), .val (.int i492), .unset, .unset, .unset, .unset, .unset, .unset] [(.int (1 : Int32)), (.ref b494), (.ref b494)])) _
      refine XS.iloadN X504.here hx rfl (hb hby at_195) rfl ?_
      show Steps p.tables e below (T504.setTop (mkF m 196 #[.val (.int g1), .val (.int g2), .val (.int g3), .val (.int g4), .val (.int g5), .val (.int g6), .val (.int r1), .val (.int (3 : Int32)), .val (.long r2), .second, .val (.long r3), .second, .val (.ref b456), .val (.int (r3.toInt32)), .val (.int i487), .val (.int i492), .unset, .unset, .unset, .unset, .unset, .unset] [(.int g4), (.int (1 : Int32)), (.ref b494), (.ref b494)])) _
      refine XS.bipush X504.here hx rfl (hb hby at_196) ?_
      show Steps p.tables e below (T504.setTop (mkF m 198 #[.val (.int g1), .val (.int g2), .val (.int g3), .val (.int g4), .val (.int g5), .val (.int g6), .val (.int r1), .val (.int (3 : Int32)), .val (.long r2), .second, .val (.long r3), .second, .val (.ref b456), .val (.int (r3.toInt32)), .val (.int i487), .val (.int i492), .unset, .unset, .unset, .unset, .unset, .unset] [(.int (10 : Int32)), (.int g4), (.int (1 : Int32)), (.ref b494), (.ref b494)])) _
      refine XS.iushr X504.here hx rfl (hb hby at_198) rfl ?_
      show Steps p.tables e below (T504.setTop (mkF m 199 #[.val (.int g1), .val (.int g2), .val (.int g3), .val (.int g4), .val (.int g5), .val (.int g6), .val (.int r1), .val (.int (3 : Int32)), .val (.long r2), .second, .val (.long r3), .second, .val (.ref b456), .val (.int (r3.toInt32)), .val (.int i487), .val (.int i492), .unset, .unset, .unset, .unset, .unset, .unset] [(.int ((g4.toUInt32 >>> ((10 : Int32) &&& 31).toUInt32).toInt32)), (.int (1 : Int32)), (.ref b494), (.ref b494)])) _
      refine XS.sipush X504.here hx rfl (hb hby at_199) ?_
      show Steps p.tables e below (T504.setTop (mkF m 202 #[.val (.int g1), .val (.int g2), .val (.int g3), .val (.int g4), .val (.int g5), .val (.int g6), .val (.int r1), .val (.int (3 : Int32)), .val (.long r2), .second, .val (.long r3), .second, .val (.ref b456), .val (.int (r3.toInt32)), .val (.int i487), .val (.int i492), .unset, .unset, .unset, .unset, .unset, .unset] [(.int (255 : Int32)), (.int ((g4.toUInt32 >>> ((10 : Int32) &&& 31).toUInt32).toInt32)), (.int (1 : Int32)), (.ref b494), (.ref b494)])) _
      refine XS.iand X504.here hx rfl (hb hby at_202) rfl ?_
      show Steps p.tables e below (T504.setTop (mkF m 203 #[.val (.int g1), .val (.int g2), .val (.int g3), .val (.int g4), .val (.int g5), .val (.int g6), .val (.int r1), .val (.int (3 : Int32)), .val (.long r2), .second, .val (.long r3), .second, .val (.ref b456), .val (.int (r3.toInt32)), .val (.int i487), .val (.int i492), .unset, .unset, .unset, .unset, .unset, .unset] [(.int (((g4.toUInt32 >>> ((10 : Int32) &&& 31).toUInt32).toInt32) &&& (255 : Int32))), (.int (1 : Int32)), (.ref b494), (.ref b494)])) _
      refine XS.i2c X504.here hx rfl (hb hby at_203) rfl ?_
      exact k)
    obtain ⟨ch2, hch2⟩ : ∃ z : Int32, z = ((((g4.toUInt32 >>> ((10 : Int32) &&& 31).toUInt32).toInt32) &&& (255 : Int32)).toUInt32.toUInt16.toUInt32.toInt32) := ⟨_, rfl⟩
    
    have k512 : ∀ t, Steps p.tables e below (T504.setTop (mkF m 204 #[.val (.int g1), .val (.int g2), .val (.int g3), .val (.int g4), .val (.int g5), .val (.int g6), .val (.int r1), .val (.int (3 : Int32)), .val (.long r2), .second, .val (.long r3), .second, .val (.ref b456), .val (.int (r3.toInt32)), .val (.int i487), .val (.int i492), .unset, .unset, .unset, .unset, .unset, .unset] [(.int ch2), (.int (1 : Int32)), (.ref b494), (.ref b494)])) t → Steps p.tables e below (s₁.setTop (entryFrame m #[(.int g1), (.int g2), (.int g3), (.int g4), (.int g5), (.int g6)] maxLocals)) t := fun t k => k511 t (by
      show Steps p.tables e below (T504.setTop (mkF m 204 #[.val (.int g1), .val (.int g2), .val (.int g3), .val (.int g4), .val (.int g5), .val (.int g6), .val (.int r1), .val (.int (3 : Int32)), .val (.long r2), .second, .val (.long r3), .second, .val (.ref b456), .val (.int (r3.toInt32)), .val (.int i487), .val (.int i492), .unset, .unset, .unset, .unset, .unset, .unset] [(.int ((((g4.toUInt32 >>> ((10 : Int32) &&& 31).toUInt32).toInt32) &&& (255 : Int32)).toUInt32.toUInt16.toUInt32.toInt32)), (.int (1 : Int32)), (.ref b494), (.ref b494)])) _
      refine castTop (g' := (mkF m 204 #[.val (.int g1), .val (.int g2), .val (.int g3), .val (.int g4), .val (.int g5), .val (.int g6), .val (.int r1), .val (.int (3 : Int32)), .val (.long r2), .second, .val (.long r3), .second, .val (.ref b456), .val (.int (r3.toInt32)), .val (.int i487), .val (.int i492), .unset, .unset, .unset, .unset, .unset, .unset] [(.int ch2), (.int (1 : Int32)), (.ref b494), (.ref b494)])) (by rw [hch2]) ?_
      exact k)
    obtain ⟨c513, Ar513, Aq513, As513, An513, Ah513, Ag513⟩ := id V505
    have hin513 : ¬ ((1 : Int32) < 0 ∨ c513.slots.size ≤ ((1 : Int32)).toNatClampNeg) := inb_of As513 ⟨by decide, by decide⟩
    obtain ⟨T513, h513, X513, e513, W513, st513⟩ := stC X504 hx hZ e504 Ar513 (j := (1 : Int32)) hin513 (g := (mkF m 204 #[.val (.int g1), .val (.int g2), .val (.int g3), .val (.int g4), .val (.int g5), .val (.int g6), .val (.int r1), .val (.int (3 : Int32)), .val (.long r2), .second, .val (.long r3), .second, .val (.ref b456), .val (.int (r3.toInt32)), .val (.int i487), .val (.int i492), .unset, .unset, .unset, .unset, .unset, .unset] [(.int ch2), (.int (1 : Int32)), (.ref b494), (.ref b494)])) rfl rfl (hb hby at_204)
    have V514 : Arv Z h513 b494 k494 .char (2 : Int32) [(.int (nar .char ch1)), (.int (nar .char ch2))] (.int (0 : Int32)) := Arv.set Ar513 Aq513 As513 An513 Ah513 Ag513 (fits_nar_char _) W513 1 rfl (Nat.le_of_ble_eq_true rfl)
    have F515 := F506.wr W513
    have F516 := F507.other W513 n495
    have Z517 : n0 ≤ h513.size := Nat.le_trans Z508 (Nat.le_of_eq W513.size.symm)
    have N518 := Fr.snoc X513 N509 g496
    have k519 : ∀ t, Steps p.tables e below (T513.setTop (mkF m 205 #[.val (.int g1), .val (.int g2), .val (.int g3), .val (.int g4), .val (.int g5), .val (.int g6), .val (.int r1), .val (.int (3 : Int32)), .val (.long r2), .second, .val (.long r3), .second, .val (.ref b456), .val (.int (r3.toInt32)), .val (.int i487), .val (.int i492), .unset, .unset, .unset, .unset, .unset, .unset] [(.ref b494)])) t → Steps p.tables e below (s₁.setTop (entryFrame m #[(.int g1), (.int g2), (.int g3), (.int g4), (.int g5), (.int g6)] maxLocals)) t := fun t k => k512 t (st513 t k)
    have k520 : ∀ t, Steps p.tables e below (T513.setTop (mkF m 207 #[.val (.int g1), .val (.int g2), .val (.int g3), .val (.int g4), .val (.int g5), .val (.int g6), .val (.int r1), .val (.int (3 : Int32)), .val (.long r2), .second, .val (.long r3), .second, .val (.ref b456), .val (.int (r3.toInt32)), .val (.int i487), .val (.int i492), .val (.ref b494), .unset, .unset, .unset, .unset, .unset] [])) t → Steps p.tables e below (s₁.setTop (entryFrame m #[(.int g1), (.int g2), (.int g3), (.int g4), (.int g5), (.int g6)] maxLocals)) t := fun t k => k519 t (by
      show Steps p.tables e below (T513.setTop (mkF m 205 #[.val (.int g1), .val (.int g2), .val (.int g3), .val (.int g4), .val (.int g5), .val (.int g6), .val (.int r1), .val (.int (3 : Int32)), .val (.long r2), .second, .val (.long r3), .second, .val (.ref b456), .val (.int (r3.toInt32)), .val (.int i487), .val (.int i492), .unset, .unset, .unset, .unset, .unset, .unset] [(.ref b494)])) _
      refine XS.astore X513.here hx rfl (hb hby at_205) rfl rfl (l' := #[.val (.int g1), .val (.int g2), .val (.int g3), .val (.int g4), .val (.int g5), .val (.int g6), .val (.int r1), .val (.int (3 : Int32)), .val (.long r2), .second, .val (.long r3), .second, .val (.ref b456), .val (.int (r3.toInt32)), .val (.int i487), .val (.int i492), .val (.ref b494), .unset, .unset, .unset, .unset, .unset]) rfl ?_
      exact k)
    obtain ⟨T521, h521, X521, e521, E521, A521, D521, -, st521⟩ := newO X513 hx hZ hown (hw _ (List.mem_of_getElem? (i := 8) rfl)) (hw _ (List.mem_of_getElem? (i := 9) rfl)) (hw _ (List.mem_of_getElem? (i := 10) rfl)) e513 (g := (mkF m 207 #[.val (.int g1), .val (.int g2), .val (.int g3), .val (.int g4), .val (.int g5), .val (.int g6), .val (.int r1), .val (.int (3 : Int32)), .val (.long r2), .second, .val (.long r3), .second, .val (.ref b456), .val (.int (r3.toInt32)), .val (.int i487), .val (.int i492), .val (.ref b494), .unset, .unset, .unset, .unset, .unset] [])) rfl (hb hby at_207) (by decide) (by decide)
    obtain ⟨b521, g521⟩ : ∃ z, z = h513.size := ⟨_, rfl⟩
    rw [← g521] at A521 D521 st521
    have n522 : b456 ≠ b521 := Nat.ne_of_lt (Nat.lt_of_lt_of_le F516.lt (Nat.le_of_eq g521.symm))
    have n523 : b494 ≠ b521 := Nat.ne_of_lt (Nat.lt_of_lt_of_le V514.lt (Nat.le_of_eq g521.symm))
    have g524 : n0 ≤ b521 := Nat.le_trans Z517 (Nat.le_of_eq g521.symm)
    have F525 := F515.ext E521
    have F526 := F516.ext E521
    have F527 := V514.ext E521
    have Z528 : n0 ≤ h521.size := Nat.le_trans Z517 E521.1
    have F529 : Fld Z h521 b521 "com/example/round2/round2/eval/TopicResult" "topic" "Ljava/lang/String;" .null := D521 (Or.inr (hw _ (List.mem_of_getElem? (i := 45) rfl))) (ty := (.object "java/lang/String")) (by decide)
    have F530 : Fld Z h521 b521 "com/example/round2/round2/eval/TopicResult" "retrieved" "I" (.int (0 : Int32)) := D521 (Or.inr (hw _ (List.mem_of_getElem? (i := 47) rfl))) (ty := .int) (by decide)
    have F531 : Fld Z h521 b521 "com/example/round2/round2/eval/TopicResult" "relevant" "I" (.int (0 : Int32)) := D521 (Or.inr (hw _ (List.mem_of_getElem? (i := 49) rfl))) (ty := .int) (by decide)
    have F532 : Fld Z h521 b521 "com/example/round2/round2/eval/TopicResult" "relevantRanks" "[I" .null := D521 (Or.inr (hw _ (List.mem_of_getElem? (i := 51) rfl))) (ty := (.array .int)) (by decide)
    have k533 : ∀ t, Steps p.tables e below (T521.setTop (mkF m 210 #[.val (.int g1), .val (.int g2), .val (.int g3), .val (.int g4), .val (.int g5), .val (.int g6), .val (.int r1), .val (.int (3 : Int32)), .val (.long r2), .second, .val (.long r3), .second, .val (.ref b456), .val (.int (r3.toInt32)), .val (.int i487), .val (.int i492), .val (.ref b494), .unset, .unset, .unset, .unset, .unset] [(.ref b521)])) t → Steps p.tables e below (s₁.setTop (entryFrame m #[(.int g1), (.int g2), (.int g3), (.int g4), (.int g5), (.int g6)] maxLocals)) t := fun t k => k520 t (st521 t k)
    have k534 : ∀ t, Steps p.tables e below (T521.setTop (mkF m 211 #[.val (.int g1), .val (.int g2), .val (.int g3), .val (.int g4), .val (.int g5), .val (.int g6), .val (.int r1), .val (.int (3 : Int32)), .val (.long r2), .second, .val (.long r3), .second, .val (.ref b456), .val (.int (r3.toInt32)), .val (.int i487), .val (.int i492), .val (.ref b494), .unset, .unset, .unset, .unset, .unset] [(.ref b521), (.ref b521)])) t → Steps p.tables e below (s₁.setTop (entryFrame m #[(.int g1), (.int g2), (.int g3), (.int g4), (.int g5), (.int g6)] maxLocals)) t := fun t k => k533 t (by
      show Steps p.tables e below (T521.setTop (mkF m 210 #[.val (.int g1), .val (.int g2), .val (.int g3), .val (.int g4), .val (.int g5), .val (.int g6), .val (.int r1), .val (.int (3 : Int32)), .val (.long r2), .second, .val (.long r3), .second, .val (.ref b456), .val (.int (r3.toInt32)), .val (.int i487), .val (.int i492), .val (.ref b494), .unset, .unset, .unset, .unset, .unset] [(.ref b521)])) _
      refine XS.dup X521.here hx rfl (hb hby at_210) rfl rfl ?_
      exact k)
    obtain ⟨T535, h535, X535, e535, E535, A535, D535, -, st535⟩ := newO X521 hx hZ hown (hw _ (List.mem_of_getElem? (i := 11) rfl)) (hw _ (List.mem_of_getElem? (i := 12) rfl)) (hw _ (List.mem_of_getElem? (i := 13) rfl)) e521 (g := (mkF m 211 #[.val (.int g1), .val (.int g2), .val (.int g3), .val (.int g4), .val (.int g5), .val (.int g6), .val (.int r1), .val (.int (3 : Int32)), .val (.long r2), .second, .val (.long r3), .second, .val (.ref b456), .val (.int (r3.toInt32)), .val (.int i487), .val (.int i492), .val (.ref b494), .unset, .unset, .unset, .unset, .unset] [(.ref b521), (.ref b521)])) rfl (hb hby at_211) (by decide) (by decide)
    obtain ⟨b535, g535⟩ : ∃ z, z = h521.size := ⟨_, rfl⟩
    rw [← g535] at A535 D535 st535
    have n536 : b456 ≠ b535 := Nat.ne_of_lt (Nat.lt_of_lt_of_le F526.lt (Nat.le_of_eq g535.symm))
    have n537 : b494 ≠ b535 := Nat.ne_of_lt (Nat.lt_of_lt_of_le F527.lt (Nat.le_of_eq g535.symm))
    have n538 : b521 ≠ b535 := Nat.ne_of_lt (Nat.lt_of_lt_of_le A521.lt (Nat.le_of_eq g535.symm))
    have g539 : n0 ≤ b535 := Nat.le_trans Z528 (Nat.le_of_eq g535.symm)
    have F540 := F525.ext E535
    have F541 := F526.ext E535
    have F542 := F527.ext E535
    have F543 := A521.ext E535
    have F544 := F529.ext E535
    have F545 := F530.ext E535
    have F546 := F531.ext E535
    have F547 := F532.ext E535
    have Z548 : n0 ≤ h535.size := Nat.le_trans Z528 E535.1
    have F549 : Fld Z h535 b535 "java/lang/String" "coder" "B" (.int (0 : Int32)) := D535 (Or.inr (hw _ (List.mem_of_getElem? (i := 37) rfl))) (ty := .byte) (by decide)
    have F550 : Fld Z h535 b535 "java/lang/String" "value" "[B" .null := D535 (Or.inr (hw _ (List.mem_of_getElem? (i := 39) rfl))) (ty := (.array .byte)) (by decide)
    have k551 : ∀ t, Steps p.tables e below (T535.setTop (mkF m 214 #[.val (.int g1), .val (.int g2), .val (.int g3), .val (.int g4), .val (.int g5), .val (.int g6), .val (.int r1), .val (.int (3 : Int32)), .val (.long r2), .second, .val (.long r3), .second, .val (.ref b456), .val (.int (r3.toInt32)), .val (.int i487), .val (.int i492), .val (.ref b494), .unset, .unset, .unset, .unset, .unset] [(.ref b535), (.ref b521), (.ref b521)])) t → Steps p.tables e below (s₁.setTop (entryFrame m #[(.int g1), (.int g2), (.int g3), (.int g4), (.int g5), (.int g6)] maxLocals)) t := fun t k => k534 t (st535 t k)
    have hc1 := own_ch hch1
    have hc2 := own_ch hch2
    have k552 : ∀ t, Steps p.tables e below (T535.setTop (mkF m 217 #[.val (.int g1), .val (.int g2), .val (.int g3), .val (.int g4), .val (.int g5), .val (.int g6), .val (.int r1), .val (.int (3 : Int32)), .val (.long r2), .second, .val (.long r3), .second, .val (.ref b456), .val (.int (r3.toInt32)), .val (.int i487), .val (.int i492), .val (.ref b494), .unset, .unset, .unset, .unset, .unset] [(.ref b494), (.ref b535), (.ref b535), (.ref b521), (.ref b521)])) t → Steps p.tables e below (s₁.setTop (entryFrame m #[(.int g1), (.int g2), (.int g3), (.int g4), (.int g5), (.int g6)] maxLocals)) t := fun t k => k551 t (by
      show Steps p.tables e below (T535.setTop (mkF m 214 #[.val (.int g1), .val (.int g2), .val (.int g3), .val (.int g4), .val (.int g5), .val (.int g6), .val (.int r1), .val (.int (3 : Int32)), .val (.long r2), .second, .val (.long r3), .second, .val (.ref b456), .val (.int (r3.toInt32)), .val (.int i487), .val (.int i492), .val (.ref b494), .unset, .unset, .unset, .unset, .unset] [(.ref b535), (.ref b521), (.ref b521)])) _
      refine XS.dup X535.here hx rfl (hb hby at_214) rfl rfl ?_
      show Steps p.tables e below (T535.setTop (mkF m 215 #[.val (.int g1), .val (.int g2), .val (.int g3), .val (.int g4), .val (.int g5), .val (.int g6), .val (.int r1), .val (.int (3 : Int32)), .val (.long r2), .second, .val (.long r3), .second, .val (.ref b456), .val (.int (r3.toInt32)), .val (.int i487), .val (.int i492), .val (.ref b494), .unset, .unset, .unset, .unset, .unset] [(.ref b535), (.ref b535), (.ref b521), (.ref b521)])) _
      refine XS.aload X535.here hx rfl (hb hby at_215) rfl rfl ?_
      exact k)
    obtain ⟨_, _, ⟨T553, L553, k553, n553⟩, -, X553, ⟨Lc553, hQ553, l553, y553, z553⟩, st553⟩ := X535.specialBack hx (y := (⟨"java/lang/String", "<init>", "([C)V"⟩ : MethodName)) rfl hown (mvT hZ (hw _ (List.mem_of_getElem? (i := 14) rfl))) (mvT hZ (hw _ (List.mem_of_getElem? (i := 15) rfl))) (mvT hZ (hw _ (List.mem_of_getElem? (i := 16) rfl))) (by decide) (backOf (W := 3) (rm2 l Z a0 hw [] b535 b494 k494 cs (nar .char ch1) (nar .char ch2) h535 n0 Z548 F550 F549 A535 g539 F542 n537 F540 hcs hc1 hc2) hZ (hw _ (List.mem_of_getElem? (i := 16) rfl)) (hw _ (List.mem_of_getElem? (i := 13) rfl)) (by decide) (by decide)) (g := (mkF m 217 #[.val (.int g1), .val (.int g2), .val (.int g3), .val (.int g4), .val (.int g5), .val (.int g6), .val (.int r1), .val (.int (3 : Int32)), .val (.long r2), .second, .val (.long r3), .second, .val (.ref b456), .val (.int (r3.toInt32)), .val (.int i487), .val (.int i492), .val (.ref b494), .unset, .unset, .unset, .unset, .unset] [(.ref b494), (.ref b535), (.ref b535), (.ref b521), (.ref b521)])) rfl (by rw [hml]; rfl) (Steps.refl _) (a := b535) (argsL := [(.ref b494)]) (rest := [(.ref b535), (.ref b521), (.ref b521)]) (lenOf pd__28_5bC_29V rfl) rfl (by show 2 * 0 + _ ≤ _; exact Nat.le_of_eq rfl) (hb hby at_217) (fun _ _ => ⟨rfl, e535, (by decide : 4 + 1 ≤ _), (by decide : 13 + 2 ≤ _)⟩)
    dsimp only [Pt.U, Pt.locs, Pt.cells, Pt.slots] at X553 l553 y553 z553 st553 hQ553
    subst l553 y553 z553
    obtain ⟨h553, e553⟩ : ∃ h', T553.heap = h' := ⟨_, rfl⟩
    rw [e553] at hQ553
    obtain ⟨t553, kk553, rfl, N553q, zt553, K553, G553e, G553v, G553c, V553⟩ := hQ553
    have N554 := Fr.app N518 N553q
    have k555 : ∀ t, Steps p.tables e below (T553.setTop (mkF m 220 #[.val (.int g1), .val (.int g2), .val (.int g3), .val (.int g4), .val (.int g5), .val (.int g6), .val (.int r1), .val (.int (3 : Int32)), .val (.long r2), .second, .val (.long r3), .second, .val (.ref b456), .val (.int (r3.toInt32)), .val (.int i487), .val (.int i492), .val (.ref b494), .unset, .unset, .unset, .unset, .unset] [(.ref b535), (.ref b521), (.ref b521)])) t → Steps p.tables e below (s₁.setTop (entryFrame m #[(.int g1), (.int g2), (.int g3), (.int g4), (.int g5), (.int g6)] maxLocals)) t := fun t k => k552 t (st553.trans k)
    have F556 := F541.keep K553 (ninS n536 nin0)
    have F557 := F543.keep K553
    have F558 := F544.keep K553 (ninS n538 nin0)
    have F559 := F545.keep K553 (ninS n538 nin0)
    have F560 := F546.keep K553 (ninS n538 nin0)
    have F561 := F547.keep K553 (ninS n538 nin0)
    have F562 := A535.keep K553
    have Z563 : n0 ≤ h553.size := Nat.le_trans Z548 K553.1
    have k564 : ∀ t, Steps p.tables e below (T553.setTop (mkF m 226 #[.val (.int g1), .val (.int g2), .val (.int g3), .val (.int g4), .val (.int g5), .val (.int g6), .val (.int r1), .val (.int (3 : Int32)), .val (.long r2), .second, .val (.long r3), .second, .val (.ref b456), .val (.int (r3.toInt32)), .val (.int i487), .val (.int i492), .val (.ref b494), .unset, .unset, .unset, .unset, .unset] [(.ref b456), (.int i492), (.int i487), (.ref b535), (.ref b521), (.ref b521)])) t → Steps p.tables e below (s₁.setTop (entryFrame m #[(.int g1), (.int g2), (.int g3), (.int g4), (.int g5), (.int g6)] maxLocals)) t := fun t k => k555 t (by
      show Steps p.tables e below (T553.setTop (mkF m 220 #[.val (.int g1), .val (.int g2), .val (.int g3), .val (.int g4), .val (.int g5), .val (.int g6), .val (.int r1), .val (.int (3 : Int32)), .val (.long r2), .second, .val (.long r3), .second, .val (.ref b456), .val (.int (r3.toInt32)), .val (.int i487), .val (.int i492), .val (.ref b494), .unset, .unset, .unset, .unset, .unset] [(.ref b535), (.ref b521), (.ref b521)])) _
      refine XS.iload X553.here hx rfl (hb hby at_220) rfl ?_
      show Steps p.tables e below (T553.setTop (mkF m 222 #[.val (.int g1), .val (.int g2), .val (.int g3), .val (.int g4), .val (.int g5), .val (.int g6), .val (.int r1), .val (.int (3 : Int32)), .val (.long r2), .second, .val (.long r3), .second, .val (.ref b456), .val (.int (r3.toInt32)), .val (.int i487), .val (.int i492), .val (.ref b494), .unset, .unset, .unset, .unset, .unset] [(.int i487), (.ref b535), (.ref b521), (.ref b521)])) _
      refine XS.iload X553.here hx rfl (hb hby at_222) rfl ?_
      show Steps p.tables e below (T553.setTop (mkF m 224 #[.val (.int g1), .val (.int g2), .val (.int g3), .val (.int g4), .val (.int g5), .val (.int g6), .val (.int r1), .val (.int (3 : Int32)), .val (.long r2), .second, .val (.long r3), .second, .val (.ref b456), .val (.int (r3.toInt32)), .val (.int i487), .val (.int i492), .val (.ref b494), .unset, .unset, .unset, .unset, .unset] [(.int i492), (.int i487), (.ref b535), (.ref b521), (.ref b521)])) _
      refine XS.aload X553.here hx rfl (hb hby at_224) rfl rfl ?_
      exact k)
    obtain ⟨_, _, ⟨T565, L565, k565, n565⟩, -, X565, ⟨Lc565, hQ565, l565, y565, z565⟩, st565⟩ := X553.specialBack hx (y := (⟨"com/example/round2/round2/eval/TopicResult", "<init>", "(Ljava/lang/String;II[I)V"⟩ : MethodName)) rfl hown (mvT hZ (hw _ (List.mem_of_getElem? (i := 40) rfl))) (mvT hZ (hw _ (List.mem_of_getElem? (i := 41) rfl))) (mvT hZ (hw _ (List.mem_of_getElem? (i := 42) rfl))) (by decide) (backOf (W := 1) (rm8 l Z a0 hw [] b521 b535 i487 i492 b456 h553 n0 Z563 F558 F559 F560 F561 F557 g524) hZ (hw _ (List.mem_of_getElem? (i := 42) rfl)) (hw _ (List.mem_of_getElem? (i := 10) rfl)) (by decide) (by decide)) (g := (mkF m 226 #[.val (.int g1), .val (.int g2), .val (.int g3), .val (.int g4), .val (.int g5), .val (.int g6), .val (.int r1), .val (.int (3 : Int32)), .val (.long r2), .second, .val (.long r3), .second, .val (.ref b456), .val (.int (r3.toInt32)), .val (.int i487), .val (.int i492), .val (.ref b494), .unset, .unset, .unset, .unset, .unset] [(.ref b456), (.int i492), (.int i487), (.ref b535), (.ref b521), (.ref b521)])) rfl (by rw [hml]; rfl) (Steps.refl _) (a := b521) (argsL := [(.ref b535), (.int i487), (.int i492), (.ref b456)]) (rest := [(.ref b521)]) (lenOf pd__28Ljava_2flang_2fString_3bII_5bI_29V rfl) rfl (by show 2 * 0 + _ ≤ _; exact Nat.le_of_eq rfl) (hb hby at_226) (fun _ _ => ⟨rfl, e553, (by decide : 5 + 0 ≤ _), (by decide : 15 + 0 ≤ _)⟩)
    dsimp only [Pt.U, Pt.locs, Pt.cells, Pt.slots] at X565 l565 y565 z565 st565 hQ565
    subst l565 y565 z565
    obtain ⟨h565, e565⟩ : ∃ h', T565.heap = h' := ⟨_, rfl⟩
    rw [e565] at hQ565
    obtain ⟨rfl, N565q, K565, G565a, G565b, G565c⟩ := hQ565
    have N566 := Fr.app N554 N565q
    have k567 : ∀ t, Steps p.tables e below (T565.setTop (mkF m 229 #[.val (.int g1), .val (.int g2), .val (.int g3), .val (.int g4), .val (.int g5), .val (.int g6), .val (.int r1), .val (.int (3 : Int32)), .val (.long r2), .second, .val (.long r3), .second, .val (.ref b456), .val (.int (r3.toInt32)), .val (.int i487), .val (.int i492), .val (.ref b494), .unset, .unset, .unset, .unset, .unset] [(.ref b521)])) t → Steps p.tables e below (s₁.setTop (entryFrame m #[(.int g1), (.int g2), (.int g3), (.int g4), (.int g5), (.int g6)] maxLocals)) t := fun t k => k564 t (st565.trans k)
    have F568 := F556.keep K565 (ninS n522 nin0)
    have F569 := F557.keep K565
    have F570 := F562.keep K565
    have Z571 : n0 ≤ h565.size := Nat.le_trans Z563 K565.1
    have k572 : ∀ t, Steps p.tables e below (T565.setTop (mkF m 233 #[.val (.int g1), .val (.int g2), .val (.int g3), .val (.int g4), .val (.int g5), .val (.int g6), .val (.int r1), .val (.int (3 : Int32)), .val (.long r2), .second, .val (.long r3), .second, .val (.ref b456), .val (.int (r3.toInt32)), .val (.int i487), .val (.int i492), .val (.ref b494), .val (.ref b521), .unset, .unset, .unset, .unset] [(.ref b521)])) t → Steps p.tables e below (s₁.setTop (entryFrame m #[(.int g1), (.int g2), (.int g3), (.int g4), (.int g5), (.int g6)] maxLocals)) t := fun t k => k567 t (by
      show Steps p.tables e below (T565.setTop (mkF m 229 #[.val (.int g1), .val (.int g2), .val (.int g3), .val (.int g4), .val (.int g5), .val (.int g6), .val (.int r1), .val (.int (3 : Int32)), .val (.long r2), .second, .val (.long r3), .second, .val (.ref b456), .val (.int (r3.toInt32)), .val (.int i487), .val (.int i492), .val (.ref b494), .unset, .unset, .unset, .unset, .unset] [(.ref b521)])) _
      refine XS.astore X565.here hx rfl (hb hby at_229) rfl rfl (l' := #[.val (.int g1), .val (.int g2), .val (.int g3), .val (.int g4), .val (.int g5), .val (.int g6), .val (.int r1), .val (.int (3 : Int32)), .val (.long r2), .second, .val (.long r3), .second, .val (.ref b456), .val (.int (r3.toInt32)), .val (.int i487), .val (.int i492), .val (.ref b494), .val (.ref b521), .unset, .unset, .unset, .unset]) rfl ?_
      show Steps p.tables e below (T565.setTop (mkF m 231 #[.val (.int g1), .val (.int g2), .val (.int g3), .val (.int g4), .val (.int g5), .val (.int g6), .val (.int r1), .val (.int (3 : Int32)), .val (.long r2), .second, .val (.long r3), .second, .val (.ref b456), .val (.int (r3.toInt32)), .val (.int i487), .val (.int i492), .val (.ref b494), .val (.ref b521), .unset, .unset, .unset, .unset] [])) _
      refine XS.aload X565.here hx rfl (hb hby at_231) rfl rfl ?_
      exact k)
    obtain ⟨cq573, kq573, q573a, q573b, q573c⟩ := isOf hZ e565 G565a
    obtain ⟨_, _, ⟨T573, L573, k573, n573⟩, -, X573, ⟨Lc573, hQ573, l573, y573, z573⟩, st573⟩ := X565.virtualBack hx (y := (⟨"com/example/round2/round2/eval/TopicResult", "reciprocalRank", "()D"⟩ : MethodName)) (z := (⟨"com/example/round2/round2/eval/TopicResult", "reciprocalRank", "()D"⟩ : MethodName)) hown (mvT hZ (hw _ (List.mem_of_getElem? (i := 52) rfl))) (mvT hZ (hw _ (List.mem_of_getElem? (i := 53) rfl))) (notFace_of_selects (args := #[]) (mvT hZ (hw _ (List.mem_of_getElem? (i := 55) rfl)))) (mvT hZ (hw _ (List.mem_of_getElem? (i := 55) rfl))) (mvT hZ (hw _ (List.mem_of_getElem? (i := 54) rfl))) (by decide) (backOf (W := 0) (rrk3 l Z a0 hw [] b521 b456 k456 r1 (r2.toInt32) (r3.toInt32) h565 n0 Z571 G565c F568 (own_nn hz)) hZ (hw _ (List.mem_of_getElem? (i := 56) rfl)) (hw _ (List.mem_of_getElem? (i := 10) rfl)) (by decide) (by decide)) q573a q573c (g := (mkF m 233 #[.val (.int g1), .val (.int g2), .val (.int g3), .val (.int g4), .val (.int g5), .val (.int g6), .val (.int r1), .val (.int (3 : Int32)), .val (.long r2), .second, .val (.long r3), .second, .val (.ref b456), .val (.int (r3.toInt32)), .val (.int i487), .val (.int i492), .val (.ref b494), .val (.ref b521), .unset, .unset, .unset, .unset] [(.ref b521)])) rfl (by rw [hml]; rfl) (Steps.refl _) (argsL := []) (rest := []) (lenOf pd__28_29D rfl) rfl (by show 2 * 0 + _ ≤ _; exact Nat.le_of_eq rfl) (hb hby at_233) (fun _ _ => ⟨rfl, e565, (by decide : 5 + 0 ≤ _), (by decide : 15 + 0 ≤ _)⟩)
    dsimp only [Pt.U, Pt.locs, Pt.cells, Pt.slots] at X573 l573 y573 z573 st573 hQ573
    subst l573 y573 z573
    obtain ⟨rfl, N573q, e573⟩ := hQ573
    have N574 := Fr.app N566 N573q
    have k575 : ∀ t, Steps p.tables e below (T573.setTop (mkF m 236 #[.val (.int g1), .val (.int g2), .val (.int g3), .val (.int g4), .val (.int g5), .val (.int g6), .val (.int r1), .val (.int (3 : Int32)), .val (.long r2), .second, .val (.long r3), .second, .val (.ref b456), .val (.int (r3.toInt32)), .val (.int i487), .val (.int i492), .val (.ref b494), .val (.ref b521), .unset, .unset, .unset, .unset] [(.double (FP.ddiv (4607182418800017408 : UInt64) (FP.i2d r1)))])) t → Steps p.tables e below (s₁.setTop (entryFrame m #[(.int g1), (.int g2), (.int g3), (.int g4), (.int g5), (.int g6)] maxLocals)) t := fun t k => k572 t (st573.trans k)
    obtain ⟨rr, hrr⟩ : ∃ z : UInt64, z = (FP.ddiv (4607182418800017408 : UInt64) (FP.i2d r1)) := ⟨_, rfl⟩
    obtain ⟨xr, hxr⟩ : ∃ z : UInt64, FP.i2d r1 = z := ⟨_, rfl⟩
    obtain ⟨ex, hex⟩ : ∃ z : UInt64, FP.ddiv (4607182418800017408 : UInt64) xr = z := ⟨_, rfl⟩
    have eex : ex = rr := by rw [← hex, ← hxr, hrr]
    obtain ⟨Q1, Q2, Q3, Q4⟩ := own_rr hr hrr
    have Q1' : cmpValue (FP.dcmp rr ex) .l = (0 : Int32) := by rw [eex]; exact Q1
    have k576 : ∀ t, Steps p.tables e below (T573.setTop (mkF m 289 #[.val (.int g1), .val (.int g2), .val (.int g3), .val (.int g4), .val (.int g5), .val (.int g6), .val (.int r1), .val (.int (3 : Int32)), .val (.long r2), .second, .val (.long r3), .second, .val (.ref b456), .val (.int (r3.toInt32)), .val (.int i487), .val (.int i492), .val (.ref b494), .val (.ref b521), .val (.double rr), .second, .val (.double ex), .second] [(.int (cmpValue (FP.dcmp rr (4607182418800017408 : UInt64)) .l))])) t → Steps p.tables e below (s₁.setTop (entryFrame m #[(.int g1), (.int g2), (.int g3), (.int g4), (.int g5), (.int g6)] maxLocals)) t := fun t k => k575 t (by
      show Steps p.tables e below (T573.setTop (mkF m 236 #[.val (.int g1), .val (.int g2), .val (.int g3), .val (.int g4), .val (.int g5), .val (.int g6), .val (.int r1), .val (.int (3 : Int32)), .val (.long r2), .second, .val (.long r3), .second, .val (.ref b456), .val (.int (r3.toInt32)), .val (.int i487), .val (.int i492), .val (.ref b494), .val (.ref b521), .unset, .unset, .unset, .unset] [(.double (FP.ddiv (4607182418800017408 : UInt64) (FP.i2d r1)))])) _
      refine castTop (g' := (mkF m 236 #[.val (.int g1), .val (.int g2), .val (.int g3), .val (.int g4), .val (.int g5), .val (.int g6), .val (.int r1), .val (.int (3 : Int32)), .val (.long r2), .second, .val (.long r3), .second, .val (.ref b456), .val (.int (r3.toInt32)), .val (.int i487), .val (.int i492), .val (.ref b494), .val (.ref b521), .unset, .unset, .unset, .unset] [(.double rr)])) (by rw [hrr]) ?_
      show Steps p.tables e below (T573.setTop (mkF m 236 #[.val (.int g1), .val (.int g2), .val (.int g3), .val (.int g4), .val (.int g5), .val (.int g6), .val (.int r1), .val (.int (3 : Int32)), .val (.long r2), .second, .val (.long r3), .second, .val (.ref b456), .val (.int (r3.toInt32)), .val (.int i487), .val (.int i492), .val (.ref b494), .val (.ref b521), .unset, .unset, .unset, .unset] [(.double rr)])) _
      refine XS.dstore X573.here hx rfl (hb hby at_236) rfl (l' := #[.val (.int g1), .val (.int g2), .val (.int g3), .val (.int g4), .val (.int g5), .val (.int g6), .val (.int r1), .val (.int (3 : Int32)), .val (.long r2), .second, .val (.long r3), .second, .val (.ref b456), .val (.int (r3.toInt32)), .val (.int i487), .val (.int i492), .val (.ref b494), .val (.ref b521), .val (.double rr), .second, .unset, .unset]) rfl ?_
      show Steps p.tables e below (T573.setTop (mkF m 238 #[.val (.int g1), .val (.int g2), .val (.int g3), .val (.int g4), .val (.int g5), .val (.int g6), .val (.int r1), .val (.int (3 : Int32)), .val (.long r2), .second, .val (.long r3), .second, .val (.ref b456), .val (.int (r3.toInt32)), .val (.int i487), .val (.int i492), .val (.ref b494), .val (.ref b521), .val (.double rr), .second, .unset, .unset] [])) _
      refine XS.iload X573.here hx rfl (hb hby at_238) rfl ?_
      show Steps p.tables e below (T573.setTop (mkF m 240 #[.val (.int g1), .val (.int g2), .val (.int g3), .val (.int g4), .val (.int g5), .val (.int g6), .val (.int r1), .val (.int (3 : Int32)), .val (.long r2), .second, .val (.long r3), .second, .val (.ref b456), .val (.int (r3.toInt32)), .val (.int i487), .val (.int i492), .val (.ref b494), .val (.ref b521), .val (.double rr), .second, .unset, .unset] [(.int (3 : Int32))])) _
      refine XS.ifYes X573.here hx rfl (pc0 := 240) (pc' := 256) rfl (hb hby at_240) rfl ((if0 _ _).trans (feq (by decide)).2) (by decide) (by decide) ?_
      show Steps p.tables e below (T573.setTop (mkF m 256 #[.val (.int g1), .val (.int g2), .val (.int g3), .val (.int g4), .val (.int g5), .val (.int g6), .val (.int r1), .val (.int (3 : Int32)), .val (.long r2), .second, .val (.long r3), .second, .val (.ref b456), .val (.int (r3.toInt32)), .val (.int i487), .val (.int i492), .val (.ref b494), .val (.ref b521), .val (.double rr), .second, .unset, .unset] [])) _
      refine XS.dconst1 X573.here hx rfl (hb hby at_256) (v := (4607182418800017408 : UInt64)) rfl ?_
      show Steps p.tables e below (T573.setTop (mkF m 257 #[.val (.int g1), .val (.int g2), .val (.int g3), .val (.int g4), .val (.int g5), .val (.int g6), .val (.int r1), .val (.int (3 : Int32)), .val (.long r2), .second, .val (.long r3), .second, .val (.ref b456), .val (.int (r3.toInt32)), .val (.int i487), .val (.int i492), .val (.ref b494), .val (.ref b521), .val (.double rr), .second, .unset, .unset] [(.double (4607182418800017408 : UInt64))])) _
      refine XS.iload X573.here hx rfl (hb hby at_257) rfl ?_
      show Steps p.tables e below (T573.setTop (mkF m 259 #[.val (.int g1), .val (.int g2), .val (.int g3), .val (.int g4), .val (.int g5), .val (.int g6), .val (.int r1), .val (.int (3 : Int32)), .val (.long r2), .second, .val (.long r3), .second, .val (.ref b456), .val (.int (r3.toInt32)), .val (.int i487), .val (.int i492), .val (.ref b494), .val (.ref b521), .val (.double rr), .second, .unset, .unset] [(.int r1), (.double (4607182418800017408 : UInt64))])) _
      refine XS.i2dS X573.here hx rfl (hb hby at_259) rfl hxr ?_
      show Steps p.tables e below (T573.setTop (mkF m 260 #[.val (.int g1), .val (.int g2), .val (.int g3), .val (.int g4), .val (.int g5), .val (.int g6), .val (.int r1), .val (.int (3 : Int32)), .val (.long r2), .second, .val (.long r3), .second, .val (.ref b456), .val (.int (r3.toInt32)), .val (.int i487), .val (.int i492), .val (.ref b494), .val (.ref b521), .val (.double rr), .second, .unset, .unset] [(.double xr), (.double (4607182418800017408 : UInt64))])) _
      refine XS.ddivS X573.here hx rfl (hb hby at_260) rfl ((by rw [← hxr]; exact own_nn hz)) hex ?_
      show Steps p.tables e below (T573.setTop (mkF m 261 #[.val (.int g1), .val (.int g2), .val (.int g3), .val (.int g4), .val (.int g5), .val (.int g6), .val (.int r1), .val (.int (3 : Int32)), .val (.long r2), .second, .val (.long r3), .second, .val (.ref b456), .val (.int (r3.toInt32)), .val (.int i487), .val (.int i492), .val (.ref b494), .val (.ref b521), .val (.double rr), .second, .unset, .unset] [(.double ex)])) _
      refine XS.dstore X573.here hx rfl (hb hby at_261) rfl (l' := #[.val (.int g1), .val (.int g2), .val (.int g3), .val (.int g4), .val (.int g5), .val (.int g6), .val (.int r1), .val (.int (3 : Int32)), .val (.long r2), .second, .val (.long r3), .second, .val (.ref b456), .val (.int (r3.toInt32)), .val (.int i487), .val (.int i492), .val (.ref b494), .val (.ref b521), .val (.double rr), .second, .val (.double ex), .second]) rfl ?_
      show Steps p.tables e below (T573.setTop (mkF m 263 #[.val (.int g1), .val (.int g2), .val (.int g3), .val (.int g4), .val (.int g5), .val (.int g6), .val (.int r1), .val (.int (3 : Int32)), .val (.long r2), .second, .val (.long r3), .second, .val (.ref b456), .val (.int (r3.toInt32)), .val (.int i487), .val (.int i492), .val (.ref b494), .val (.ref b521), .val (.double rr), .second, .val (.double ex), .second] [])) _
      refine XS.dload X573.here hx rfl (hb hby at_263) rfl ?_
      show Steps p.tables e below (T573.setTop (mkF m 265 #[.val (.int g1), .val (.int g2), .val (.int g3), .val (.int g4), .val (.int g5), .val (.int g6), .val (.int r1), .val (.int (3 : Int32)), .val (.long r2), .second, .val (.long r3), .second, .val (.ref b456), .val (.int (r3.toInt32)), .val (.int i487), .val (.int i492), .val (.ref b494), .val (.ref b521), .val (.double rr), .second, .val (.double ex), .second] [(.double rr)])) _
      refine XS.dload X573.here hx rfl (hb hby at_265) rfl ?_
      show Steps p.tables e below (T573.setTop (mkF m 267 #[.val (.int g1), .val (.int g2), .val (.int g3), .val (.int g4), .val (.int g5), .val (.int g6), .val (.int r1), .val (.int (3 : Int32)), .val (.long r2), .second, .val (.long r3), .second, .val (.ref b456), .val (.int (r3.toInt32)), .val (.int i487), .val (.int i492), .val (.ref b494), .val (.ref b521), .val (.double rr), .second, .val (.double ex), .second] [(.double ex), (.double rr)])) _
      refine XS.dcmpS X573.here hx rfl (hb hby at_267) rfl rfl ?_
      show Steps p.tables e below (T573.setTop (mkF m 268 #[.val (.int g1), .val (.int g2), .val (.int g3), .val (.int g4), .val (.int g5), .val (.int g6), .val (.int r1), .val (.int (3 : Int32)), .val (.long r2), .second, .val (.long r3), .second, .val (.ref b456), .val (.int (r3.toInt32)), .val (.int i487), .val (.int i492), .val (.ref b494), .val (.ref b521), .val (.double rr), .second, .val (.double ex), .second] [(.int (cmpValue (FP.dcmp rr ex) .l))])) _
      refine XS.ifNo X573.here hx rfl (hb hby at_268) rfl ((if0 _ _).trans (teq Q1').2) ?_
      show Steps p.tables e below (T573.setTop (mkF m 271 #[.val (.int g1), .val (.int g2), .val (.int g3), .val (.int g4), .val (.int g5), .val (.int g6), .val (.int r1), .val (.int (3 : Int32)), .val (.long r2), .second, .val (.long r3), .second, .val (.ref b456), .val (.int (r3.toInt32)), .val (.int i487), .val (.int i492), .val (.ref b494), .val (.ref b521), .val (.double rr), .second, .val (.double ex), .second] [])) _
      refine XS.dload X573.here hx rfl (hb hby at_271) rfl ?_
      show Steps p.tables e below (T573.setTop (mkF m 273 #[.val (.int g1), .val (.int g2), .val (.int g3), .val (.int g4), .val (.int g5), .val (.int g6), .val (.int r1), .val (.int (3 : Int32)), .val (.long r2), .second, .val (.long r3), .second, .val (.ref b456), .val (.int (r3.toInt32)), .val (.int i487), .val (.int i492), .val (.ref b494), .val (.ref b521), .val (.double rr), .second, .val (.double ex), .second] [(.double rr)])) _
      refine XS.dconst0 X573.here hx rfl (hb hby at_273) (v := (0 : UInt64)) rfl ?_
      show Steps p.tables e below (T573.setTop (mkF m 274 #[.val (.int g1), .val (.int g2), .val (.int g3), .val (.int g4), .val (.int g5), .val (.int g6), .val (.int r1), .val (.int (3 : Int32)), .val (.long r2), .second, .val (.long r3), .second, .val (.ref b456), .val (.int (r3.toInt32)), .val (.int i487), .val (.int i492), .val (.ref b494), .val (.ref b521), .val (.double rr), .second, .val (.double ex), .second] [(.double (0 : UInt64)), (.double rr)])) _
      refine XS.dcmpS X573.here hx rfl (hb hby at_274) rfl rfl ?_
      show Steps p.tables e below (T573.setTop (mkF m 275 #[.val (.int g1), .val (.int g2), .val (.int g3), .val (.int g4), .val (.int g5), .val (.int g6), .val (.int r1), .val (.int (3 : Int32)), .val (.long r2), .second, .val (.long r3), .second, .val (.ref b456), .val (.int (r3.toInt32)), .val (.int i487), .val (.int i492), .val (.ref b494), .val (.ref b521), .val (.double rr), .second, .val (.double ex), .second] [(.int (cmpValue (FP.dcmp rr (0 : UInt64)) .l))])) _
      refine XS.ifNo X573.here hx rfl (hb hby at_275) rfl ((if0 _ _).trans (tlt Q2).2.2.2) ?_
      show Steps p.tables e below (T573.setTop (mkF m 278 #[.val (.int g1), .val (.int g2), .val (.int g3), .val (.int g4), .val (.int g5), .val (.int g6), .val (.int r1), .val (.int (3 : Int32)), .val (.long r2), .second, .val (.long r3), .second, .val (.ref b456), .val (.int (r3.toInt32)), .val (.int i487), .val (.int i492), .val (.ref b494), .val (.ref b521), .val (.double rr), .second, .val (.double ex), .second] [])) _
      refine XS.dload X573.here hx rfl (hb hby at_278) rfl ?_
      show Steps p.tables e below (T573.setTop (mkF m 280 #[.val (.int g1), .val (.int g2), .val (.int g3), .val (.int g4), .val (.int g5), .val (.int g6), .val (.int r1), .val (.int (3 : Int32)), .val (.long r2), .second, .val (.long r3), .second, .val (.ref b456), .val (.int (r3.toInt32)), .val (.int i487), .val (.int i492), .val (.ref b494), .val (.ref b521), .val (.double rr), .second, .val (.double ex), .second] [(.double rr)])) _
      refine XS.dconst1 X573.here hx rfl (hb hby at_280) (v := (4607182418800017408 : UInt64)) rfl ?_
      show Steps p.tables e below (T573.setTop (mkF m 281 #[.val (.int g1), .val (.int g2), .val (.int g3), .val (.int g4), .val (.int g5), .val (.int g6), .val (.int r1), .val (.int (3 : Int32)), .val (.long r2), .second, .val (.long r3), .second, .val (.ref b456), .val (.int (r3.toInt32)), .val (.int i487), .val (.int i492), .val (.ref b494), .val (.ref b521), .val (.double rr), .second, .val (.double ex), .second] [(.double (4607182418800017408 : UInt64)), (.double rr)])) _
      refine XS.dcmpS X573.here hx rfl (hb hby at_281) rfl rfl ?_
      show Steps p.tables e below (T573.setTop (mkF m 282 #[.val (.int g1), .val (.int g2), .val (.int g3), .val (.int g4), .val (.int g5), .val (.int g6), .val (.int r1), .val (.int (3 : Int32)), .val (.long r2), .second, .val (.long r3), .second, .val (.ref b456), .val (.int (r3.toInt32)), .val (.int i487), .val (.int i492), .val (.ref b494), .val (.ref b521), .val (.double rr), .second, .val (.double ex), .second] [(.int (cmpValue (FP.dcmp rr (4607182418800017408 : UInt64)) .g))])) _
      refine XS.ifNo X573.here hx rfl (hb hby at_282) rfl ((if0 _ _).trans (flt Q3).2.2.1) ?_
      show Steps p.tables e below (T573.setTop (mkF m 285 #[.val (.int g1), .val (.int g2), .val (.int g3), .val (.int g4), .val (.int g5), .val (.int g6), .val (.int r1), .val (.int (3 : Int32)), .val (.long r2), .second, .val (.long r3), .second, .val (.ref b456), .val (.int (r3.toInt32)), .val (.int i487), .val (.int i492), .val (.ref b494), .val (.ref b521), .val (.double rr), .second, .val (.double ex), .second] [])) _
      refine XS.dload X573.here hx rfl (hb hby at_285) rfl ?_
      show Steps p.tables e below (T573.setTop (mkF m 287 #[.val (.int g1), .val (.int g2), .val (.int g3), .val (.int g4), .val (.int g5), .val (.int g6), .val (.int r1), .val (.int (3 : Int32)), .val (.long r2), .second, .val (.long r3), .second, .val (.ref b456), .val (.int (r3.toInt32)), .val (.int i487), .val (.int i492), .val (.ref b494), .val (.ref b521), .val (.double rr), .second, .val (.double ex), .second] [(.double rr)])) _
      refine XS.dconst1 X573.here hx rfl (hb hby at_287) (v := (4607182418800017408 : UInt64)) rfl ?_
      show Steps p.tables e below (T573.setTop (mkF m 288 #[.val (.int g1), .val (.int g2), .val (.int g3), .val (.int g4), .val (.int g5), .val (.int g6), .val (.int r1), .val (.int (3 : Int32)), .val (.long r2), .second, .val (.long r3), .second, .val (.ref b456), .val (.int (r3.toInt32)), .val (.int i487), .val (.int i492), .val (.ref b494), .val (.ref b521), .val (.double rr), .second, .val (.double ex), .second] [(.double (4607182418800017408 : UInt64)), (.double rr)])) _
      refine XS.dcmpS X573.here hx rfl (hb hby at_288) rfl rfl ?_
      exact k)
    obtain ⟨i578, hi578⟩ : ∃ z : Int32, z = (if (cmpValue (FP.dcmp rr (4607182418800017408 : UInt64)) .l) = (0 : Int32) then (1 : Int32) else (0 : Int32)) := ⟨_, rfl⟩
    have k579 : ∀ t, Steps p.tables e below (T573.setTop (mkF m 297 #[.val (.int g1), .val (.int g2), .val (.int g3), .val (.int g4), .val (.int g5), .val (.int g6), .val (.int r1), .val (.int (3 : Int32)), .val (.long r2), .second, .val (.long r3), .second, .val (.ref b456), .val (.int (r3.toInt32)), .val (.int i487), .val (.int i492), .val (.ref b494), .val (.ref b521), .val (.double rr), .second, .val (.double ex), .second] [(.int i578)])) t → Steps p.tables e below (s₁.setTop (entryFrame m #[(.int g1), (.int g2), (.int g3), (.int g4), (.int g5), (.int g6)] maxLocals)) t := fun t k => k576 t (by
      by_cases c577 : (cmpValue (FP.dcmp rr (4607182418800017408 : UInt64)) .l) = (0 : Int32)
      · rw [if_pos c577] at hi578
        show Steps p.tables e below (T573.setTop (mkF m 289 #[.val (.int g1), .val (.int g2), .val (.int g3), .val (.int g4), .val (.int g5), .val (.int g6), .val (.int r1), .val (.int (3 : Int32)), .val (.long r2), .second, .val (.long r3), .second, .val (.ref b456), .val (.int (r3.toInt32)), .val (.int i487), .val (.int i492), .val (.ref b494), .val (.ref b521), .val (.double rr), .second, .val (.double ex), .second] [(.int (cmpValue (FP.dcmp rr (4607182418800017408 : UInt64)) .l))])) _
        refine XS.ifNo X573.here hx rfl (hb hby at_289) rfl ((if0 _ _).trans (teq c577).2) ?_
        show Steps p.tables e below (T573.setTop (mkF m 292 #[.val (.int g1), .val (.int g2), .val (.int g3), .val (.int g4), .val (.int g5), .val (.int g6), .val (.int r1), .val (.int (3 : Int32)), .val (.long r2), .second, .val (.long r3), .second, .val (.ref b456), .val (.int (r3.toInt32)), .val (.int i487), .val (.int i492), .val (.ref b494), .val (.ref b521), .val (.double rr), .second, .val (.double ex), .second] [])) _
        refine XS.iconst X573.here hx rfl (hb hby at_292) ?_
        show Steps p.tables e below (T573.setTop (mkF m 293 #[.val (.int g1), .val (.int g2), .val (.int g3), .val (.int g4), .val (.int g5), .val (.int g6), .val (.int r1), .val (.int (3 : Int32)), .val (.long r2), .second, .val (.long r3), .second, .val (.ref b456), .val (.int (r3.toInt32)), .val (.int i487), .val (.int i492), .val (.ref b494), .val (.ref b521), .val (.double rr), .second, .val (.double ex), .second] [(.int (1 : Int32))])) _
        refine XS.goto X573.here hx rfl (pc0 := 293) (pc' := 297) rfl (hb hby at_293) (by decide) (by decide) ?_
        show Steps p.tables e below (T573.setTop (mkF m 297 #[.val (.int g1), .val (.int g2), .val (.int g3), .val (.int g4), .val (.int g5), .val (.int g6), .val (.int r1), .val (.int (3 : Int32)), .val (.long r2), .second, .val (.long r3), .second, .val (.ref b456), .val (.int (r3.toInt32)), .val (.int i487), .val (.int i492), .val (.ref b494), .val (.ref b521), .val (.double rr), .second, .val (.double ex), .second] [(.int (1 : Int32))])) _
        exact castTop (by rw [hi578]) k
      · rw [if_neg c577] at hi578
        show Steps p.tables e below (T573.setTop (mkF m 289 #[.val (.int g1), .val (.int g2), .val (.int g3), .val (.int g4), .val (.int g5), .val (.int g6), .val (.int r1), .val (.int (3 : Int32)), .val (.long r2), .second, .val (.long r3), .second, .val (.ref b456), .val (.int (r3.toInt32)), .val (.int i487), .val (.int i492), .val (.ref b494), .val (.ref b521), .val (.double rr), .second, .val (.double ex), .second] [(.int (cmpValue (FP.dcmp rr (4607182418800017408 : UInt64)) .l))])) _
        refine XS.ifYes X573.here hx rfl (pc0 := 289) (pc' := 296) rfl (hb hby at_289) rfl ((if0 _ _).trans (feq c577).2) (by decide) (by decide) ?_
        show Steps p.tables e below (T573.setTop (mkF m 296 #[.val (.int g1), .val (.int g2), .val (.int g3), .val (.int g4), .val (.int g5), .val (.int g6), .val (.int r1), .val (.int (3 : Int32)), .val (.long r2), .second, .val (.long r3), .second, .val (.ref b456), .val (.int (r3.toInt32)), .val (.int i487), .val (.int i492), .val (.ref b494), .val (.ref b521), .val (.double rr), .second, .val (.double ex), .second] [])) _
        refine XS.iconst X573.here hx rfl (hb hby at_296) ?_
        show Steps p.tables e below (T573.setTop (mkF m 297 #[.val (.int g1), .val (.int g2), .val (.int g3), .val (.int g4), .val (.int g5), .val (.int g6), .val (.int r1), .val (.int (3 : Int32)), .val (.long r2), .second, .val (.long r3), .second, .val (.ref b456), .val (.int (r3.toInt32)), .val (.int i487), .val (.int i492), .val (.ref b494), .val (.ref b521), .val (.double rr), .second, .val (.double ex), .second] [(.int (0 : Int32))])) _
        exact castTop (by rw [hi578]) k)
    have k580 : ∀ t, Steps p.tables e below (T573.setTop (mkF m 300 #[.val (.int g1), .val (.int g2), .val (.int g3), .val (.int g4), .val (.int g5), .val (.int g6), .val (.int r1), .val (.int (3 : Int32)), .val (.long r2), .second, .val (.long r3), .second, .val (.ref b456), .val (.int (r3.toInt32)), .val (.int i487), .val (.int i492), .val (.ref b494), .val (.ref b521), .val (.double rr), .second, .val (.double ex), .second] [(.int (1 : Int32)), (.int r1), (.int i578)])) t → Steps p.tables e below (s₁.setTop (entryFrame m #[(.int g1), (.int g2), (.int g3), (.int g4), (.int g5), (.int g6)] maxLocals)) t := fun t k => k579 t (by
      show Steps p.tables e below (T573.setTop (mkF m 297 #[.val (.int g1), .val (.int g2), .val (.int g3), .val (.int g4), .val (.int g5), .val (.int g6), .val (.int r1), .val (.int (3 : Int32)), .val (.long r2), .second, .val (.long r3), .second, .val (.ref b456), .val (.int (r3.toInt32)), .val (.int i487), .val (.int i492), .val (.ref b494), .val (.ref b521), .val (.double rr), .second, .val (.double ex), .second] [(.int i578)])) _
      refine XS.iload X573.here hx rfl (hb hby at_297) rfl ?_
      show Steps p.tables e below (T573.setTop (mkF m 299 #[.val (.int g1), .val (.int g2), .val (.int g3), .val (.int g4), .val (.int g5), .val (.int g6), .val (.int r1), .val (.int (3 : Int32)), .val (.long r2), .second, .val (.long r3), .second, .val (.ref b456), .val (.int (r3.toInt32)), .val (.int i487), .val (.int i492), .val (.ref b494), .val (.ref b521), .val (.double rr), .second, .val (.double ex), .second] [(.int r1), (.int i578)])) _
      refine XS.iconst X573.here hx rfl (hb hby at_299) ?_
      exact k)
    obtain ⟨i582, hi582⟩ : ∃ z : Int32, z = (if r1 = (1 : Int32) then (1 : Int32) else (0 : Int32)) := ⟨_, rfl⟩
    have k583 : ∀ t, Steps p.tables e below (T573.setTop (mkF m 308 #[.val (.int g1), .val (.int g2), .val (.int g3), .val (.int g4), .val (.int g5), .val (.int g6), .val (.int r1), .val (.int (3 : Int32)), .val (.long r2), .second, .val (.long r3), .second, .val (.ref b456), .val (.int (r3.toInt32)), .val (.int i487), .val (.int i492), .val (.ref b494), .val (.ref b521), .val (.double rr), .second, .val (.double ex), .second] [(.int i582), (.int i578)])) t → Steps p.tables e below (s₁.setTop (entryFrame m #[(.int g1), (.int g2), (.int g3), (.int g4), (.int g5), (.int g6)] maxLocals)) t := fun t k => k580 t (by
      by_cases c581 : r1 = (1 : Int32)
      · rw [if_pos c581] at hi582
        show Steps p.tables e below (T573.setTop (mkF m 300 #[.val (.int g1), .val (.int g2), .val (.int g3), .val (.int g4), .val (.int g5), .val (.int g6), .val (.int r1), .val (.int (3 : Int32)), .val (.long r2), .second, .val (.long r3), .second, .val (.ref b456), .val (.int (r3.toInt32)), .val (.int i487), .val (.int i492), .val (.ref b494), .val (.ref b521), .val (.double rr), .second, .val (.double ex), .second] [(.int (1 : Int32)), (.int r1), (.int i578)])) _
        refine XS.icmpNo X573.here hx rfl (hb hby at_300) rfl (teq c581).2 ?_
        show Steps p.tables e below (T573.setTop (mkF m 303 #[.val (.int g1), .val (.int g2), .val (.int g3), .val (.int g4), .val (.int g5), .val (.int g6), .val (.int r1), .val (.int (3 : Int32)), .val (.long r2), .second, .val (.long r3), .second, .val (.ref b456), .val (.int (r3.toInt32)), .val (.int i487), .val (.int i492), .val (.ref b494), .val (.ref b521), .val (.double rr), .second, .val (.double ex), .second] [(.int i578)])) _
        refine XS.iconst X573.here hx rfl (hb hby at_303) ?_
        show Steps p.tables e below (T573.setTop (mkF m 304 #[.val (.int g1), .val (.int g2), .val (.int g3), .val (.int g4), .val (.int g5), .val (.int g6), .val (.int r1), .val (.int (3 : Int32)), .val (.long r2), .second, .val (.long r3), .second, .val (.ref b456), .val (.int (r3.toInt32)), .val (.int i487), .val (.int i492), .val (.ref b494), .val (.ref b521), .val (.double rr), .second, .val (.double ex), .second] [(.int (1 : Int32)), (.int i578)])) _
        refine XS.goto X573.here hx rfl (pc0 := 304) (pc' := 308) rfl (hb hby at_304) (by decide) (by decide) ?_
        show Steps p.tables e below (T573.setTop (mkF m 308 #[.val (.int g1), .val (.int g2), .val (.int g3), .val (.int g4), .val (.int g5), .val (.int g6), .val (.int r1), .val (.int (3 : Int32)), .val (.long r2), .second, .val (.long r3), .second, .val (.ref b456), .val (.int (r3.toInt32)), .val (.int i487), .val (.int i492), .val (.ref b494), .val (.ref b521), .val (.double rr), .second, .val (.double ex), .second] [(.int (1 : Int32)), (.int i578)])) _
        exact castTop (by rw [hi582]) k
      · rw [if_neg c581] at hi582
        show Steps p.tables e below (T573.setTop (mkF m 300 #[.val (.int g1), .val (.int g2), .val (.int g3), .val (.int g4), .val (.int g5), .val (.int g6), .val (.int r1), .val (.int (3 : Int32)), .val (.long r2), .second, .val (.long r3), .second, .val (.ref b456), .val (.int (r3.toInt32)), .val (.int i487), .val (.int i492), .val (.ref b494), .val (.ref b521), .val (.double rr), .second, .val (.double ex), .second] [(.int (1 : Int32)), (.int r1), (.int i578)])) _
        refine XS.icmpYes X573.here hx rfl (pc0 := 300) (pc' := 307) rfl (hb hby at_300) rfl (feq c581).2 (by decide) (by decide) ?_
        show Steps p.tables e below (T573.setTop (mkF m 307 #[.val (.int g1), .val (.int g2), .val (.int g3), .val (.int g4), .val (.int g5), .val (.int g6), .val (.int r1), .val (.int (3 : Int32)), .val (.long r2), .second, .val (.long r3), .second, .val (.ref b456), .val (.int (r3.toInt32)), .val (.int i487), .val (.int i492), .val (.ref b494), .val (.ref b521), .val (.double rr), .second, .val (.double ex), .second] [(.int i578)])) _
        refine XS.iconst X573.here hx rfl (hb hby at_307) ?_
        show Steps p.tables e below (T573.setTop (mkF m 308 #[.val (.int g1), .val (.int g2), .val (.int g3), .val (.int g4), .val (.int g5), .val (.int g6), .val (.int r1), .val (.int (3 : Int32)), .val (.long r2), .second, .val (.long r3), .second, .val (.ref b456), .val (.int (r3.toInt32)), .val (.int i487), .val (.int i492), .val (.ref b494), .val (.ref b521), .val (.double rr), .second, .val (.double ex), .second] [(.int (0 : Int32)), (.int i578)])) _
        exact castTop (by rw [hi582]) k)
    have hii : i578 = i582 := by rw [hi578, hi582]; exact own_iff Q4
    have k584 : ∀ t, Steps p.tables e below (T573.setTop (mkF m 313 #[.val (.int g1), .val (.int g2), .val (.int g3), .val (.int g4), .val (.int g5), .val (.int g6), .val (.int r1), .val (.int (3 : Int32)), .val (.long r2), .second, .val (.long r3), .second, .val (.ref b456), .val (.int (r3.toInt32)), .val (.int i487), .val (.int i492), .val (.ref b494), .val (.ref b521), .val (.double rr), .second, .val (.double ex), .second] [(.ref b521)])) t → Steps p.tables e below (s₁.setTop (entryFrame m #[(.int g1), (.int g2), (.int g3), (.int g4), (.int g5), (.int g6)] maxLocals)) t := fun t k => k583 t (by
      show Steps p.tables e below (T573.setTop (mkF m 308 #[.val (.int g1), .val (.int g2), .val (.int g3), .val (.int g4), .val (.int g5), .val (.int g6), .val (.int r1), .val (.int (3 : Int32)), .val (.long r2), .second, .val (.long r3), .second, .val (.ref b456), .val (.int (r3.toInt32)), .val (.int i487), .val (.int i492), .val (.ref b494), .val (.ref b521), .val (.double rr), .second, .val (.double ex), .second] [(.int i582), (.int i578)])) _
      refine XS.icmpNo X573.here hx rfl (hb hby at_308) rfl (teq hii).2 ?_
      show Steps p.tables e below (T573.setTop (mkF m 311 #[.val (.int g1), .val (.int g2), .val (.int g3), .val (.int g4), .val (.int g5), .val (.int g6), .val (.int r1), .val (.int (3 : Int32)), .val (.long r2), .second, .val (.long r3), .second, .val (.ref b456), .val (.int (r3.toInt32)), .val (.int i487), .val (.int i492), .val (.ref b494), .val (.ref b521), .val (.double rr), .second, .val (.double ex), .second] [])) _
      refine XS.aload X573.here hx rfl (hb hby at_311) rfl rfl ?_
      exact k)
    obtain ⟨cq585, kq585, q585a, q585b, q585c⟩ := isOf hZ e573 G565a
    obtain ⟨_, _, ⟨T585, L585, k585, n585⟩, -, X585, ⟨Lc585, hQ585, l585, y585, z585⟩, st585⟩ := X573.virtualBack hx (y := (⟨"com/example/round2/round2/eval/TopicResult", "getRelevantRetrieved", "()I"⟩ : MethodName)) (z := (⟨"com/example/round2/round2/eval/TopicResult", "getRelevantRetrieved", "()I"⟩ : MethodName)) hown (mvT hZ (hw _ (List.mem_of_getElem? (i := 57) rfl))) (mvT hZ (hw _ (List.mem_of_getElem? (i := 58) rfl))) (notFace_of_selects (args := #[]) (mvT hZ (hw _ (List.mem_of_getElem? (i := 60) rfl)))) (mvT hZ (hw _ (List.mem_of_getElem? (i := 60) rfl))) (mvT hZ (hw _ (List.mem_of_getElem? (i := 59) rfl))) (by decide) (backOf (W := 0) (grr3 l Z a0 hw [] b521 b456 k456 r1 (r2.toInt32) (r3.toInt32) h565 n0 Z571 G565c F568) hZ (hw _ (List.mem_of_getElem? (i := 61) rfl)) (hw _ (List.mem_of_getElem? (i := 10) rfl)) (by decide) (by decide)) q585a q585c (g := (mkF m 313 #[.val (.int g1), .val (.int g2), .val (.int g3), .val (.int g4), .val (.int g5), .val (.int g6), .val (.int r1), .val (.int (3 : Int32)), .val (.long r2), .second, .val (.long r3), .second, .val (.ref b456), .val (.int (r3.toInt32)), .val (.int i487), .val (.int i492), .val (.ref b494), .val (.ref b521), .val (.double rr), .second, .val (.double ex), .second] [(.ref b521)])) rfl (by rw [hml]; rfl) (Steps.refl _) (argsL := []) (rest := []) (lenOf pd__28_29I rfl) rfl (by show 2 * 0 + _ ≤ _; exact Nat.le_of_eq rfl) (hb hby at_313) (fun _ _ => ⟨rfl, e573, (by decide : 5 + 0 ≤ _), (by decide : 15 + 0 ≤ _)⟩)
    dsimp only [Pt.U, Pt.locs, Pt.cells, Pt.slots] at X585 l585 y585 z585 st585 hQ585
    subst l585 y585 z585
    obtain ⟨rfl, N585q, e585⟩ := hQ585
    have N586 := Fr.app N574 N585q
    have k587 : ∀ t, Steps p.tables e below (T585.setTop (mkF m 316 #[.val (.int g1), .val (.int g2), .val (.int g3), .val (.int g4), .val (.int g5), .val (.int g6), .val (.int r1), .val (.int (3 : Int32)), .val (.long r2), .second, .val (.long r3), .second, .val (.ref b456), .val (.int (r3.toInt32)), .val (.int i487), .val (.int i492), .val (.ref b494), .val (.ref b521), .val (.double rr), .second, .val (.double ex), .second] [(.int (3 : Int32))])) t → Steps p.tables e below (s₁.setTop (entryFrame m #[(.int g1), (.int g2), (.int g3), (.int g4), (.int g5), (.int g6)] maxLocals)) t := fun t k => k584 t (st585.trans k)
    have k588 : ∀ t, Steps p.tables e below (T585.setTop (mkF m 326 #[.val (.int g1), .val (.int g2), .val (.int g3), .val (.int g4), .val (.int g5), .val (.int g6), .val (.int r1), .val (.int (3 : Int32)), .val (.long r2), .second, .val (.long r3), .second, .val (.ref b456), .val (.int (r3.toInt32)), .val (.int i487), .val (.int i492), .val (.ref b494), .val (.ref b521), .val (.double rr), .second, .val (.double ex), .second] [(.int (1 : Int32))])) t → Steps p.tables e below (s₁.setTop (entryFrame m #[(.int g1), (.int g2), (.int g3), (.int g4), (.int g5), (.int g6)] maxLocals)) t := fun t k => k587 t (by
      show Steps p.tables e below (T585.setTop (mkF m 316 #[.val (.int g1), .val (.int g2), .val (.int g3), .val (.int g4), .val (.int g5), .val (.int g6), .val (.int r1), .val (.int (3 : Int32)), .val (.long r2), .second, .val (.long r3), .second, .val (.ref b456), .val (.int (r3.toInt32)), .val (.int i487), .val (.int i492), .val (.ref b494), .val (.ref b521), .val (.double rr), .second, .val (.double ex), .second] [(.int (3 : Int32))])) _
      refine XS.iload X585.here hx rfl (hb hby at_316) rfl ?_
      show Steps p.tables e below (T585.setTop (mkF m 318 #[.val (.int g1), .val (.int g2), .val (.int g3), .val (.int g4), .val (.int g5), .val (.int g6), .val (.int r1), .val (.int (3 : Int32)), .val (.long r2), .second, .val (.long r3), .second, .val (.ref b456), .val (.int (r3.toInt32)), .val (.int i487), .val (.int i492), .val (.ref b494), .val (.ref b521), .val (.double rr), .second, .val (.double ex), .second] [(.int (3 : Int32)), (.int (3 : Int32))])) _
      refine XS.icmpNo X585.here hx rfl (hb hby at_318) rfl (teq (by decide)).2 ?_
      show Steps p.tables e below (T585.setTop (mkF m 321 #[.val (.int g1), .val (.int g2), .val (.int g3), .val (.int g4), .val (.int g5), .val (.int g6), .val (.int r1), .val (.int (3 : Int32)), .val (.long r2), .second, .val (.long r3), .second, .val (.ref b456), .val (.int (r3.toInt32)), .val (.int i487), .val (.int i492), .val (.ref b494), .val (.ref b521), .val (.double rr), .second, .val (.double ex), .second] [])) _
      refine XS.iconst X585.here hx rfl (hb hby at_321) ?_
      show Steps p.tables e below (T585.setTop (mkF m 322 #[.val (.int g1), .val (.int g2), .val (.int g3), .val (.int g4), .val (.int g5), .val (.int g6), .val (.int r1), .val (.int (3 : Int32)), .val (.long r2), .second, .val (.long r3), .second, .val (.ref b456), .val (.int (r3.toInt32)), .val (.int i487), .val (.int i492), .val (.ref b494), .val (.ref b521), .val (.double rr), .second, .val (.double ex), .second] [(.int (1 : Int32))])) _
      refine XS.goto X585.here hx rfl (pc0 := 322) (pc' := 326) rfl (hb hby at_322) (by decide) (by decide) ?_
      exact k)
    obtain ⟨fs, hr, hrun, hended, hW, hsame⟩ := X585.leave (v := some (.int (1 : Int32))) (fun h => by rw [Bd.returns] at h; cases h)
    refine ⟨_, _, k588 _ (retOut X585 hx (t := .boolean) Bd.returns rfl (Or.inl ⟨rfl, Or.inr (Or.inl rfl), _, rfl⟩) (hb hby at_326) hr), hrun, hended, _, _, rfl, ?_, ⟨_, rfl⟩, hW, hsame.mono (by decide) (by decide)⟩
    show Q_rm0 Z g1 g2 g3 g4 g5 g6 cs h0 n0 _ T585.heap _
    rw [e585]
    exact ⟨rfl, N586⟩
set_option maxRecDepth 65536 in
set_option maxHeartbeats 40000000 in
theorem comes_1 {Post : Tables → Env → Array Value → State → Outcome → State → Prop} (hpost : ∀ tb e args s v u, (limb_1_1.after args s (.returned v) u = true ∧ limb_1_2.after args s (.returned v) u = true ∧ True) → FrameEnd s (.returned v) u (Jvm.fieldLocs frame_1_writes args s ++ Jvm.arrayLocs frame_1_arrays args s ++ Jvm.staticLocs frame_1_statics s) 24 128 → Post tb e args s (.returned v) u) :
    ArmFor flags0 classFile x code maxLocals ret World_1 tables_1 room_1 Calls_1 rest_1 Pre_1 Post := by
  intro l hfl _ _ p e ha hc hk s m args below hf hA hF happ hP
  obtain ⟨hcalls, hrest, hpre⟩ := hP
  obtain ⟨-, -, -, hnamed, -, -, -, hat⟩ := (Spec.applies_iff hf).mp happ
  obtain ⟨hg, hn⟩ := and_e (Cond.before_iff.mp (show (Jvm.Cond.and given_1 narrow_1).before args s = true from hpre))
  obtain ⟨g1, g2⟩ := and_e hg
  obtain ⟨g3, g4⟩ := and_e g2
  obtain ⟨g5, g6⟩ := and_e g4
  obtain ⟨g7, g8⟩ := and_e g6
  obtain ⟨g9, g10⟩ := and_e g8
  obtain ⟨g11, g12⟩ := and_e g10
  obtain ⟨w0, w1, w2, w3, w4, w5, rfl⟩ : ∃ w0 w1 w2 w3 w4 w5 : Value, args = #[w0, w1, w2, w3, w4, w5] := by
    have hs : args.size = 6 := by simpa [Cond.value, given_1] using g1
    obtain ⟨L⟩ := args
    match L, hs with
    | [w0, w1, w2, w3, w4, w5], _ => exact ⟨w0, w1, w2, w3, w4, w5, rfl⟩
  have hw := fun d (hd : d ∈ tables_1) => atoms_spec (ws := Jvm.Cond.code x code maxLocals ret :: tables_1) hat d (List.mem_cons_of_mem _ hd)
  obtain ⟨i0, ei0⟩ := is_v g3
  obtain rfl : w0 = (.int i0) := Option.some.inj ei0
  obtain ⟨i1, ei1⟩ := is_v g5
  obtain rfl : w1 = (.int i1) := Option.some.inj ei1
  obtain ⟨i2, ei2⟩ := is_v g7
  obtain rfl : w2 = (.int i2) := Option.some.inj ei2
  obtain ⟨i3, ei3⟩ := is_v g9
  obtain rfl : w3 = (.int i3) := Option.some.inj ei3
  obtain ⟨i4, ei4⟩ := is_v g11
  obtain rfl : w4 = (.int i4) := Option.some.inj ei4
  obtain ⟨i5, ei5⟩ := is_v g12
  obtain rfl : w5 = (.int i5) := Option.some.inj ei5
  obtain ⟨hsets, hown0⟩ := atoms_of _ (rest_1_c_eq ▸ (show rest_1_c.before _ s = true from hrest))
  have nz := not_v (Cond.before_iff.mp (hsets _ (List.mem_of_getElem? (i := 2) rfl)))
  obtain ⟨cs, ecs⟩ := is_v (Cond.before_iff.mp (hsets _ (List.mem_of_getElem? (i := 1) rfl)))
  have Scs : Sta s s.heap "java/lang/String" "COMPACT_STRINGS" "Z" (.int cs) := Sta.start ecs (Or.inl (hsets _ (List.mem_of_getElem? (i := 0) rfl)))
  have hcs : ¬ (cs = (0 : Int32)) := gotF (Cond.eq_ints ecs (Term.int_eval (0))) nz
  obtain ⟨n, o, h1, h2, h3, _, L, rfl, ⟨rfl, N⟩, hq⟩ := rm0 l s _ hw tables_1 i0 i1 i2 i3 i4 i5 cs s.heap s.heap.size (Nat.le_refl _) Scs hcs p e ha hc hk s m _ below hf ((Spec.applies_iff_loose hf).mp happ).1 ⟨rfl, State.Warmed39.refl s, rfl⟩ trivial
  refine ⟨n, _, h1, h2, h3, hpost _ _ _ _ _ _ ⟨Cond.after_iff.mpr rfl, Cond.after_iff.mpr (eq_i res_at (Term.int_eval (1)) rfl), trivial⟩ ⟨hq.1, hq.2.1, (hq.2.2.sift fun y hy => Or.inr (N y hy)).mono (by decide) (by decide)⟩⟩
theorem main_1_1 : Claimed_1_1 := comes_1 fun _ _ _ _ _ _ h hF => ⟨h.1, hF⟩
theorem main_1_2 : Claimed_1_2 := comes_1 fun _ _ _ _ _ _ h hF => ⟨h.2.1, hF⟩
end Jvm.Pilot.@@N@@
namespace Jvm.Pilot.@@N@@
open Jvm Jvm.ClassFile Sem Op Lib Jvm.Free Jvm.Stand Jvm.Pilot.@@N@@.Jvm.D
/-! MADE BY PROGRAM (witnessworld.py) out of the Statement's table words and the real class files: 21 classes; the members and pool entries that the words name. The judged class is class 1, her method 1. -/
namespace start1
open Jvm.ClassFile
def u (s : String) : CpInfo := .utf8 (stringToUtf16 s)
/-- a pool by its gaps: so many unusable entries, then the entry; so many at the end -/
def gap : Nat → List CpInfo → List CpInfo
  | 0, r => r
  | n + 1, r => .unusable :: gap n r
def poolList (es : List (Nat × CpInfo)) (last : Nat) : List CpInfo := es.foldr (fun e r => gap e.1 (e.2 :: r)) (gap last [])
def pool (es : List (Nat × CpInfo)) (last : Nat) : Array CpInfo := ⟨poolList es last⟩
def fileOf (pool : Array CpInfo) (this : Nat) (attrs : Array Attribute := #[]) (ms : Array MethodInfo := #[]) (fl : Nat := 33) (sup : Nat := 0) (ifs : Array Nat := #[]) (fds : Array FieldInfo := #[]) : ClassFile where
  minorVersion := 0
  majorVersion := 65
  constantPool := pool
  accessFlags := fl
  thisClass := this
  superClass := sup
  interfaces := ifs
  fields := fds
  methods := ms
  attributes := attrs
def plain (name : String) (sup : Option ClassId) : Class where
  name := name
  kind := .ordinary
  loader := none
  accessFlags := 33
  super := sup
  interfaces := #[]
  cf := none
  fields := #[]
  methods := #[]
  instanceTypes := #[]
  staticTypes := #[]
  resolved := #[]
  callSites := []
  init := .initialized
  statics := none
  mirror := none

def pool0 : Array CpInfo := pool [(5, u "<init>"), (0, u "()V"), (1, .class_ 10), (1, u "java/lang/Object")] 113

def k0c0 : Code := { maxStack := 0, maxLocals := 1, code := object_method_1_code, exceptionTable := #[], attributes := #[] }
def k0m0 : Method := { name := "<init>", desc := "()V", sig := { parameters := [], returnType := none }, accessFlags := 1, code := some k0c0 }
/-- java/lang/Object -/
def k0 : Class := { plain "java/lang/Object" none with
  accessFlags := 33
  interfaces := #[]
  cf := some (fileOf pool0 8 #[] #[{ accessFlags := 1, nameIndex := 5, descriptorIndex := 6, attributes := #[] }] 33 0 #[] #[])
  fields := #[]
  methods := #[k0m0]
  instanceTypes := #[]
  staticTypes := #[]
  resolved := Array.replicate 124 none
  statics := none }

def pool1 : Array CpInfo := pool [(2, .class_ 4), (1, u "java/lang/Object"), (0, u "<init>"), (0, u "()V"), (0, .integer 2147483647), (2, .integer 2147482623), (0, .methodref 12 13), (0, .class_ 14), (0, .nameAndType 15 16), (0, u "java/lang/Math"), (0, u "max"), (0, u "(II)I"), (0, .class_ 18), (0, u "com/example/round2/round2/eval/TopicResult"), (0, .class_ 20), (0, u "java/lang/String"), (0, .methodref 19 22), (0, .nameAndType 5 23), (0, u "([C)V"), (0, .methodref 17 25), (0, .nameAndType 5 26), (0, u "(Ljava/lang/String;II[I)V"), (0, .methodref 17 28), (0, .nameAndType 29 30), (0, u "reciprocalRank"), (0, u "()D"), (0, .methodref 17 32), (0, .nameAndType 33 34), (0, u "getRelevantRetrieved"), (0, u "()I"), (0, .class_ 36), (0, u "com/example/round2/round2/eval/TopicResultReciprocalRankPinLaw"), (2, u "law"), (0, u "(IIIIII)Z")] 7

def k1m0 : Method := { name := "<init>", desc := "()V", sig := { parameters := [], returnType := none }, accessFlags := 1, code := none }
def k1c1 : Code := { maxStack := 6, maxLocals := 22, code := code, exceptionTable := #[], attributes := #[] }
def k1m1 : Method := { name := "law", desc := "(IIIIII)Z", sig := { parameters := [.int, .int, .int, .int, .int, .int], returnType := some .boolean }, accessFlags := 9, code := some k1c1 }
/-- com/example/round2/round2/eval/TopicResultReciprocalRankPinLaw -/
def k1 : Class := { plain "com/example/round2/round2/eval/TopicResultReciprocalRankPinLaw" (some 0) with
  accessFlags := 49
  interfaces := #[]
  cf := some (fileOf pool1 35 #[] #[{ accessFlags := 1, nameIndex := 5, descriptorIndex := 6, attributes := #[] }, { accessFlags := 9, nameIndex := 39, descriptorIndex := 40, attributes := #[] }] 49 2 #[] #[])
  fields := #[]
  methods := #[k1m0, k1m1]
  instanceTypes := #[]
  staticTypes := #[]
  resolved := Array.replicate 48 none
  statics := none }

def pool2 : Array CpInfo := pool [(1, .class_ 2), (0, u "java/lang/Math"), (1, .class_ 6), (1, u "java/lang/Object"), (0, u "<init>"), (0, u "()V"), (89, .class_ 100), (1, u "java/lang/Math$RandomNumberGeneratorHolder"), (71, u "negativeZeroFloatBits"), (0, u "J"), (2, u "negativeZeroDoubleBits"), (21, u "max"), (46, u "$assertionsDisabled"), (0, u "Z"), (88, u "(II)I"), (2, u "twoToTheDoubleScaleDown"), (0, u "D"), (4, u "twoToTheDoubleScaleUp"), (9, u "E"), (3, u "PI"), (2, u "TAU"), (2, u "DEGREES_TO_RADIANS"), (0, u "RADIANS_TO_DEGREES")] 94

def k2m0 : Method := { name := "<init>", desc := "()V", sig := { parameters := [], returnType := none }, accessFlags := 2, code := none }
def k2c1 : Code := { maxStack := 2, maxLocals := 2, code := jdk_29_method_65_code, exceptionTable := #[], attributes := #[] }
def k2m1 : Method := { name := "max", desc := "(II)I", sig := { parameters := [.int, .int], returnType := some .int }, accessFlags := 9, code := some k2c1 }
/-- java/lang/Math -/
def k2 : Class := { plain "java/lang/Math" (some 0) with
  accessFlags := 49
  interfaces := #[]
  cf := some (fileOf pool2 1 #[.nestMembers #[98]] #[{ accessFlags := 2, nameIndex := 7, descriptorIndex := 8, attributes := #[] }, { accessFlags := 9, nameIndex := 198, descriptorIndex := 335, attributes := #[] }] 49 4 #[] #[{ accessFlags := 25, nameIndex := 354, descriptorIndex := 339, attributes := #[] }, { accessFlags := 25, nameIndex := 358, descriptorIndex := 339, attributes := #[] }, { accessFlags := 25, nameIndex := 361, descriptorIndex := 339, attributes := #[] }, { accessFlags := 26, nameIndex := 364, descriptorIndex := 339, attributes := #[] }, { accessFlags := 26, nameIndex := 365, descriptorIndex := 339, attributes := #[] }, { accessFlags := 26, nameIndex := 172, descriptorIndex := 173, attributes := #[] }, { accessFlags := 26, nameIndex := 176, descriptorIndex := 173, attributes := #[] }, { accessFlags := 8, nameIndex := 344, descriptorIndex := 339, attributes := #[] }, { accessFlags := 8, nameIndex := 338, descriptorIndex := 339, attributes := #[] }, { accessFlags := 4120, nameIndex := 245, descriptorIndex := 246, attributes := #[] }])
  fields := #[{ name := "E", type := .double, accessFlags := 25, slot := 0, constantValue := 0 }, { name := "PI", type := .double, accessFlags := 25, slot := 1, constantValue := 0 }, { name := "TAU", type := .double, accessFlags := 25, slot := 2, constantValue := 0 }, { name := "DEGREES_TO_RADIANS", type := .double, accessFlags := 26, slot := 3, constantValue := 0 }, { name := "RADIANS_TO_DEGREES", type := .double, accessFlags := 26, slot := 4, constantValue := 0 }, { name := "negativeZeroFloatBits", type := .long, accessFlags := 26, slot := 5, constantValue := 0 }, { name := "negativeZeroDoubleBits", type := .long, accessFlags := 26, slot := 6, constantValue := 0 }, { name := "twoToTheDoubleScaleUp", type := .double, accessFlags := 8, slot := 7, constantValue := 0 }, { name := "twoToTheDoubleScaleDown", type := .double, accessFlags := 8, slot := 8, constantValue := 0 }, { name := "$assertionsDisabled", type := .boolean, accessFlags := 4120, slot := 9, constantValue := 0 }]
  methods := #[k2m0, k2m1]
  instanceTypes := #[]
  staticTypes := #[.double, .double, .double, .double, .double, .long, .long, .double, .double, .boolean]
  resolved := Array.replicate 460 none
  statics := none }

def pool3 : Array CpInfo := pool [(1, .methodref 2 3), (0, .class_ 4), (0, .nameAndType 5 6), (0, u "java/lang/Object"), (0, u "<init>"), (0, u "()V"), (0, .fieldref 8 9), (0, .class_ 10), (0, .nameAndType 11 12), (0, u "com/example/round2/round2/eval/TopicResult"), (0, u "topic"), (0, u "Ljava/lang/String;"), (0, .fieldref 8 14), (0, .nameAndType 15 16), (0, u "retrieved"), (0, u "I"), (0, .fieldref 8 18), (0, .nameAndType 19 16), (0, u "relevant"), (0, .fieldref 8 21), (0, .nameAndType 22 23), (0, u "relevantRanks"), (0, u "[I"), (9, u "(Ljava/lang/String;II[I)V"), (5, u "()I"), (1, u "getRelevantRetrieved"), (1, u "()D"), (1, u "reciprocalRank")] 19

def k3c0 : Code := { maxStack := 2, maxLocals := 5, code := prog_10_method_1_code, exceptionTable := #[], attributes := #[] }
def k3m0 : Method := { name := "<init>", desc := "(Ljava/lang/String;II[I)V", sig := { parameters := [(.object "java/lang/String"), .int, .int, (.array .int)], returnType := none }, accessFlags := 0, code := some k3c0 }
def k3c1 : Code := { maxStack := 1, maxLocals := 1, code := prog_10_method_5_code, exceptionTable := #[], attributes := #[] }
def k3m1 : Method := { name := "getRelevantRetrieved", desc := "()I", sig := { parameters := [], returnType := some .int }, accessFlags := 1, code := some k3c1 }
def k3c2 : Code := { maxStack := 4, maxLocals := 1, code := prog_10_method_7_code, exceptionTable := #[], attributes := #[] }
def k3m2 : Method := { name := "reciprocalRank", desc := "()D", sig := { parameters := [], returnType := some .double }, accessFlags := 1, code := some k3c2 }
/-- com/example/round2/round2/eval/TopicResult -/
def k3 : Class := { plain "com/example/round2/round2/eval/TopicResult" (some 0) with
  accessFlags := 49
  interfaces := #[]
  cf := some (fileOf pool3 8 #[] #[{ accessFlags := 0, nameIndex := 5, descriptorIndex := 33, attributes := #[] }, { accessFlags := 1, nameIndex := 41, descriptorIndex := 39, attributes := #[] }, { accessFlags := 1, nameIndex := 45, descriptorIndex := 43, attributes := #[] }] 49 2 #[] #[{ accessFlags := 18, nameIndex := 11, descriptorIndex := 12, attributes := #[] }, { accessFlags := 18, nameIndex := 15, descriptorIndex := 16, attributes := #[] }, { accessFlags := 18, nameIndex := 19, descriptorIndex := 16, attributes := #[] }, { accessFlags := 18, nameIndex := 22, descriptorIndex := 23, attributes := #[] }])
  fields := #[{ name := "topic", type := (.object "java/lang/String"), accessFlags := 18, slot := 0, constantValue := 0 }, { name := "retrieved", type := .int, accessFlags := 18, slot := 1, constantValue := 0 }, { name := "relevant", type := .int, accessFlags := 18, slot := 2, constantValue := 0 }, { name := "relevantRanks", type := (.array .int), accessFlags := 18, slot := 3, constantValue := 0 }]
  methods := #[k3m0, k3m1, k3m2]
  instanceTypes := #[(.object "java/lang/String"), .int, .int, (.array .int)]
  staticTypes := #[]
  resolved := Array.replicate 65 none
  statics := none }

def pool4 : Array CpInfo := pool [(1, .class_ 2), (0, u "java/io/Serializable"), (0, .class_ 4), (0, u "java/lang/Object")] 2

/-- java/io/Serializable -/
def k4 : Class := { plain "java/io/Serializable" (some 0) with
  accessFlags := 1537
  interfaces := #[]
  cf := some (fileOf pool4 1 #[] #[] 1537 3 #[] #[])
  fields := #[]
  methods := #[]
  instanceTypes := #[]
  staticTypes := #[]
  resolved := Array.replicate 7 none
  statics := none }

def pool5 : Array CpInfo := pool [(1, .class_ 2), (0, u "java/lang/Comparable"), (0, .class_ 4), (0, u "java/lang/Object")] 7

/-- java/lang/Comparable -/
def k5 : Class := { plain "java/lang/Comparable" (some 0) with
  accessFlags := 1537
  interfaces := #[]
  cf := some (fileOf pool5 1 #[] #[] 1537 3 #[] #[])
  fields := #[]
  methods := #[]
  instanceTypes := #[]
  staticTypes := #[]
  resolved := Array.replicate 12 none
  statics := none }

def pool6 : Array CpInfo := pool [(2, .class_ 4), (1, u "java/lang/CharSequence"), (42, .class_ 48), (0, u "java/lang/CharSequence$1CodePointIterator"), (10, .class_ 60), (0, u "java/lang/CharSequence$1CharIterator"), (5, .class_ 67), (0, u "java/lang/Object")] 63

/-- java/lang/CharSequence -/
def k6 : Class := { plain "java/lang/CharSequence" (some 0) with
  accessFlags := 1537
  interfaces := #[]
  cf := some (fileOf pool6 2 #[.nestMembers #[47, 59]] #[] 1537 66 #[] #[])
  fields := #[]
  methods := #[]
  instanceTypes := #[]
  staticTypes := #[]
  resolved := Array.replicate 131 none
  statics := none }

def pool7 : Array CpInfo := pool [(1, .class_ 2), (0, u "java/lang/constant/Constable"), (0, .class_ 4), (0, u "java/lang/Object")] 6

/-- java/lang/constant/Constable -/
def k7 : Class := { plain "java/lang/constant/Constable" (some 0) with
  accessFlags := 1537
  interfaces := #[]
  cf := some (fileOf pool7 1 #[] #[] 1537 3 #[] #[])
  fields := #[]
  methods := #[]
  instanceTypes := #[]
  staticTypes := #[]
  resolved := Array.replicate 11 none
  statics := none }

def pool8 : Array CpInfo := pool [(1, .class_ 2), (0, u "java/lang/constant/ConstantDesc"), (0, .class_ 4), (0, u "java/lang/Object")] 32

/-- java/lang/constant/ConstantDesc -/
def k8 : Class := { plain "java/lang/constant/ConstantDesc" (some 0) with
  accessFlags := 1537
  interfaces := #[]
  cf := some (fileOf pool8 1 #[] #[] 1537 3 #[] #[])
  fields := #[]
  methods := #[]
  instanceTypes := #[]
  staticTypes := #[]
  resolved := Array.replicate 37 none
  statics := none }

def pool9 : Array CpInfo := pool [(1, .methodref 2 3), (0, .class_ 4), (0, .nameAndType 5 6), (0, u "java/lang/Object"), (0, u "<init>"), (0, u "()V"), (2, .fieldref 10 11), (0, .class_ 12), (0, .nameAndType 13 14), (0, u "java/lang/String"), (0, u "value"), (0, u "[B"), (0, .fieldref 10 16), (0, .nameAndType 17 18), (0, u "coder"), (0, u "B"), (2, u "hash"), (0, u "I"), (2, u "hashIsZero"), (0, u "Z"), (0, .methodref 10 28), (0, .nameAndType 5 29), (0, u "([CIILjava/lang/Void;)V"), (8, .fieldref 10 39), (0, .nameAndType 40 26), (0, u "COMPACT_STRINGS"), (1, .class_ 44), (1, u "java/lang/StringUTF16"), (0, u "compress"), (1, .methodref 42 48), (0, .nameAndType 49 50), (0, u "coderFromArrayLen"), (0, u "([BI)B"), (126, .methodref 42 178), (0, .nameAndType 45 179), (0, u "([CII)[B"), (395, .class_ 576), (0, u "java/lang/CharSequence"), (22, u "CASE_INSENSITIVE_ORDER"), (0, u "Ljava/util/Comparator;"), (409, u "([C)V"), (90, u "serialPersistentFields"), (0, u "[Ljava/io/ObjectStreamField;"), (0, .class_ 1104), (0, u "java/lang/String$CaseInsensitiveComparator"), (1, .class_ 1107), (0, u "java/io/Serializable"), (0, .class_ 1109), (0, u "java/lang/Comparable"), (0, .class_ 1111), (0, u "java/lang/constant/Constable"), (0, .class_ 1113), (0, u "java/lang/constant/ConstantDesc"), (2, u "serialVersionUID"), (0, u "J"), (3, u "REPL"), (0, u "C"), (2, u "LATIN1"), (1, u "UTF16")] 323

def k9m0 : Method := { name := "<init>", desc := "()V", sig := { parameters := [], returnType := none }, accessFlags := 1, code := none }
def k9c1 : Code := { maxStack := 5, maxLocals := 2, code := jdk_42_method_3_code, exceptionTable := #[], attributes := #[] }
def k9m1 : Method := { name := "<init>", desc := "([C)V", sig := { parameters := [(.array .char)], returnType := none }, accessFlags := 1, code := some k9c1 }
def k9c2 : Code := { maxStack := 4, maxLocals := 6, code := jdk_42_method_149_code, exceptionTable := #[], attributes := #[] }
def k9m2 : Method := { name := "<init>", desc := "([CIILjava/lang/Void;)V", sig := { parameters := [(.array .char), .int, .int, (.object "java/lang/Void")], returnType := none }, accessFlags := 2, code := some k9c2 }
/-- java/lang/String -/
def k9 : Class := { plain "java/lang/String" (some 0) with
  accessFlags := 49
  interfaces := #[4, 5, 6, 7, 8]
  cf := some (fileOf pool9 10 #[.nestMembers #[1103]] #[{ accessFlags := 1, nameIndex := 5, descriptorIndex := 6, attributes := #[] }, { accessFlags := 1, nameIndex := 5, descriptorIndex := 1010, attributes := #[] }, { accessFlags := 2, nameIndex := 5, descriptorIndex := 29, attributes := #[] }] 49 2 #[1106, 1108, 575, 1110, 1112] #[{ accessFlags := 18, nameIndex := 13, descriptorIndex := 14, attributes := #[] }, { accessFlags := 18, nameIndex := 17, descriptorIndex := 18, attributes := #[] }, { accessFlags := 2, nameIndex := 21, descriptorIndex := 22, attributes := #[] }, { accessFlags := 2, nameIndex := 25, descriptorIndex := 26, attributes := #[] }, { accessFlags := 26, nameIndex := 1116, descriptorIndex := 1117, attributes := #[] }, { accessFlags := 24, nameIndex := 40, descriptorIndex := 26, attributes := #[] }, { accessFlags := 26, nameIndex := 1101, descriptorIndex := 1102, attributes := #[] }, { accessFlags := 26, nameIndex := 1121, descriptorIndex := 1122, attributes := #[] }, { accessFlags := 25, nameIndex := 599, descriptorIndex := 600, attributes := #[] }, { accessFlags := 24, nameIndex := 1125, descriptorIndex := 18, attributes := #[] }, { accessFlags := 24, nameIndex := 1127, descriptorIndex := 18, attributes := #[] }])
  fields := #[{ name := "value", type := (.array .byte), accessFlags := 18, slot := 0, constantValue := 0 }, { name := "coder", type := .byte, accessFlags := 18, slot := 1, constantValue := 0 }, { name := "hash", type := .int, accessFlags := 2, slot := 2, constantValue := 0 }, { name := "hashIsZero", type := .boolean, accessFlags := 2, slot := 3, constantValue := 0 }, { name := "serialVersionUID", type := .long, accessFlags := 26, slot := 0, constantValue := 0 }, { name := "COMPACT_STRINGS", type := .boolean, accessFlags := 24, slot := 1, constantValue := 0 }, { name := "serialPersistentFields", type := (.array (.object "java/io/ObjectStreamField")), accessFlags := 26, slot := 2, constantValue := 0 }, { name := "REPL", type := .char, accessFlags := 26, slot := 3, constantValue := 0 }, { name := "CASE_INSENSITIVE_ORDER", type := (.object "java/util/Comparator"), accessFlags := 25, slot := 4, constantValue := 0 }, { name := "LATIN1", type := .byte, accessFlags := 24, slot := 5, constantValue := 0 }, { name := "UTF16", type := .byte, accessFlags := 24, slot := 6, constantValue := 0 }]
  methods := #[k9m0, k9m1, k9m2]
  instanceTypes := #[(.array .byte), .byte, .int, .boolean]
  staticTypes := #[.long, .boolean, (.array (.object "java/io/ObjectStreamField")), .char, (.object "java/util/Comparator"), .byte, .byte]
  resolved := Array.replicate 1451 none
  statics := some 0 }

def pool10 : Array CpInfo := pool [(6, .class_ 8), (1, u "java/lang/Object"), (0, u "<init>"), (0, u "()V"), (1, .class_ 14), (1, u "java/lang/StringUTF16"), (31, u "$assertionsDisabled"), (0, u "Z"), (13, u "HI_BYTE_SHIFT"), (0, u "I"), (2, u "LO_BYTE_SHIFT"), (49, .methodref 12 116), (0, .nameAndType 117 118), (0, u "compress"), (0, u "([CI[BII)I"), (3, u "([CII)[B"), (138, u "coderFromArrayLen"), (0, u "([BI)B"), (106, .class_ 371), (1, u "java/lang/StringUTF16$LinesSpliterator"), (58, u "MAX_LENGTH"), (196, .class_ 628), (0, u "java/lang/StringUTF16$CodePointsSpliterator"), (0, .class_ 630), (0, u "java/lang/StringUTF16$CharsSpliterator")] 4

def k10m0 : Method := { name := "<init>", desc := "()V", sig := { parameters := [], returnType := none }, accessFlags := 0, code := none }
def k10c1 : Code := { maxStack := 2, maxLocals := 2, code := jdk_52_method_15_code, exceptionTable := #[], attributes := #[] }
def k10m1 : Method := { name := "coderFromArrayLen", desc := "([BI)B", sig := { parameters := [(.array .byte), .int], returnType := some .byte }, accessFlags := 8, code := some k10c1 }
def k10c2 : Code := { maxStack := 5, maxLocals := 6, code := jdk_52_method_16_code, exceptionTable := #[], attributes := #[] }
def k10m2 : Method := { name := "compress", desc := "([CII)[B", sig := { parameters := [(.array .char), .int, .int], returnType := some (.array .byte) }, accessFlags := 9, code := some k10c2 }
def k10c3 : Code := { maxStack := 3, maxLocals := 7, code := jdk_52_method_21_code, exceptionTable := #[], attributes := #[] }
def k10m3 : Method := { name := "compress", desc := "([CI[BII)I", sig := { parameters := [(.array .char), .int, (.array .byte), .int, .int], returnType := some .int }, accessFlags := 9, code := some k10c3 }
/-- java/lang/StringUTF16 -/
def k10 : Class := { plain "java/lang/StringUTF16" (some 0) with
  accessFlags := 48
  interfaces := #[]
  cf := some (fileOf pool10 12 #[.nestMembers #[627, 629, 369]] #[{ accessFlags := 0, nameIndex := 9, descriptorIndex := 10, attributes := #[] }, { accessFlags := 8, nameIndex := 261, descriptorIndex := 262, attributes := #[] }, { accessFlags := 9, nameIndex := 117, descriptorIndex := 122, attributes := #[] }, { accessFlags := 9, nameIndex := 117, descriptorIndex := 118, attributes := #[] }] 48 6 #[] #[{ accessFlags := 26, nameIndex := 61, descriptorIndex := 62, attributes := #[] }, { accessFlags := 26, nameIndex := 65, descriptorIndex := 62, attributes := #[] }, { accessFlags := 24, nameIndex := 430, descriptorIndex := 62, attributes := #[] }, { accessFlags := 4120, nameIndex := 46, descriptorIndex := 47, attributes := #[] }])
  fields := #[{ name := "HI_BYTE_SHIFT", type := .int, accessFlags := 26, slot := 0, constantValue := 0 }, { name := "LO_BYTE_SHIFT", type := .int, accessFlags := 26, slot := 1, constantValue := 0 }, { name := "MAX_LENGTH", type := .int, accessFlags := 24, slot := 2, constantValue := 0 }, { name := "$assertionsDisabled", type := .boolean, accessFlags := 4120, slot := 3, constantValue := 0 }]
  methods := #[k10m0, k10m1, k10m2, k10m3]
  instanceTypes := #[]
  staticTypes := #[.int, .int, .int, .boolean]
  resolved := Array.replicate 635 none
  statics := none }

def pool11 : Array CpInfo := pool [(4, .class_ 6), (1, u "java/lang/Object"), (0, u "<init>"), (0, u "()V"), (5, .class_ 16), (1, u "java/lang/StringLatin1"), (104, u "$assertionsDisabled"), (0, u "Z"), (98, .class_ 223), (1, u "java/lang/StringLatin1$LinesSpliterator"), (166, .class_ 391), (0, u "java/lang/StringLatin1$CharsSpliterator")] 3

def k11m0 : Method := { name := "<init>", desc := "()V", sig := { parameters := [], returnType := none }, accessFlags := 0, code := none }
/-- java/lang/StringLatin1 -/
def k11 : Class := { plain "java/lang/StringLatin1" (some 0) with
  accessFlags := 48
  interfaces := #[]
  cf := some (fileOf pool11 14 #[.nestMembers #[390, 221]] #[{ accessFlags := 0, nameIndex := 7, descriptorIndex := 8, attributes := #[] }] 48 4 #[] #[{ accessFlags := 4120, nameIndex := 121, descriptorIndex := 122, attributes := #[] }])
  fields := #[{ name := "$assertionsDisabled", type := .boolean, accessFlags := 4120, slot := 0, constantValue := 0 }]
  methods := #[k11m0]
  instanceTypes := #[]
  staticTypes := #[.boolean]
  resolved := Array.replicate 395 none
  statics := none }

def pool12 : Array CpInfo := pool [(2, .class_ 4), (1, u "java/lang/Object"), (0, u "<init>"), (0, u "()V"), (17, .class_ 26), (1, u "jdk/internal/util/Preconditions"), (28, .class_ 56), (0, u "jdk/internal/util/Preconditions$4"), (57, .class_ 115), (0, u "jdk/internal/util/Preconditions$1"), (7, u "SIOOBE_FORMATTER"), (0, u "Ljava/util/function/BiFunction;"), (0, .class_ 126), (0, u "jdk/internal/util/Preconditions$2"), (3, u "AIOOBE_FORMATTER"), (0, .class_ 132), (0, u "jdk/internal/util/Preconditions$3"), (3, u "IOOBE_FORMATTER")] 57

def k12m0 : Method := { name := "<init>", desc := "()V", sig := { parameters := [], returnType := none }, accessFlags := 1, code := none }
/-- jdk/internal/util/Preconditions -/
def k12 : Class := { plain "jdk/internal/util/Preconditions" (some 0) with
  accessFlags := 33
  interfaces := #[]
  cf := some (fileOf pool12 24 #[.nestMembers #[55, 131, 125, 114]] #[{ accessFlags := 1, nameIndex := 5, descriptorIndex := 6, attributes := #[] }] 33 2 #[] #[{ accessFlags := 25, nameIndex := 123, descriptorIndex := 124, attributes := #[] }, { accessFlags := 25, nameIndex := 130, descriptorIndex := 124, attributes := #[] }, { accessFlags := 25, nameIndex := 136, descriptorIndex := 124, attributes := #[] }])
  fields := #[{ name := "SIOOBE_FORMATTER", type := (.object "java/util/function/BiFunction"), accessFlags := 25, slot := 0, constantValue := 0 }, { name := "AIOOBE_FORMATTER", type := (.object "java/util/function/BiFunction"), accessFlags := 25, slot := 1, constantValue := 0 }, { name := "IOOBE_FORMATTER", type := (.object "java/util/function/BiFunction"), accessFlags := 25, slot := 2, constantValue := 0 }]
  methods := #[k12m0]
  instanceTypes := #[]
  staticTypes := #[(.object "java/util/function/BiFunction"), (.object "java/util/function/BiFunction"), (.object "java/util/function/BiFunction")]
  resolved := Array.replicate 194 none
  statics := some 1 }

def pool13 : Array CpInfo := pool [(9, u "<init>"), (6, .class_ 18), (1, u "java/lang/Object"), (0, u "()V"), (1, .class_ 23), (1, u "jdk/internal/util/ArraysSupport"), (0, u "LOG2_ARRAY_LONG_INDEX_SCALE"), (0, u "I"), (2, u "U"), (0, u "Ljdk/internal/misc/Unsafe;"), (8, u "BIG_ENDIAN"), (0, u "Z"), (8, u "LOG2_BYTE_BIT_SIZE"), (4, u "LOG2_ARRAY_INT_INDEX_SCALE"), (54, u "JLA"), (0, u "Ljdk/internal/access/JavaLangAccess;"), (11, u "LOG2_ARRAY_BOOLEAN_INDEX_SCALE"), (9, u "LOG2_ARRAY_BYTE_INDEX_SCALE"), (5, u "LOG2_ARRAY_CHAR_INDEX_SCALE"), (5, u "LOG2_ARRAY_SHORT_INDEX_SCALE"), (18, u "LOG2_ARRAY_FLOAT_INDEX_SCALE"), (24, u "LOG2_ARRAY_DOUBLE_INDEX_SCALE"), (89, u "T_BOOLEAN"), (2, u "T_CHAR"), (1, u "T_FLOAT"), (1, u "T_DOUBLE"), (1, u "T_BYTE"), (1, u "T_SHORT"), (1, u "T_INT"), (1, u "T_LONG"), (1, u "SOFT_MAX_ARRAY_LENGTH")] 83

def k13m0 : Method := { name := "<init>", desc := "()V", sig := { parameters := [], returnType := none }, accessFlags := 2, code := none }
/-- jdk/internal/util/ArraysSupport -/
def k13 : Class := { plain "jdk/internal/util/ArraysSupport" (some 0) with
  accessFlags := 33
  interfaces := #[]
  cf := some (fileOf pool13 21 #[] #[{ accessFlags := 2, nameIndex := 9, descriptorIndex := 19, attributes := #[] }] 33 16 #[] #[{ accessFlags := 24, nameIndex := 28, descriptorIndex := 29, attributes := #[] }, { accessFlags := 26, nameIndex := 38, descriptorIndex := 39, attributes := #[] }, { accessFlags := 25, nameIndex := 121, descriptorIndex := 25, attributes := #[] }, { accessFlags := 25, nameIndex := 131, descriptorIndex := 25, attributes := #[] }, { accessFlags := 25, nameIndex := 137, descriptorIndex := 25, attributes := #[] }, { accessFlags := 25, nameIndex := 143, descriptorIndex := 25, attributes := #[] }, { accessFlags := 25, nameIndex := 53, descriptorIndex := 25, attributes := #[] }, { accessFlags := 25, nameIndex := 24, descriptorIndex := 25, attributes := #[] }, { accessFlags := 25, nameIndex := 162, descriptorIndex := 25, attributes := #[] }, { accessFlags := 25, nameIndex := 187, descriptorIndex := 25, attributes := #[] }, { accessFlags := 26, nameIndex := 48, descriptorIndex := 25, attributes := #[] }, { accessFlags := 25, nameIndex := 277, descriptorIndex := 25, attributes := #[] }, { accessFlags := 25, nameIndex := 280, descriptorIndex := 25, attributes := #[] }, { accessFlags := 25, nameIndex := 282, descriptorIndex := 25, attributes := #[] }, { accessFlags := 25, nameIndex := 284, descriptorIndex := 25, attributes := #[] }, { accessFlags := 25, nameIndex := 286, descriptorIndex := 25, attributes := #[] }, { accessFlags := 25, nameIndex := 288, descriptorIndex := 25, attributes := #[] }, { accessFlags := 25, nameIndex := 290, descriptorIndex := 25, attributes := #[] }, { accessFlags := 25, nameIndex := 292, descriptorIndex := 25, attributes := #[] }, { accessFlags := 26, nameIndex := 108, descriptorIndex := 109, attributes := #[] }, { accessFlags := 25, nameIndex := 294, descriptorIndex := 25, attributes := #[] }])
  fields := #[{ name := "U", type := (.object "jdk/internal/misc/Unsafe"), accessFlags := 24, slot := 0, constantValue := 0 }, { name := "BIG_ENDIAN", type := .boolean, accessFlags := 26, slot := 1, constantValue := 0 }, { name := "LOG2_ARRAY_BOOLEAN_INDEX_SCALE", type := .int, accessFlags := 25, slot := 2, constantValue := 0 }, { name := "LOG2_ARRAY_BYTE_INDEX_SCALE", type := .int, accessFlags := 25, slot := 3, constantValue := 0 }, { name := "LOG2_ARRAY_CHAR_INDEX_SCALE", type := .int, accessFlags := 25, slot := 4, constantValue := 0 }, { name := "LOG2_ARRAY_SHORT_INDEX_SCALE", type := .int, accessFlags := 25, slot := 5, constantValue := 0 }, { name := "LOG2_ARRAY_INT_INDEX_SCALE", type := .int, accessFlags := 25, slot := 6, constantValue := 0 }, { name := "LOG2_ARRAY_LONG_INDEX_SCALE", type := .int, accessFlags := 25, slot := 7, constantValue := 0 }, { name := "LOG2_ARRAY_FLOAT_INDEX_SCALE", type := .int, accessFlags := 25, slot := 8, constantValue := 0 }, { name := "LOG2_ARRAY_DOUBLE_INDEX_SCALE", type := .int, accessFlags := 25, slot := 9, constantValue := 0 }, { name := "LOG2_BYTE_BIT_SIZE", type := .int, accessFlags := 26, slot := 10, constantValue := 0 }, { name := "T_BOOLEAN", type := .int, accessFlags := 25, slot := 11, constantValue := 0 }, { name := "T_CHAR", type := .int, accessFlags := 25, slot := 12, constantValue := 0 }, { name := "T_FLOAT", type := .int, accessFlags := 25, slot := 13, constantValue := 0 }, { name := "T_DOUBLE", type := .int, accessFlags := 25, slot := 14, constantValue := 0 }, { name := "T_BYTE", type := .int, accessFlags := 25, slot := 15, constantValue := 0 }, { name := "T_SHORT", type := .int, accessFlags := 25, slot := 16, constantValue := 0 }, { name := "T_INT", type := .int, accessFlags := 25, slot := 17, constantValue := 0 }, { name := "T_LONG", type := .int, accessFlags := 25, slot := 18, constantValue := 0 }, { name := "JLA", type := (.object "jdk/internal/access/JavaLangAccess"), accessFlags := 26, slot := 19, constantValue := 0 }, { name := "SOFT_MAX_ARRAY_LENGTH", type := .int, accessFlags := 25, slot := 20, constantValue := 0 }]
  methods := #[k13m0]
  instanceTypes := #[]
  staticTypes := #[(.object "jdk/internal/misc/Unsafe"), .boolean, .int, .int, .int, .int, .int, .int, .int, .int, .int, .int, .int, .int, .int, .int, .int, .int, .int, (.object "jdk/internal/access/JavaLangAccess"), .int]
  resolved := Array.replicate 378 none
  statics := none }

def pool14 : Array CpInfo := pool [(1, u "java/lang/Cloneable"), (0, .class_ 1), (0, u "java/lang/Object"), (0, .class_ 3)] 3

/-- java/lang/Cloneable -/
def k14 : Class := { plain "java/lang/Cloneable" (some 0) with
  accessFlags := 1537
  interfaces := #[]
  cf := some (fileOf pool14 2 #[] #[] 1537 4 #[] #[])
  fields := #[]
  methods := #[]
  instanceTypes := #[]
  staticTypes := #[]
  resolved := Array.replicate 8 none
  statics := none }

/-- the primitive byte -/
def k15 : Class := { plain "byte" none with kind := .primitive 'B', accessFlags := 0x411 }
/-- [B -/
def k16 : Class := { plain "[B" (some 0) with kind := .array 15 .byte, interfaces := #[14, 4], accessFlags := 1041 }

/-- the primitive char -/
def k17 : Class := { plain "char" none with kind := .primitive 'C', accessFlags := 0x411 }
/-- [C -/
def k18 : Class := { plain "[C" (some 0) with kind := .array 17 .char, interfaces := #[14, 4], accessFlags := 1041 }

/-- the primitive int -/
def k19 : Class := { plain "int" none with kind := .primitive 'I', accessFlags := 0x411 }
/-- [I -/
def k20 : Class := { plain "[I" (some 0) with kind := .array 19 .int, interfaces := #[14, 4], accessFlags := 1041 }

def heap : Heap := #[{ cls := 9, slots := #[.long 0, .int 1, .null, .int 0, .null, .int 0, .int 0], vm := .statics 9 },
  { cls := 12, slots := #[.null, .null, .null], vm := .statics 12 }]
def classes : Array Class := #[k0, k1, k2, k3, k4, k5, k6, k7, k8, k9, k10, k11, k12, k13, k14, k15, k16, k17, k18, k19, k20]
def interned : List (Array UInt16 × Addr) := []
def slotsUsed : Nat := 10
def theMethod : MethodId := ⟨1, 1⟩
def args0 : Array Value := #[.int 5, .int 2, .int 1, .int 7, .int 2, .int 5]
def aboutOver (below : List Frame) : State where
  vm := { classes := classes, interned := interned.toArray }
  heap := heap
  slotsUsed := slotsUsed
  threads := #[{ frames := .invoking theMethod args0 :: below }]
def below0 : List Frame := [.native { method := ⟨0, 0⟩, args := #[] }]
def about1 : State := aboutOver below0
def p0 : Program := .bare "" "" ""
def e0 : Env := launch0.env 0 0 0
theorem w_frames : about1.frames = Frame.invoking theMethod args0 :: below0 := rfl
set_option maxRecDepth 65536 in
theorem w_args : argsFit about1.vm theMethod args0 = true := by decide +kernel
set_option maxRecDepth 65536 in
theorem w_heap : heapFits about1 = true := by decide +kernel
set_option maxRecDepth 65536 in
theorem w_runnable : about1.curStatus? = some .runnable := by decide +kernel
set_option maxRecDepth 65536 in
theorem w_alone : about1.alone = true := by decide +kernel
set_option maxRecDepth 65536 in
theorem w_named : about1.methodNamed? x = some theMethod := by decide +kernel
set_option maxRecDepth 65536 in
theorem w_hears : about1.hears theMethod below0 = true := by decide +kernel
set_option maxRecDepth 65536 in
theorem w_ripe : about1.ripe theMethod args0 below0 = true := by decide +kernel
theorem w_running : about1.status = .running := rfl
set_option maxRecDepth 65536 in
theorem w_room : about1.hasRoom e0.platform room_1 = true :=
  launch0.hasRoom_least _ room_1 (by decide +kernel) (by decide +kernel) (by decide +kernel) (by decide +kernel) (by decide +kernel) (by decide +kernel)
theorem allAtoms_all (ts : List Jvm.Cond) (a : Array Jvm.Value) (st : Jvm.State) : (allAtoms ts).before a st = ts.all (fun c => c.before a st) := by
  induction ts with
  | nil => rfl
  | cons c t ih =>
    show (Jvm.Cond.and c (allAtoms t)).before a st = _
    rw [Jvm.Cond.before_and, ih, List.all_cons]
def words1 : List Jvm.Cond := Jvm.Cond.code x code maxLocals ret :: tables_1
/-- a 'code' word, met by the world's own term for the bytes: nothing is compared byte by byte -/
theorem code_word {y : MethodName} {bytes : ByteArray} {mx : Nat} {rt : Option FieldType} {a : Array Value} {s : State} {m : MethodId} {meth : Method} {c : Code} (h1 : s.methodNamed? y = some m) (h2 : s.vm.method? m = some meth) (h3 : meth.code = some c) (h4 : c.code = bytes)
    (h5 : (c.maxLocals == mx && c.exceptionTable.isEmpty && decide (c.maxStack ≤ mostOperands) && decide (meth.sig.returnType = rt) && !meth.locks && decide (parseMethodDescriptor y.desc = some meth.sig)) = true) : (Jvm.Cond.code y bytes mx rt).before a s = true := by
  simp only [Bool.and_eq_true, beq_iff_eq, Bool.not_eq_true', decide_eq_true_eq] at h5
  obtain ⟨⟨⟨⟨⟨g1, g2⟩, g3⟩, g4⟩, g5⟩, g6⟩ := h5
  simp [Cond.before, Cond.holds, Cond.value, h1, h2, h3, h4, g1, g2, g3, g4, g5, g6]
def isCode : Jvm.Cond → Bool
  | .code _ _ _ _ => true
  | _ => false
theorem all_split {L : List Jvm.Cond} {P : Jvm.Cond → Bool} (h1 : L.all (fun c => isCode c || P c) = true) (h2 : ∀ c ∈ L.filter isCode, P c = true) : L.all P = true := by
  refine List.all_eq_true.mpr fun c hc => ?_
  have h := List.all_eq_true.mp h1 c hc
  rcases Bool.eq_false_or_eq_true (isCode c) with hi | hi
  · exact h2 c (List.mem_filter.mpr ⟨hc, hi⟩)
  · simpa [hi] using h
set_option maxRecDepth 65536 in
theorem w_c0 : (Jvm.Cond.code x code maxLocals ret).before args0 about1 = true := code_word (m := ⟨1, 1⟩) (meth := k1m1) (c := k1c1) (by decide +kernel) rfl rfl rfl (by decide +kernel)
set_option maxRecDepth 65536 in
theorem w_c1 : (Jvm.Cond.code ({ cls := "java/lang/Math", name := "max", desc := "(II)I" } : Jvm.MethodName) jdk_29_method_65_code (2 : Nat) (Option.some Jvm.ClassFile.FieldType.int)).before args0 about1 = true := code_word (m := ⟨2, 1⟩) (meth := k2m1) (c := k2c1) (by decide +kernel) rfl rfl rfl (by decide +kernel)
set_option maxRecDepth 65536 in
theorem w_c2 : (Jvm.Cond.code ({ cls := "java/lang/String", name := "<init>", desc := "([C)V" } : Jvm.MethodName) jdk_42_method_3_code (2 : Nat) (Option.none : Option Jvm.ClassFile.FieldType)).before args0 about1 = true := code_word (m := ⟨9, 1⟩) (meth := k9m1) (c := k9c1) (by decide +kernel) rfl rfl rfl (by decide +kernel)
set_option maxRecDepth 65536 in
theorem w_c3 : (Jvm.Cond.code ({ cls := "java/lang/String", name := "<init>", desc := "([CIILjava/lang/Void;)V" } : Jvm.MethodName) jdk_42_method_149_code (6 : Nat) (Option.none : Option Jvm.ClassFile.FieldType)).before args0 about1 = true := code_word (m := ⟨9, 2⟩) (meth := k9m2) (c := k9c2) (by decide +kernel) rfl rfl rfl (by decide +kernel)
set_option maxRecDepth 65536 in
theorem w_c4 : (Jvm.Cond.code ({ cls := "java/lang/Object", name := "<init>", desc := "()V" } : Jvm.MethodName) object_method_1_code (1 : Nat) (Option.none : Option Jvm.ClassFile.FieldType)).before args0 about1 = true := code_word (m := ⟨0, 0⟩) (meth := k0m0) (c := k0c0) (by decide +kernel) rfl rfl rfl (by decide +kernel)
set_option maxRecDepth 65536 in
theorem w_c5 : (Jvm.Cond.code ({ cls := "java/lang/StringUTF16", name := "compress", desc := "([CII)[B" } : Jvm.MethodName) jdk_52_method_16_code (6 : Nat) (Option.some (Jvm.ClassFile.FieldType.array Jvm.ClassFile.FieldType.byte))).before args0 about1 = true := code_word (m := ⟨10, 2⟩) (meth := k10m2) (c := k10c2) (by decide +kernel) rfl rfl rfl (by decide +kernel)
set_option maxRecDepth 65536 in
theorem w_c6 : (Jvm.Cond.code ({ cls := "java/lang/StringUTF16", name := "compress", desc := "([CI[BII)I" } : Jvm.MethodName) jdk_52_method_21_code (7 : Nat) (Option.some Jvm.ClassFile.FieldType.int)).before args0 about1 = true := code_word (m := ⟨10, 3⟩) (meth := k10m3) (c := k10c3) (by decide +kernel) rfl rfl rfl (by decide +kernel)
set_option maxRecDepth 65536 in
theorem w_c7 : (Jvm.Cond.code ({ cls := "java/lang/StringUTF16", name := "coderFromArrayLen", desc := "([BI)B" } : Jvm.MethodName) jdk_52_method_15_code (2 : Nat) (Option.some Jvm.ClassFile.FieldType.byte)).before args0 about1 = true := code_word (m := ⟨10, 1⟩) (meth := k10m1) (c := k10c1) (by decide +kernel) rfl rfl rfl (by decide +kernel)
set_option maxRecDepth 65536 in
theorem w_c8 : (Jvm.Cond.code ({ cls := "com/example/round2/round2/eval/TopicResult", name := "<init>", desc := "(Ljava/lang/String;II[I)V" } : Jvm.MethodName) prog_10_method_1_code (5 : Nat) (Option.none : Option Jvm.ClassFile.FieldType)).before args0 about1 = true := code_word (m := ⟨3, 0⟩) (meth := k3m0) (c := k3c0) (by decide +kernel) rfl rfl rfl (by decide +kernel)
set_option maxRecDepth 65536 in
theorem w_c9 : (Jvm.Cond.code ({ cls := "com/example/round2/round2/eval/TopicResult", name := "reciprocalRank", desc := "()D" } : Jvm.MethodName) prog_10_method_7_code (1 : Nat) (Option.some Jvm.ClassFile.FieldType.double)).before args0 about1 = true := code_word (m := ⟨3, 2⟩) (meth := k3m2) (c := k3c2) (by decide +kernel) rfl rfl rfl (by decide +kernel)
set_option maxRecDepth 65536 in
theorem w_c10 : (Jvm.Cond.code ({ cls := "com/example/round2/round2/eval/TopicResult", name := "getRelevantRetrieved", desc := "()I" } : Jvm.MethodName) prog_10_method_5_code (1 : Nat) (Option.some Jvm.ClassFile.FieldType.int)).before args0 about1 = true := code_word (m := ⟨3, 1⟩) (meth := k3m1) (c := k3c1) (by decide +kernel) rfl rfl rfl (by decide +kernel)
def codes1 : List Jvm.Cond := [Jvm.Cond.code x code maxLocals ret, Jvm.Cond.code ({ cls := "java/lang/Math", name := "max", desc := "(II)I" } : Jvm.MethodName) jdk_29_method_65_code (2 : Nat) (Option.some Jvm.ClassFile.FieldType.int), Jvm.Cond.code ({ cls := "java/lang/String", name := "<init>", desc := "([C)V" } : Jvm.MethodName) jdk_42_method_3_code (2 : Nat) (Option.none : Option Jvm.ClassFile.FieldType), Jvm.Cond.code ({ cls := "java/lang/String", name := "<init>", desc := "([CIILjava/lang/Void;)V" } : Jvm.MethodName) jdk_42_method_149_code (6 : Nat) (Option.none : Option Jvm.ClassFile.FieldType), Jvm.Cond.code ({ cls := "java/lang/Object", name := "<init>", desc := "()V" } : Jvm.MethodName) object_method_1_code (1 : Nat) (Option.none : Option Jvm.ClassFile.FieldType), Jvm.Cond.code ({ cls := "java/lang/StringUTF16", name := "compress", desc := "([CII)[B" } : Jvm.MethodName) jdk_52_method_16_code (6 : Nat) (Option.some (Jvm.ClassFile.FieldType.array Jvm.ClassFile.FieldType.byte)), Jvm.Cond.code ({ cls := "java/lang/StringUTF16", name := "compress", desc := "([CI[BII)I" } : Jvm.MethodName) jdk_52_method_21_code (7 : Nat) (Option.some Jvm.ClassFile.FieldType.int), Jvm.Cond.code ({ cls := "java/lang/StringUTF16", name := "coderFromArrayLen", desc := "([BI)B" } : Jvm.MethodName) jdk_52_method_15_code (2 : Nat) (Option.some Jvm.ClassFile.FieldType.byte), Jvm.Cond.code ({ cls := "com/example/round2/round2/eval/TopicResult", name := "<init>", desc := "(Ljava/lang/String;II[I)V" } : Jvm.MethodName) prog_10_method_1_code (5 : Nat) (Option.none : Option Jvm.ClassFile.FieldType), Jvm.Cond.code ({ cls := "com/example/round2/round2/eval/TopicResult", name := "reciprocalRank", desc := "()D" } : Jvm.MethodName) prog_10_method_7_code (1 : Nat) (Option.some Jvm.ClassFile.FieldType.double), Jvm.Cond.code ({ cls := "com/example/round2/round2/eval/TopicResult", name := "getRelevantRetrieved", desc := "()I" } : Jvm.MethodName) prog_10_method_5_code (1 : Nat) (Option.some Jvm.ClassFile.FieldType.int)]
set_option maxRecDepth 65536 in
theorem codes_eq : words1.filter isCode = codes1 := rfl
theorem w_codes : ∀ c ∈ words1.filter isCode, c.before args0 about1 = true := by
  rw [codes_eq]
  intro c hc
  simp only [codes1, List.mem_cons, List.not_mem_nil, or_false] at hc
  rcases hc with rfl | rfl | rfl | rfl | rfl | rfl | rfl | rfl | rfl | rfl | rfl
  · exact w_c0
  · exact w_c1
  · exact w_c2
  · exact w_c3
  · exact w_c4
  · exact w_c5
  · exact w_c6
  · exact w_c7
  · exact w_c8
  · exact w_c9
  · exact w_c10
set_option maxRecDepth 65536 in
theorem w_t1 : (words1.take 24).all (fun c => isCode c || c.before args0 about1) = true := by decide +kernel
set_option maxRecDepth 65536 in
theorem w_t2 : ((words1.drop 24).take 24).all (fun c => isCode c || c.before args0 about1) = true := by decide +kernel
set_option maxRecDepth 65536 in
theorem w_t3 : ((words1.drop 24).drop 24).all (fun c => isCode c || c.before args0 about1) = true := by decide +kernel
theorem w_tables : (allAtoms (Jvm.Cond.code x code maxLocals ret :: tables_1)).before args0 about1 = true := by
  rw [allAtoms_all]
  show words1.all (fun c => c.before args0 about1) = true
  refine all_split ?_ w_codes
  rw [← List.take_append_drop 24 words1, List.all_append, w_t1, ← List.take_append_drop 24 (words1.drop 24), List.all_append, w_t2, w_t3]
  rfl
set_option maxRecDepth 65536 in
theorem w_rest : rest_1_c.before args0 about1 = true := by decide +kernel
set_option maxRecDepth 65536 in
theorem w_case : (Jvm.Cond.and given_1 narrow_1).before args0 about1 = true := by decide +kernel
theorem w_applies : (headSpec (Jvm.Cond.code x code maxLocals ret :: tables_1) room_1).applies x e0.platform about1 = true :=
  (Spec.applies_iff w_frames).mpr ⟨w_running, w_runnable, w_alone, w_named, w_hears, w_ripe, w_room, w_tables⟩
theorem atStart : AtStart classFile x code maxLocals ret World_1 tables_1 room_1 Calls_1 rest_1 Pre_1 launch0 p0 e0 about1 theMethod args0 below0 :=
  ⟨lists_1, trivial, launch0.admits_env _ _ _, launch0.least_env, fairChoices_fair.cas, fairChoices_fair.clock, w_frames, w_args, w_heap, w_applies, trivial, w_rest, w_case⟩
end start1
theorem witness_1 : WitnessClaimed_1 := ⟨start1.p0, start1.e0, start1.about1, start1.theMethod, start1.args0, start1.below0, start1.atStart⟩
end Jvm.Pilot.@@N@@
