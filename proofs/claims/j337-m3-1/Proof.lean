import JvmDerived
import JvmDerived.Pilot.@@N@@Statement
import JvmDerived.Pilot.@@N@@Code
set_option linter.unusedVariables false
set_option linter.unusedSimpArgs false
namespace Jvm.OwnFp
open Jvm.FP.Core Op
/-! own: exact values. `Dyf f i k d`: the datum d is finite and worth i / 2^k. -/
def Dyf (f : Fmt) (i : Int) (k : Nat) (d : Datum) : Prop := (∃ s c q, d = .fin s c q) ∧ zval f d * 2 ^ k = i * 2 ^ (-f.qmin).toNat
theorem pw_pos (n : Nat) : (0 : Int) < 2 ^ n := Int.pow_pos (by decide)
theorem pw_cast (n : Nat) : ((2 ^ n : Nat) : Int) = 2 ^ n := by simp
theorem signed_abs (i : Int) : signed (decide (i < 0)) i.natAbs = i := by
  unfold signed
  by_cases h : i < 0 <;> simp [h] <;> omega
theorem signed_mulI (s : Bool) (c k : Nat) : signed s (c * 2 ^ k) = signed s c * 2 ^ k := by
  rw [signed_mul, pw_cast]
theorem vex {f : Fmt} (hf : Good f) {i : Int} {k : Nat} (hi : i.natAbs < 2 ^ f.p) (hk : (k : Int) ≤ -f.qmin) (hq : 0 ≤ f.qmax) :
    ∃ s c q, FP.Core.fits f (.fin s c q) ∧ zval f (.fin s c q) * 2 ^ k = i * 2 ^ (-f.qmin).toNat := by
  obtain ⟨c', q', h, hu⟩ := round_exact hf (decide (i < 0)) (c := i.natAbs) (q := -(k : Int)) hi (by omega) (by omega)
  refine ⟨_, c', q', h ▸ round_fits hf _, ?_⟩
  show signed (decide (i < 0)) (inUnits c' q' f.qmin) * 2 ^ k = _
  rw [hu]
  unfold inUnits
  rw [signed_mulI, signed_abs, Int.mul_assoc, ← Int.pow_add, show (-(k : Int) - f.qmin).toNat + k = (-f.qmin).toNat by omega]
theorem dyf_of_zval {f : Fmt} (hf : Good f) {s : Bool} {A B : Nat} {e : Int} {s' : Bool} {c' : Nat} {q' : Int} (hV : FP.Core.fits f (.fin s' c' q'))
    (hz : zval f (roundRatio f s A B e) = zval f (.fin s' c' q')) : ∃ s₀ c₀ q₀, roundRatio f s A B e = .fin s₀ c₀ q₀ := by
  rcases roundRatio_cases f s A B e with ⟨c, q, h⟩ | h
  · exact ⟨s, c, q, h⟩
  · exfalso
    rw [h] at hz
    have h1 := zmag_lt_top hf hV
    have h2 := congrArg Int.natAbs hz
    unfold zval at h2
    rw [natAbs_signed, natAbs_signed] at h2
    have h3 : zmag f (.inf s) = f.tails * 2 ^ (f.exps - 2) := rfl
    have h4 : zmag f (.fin s' c' q') = inUnits c' q' f.qmin := rfl
    omega
/-- an exact result that the format holds is not rounded -/
theorem rnd {f : Fmt} (hf : Good f) (hq : 0 ≤ f.qmax) {s : Bool} {c : Nat} {q e0 : Int} (h0 : e0 ≤ f.qmin) (h0e : e0 ≤ q) {i : Int} {k : Nat} (hi : i.natAbs < 2 ^ f.p) (hk : (k : Int) ≤ -f.qmin)
    (h : signed s (inUnits c q e0) * 2 ^ k = i * 2 ^ (-f.qmin).toNat * 2 ^ (f.qmin - e0).toNat) : Dyf f i k (round f (.fin s c q)) := by
  obtain ⟨s', c', q', hV, hv⟩ := vex hf hi hk hq
  have hn : Datum.fin s' c' q' ≠ .nan := nofun
  have he : zval f (.fin s' c' q') * ((2 ^ (f.qmin - e0).toNat : Nat) : Int) = signed s (inUnits c q e0) := by
    refine Int.eq_of_mul_eq_mul_right (Int.ne_of_gt (pw_pos k)) ?_
    rw [h, ← hv, pw_cast]; ac_rfl
  have hz : zval f (round f (.fin s c q)) = zval f (.fin s' c' q') :=
    Int.le_antisymm (zval_round_le hf hV hn h0 h0e (Int.le_of_eq he.symm)) (zval_round_ge hf hV hn h0 h0e (Int.le_of_eq he))
  exact ⟨dyf_of_zval hf hV hz, by rw [hz]; exact hv⟩
theorem Dyf.fit {f : Fmt} {i : Int} {k : Nat} {d : Datum} (h : Dyf f i k d) : ∃ s c q, d = .fin s c q := h.1
theorem Dyf.up {f : Fmt} {i : Int} {k : Nat} {d : Datum} (h : Dyf f i k d) (l : Nat) : Dyf f (i * 2 ^ l) (k + l) d :=
  ⟨h.1, by rw [Int.pow_add, ← Int.mul_assoc, h.2]; ac_rfl⟩
theorem Dyf.to {f : Fmt} {i j : Int} {k l : Nat} {d : Datum} (h : Dyf f i k d) (e : i * 2 ^ l = j * 2 ^ k) : Dyf f j l d := by
  refine ⟨h.1, Int.eq_of_mul_eq_mul_right (Int.ne_of_gt (pw_pos k)) ?_⟩
  calc zval f d * 2 ^ l * 2 ^ k = (zval f d * 2 ^ k) * 2 ^ l := by ac_rfl
    _ = (i * 2 ^ l) * 2 ^ (-f.qmin).toNat := by rw [h.2]; ac_rfl
    _ = j * 2 ^ (-f.qmin).toNat * 2 ^ k := by rw [e]; ac_rfl
theorem Dyf.sum {f : Fmt} (hf : Good f) (hq : 0 ≤ f.qmax) {i j : Int} {k : Nat} {x y : Datum} (fx : FP.Core.fits f x) (fy : FP.Core.fits f y) (hx : Dyf f i k x) (hy : Dyf f j k y) (hi : (i + j).natAbs < 2 ^ f.p) (hk : (k : Int) ≤ -f.qmin) :
    Dyf f (i + j) k (round f (exactSum x y)) := by
  obtain ⟨⟨s, c, q, rfl⟩, hx⟩ := hx
  obtain ⟨⟨t, d, r, rfl⟩, hy⟩ := hy
  obtain ⟨sg, n, e, he, hle, hu⟩ := sum_units fx fy
  rw [he]
  refine rnd hf hq (Int.le_refl _) hle hi hk ?_
  rw [hu, Int.add_mul, hx, hy, Int.add_mul, Int.sub_self]
  simp
theorem Dyf.neg {f : Fmt} {i : Int} {k : Nat} {x : Datum} (hx : Dyf f i k x) : Dyf f (-i) k (negate x) := by
  obtain ⟨⟨s, c, q, rfl⟩, hx⟩ := hx
  refine ⟨⟨_, _, _, rfl⟩, ?_⟩
  rw [zval_negate, Int.neg_mul, hx, Int.neg_mul]
theorem Dyf.prod {f : Fmt} (hf : Good f) (hq : 0 ≤ f.qmax) {i j : Int} {k l : Nat} {x y : Datum} (fx : FP.Core.fits f x) (fy : FP.Core.fits f y) (hx : Dyf f i k x) (hy : Dyf f j l y) (hi : (i * j).natAbs < 2 ^ f.p) (hk : ((k + l : Nat) : Int) ≤ -f.qmin) :
    Dyf f (i * j) (k + l) (round f (exactProduct x y)) := by
  obtain ⟨⟨s, c, q, rfl⟩, hx⟩ := hx
  obtain ⟨⟨t, d, r, rfl⟩, hy⟩ := hy
  obtain ⟨he, hle, hu⟩ := product_units fx fy
  rw [he]
  have hn := qmin_neg hf
  refine rnd hf hq (e0 := 2 * f.qmin) (by omega) hle hi hk ?_
  rw [hu, signed_xor, show (f.qmin - 2 * f.qmin).toNat = (-f.qmin).toNat by omega, Int.pow_add]
  calc zval f (.fin s c q) * zval f (.fin t d r) * (2 ^ k * 2 ^ l) = (zval f (.fin s c q) * 2 ^ k) * (zval f (.fin t d r) * 2 ^ l) := by ac_rfl
    _ = _ := by rw [hx, hy]; ac_rfl
theorem natAbs_pow (n : Nat) : ((2 : Int) ^ n).natAbs = 2 ^ n := by rw [Int.natAbs_pow]; rfl
theorem natAbs_zval (f : Fmt) (d : Datum) : (zval f d).natAbs = zmag f d := natAbs_signed _ _
/-- an exact quotient that the format holds is not rounded -/
theorem Dyf.quot {f : Fmt} (hf : Good f) (hq : 0 ≤ f.qmax) {i j n : Int} {k l m : Nat} {x y : Datum} (fx : FP.Core.fits f x) (fy : FP.Core.fits f y) (hx : Dyf f i k x) (hy : Dyf f j l y) (hj : j ≠ 0) (hi : n.natAbs < 2 ^ f.p) (hm : (m : Int) ≤ -f.qmin)
    (e : i * 2 ^ l * 2 ^ m = n * j * 2 ^ k) : Dyf f n m (quotient f x y) := by
  obtain ⟨⟨s, c, q, rfl⟩, hx⟩ := hx
  obtain ⟨⟨t, d, r, rfl⟩, hy⟩ := hy
  obtain ⟨s', c', q', hV, hv⟩ := vex hf hi hm hq
  have hn : Datum.fin s' c' q' ≠ .nan := nofun
  have hqm := qmin_neg hf
  have fx1 := fx.2.1
  have fy1 := fy.2.1
  -- the signed equation
  have hz : zval f (.fin s c q) * 2 ^ (-f.qmin).toNat = zval f (.fin s' c' q') * zval f (.fin t d r) := by
    refine Int.eq_of_mul_eq_mul_right (Int.ne_of_gt (Int.mul_pos (Int.mul_pos (pw_pos k) (pw_pos l)) (pw_pos m))) ?_
    calc zval f (.fin s c q) * 2 ^ (-f.qmin).toNat * (2 ^ k * 2 ^ l * 2 ^ m) = (zval f (.fin s c q) * 2 ^ k) * (2 ^ l * 2 ^ m) * 2 ^ (-f.qmin).toNat := by ac_rfl
      _ = (i * 2 ^ l * 2 ^ m) * 2 ^ (-f.qmin).toNat * 2 ^ (-f.qmin).toNat := by rw [hx]; ac_rfl
      _ = (n * 2 ^ (-f.qmin).toNat) * (j * 2 ^ (-f.qmin).toNat) * 2 ^ k := by rw [e]; ac_rfl
      _ = (zval f (.fin s' c' q') * 2 ^ m) * (zval f (.fin t d r) * 2 ^ l) * 2 ^ k := by rw [hv, hy]
      _ = _ := by ac_rfl
  have hzb : zval f (.fin t d r) ≠ 0 := by
    intro h0
    rw [h0, Int.zero_mul] at hy
    rcases Int.mul_eq_zero.mp hy.symm with h | h
    · exact hj h
    · exact absurd h (Int.ne_of_gt (pw_pos _))
  have hd : d ≠ 0 := by
    rintro rfl
    apply hzb
    show signed t (inUnits 0 r f.qmin) = 0
    unfold inUnits; rw [Nat.zero_mul, signed_zero]
  have hmag : zmag f (.fin s c q) * 2 ^ (-f.qmin).toNat = zmag f (.fin s' c' q') * zmag f (.fin t d r) := by
    have h2 := congrArg Int.natAbs hz
    rw [Int.natAbs_mul, Int.natAbs_mul, natAbs_pow, natAbs_zval, natAbs_zval, natAbs_zval] at h2
    exact h2
  have hun : inUnits c (q - r) (2 * f.qmin - r) = zmag f (.fin s' c' q') * 2 ^ (f.qmin - (2 * f.qmin - r)).toNat * d := by
    have a1 : inUnits c (q - r) (2 * f.qmin - r) = zmag f (.fin s c q) * 2 ^ (-f.qmin).toNat := by
      show c * 2 ^ _ = c * 2 ^ _ * 2 ^ _
      rw [Nat.mul_assoc, ← Nat.pow_add, show (q - r - (2 * f.qmin - r)).toNat = (q - f.qmin).toNat + (-f.qmin).toNat by omega]
    rw [a1, hmag, show (f.qmin - (2 * f.qmin - r)).toNat = (r - f.qmin).toNat by omega]
    show _ * (d * 2 ^ _) = _
    ac_rfl
  have hqt : quotient f (.fin s c q) (.fin t d r) = roundRatio f (s != t) c d (q - r) := by
    show (if d = 0 then _ else _) = _
    rw [if_neg hd]
  have hm2 : zmag f (roundRatio f (s != t) c d (q - r)) = zmag f (.fin s' c' q') :=
    Nat.le_antisymm (zmag_roundRatio_le hf (e0 := 2 * f.qmin - r) (Nat.pos_of_ne_zero hd) hV hn (by omega) (by omega) (Nat.le_of_eq hun))
      (zmag_roundRatio_ge hf (e0 := 2 * f.qmin - r) (Nat.pos_of_ne_zero hd) hV (by omega) (by omega) (Nat.le_of_eq hun.symm))
  have hsg : signed (s != t) (zmag f (.fin s' c' q')) = zval f (.fin s' c' q') := by
    have p0 : zmag f (.fin s c q) = inUnits c q f.qmin := rfl
    have hS : zval f (.fin s c q) * 2 ^ (-f.qmin).toNat * zval f (.fin t d r) = zval f (.fin s' c' q') * (zval f (.fin t d r) * zval f (.fin t d r)) := by rw [hz]; ac_rfl
    by_cases h0 : zmag f (.fin s' c' q') = 0
    · unfold zval; rw [h0, signed_zero, signed_zero]
    · have hbb : 0 < zval f (.fin t d r) * zval f (.fin t d r) := by
        rcases Int.lt_or_gt_of_ne hzb with h | h
        · exact Int.mul_pos_of_neg_of_neg h h
        · exact Int.mul_pos h h
      have hst : zval f (.fin s c q) * zval f (.fin t d r) = signed (s != t) (zmag f (.fin s c q) * zmag f (.fin t d r)) := by
        rw [signed_xor]; rfl
      have e1 : zval f (.fin s' c' q') * (zval f (.fin t d r) * zval f (.fin t d r)) = signed (s != t) (zmag f (.fin s c q) * zmag f (.fin t d r)) * 2 ^ (-f.qmin).toNat := by
        rw [← hS, ← hst]; ac_rfl
      have e2 : signed (s != t) (zmag f (.fin s c q) * zmag f (.fin t d r)) * 2 ^ (-f.qmin).toNat = signed (s != t) (zmag f (.fin s' c' q')) * (zval f (.fin t d r) * zval f (.fin t d r)) := by
        rw [← signed_mulI, show zmag f (.fin s c q) * zmag f (.fin t d r) * 2 ^ (-f.qmin).toNat = zmag f (.fin s' c' q') * (zmag f (.fin t d r) * zmag f (.fin t d r)) by rw [Nat.mul_right_comm, hmag]; ac_rfl, signed_mul]
        congr 1
        unfold zval
        rw [Int.natCast_mul]
        cases (sgn (.fin t d r)) <;> simp [signed, Int.neg_mul_neg]
      exact Int.eq_of_mul_eq_mul_right (Int.ne_of_gt hbb) (e2.symm.trans e1.symm)
  have hzz : zval f (roundRatio f (s != t) c d (q - r)) = zval f (.fin s' c' q') := by
    rw [← hsg]
    show signed (sgn (roundRatio f (s != t) c d (q - r))) (zmag f (roundRatio f (s != t) c d (q - r))) = _
    rw [sgn_roundRatio, hm2]
  rw [hqt]
  exact ⟨dyf_of_zval hf hV hzz, by rw [hzz]; exact hv⟩
theorem Dyf.ofInt {f : Fmt} (hf : Good f) (hq : 0 ≤ f.qmax) {i : Int} (hi : i.natAbs < 2 ^ f.p) : Dyf f i 0 (round f (FP.Core.ofInt i)) := by
  have hn := qmin_neg hf
  refine rnd hf hq (Int.le_refl _) (by omega) hi (by omega) ?_
  unfold inUnits
  rw [signed_mulI, signed_abs, Int.sub_self]
  simp
theorem Dyf.order {f : Fmt} (hf : Good f) {i j : Int} {k : Nat} {x y : Datum} (fx : FP.Core.fits f x) (fy : FP.Core.fits f y) (hx : Dyf f i k x) (hy : Dyf f j k y) : order x y = some (compare i j) := by
  obtain ⟨⟨s, c, q, rfl⟩, hx⟩ := hx
  obtain ⟨⟨t, d, r, rfl⟩, hy⟩ := hy
  rw [order_zval hf fx fy nofun nofun, ← compare_mul_pos _ _ _ (pw_pos k), hx, hy, compare_mul_pos _ _ _ (pw_pos _)]
/-! doubles -/
def Dy (i : Int) (k : Nat) (a : UInt64) : Prop := Dyf b64 i k (val64 a)
theorem qm64 : (0 : Int) ≤ b64.qmax := by decide
theorem Dy.fin {i : Int} {k : Nat} {a : UInt64} (h : Dy i k a) : DFin a := h.1
theorem Dy.nn {i : Int} {k : Nat} {a : UInt64} (h : Dy i k a) : Jvm.Free.Fl.NoNaN64 a := (Jvm.Free.Fl.fin64_core.mpr h.1).noNaN
theorem Dy.to {i j : Int} {k l : Nat} {a : UInt64} (h : Dy i k a) (e : i * 2 ^ l = j * 2 ^ k) : Dy j l a := Dyf.to h e
theorem Dy.up {i : Int} {k : Nat} {a : UInt64} (h : Dy i k a) (l : Nat) : Dy (i * 2 ^ l) (k + l) a := Dyf.up h l
theorem Dy.add {i j : Int} {k : Nat} {a b : UInt64} (ha : Dy i k a) (hb : Dy j k b) (hi : (i + j).natAbs < 9007199254740992) (hk : k ≤ 1074) : Dy (i + j) k (FP.dadd a b) := by
  show Dyf b64 _ _ (val64 (dadd a b))
  rw [val64_dadd]
  exact Dyf.sum good_b64 qm64 (val64_fits a) (val64_fits b) ha hb hi (by rw [qmin_b64]; omega)
theorem Dy.sub {i j : Int} {k : Nat} {a b : UInt64} (ha : Dy i k a) (hb : Dy j k b) (hi : (i - j).natAbs < 9007199254740992) (hk : k ≤ 1074) : Dy (i - j) k (FP.dsub a b) := by
  show Dyf b64 _ _ (val64 (dsub a b))
  rw [val64_dsub]
  exact Dyf.sum good_b64 qm64 (val64_fits a) (negate_fits (val64_fits b)) ha hb.neg hi (by rw [qmin_b64]; omega)
theorem Dy.mul {i j : Int} {k l : Nat} {a b : UInt64} (ha : Dy i k a) (hb : Dy j l b) (hi : (i * j).natAbs < 9007199254740992) (hk : k + l ≤ 1074) : Dy (i * j) (k + l) (FP.dmul a b) := by
  show Dyf b64 _ _ (val64 (dmul a b))
  rw [val64_dmul]
  exact Dyf.prod good_b64 qm64 (val64_fits a) (val64_fits b) ha hb hi (by rw [qmin_b64]; omega)
theorem Dy.div {i j n : Int} {k l m : Nat} {a b : UInt64} (ha : Dy i k a) (hb : Dy j l b) (hj : j ≠ 0) (hi : n.natAbs < 9007199254740992) (hk : m ≤ 1074) (e : i * 2 ^ l * 2 ^ m = n * j * 2 ^ k) : Dy n m (FP.ddiv a b) := by
  show Dyf b64 _ _ (val64 (ddiv a b))
  rw [val64_ddiv]
  exact Dyf.quot good_b64 qm64 (val64_fits a) (val64_fits b) ha hb hj hi (by rw [qmin_b64]; omega) e
theorem Dy.neg {i : Int} {k : Nat} {a : UInt64} (ha : Dy i k a) : Dy (-i) k (FP.dneg a) := by
  show Dyf b64 _ _ (val64 (FP.dneg a))
  rw [Jvm.FP.val64_dneg]
  exact Dyf.neg ha
theorem Dy.i2d (x : Int32) : Dy x.toInt 0 (FP.i2d x) := by
  show Dyf b64 _ _ (val64 (FP.Core.i2d x))
  rw [val64_i2d]
  exact Dyf.ofInt good_b64 qm64 (by have := int32_abs x; show _ < 2 ^ 53; omega)
theorem Dy.l2d {x : Int64} (h : x.toInt.natAbs < 9007199254740992) : Dy x.toInt 0 (FP.l2d x) := by
  show Dyf b64 _ _ (val64 (FP.Core.l2d x))
  rw [val64_l2d]
  exact Dyf.ofInt good_b64 qm64 h
theorem Dy.cmp {i j : Int} {k : Nat} {a b : UInt64} (ha : Dy i k a) (hb : Dy j k b) : FP.dcmp a b = some (compare i j) :=
  Dyf.order good_b64 (val64_fits a) (val64_fits b) ha hb
theorem Dy.cmp_eq {i j : Int} {k : Nat} {a b : UInt64} (ha : Dy i k a) (hb : Dy j k b) (e : i = j) (o : ClassFile.CmpOp) : cmpValue (FP.dcmp a b) o = 0 := by
  rw [ha.cmp hb, e, compare_self_int]; rfl
theorem Dy.cmp_lt {i j : Int} {k : Nat} {a b : UInt64} (ha : Dy i k a) (hb : Dy j k b) (e : i < j) (o : ClassFile.CmpOp) : cmpValue (FP.dcmp a b) o = -1 := by
  rw [ha.cmp hb, show compare i j = .lt by rw [compare_ite, if_pos e]]; rfl
theorem Dy.cmp_gt {i j : Int} {k : Nat} {a b : UInt64} (ha : Dy i k a) (hb : Dy j k b) (e : j < i) (o : ClassFile.CmpOp) : cmpValue (FP.dcmp a b) o = 1 := by
  rw [ha.cmp hb, show compare i j = .gt by rw [compare_ite, if_neg (by omega), if_neg (by omega)]]; rfl
theorem dy_of {i : Int} {k : Nat} {a : UInt64} {s : Bool} {c : Nat} {q : Int} (h : val64 a = .fin s c q) (e : zval b64 (.fin s c q) * 2 ^ k = i * 2 ^ 1074) : Dy i k a :=
  ⟨⟨s, c, q, h⟩, by rw [h, e]; rfl⟩
theorem dy0 (k : Nat) : Dy 0 k (0 : UInt64) := dy_of (s := false) (c := 0) (q := -1074) (by decide +kernel) (by
  rw [show zval b64 (.fin false 0 (-1074)) = 0 from rfl, Int.zero_mul, Int.zero_mul])
theorem dy1 (k : Nat) : Dy (2 ^ k) k (4607182418800017408 : UInt64) := dy_of (s := false) (c := 2 ^ 52) (q := -52) (by decide +kernel) (by
  rw [show zval b64 (.fin false (2 ^ 52) (-52)) = 2 ^ 1074 by decide +kernel, Int.mul_comm])
theorem Dy.ge {i j : Int} {k : Nat} {a b : UInt64} (ha : Dy i k a) (hb : Dy j k b) (e : j ≤ i) (o : ClassFile.CmpOp) : ¬ (cmpValue (FP.dcmp a b) o < (0 : Int32)) := by
  rcases Int.lt_or_eq_of_le e with h | h
  · rw [ha.cmp_gt hb h]; decide
  · rw [ha.cmp_eq hb h.symm]; decide
theorem Dy.le {i j : Int} {k : Nat} {a b : UInt64} (ha : Dy i k a) (hb : Dy j k b) (e : i ≤ j) (o : ClassFile.CmpOp) : ¬ ((0 : Int32) < cmpValue (FP.dcmp a b) o) := by
  rcases Int.lt_or_eq_of_le e with h | h
  · rw [ha.cmp_lt hb h]; decide
  · rw [ha.cmp_eq hb h]; decide
theorem Dy.lt_inf {i : Int} {k : Nat} {a : UInt64} (ha : Dy i k a) (o : ClassFile.CmpOp) : cmpValue (FP.dcmp a (9218868437227405312 : UInt64)) o < (0 : Int32) := by
  rw [Jvm.RoadKit.dcmp_pinf (Jvm.Free.Fl.fin64_core.mpr ha.1)]; decide
theorem isfin {a : UInt64} (h : DFin a) : ¬ ((0 : Int32) < cmpValue (FP.dcmp (a &&& 0x7fffffffffffffff) (9218868437227405311 : UInt64)) .g) := by
  have hn : dIsNaN a = false := (notNaN_iff a).mpr (by obtain ⟨s, c, q, e⟩ := h; rw [e]; exact nofun)
  rcases (le_max hn).mpr h with e | e <;> rw [show FP.dcmp (a &&& 0x7fffffffffffffff) (9218868437227405311 : UInt64) = _ from e] <;> decide
theorem since0 (s : State) : s.Since s.vm 0 := ⟨State.Warmed39.refl s, fun j p h1 h2 => by
  rw [Array.getElem?_eq_none h1] at h2; cases h2⟩
theorem i2d_nz {v : Int32} (h : v ≠ 0) : ¬ DZero (FP.i2d v) := fun q => i2d_ne_zero h ((zero_bits2 _).mp q)
theorem nn_of {x : UInt64} (h : dIsNaN x = false) : Jvm.Free.Fl.NoNaN64 x := Jvm.Free.Fl.noNaN64_no.mpr h
theorem no_of {x : UInt64} (h : Jvm.Free.Fl.NoNaN64 x) : dIsNaN x = false := Jvm.Free.Fl.noNaN64_no.mp h
theorem no_fin {x : UInt64} (h : DFin x) : dIsNaN x = false := (notNaN_iff x).mpr (by obtain ⟨s, c, q, e⟩ := h; rw [e]; exact nofun)
theorem nn_div {a : UInt64} {v : Int32} (ha : dIsNaN a = false) (h : v ≠ 0) : Jvm.Free.Fl.NoNaN64 (FP.ddiv a (FP.i2d v)) := nn_of (ddiv_out ha (i2d_fin v) (i2d_nz h))
theorem fin_div (a : Int32) {v : Int32} (h : v ≠ 0) : DFin (FP.ddiv (FP.i2d a) (FP.i2d v)) := by
  have h1 := i2d_mag a
  have h2 := i2d_big (v := v) (fun q => h (Int32.toInt_inj.mp q))
  exact fin_of_lt (ddiv_mag h1 h2.1 h2.2 (by decide) (by decide)) (by decide)
end Jvm.OwnFp
namespace Jvm.Pilot.@@N@@
open Jvm Jvm.ClassFile Sem Op Lib Jvm.Free Jvm.Stand Jvm.LawKit Jvm.RoadKit Bundle Jvm.Pilot.@@N@@.Jvm.D
open Jvm.OwnFp
theorem own_n4 (x n : Int32) (h : n = (x &&& (3 : Int32))) : n = 0 ∨ n = 1 ∨ n = 2 ∨ n = 3 := by
  have m := c_and x 3 (by decide)
  rw [← h, show (3 : Int32).toInt = 3 by decide] at m
  have e : n = Int32.ofInt n.toInt := (Int32.ofInt_toInt n).symm
  have : n.toInt = 0 ∨ n.toInt = 1 ∨ n.toInt = 2 ∨ n.toInt = 3 := by omega
  rcases this with q | q | q | q <;> rw [q] at e <;> simp [e] <;> decide
theorem own_ranks {g1 g2 g3 r1 r2 r3 : Int32} (h1 : r1 = ((1 : Int32) + (g1 &&& (536870911 : Int32)))) (h2 : r2 = ((r1 + (1 : Int32)) + (g2 &&& (536870911 : Int32)))) (h3 : r3 = ((r2 + (1 : Int32)) + (g3 &&& (536870911 : Int32)))) : r1.toInt < r2.toInt ∧ r2.toInt < r3.toInt := by
  have a1 := c_and g1 536870911 (by decide); have a2 := c_and g2 536870911 (by decide); have a3 := c_and g3 536870911 (by decide)
  rw [show (536870911 : Int32).toInt = 536870911 by decide] at a1 a2 a3
  have s1 := c_iadd 1 (g1 &&& 536870911); have s2 := c_iadd r1 1; have s3 := c_iadd (r1 + 1) (g2 &&& 536870911); have s4 := c_iadd r2 1; have s5 := c_iadd (r2 + 1) (g3 &&& 536870911)
  rw [show (1 : Int32).toInt = 1 by decide] at s1 s2 s4
  rw [← h1] at s1; rw [← h2] at s3; rw [← h3] at s5
  have q1 := rng32 r1; have q2 := rng32 r2; have q3 := rng32 r3; have q4 := rng32 (r1 + 1); have q5 := rng32 (r2 + 1)
  omega
theorem own_max1 (e : Int32) : 1 ≤ (if (1 : Int32) < e then e else (1 : Int32)).toInt := by
  split
  · rename_i h; have := Int32.lt_iff_toInt_lt.mp h; rw [show (1 : Int32).toInt = 1 by decide] at this; omega
  · decide
theorem own_ge1 {x : Int32} (h : 1 ≤ x.toInt) : ¬ (x < (1 : Int32)) := fun q => by
  have := Int32.lt_iff_toInt_lt.mp q; rw [show (1 : Int32).toInt = 1 by decide] at this; omega
theorem ef_2_RRIIR (m : MethodId) (x0 : Addr) (x1 : Addr) (x2 : Int32) (x3 : Int32) (x4 : Addr) : entryFrame m #[(.ref x0), (.ref x1), (.int x2), (.int x3), (.ref x4)] 5 = mkF m 0 #[.val (.ref x0), .val (.ref x1), .val (.int x2), .val (.int x3), .val (.ref x4)] [] := by first | (simp [entryFrame, mkF, argsToLocals, Value.category]; done) | rfl
theorem d2_0 : decode prog_10_method_1_code 0 = .ok (.aload_n 0, 1) := by decide +kernel
theorem d2_1 : decode prog_10_method_1_code 1 = .ok (.invokespecial 1, 3) := by decide +kernel
theorem d2_4 : decode prog_10_method_1_code 4 = .ok (.aload_n 0, 1) := by decide +kernel
theorem d2_5 : decode prog_10_method_1_code 5 = .ok (.aload_n 1, 1) := by decide +kernel
theorem d2_6 : decode prog_10_method_1_code 6 = .ok (.putfield 7, 3) := by decide +kernel
theorem d2_9 : decode prog_10_method_1_code 9 = .ok (.aload_n 0, 1) := by decide +kernel
theorem d2_10 : decode prog_10_method_1_code 10 = .ok (.iload_n 2, 1) := by decide +kernel
theorem d2_11 : decode prog_10_method_1_code 11 = .ok (.putfield 13, 3) := by decide +kernel
theorem d2_14 : decode prog_10_method_1_code 14 = .ok (.aload_n 0, 1) := by decide +kernel
theorem d2_15 : decode prog_10_method_1_code 15 = .ok (.iload_n 3, 1) := by decide +kernel
theorem d2_16 : decode prog_10_method_1_code 16 = .ok (.putfield 17, 3) := by decide +kernel
theorem d2_19 : decode prog_10_method_1_code 19 = .ok (.aload_n 0, 1) := by decide +kernel
theorem d2_20 : decode prog_10_method_1_code 20 = .ok (.aload 4, 2) := by decide +kernel
theorem d2_22 : decode prog_10_method_1_code 22 = .ok (.putfield 20, 3) := by decide +kernel
theorem d2_25 : decode prog_10_method_1_code 25 = .ok (.return_, 1) := by decide +kernel
def Q_rm2 (Z : State) (a1 : Addr) (a2 : Addr) (p1 : Int32) (p2 : Int32) (a3 : Addr) (h0 : Heap) (n0 : Nat) (v : Option Value) (h : Heap) (L : List Loc) : Prop := v = none ∧ Fr n0 L ∧ Keep h0 h [a1] ∧ Exa Z h a1 "com/example/round2/round2/eval/TopicResult" ∧ Fld Z h a1 "com/example/round2/round2/eval/TopicResult" "relevant" "I" (.int p2) ∧ Fld Z h a1 "com/example/round2/round2/eval/TopicResult" "relevantRanks" "[I" (.ref a3)
theorem pn_com_2fexample_2fround2_2fround2_2feval_2fTopicResult : plainName "com/example/round2/round2/eval/TopicResult" = true := by first | (simp [plainName, overriddenIn]; done) | decide +kernel
set_option maxRecDepth 65536 in
set_option maxHeartbeats 40000000 in
theorem rm2 (l : Launch) (Z : State) (a0 : Array Value) (hw : ∀ d ∈ tables_1, d.before a0 Z = true) (ws : List Jvm.Cond) (a1 : Addr) (a2 : Addr) (p1 : Int32) (p2 : Int32) (a3 : Addr) (h0 : Heap) (n0 : Nat) (Z0 : n0 ≤ h0.size) (F0 : Fld Z h0 a1 "com/example/round2/round2/eval/TopicResult" "topic" "Ljava/lang/String;" .null) (F1 : Fld Z h0 a1 "com/example/round2/round2/eval/TopicResult" "retrieved" "I" (.int (0 : Int32))) (F2 : Fld Z h0 a1 "com/example/round2/round2/eval/TopicResult" "relevant" "I" (.int (0 : Int32))) (F3 : Fld Z h0 a1 "com/example/round2/round2/eval/TopicResult" "relevantRanks" "[I" .null) (E1 : Exa Z h0 a1 "com/example/round2/round2/eval/TopicResult") (ga : n0 ≤ a1) :
    MetFree l (⟨"com/example/round2/round2/eval/TopicResult", "<init>", "(Ljava/lang/String;II[I)V"⟩ : MethodName) (head1 (Jvm.Cond.code (⟨"com/example/round2/round2/eval/TopicResult", "<init>", "(Ljava/lang/String;II[I)V"⟩ : MethodName) prog_10_method_1_code 5 none :: ws) ({ frames := 1, cells := 0, slots := 0, locals := 12 } : Room)) (fun a U => a = #[(.ref a1), (.ref a2), (.int p1), (.int p2), (.ref a3)] ∧ Z.Warmed39 U.vm ∧ U.heap = h0) (fun _ _ _ _ _ => True) (fun _ U o U' => ∃ v L, o = .returned v ∧ Q_rm2 Z a1 a2 p1 p2 a3 h0 n0 v U'.heap L ∧ FrameEnd U o U' L ({ frames := 1, cells := 0, slots := 0, locals := 12 } : Room).cells ({ frames := 1, cells := 0, slots := 0, locals := 12 } : Room).slots) := by
  refine MetFree.of_bodySF (plainFor_of_name pn_com_2fexample_2fround2_2fround2_2feval_2fTopicResult) hisR ?_
  intro p e s m args below meth c s₁ Bd hml0 hP hK
  obtain ⟨rfl, hZ, hh⟩ := hP
  have hx := Bd.exec
  have hby := Bd.bytes
  have hml : c.maxLocals = 5 := hml0
  have hown : s.vm.findClass "com/example/round2/round2/eval/TopicResult" = some m.cls := findClass_of_methodNamed Bd.named
  have hnm := (name_of_methodNamed Bd.named Bd.method).1
  have X0 : Stand p l e ({ frames := 1, cells := 0, slots := 0, locals := 12 } : Room) s m #[(.ref a1), (.ref a2), (.int p1), (.int p2), (.ref a3)] below meth c s₁ [] 0 0 := Stand.of_body Bd
  have e0 : s₁.heap = h0 := by rw [← hh, Bd.state]; rfl
  have N0 := Fr.nil n0
  have k0 : ∀ t, Steps p.tables e below (s₁.setTop (mkF m 0 #[.val (.ref a1), .val (.ref a2), .val (.int p1), .val (.int p2), .val (.ref a3)] [])) t → Steps p.tables e below (s₁.setTop (entryFrame m #[(.ref a1), (.ref a2), (.int p1), (.int p2), (.ref a3)] 5)) t := fun t k => castTop (ef_2_RRIIR m a1 a2 p1 p2 a3) k
  have K0 := Keep.refl h0 [a1]
  have k101 : ∀ t, Steps p.tables e below (s₁.setTop (mkF m 1 #[.val (.ref a1), .val (.ref a2), .val (.int p1), .val (.int p2), .val (.ref a3)] [(.ref a1)])) t → Steps p.tables e below (s₁.setTop (entryFrame m #[(.ref a1), (.ref a2), (.int p1), (.int p2), (.ref a3)] 5)) t := fun t k => k0 t (by
    show Steps p.tables e below (s₁.setTop (mkF m 0 #[.val (.ref a1), .val (.ref a2), .val (.int p1), .val (.int p2), .val (.ref a3)] [])) _
    refine XS.aloadN X0.here hx rfl (hb hby d2_0) rfl rfl ?_
    exact k)
  obtain ⟨T102, X102, e102, st102⟩ := initO X0 hx hZ hown (hw _ (List.mem_of_getElem? (i := 21) rfl)) (hw _ (List.mem_of_getElem? (i := 22) rfl)) (hw _ (List.mem_of_getElem? (i := 23) rfl)) e0 (g := (mkF m 1 #[.val (.ref a1), .val (.ref a2), .val (.int p1), .val (.int p2), .val (.ref a3)] [(.ref a1)])) rfl (by rw [hml]; rfl) rfl (hb hby d2_1) (by decide) (W := 0) (by show 2 * 0 + _ ≤ _; exact Nat.le_of_eq rfl) (by decide)
  have k103 : ∀ t, Steps p.tables e below (T102.setTop (mkF m 4 #[.val (.ref a1), .val (.ref a2), .val (.int p1), .val (.int p2), .val (.ref a3)] [])) t → Steps p.tables e below (s₁.setTop (entryFrame m #[(.ref a1), (.ref a2), (.int p1), (.int p2), (.ref a3)] 5)) t := fun t k => k101 t (st102 t k)
  have k104 : ∀ t, Steps p.tables e below (T102.setTop (mkF m 6 #[.val (.ref a1), .val (.ref a2), .val (.int p1), .val (.int p2), .val (.ref a3)] [(.ref a2), (.ref a1)])) t → Steps p.tables e below (s₁.setTop (entryFrame m #[(.ref a1), (.ref a2), (.int p1), (.int p2), (.ref a3)] 5)) t := fun t k => k103 t (by
    show Steps p.tables e below (T102.setTop (mkF m 4 #[.val (.ref a1), .val (.ref a2), .val (.int p1), .val (.int p2), .val (.ref a3)] [])) _
    refine XS.aloadN X102.here hx rfl (hb hby d2_4) rfl rfl ?_
    show Steps p.tables e below (T102.setTop (mkF m 5 #[.val (.ref a1), .val (.ref a2), .val (.int p1), .val (.int p2), .val (.ref a3)] [(.ref a1)])) _
    refine XS.aloadN X102.here hx rfl (hb hby d2_5) rfl rfl ?_
    exact k)
  obtain ⟨T105, h105, X105, e105, W105, st105⟩ := putF X102 hx hZ hown (host := "") (Or.inl (hw _ (List.mem_of_getElem? (i := 24) rfl))) Via.refl e102 F0 E1 (Or.inr ⟨(hw _ (List.mem_of_getElem? (i := 25) rfl)), rfl, hnm⟩) (hw _ (List.mem_of_getElem? (i := 8) rfl)) (ty := (.object "java/lang/String")) (by decide) rfl rfl (g := (mkF m 6 #[.val (.ref a1), .val (.ref a2), .val (.int p1), .val (.int p2), .val (.ref a3)] [(.ref a2), (.ref a1)])) rfl rfl (hb hby d2_6)
  have F106 := F0.same W105
  have F107 := F1.other W105 (Or.inr (slot_ne (Or.inr (hw _ (List.mem_of_getElem? (i := 27) rfl))) (Or.inr (hw _ (List.mem_of_getElem? (i := 25) rfl))) (by decide) (t := .int) (t' := (.object "java/lang/String")) (by decide) (by decide)))
  have F108 := F2.other W105 (Or.inr (slot_ne (Or.inr (hw _ (List.mem_of_getElem? (i := 29) rfl))) (Or.inr (hw _ (List.mem_of_getElem? (i := 25) rfl))) (by decide) (t := .int) (t' := (.object "java/lang/String")) (by decide) (by decide)))
  have F109 := F3.other W105 (Or.inr (slot_ne (Or.inr (hw _ (List.mem_of_getElem? (i := 31) rfl))) (Or.inr (hw _ (List.mem_of_getElem? (i := 25) rfl))) (by decide) (t := (.array .int)) (t' := (.object "java/lang/String")) (by decide) (by decide)))
  have F110 := E1.wr W105
  have Z111 : n0 ≤ h105.size := Nat.le_trans Z0 (Nat.le_of_eq W105.size.symm)
  have N112 := Fr.snoc X105 N0 ga
  have K113 := K0.wr W105 (Or.inl (List.mem_of_getElem? (i := 0) rfl))
  have k114 : ∀ t, Steps p.tables e below (T105.setTop (mkF m 9 #[.val (.ref a1), .val (.ref a2), .val (.int p1), .val (.int p2), .val (.ref a3)] [])) t → Steps p.tables e below (s₁.setTop (entryFrame m #[(.ref a1), (.ref a2), (.int p1), (.int p2), (.ref a3)] 5)) t := fun t k => k104 t (st105 t k)
  have k115 : ∀ t, Steps p.tables e below (T105.setTop (mkF m 11 #[.val (.ref a1), .val (.ref a2), .val (.int p1), .val (.int p2), .val (.ref a3)] [(.int p1), (.ref a1)])) t → Steps p.tables e below (s₁.setTop (entryFrame m #[(.ref a1), (.ref a2), (.int p1), (.int p2), (.ref a3)] 5)) t := fun t k => k114 t (by
    show Steps p.tables e below (T105.setTop (mkF m 9 #[.val (.ref a1), .val (.ref a2), .val (.int p1), .val (.int p2), .val (.ref a3)] [])) _
    refine XS.aloadN X105.here hx rfl (hb hby d2_9) rfl rfl ?_
    show Steps p.tables e below (T105.setTop (mkF m 10 #[.val (.ref a1), .val (.ref a2), .val (.int p1), .val (.int p2), .val (.ref a3)] [(.ref a1)])) _
    refine XS.iloadN X105.here hx rfl (hb hby d2_10) rfl ?_
    exact k)
  obtain ⟨T116, h116, X116, e116, W116, st116⟩ := putF X105 hx hZ hown (host := "") (Or.inl (hw _ (List.mem_of_getElem? (i := 26) rfl))) Via.refl e105 F107 F110 (Or.inr ⟨(hw _ (List.mem_of_getElem? (i := 27) rfl)), rfl, hnm⟩) (hw _ (List.mem_of_getElem? (i := 8) rfl)) (ty := .int) (by decide) rfl rfl (g := (mkF m 11 #[.val (.ref a1), .val (.ref a2), .val (.int p1), .val (.int p2), .val (.ref a3)] [(.int p1), (.ref a1)])) rfl rfl (hb hby d2_11)
  have F117 := F107.same W116
  have F118 := F108.other W116 (Or.inr (slot_ne (Or.inr (hw _ (List.mem_of_getElem? (i := 29) rfl))) (Or.inr (hw _ (List.mem_of_getElem? (i := 27) rfl))) (by decide) (t := .int) (t' := .int) (by decide) (by decide)))
  have F119 := F109.other W116 (Or.inr (slot_ne (Or.inr (hw _ (List.mem_of_getElem? (i := 31) rfl))) (Or.inr (hw _ (List.mem_of_getElem? (i := 27) rfl))) (by decide) (t := (.array .int)) (t' := .int) (by decide) (by decide)))
  have F120 := F110.wr W116
  have F121 := F106.other W116 (Or.inr (slot_ne (Or.inr (hw _ (List.mem_of_getElem? (i := 25) rfl))) (Or.inr (hw _ (List.mem_of_getElem? (i := 27) rfl))) (by decide) (t := (.object "java/lang/String")) (t' := .int) (by decide) (by decide)))
  have Z122 : n0 ≤ h116.size := Nat.le_trans Z111 (Nat.le_of_eq W116.size.symm)
  have N123 := Fr.snoc X116 N112 ga
  have K124 := K113.wr W116 (Or.inl (List.mem_of_getElem? (i := 0) rfl))
  have k125 : ∀ t, Steps p.tables e below (T116.setTop (mkF m 14 #[.val (.ref a1), .val (.ref a2), .val (.int p1), .val (.int p2), .val (.ref a3)] [])) t → Steps p.tables e below (s₁.setTop (entryFrame m #[(.ref a1), (.ref a2), (.int p1), (.int p2), (.ref a3)] 5)) t := fun t k => k115 t (st116 t k)
  have k126 : ∀ t, Steps p.tables e below (T116.setTop (mkF m 16 #[.val (.ref a1), .val (.ref a2), .val (.int p1), .val (.int p2), .val (.ref a3)] [(.int p2), (.ref a1)])) t → Steps p.tables e below (s₁.setTop (entryFrame m #[(.ref a1), (.ref a2), (.int p1), (.int p2), (.ref a3)] 5)) t := fun t k => k125 t (by
    show Steps p.tables e below (T116.setTop (mkF m 14 #[.val (.ref a1), .val (.ref a2), .val (.int p1), .val (.int p2), .val (.ref a3)] [])) _
    refine XS.aloadN X116.here hx rfl (hb hby d2_14) rfl rfl ?_
    show Steps p.tables e below (T116.setTop (mkF m 15 #[.val (.ref a1), .val (.ref a2), .val (.int p1), .val (.int p2), .val (.ref a3)] [(.ref a1)])) _
    refine XS.iloadN X116.here hx rfl (hb hby d2_15) rfl ?_
    exact k)
  obtain ⟨T127, h127, X127, e127, W127, st127⟩ := putF X116 hx hZ hown (host := "") (Or.inl (hw _ (List.mem_of_getElem? (i := 28) rfl))) Via.refl e116 F118 F120 (Or.inr ⟨(hw _ (List.mem_of_getElem? (i := 29) rfl)), rfl, hnm⟩) (hw _ (List.mem_of_getElem? (i := 8) rfl)) (ty := .int) (by decide) rfl rfl (g := (mkF m 16 #[.val (.ref a1), .val (.ref a2), .val (.int p1), .val (.int p2), .val (.ref a3)] [(.int p2), (.ref a1)])) rfl rfl (hb hby d2_16)
  have F128 := F118.same W127
  have F129 := F119.other W127 (Or.inr (slot_ne (Or.inr (hw _ (List.mem_of_getElem? (i := 31) rfl))) (Or.inr (hw _ (List.mem_of_getElem? (i := 29) rfl))) (by decide) (t := (.array .int)) (t' := .int) (by decide) (by decide)))
  have F130 := F120.wr W127
  have F131 := F121.other W127 (Or.inr (slot_ne (Or.inr (hw _ (List.mem_of_getElem? (i := 25) rfl))) (Or.inr (hw _ (List.mem_of_getElem? (i := 29) rfl))) (by decide) (t := (.object "java/lang/String")) (t' := .int) (by decide) (by decide)))
  have F132 := F117.other W127 (Or.inr (slot_ne (Or.inr (hw _ (List.mem_of_getElem? (i := 27) rfl))) (Or.inr (hw _ (List.mem_of_getElem? (i := 29) rfl))) (by decide) (t := .int) (t' := .int) (by decide) (by decide)))
  have Z133 : n0 ≤ h127.size := Nat.le_trans Z122 (Nat.le_of_eq W127.size.symm)
  have N134 := Fr.snoc X127 N123 ga
  have K135 := K124.wr W127 (Or.inl (List.mem_of_getElem? (i := 0) rfl))
  have k136 : ∀ t, Steps p.tables e below (T127.setTop (mkF m 19 #[.val (.ref a1), .val (.ref a2), .val (.int p1), .val (.int p2), .val (.ref a3)] [])) t → Steps p.tables e below (s₁.setTop (entryFrame m #[(.ref a1), (.ref a2), (.int p1), (.int p2), (.ref a3)] 5)) t := fun t k => k126 t (st127 t k)
  have k137 : ∀ t, Steps p.tables e below (T127.setTop (mkF m 22 #[.val (.ref a1), .val (.ref a2), .val (.int p1), .val (.int p2), .val (.ref a3)] [(.ref a3), (.ref a1)])) t → Steps p.tables e below (s₁.setTop (entryFrame m #[(.ref a1), (.ref a2), (.int p1), (.int p2), (.ref a3)] 5)) t := fun t k => k136 t (by
    show Steps p.tables e below (T127.setTop (mkF m 19 #[.val (.ref a1), .val (.ref a2), .val (.int p1), .val (.int p2), .val (.ref a3)] [])) _
    refine XS.aloadN X127.here hx rfl (hb hby d2_19) rfl rfl ?_
    show Steps p.tables e below (T127.setTop (mkF m 20 #[.val (.ref a1), .val (.ref a2), .val (.int p1), .val (.int p2), .val (.ref a3)] [(.ref a1)])) _
    refine XS.aload X127.here hx rfl (hb hby d2_20) rfl rfl ?_
    exact k)
  obtain ⟨T138, h138, X138, e138, W138, st138⟩ := putF X127 hx hZ hown (host := "") (Or.inl (hw _ (List.mem_of_getElem? (i := 30) rfl))) Via.refl e127 F129 F130 (Or.inr ⟨(hw _ (List.mem_of_getElem? (i := 31) rfl)), rfl, hnm⟩) (hw _ (List.mem_of_getElem? (i := 8) rfl)) (ty := (.array .int)) (by decide) rfl rfl (g := (mkF m 22 #[.val (.ref a1), .val (.ref a2), .val (.int p1), .val (.int p2), .val (.ref a3)] [(.ref a3), (.ref a1)])) rfl rfl (hb hby d2_22)
  have F139 := F129.same W138
  have F140 := F130.wr W138
  have F141 := F131.other W138 (Or.inr (slot_ne (Or.inr (hw _ (List.mem_of_getElem? (i := 25) rfl))) (Or.inr (hw _ (List.mem_of_getElem? (i := 31) rfl))) (by decide) (t := (.object "java/lang/String")) (t' := (.array .int)) (by decide) (by decide)))
  have F142 := F132.other W138 (Or.inr (slot_ne (Or.inr (hw _ (List.mem_of_getElem? (i := 27) rfl))) (Or.inr (hw _ (List.mem_of_getElem? (i := 31) rfl))) (by decide) (t := .int) (t' := (.array .int)) (by decide) (by decide)))
  have F143 := F128.other W138 (Or.inr (slot_ne (Or.inr (hw _ (List.mem_of_getElem? (i := 29) rfl))) (Or.inr (hw _ (List.mem_of_getElem? (i := 31) rfl))) (by decide) (t := .int) (t' := (.array .int)) (by decide) (by decide)))
  have Z144 : n0 ≤ h138.size := Nat.le_trans Z133 (Nat.le_of_eq W138.size.symm)
  have N145 := Fr.snoc X138 N134 ga
  have K146 := K135.wr W138 (Or.inl (List.mem_of_getElem? (i := 0) rfl))
  have k147 : ∀ t, Steps p.tables e below (T138.setTop (mkF m 25 #[.val (.ref a1), .val (.ref a2), .val (.int p1), .val (.int p2), .val (.ref a3)] [])) t → Steps p.tables e below (s₁.setTop (entryFrame m #[(.ref a1), (.ref a2), (.int p1), (.int p2), (.ref a3)] 5)) t := fun t k => k137 t (st138 t k)
  obtain ⟨fs, hr, hrun, hended, hW, hsame⟩ := X138.leave (v := none) (fun _ => rfl)
  refine ⟨_, _, k147 _ (X138.returnOut hx Bd.returns (hb hby d2_25) hr), hrun, hended, _, _, rfl, ?_, ⟨_, rfl⟩, hW, hsame.mono (by decide) (by decide)⟩
  show Q_rm2 Z a1 a2 p1 p2 a3 h0 n0 _ T138.heap _
  rw [e138]
  exact ⟨rfl, N145, K146, F140, F143, F139⟩
theorem ef_1_II (m : MethodId) (x0 : Int32) (x1 : Int32) : entryFrame m #[(.int x0), (.int x1)] 2 = mkF m 0 #[.val (.int x0), .val (.int x1)] [] := by first | (simp [entryFrame, mkF, argsToLocals, Value.category]; done) | rfl
theorem d1_0 : decode jdk_29_method_65_code 0 = .ok (.iload_n 0, 1) := by decide +kernel
theorem d1_1 : decode jdk_29_method_65_code 1 = .ok (.iload_n 1, 1) := by decide +kernel
theorem d1_2 : decode jdk_29_method_65_code 2 = .ok (.if_icmp .lt 7, 3) := by decide +kernel
theorem d1_9 : decode jdk_29_method_65_code 9 = .ok (.iload_n 1, 1) := by decide +kernel
theorem d1_5 : decode jdk_29_method_65_code 5 = .ok (.iload_n 0, 1) := by decide +kernel
theorem d1_6 : decode jdk_29_method_65_code 6 = .ok (.goto 4, 3) := by decide +kernel
theorem d1_10 : decode jdk_29_method_65_code 10 = .ok (.ireturn, 1) := by decide +kernel
def Q_rm1 (Z : State) (p1 : Int32) (p2 : Int32) (h0 : Heap) (n0 : Nat) (v : Option Value) (h : Heap) (L : List Loc) : Prop := v = some (.int (if p1 < p2 then p2 else p1)) ∧ Fr n0 L ∧ h = h0
set_option maxRecDepth 65536 in
set_option maxHeartbeats 40000000 in
theorem rm1 (l : Launch) (Z : State) (a0 : Array Value) (hw : ∀ d ∈ tables_1, d.before a0 Z = true) (ws : List Jvm.Cond) (p1 : Int32) (p2 : Int32) (h0 : Heap) (n0 : Nat) (Z0 : n0 ≤ h0.size) :
    MetFree l (⟨"java/lang/Math", "max", "(II)I"⟩ : MethodName) (head1 (Jvm.Cond.code (⟨"java/lang/Math", "max", "(II)I"⟩ : MethodName) jdk_29_method_65_code 2 (some .int) :: ws) ({ frames := 0, cells := 0, slots := 0, locals := 0 } : Room)) (fun a U => a = #[(.int p1), (.int p2)] ∧ Z.Warmed39 U.vm ∧ U.heap = h0) (fun _ _ _ _ _ => True) (fun _ U o U' => ∃ v L, o = .returned v ∧ Q_rm1 Z p1 p2 h0 n0 v U'.heap L ∧ FrameEnd U o U' L ({ frames := 0, cells := 0, slots := 0, locals := 0 } : Room).cells ({ frames := 0, cells := 0, slots := 0, locals := 0 } : Room).slots) := by
  refine MetFree.of_bodySF (Jvm.Free.JP.mathPlain rfl (by decide +kernel)) hisR ?_
  intro p e s m args below meth c s₁ Bd hml0 hP hK
  obtain ⟨rfl, hZ, hh⟩ := hP
  have hx := Bd.exec
  have hby := Bd.bytes
  have hml : c.maxLocals = 2 := hml0
  have hown : s.vm.findClass "java/lang/Math" = some m.cls := findClass_of_methodNamed Bd.named
  have hnm := (name_of_methodNamed Bd.named Bd.method).1
  have X0 : Stand p l e ({ frames := 0, cells := 0, slots := 0, locals := 0 } : Room) s m #[(.int p1), (.int p2)] below meth c s₁ [] 0 0 := Stand.of_body Bd
  have e0 : s₁.heap = h0 := by rw [← hh, Bd.state]; rfl
  have N0 := Fr.nil n0
  have k0 : ∀ t, Steps p.tables e below (s₁.setTop (mkF m 0 #[.val (.int p1), .val (.int p2)] [])) t → Steps p.tables e below (s₁.setTop (entryFrame m #[(.int p1), (.int p2)] 2)) t := fun t k => castTop (ef_1_II m p1 p2) k
  have k101 : ∀ t, Steps p.tables e below (s₁.setTop (mkF m 2 #[.val (.int p1), .val (.int p2)] [(.int p2), (.int p1)])) t → Steps p.tables e below (s₁.setTop (entryFrame m #[(.int p1), (.int p2)] 2)) t := fun t k => k0 t (by
    show Steps p.tables e below (s₁.setTop (mkF m 0 #[.val (.int p1), .val (.int p2)] [])) _
    refine XS.iloadN X0.here hx rfl (hb hby d1_0) rfl ?_
    show Steps p.tables e below (s₁.setTop (mkF m 1 #[.val (.int p1), .val (.int p2)] [(.int p1)])) _
    refine XS.iloadN X0.here hx rfl (hb hby d1_1) rfl ?_
    exact k)
  obtain ⟨i103, hi103⟩ : ∃ z : Int32, z = (if p1 < p2 then p2 else p1) := ⟨_, rfl⟩
  have k104 : ∀ t, Steps p.tables e below (s₁.setTop (mkF m 10 #[.val (.int p1), .val (.int p2)] [(.int i103)])) t → Steps p.tables e below (s₁.setTop (entryFrame m #[(.int p1), (.int p2)] 2)) t := fun t k => k101 t (by
    by_cases c102 : p1 < p2
    · rw [if_pos c102] at hi103
      show Steps p.tables e below (s₁.setTop (mkF m 2 #[.val (.int p1), .val (.int p2)] [(.int p2), (.int p1)])) _
      refine XS.icmpYes X0.here hx rfl (pc0 := 2) (pc' := 9) rfl (hb hby d1_2) rfl (tlt c102).1 (by decide) (by decide) ?_
      show Steps p.tables e below (s₁.setTop (mkF m 9 #[.val (.int p1), .val (.int p2)] [])) _
      refine XS.iloadN X0.here hx rfl (hb hby d1_9) rfl ?_
      show Steps p.tables e below (s₁.setTop (mkF m 10 #[.val (.int p1), .val (.int p2)] [(.int p2)])) _
      exact castTop (by rw [hi103]) k
    · rw [if_neg c102] at hi103
      show Steps p.tables e below (s₁.setTop (mkF m 2 #[.val (.int p1), .val (.int p2)] [(.int p2), (.int p1)])) _
      refine XS.icmpNo X0.here hx rfl (hb hby d1_2) rfl (flt c102).1 ?_
      show Steps p.tables e below (s₁.setTop (mkF m 5 #[.val (.int p1), .val (.int p2)] [])) _
      refine XS.iloadN X0.here hx rfl (hb hby d1_5) rfl ?_
      show Steps p.tables e below (s₁.setTop (mkF m 6 #[.val (.int p1), .val (.int p2)] [(.int p1)])) _
      refine XS.goto X0.here hx rfl (pc0 := 6) (pc' := 10) rfl (hb hby d1_6) (by decide) (by decide) ?_
      show Steps p.tables e below (s₁.setTop (mkF m 10 #[.val (.int p1), .val (.int p2)] [(.int p1)])) _
      exact castTop (by rw [hi103]) k)
  obtain ⟨fs, hr, hrun, hended, hW, hsame⟩ := X0.leave (v := some (.int i103)) (fun h => by rw [Bd.returns] at h; cases h)
  refine ⟨_, _, k104 _ (retOut X0 hx (t := .int) Bd.returns rfl (Or.inl ⟨rfl, Or.inl rfl, _, rfl⟩) (hb hby d1_10) hr), hrun, hended, _, _, rfl, ?_, ⟨_, rfl⟩, hW, hsame.mono (by decide) (by decide)⟩
  show Q_rm1 Z p1 p2 h0 n0 _ s₁.heap _
  rw [e0]
  exact ⟨by rw [hi103], N0, rfl⟩
theorem ef_4_RI (m : MethodId) (x0 : Addr) (x1 : Int32) : entryFrame m #[(.ref x0), (.int x1)] 3 = mkF m 0 #[.val (.ref x0), .val (.int x1), .unset] [] := by first | (simp [entryFrame, mkF, argsToLocals, Value.category]; done) | rfl
theorem d4_0 : decode prog_10_method_8_code 0 = .ok (.iload_n 1, 1) := by decide +kernel
theorem d4_1 : decode prog_10_method_8_code 1 = .ok (.iconst 1, 1) := by decide +kernel
theorem d4_2 : decode prog_10_method_8_code 2 = .ok (.if_icmp .ge 17, 3) := by decide +kernel
theorem d4_19 : decode prog_10_method_8_code 19 = .ok (.iconst 0, 1) := by decide +kernel
theorem d4_20 : decode prog_10_method_8_code 20 = .ok (.istore_n 2, 1) := by decide +kernel
theorem d4_21 : decode prog_10_method_8_code 21 = .ok (.iload_n 2, 1) := by decide +kernel
theorem d4_22 : decode prog_10_method_8_code 22 = .ok (.aload_n 0, 1) := by decide +kernel
theorem d4_23 : decode prog_10_method_8_code 23 = .ok (.getfield 20, 3) := by decide +kernel
theorem d4_26 : decode prog_10_method_8_code 26 = .ok (.arraylength, 1) := by decide +kernel
theorem d4_27 : decode prog_10_method_8_code 27 = .ok (.if_icmp .ge 19, 3) := by decide +kernel
theorem d4_46 : decode prog_10_method_8_code 46 = .ok (.iload_n 2, 1) := by decide +kernel
theorem d4_47 : decode prog_10_method_8_code 47 = .ok (.i2d, 1) := by decide +kernel
theorem d4_48 : decode prog_10_method_8_code 48 = .ok (.iload_n 1, 1) := by decide +kernel
theorem d4_49 : decode prog_10_method_8_code 49 = .ok (.i2d, 1) := by decide +kernel
theorem d4_50 : decode prog_10_method_8_code 50 = .ok (.ddiv, 1) := by decide +kernel
theorem d4_51 : decode prog_10_method_8_code 51 = .ok (.dreturn, 1) := by decide +kernel
def Q_prec0_0 (Z : State) (a1 : Addr) (p1 : Int32) (a2 : Addr) (k1 : ClassId) (h0 : Heap) (n0 : Nat) (v : Option Value) (h : Heap) (L : List Loc) : Prop := v = some (.double (FP.ddiv (FP.i2d (0 : Int32)) (FP.i2d p1))) ∧ Fr n0 L ∧ h = h0
set_option maxRecDepth 65536 in
set_option maxHeartbeats 40000000 in
theorem prec0_0 (l : Launch) (Z : State) (a0 : Array Value) (hw : ∀ d ∈ tables_1, d.before a0 Z = true) (ws : List Jvm.Cond) (a1 : Addr) (p1 : Int32) (a2 : Addr) (k1 : ClassId) (h0 : Heap) (n0 : Nat) (Z0 : n0 ≤ h0.size) (F1 : Fld Z h0 a1 "com/example/round2/round2/eval/TopicResult" "relevantRanks" "[I" (.ref a2)) (V1 : Arv Z h0 a2 k1 .int (0 : Int32) [] (.int (0 : Int32))) (c2 : ¬ (p1 < (1 : Int32))) (nn50 : Jvm.Free.Fl.NoNaN64 (FP.ddiv (FP.i2d (0 : Int32)) (FP.i2d p1))) :
    MetFree l (⟨"com/example/round2/round2/eval/TopicResult", "precisionAt", "(I)D"⟩ : MethodName) (head1 (Jvm.Cond.code (⟨"com/example/round2/round2/eval/TopicResult", "precisionAt", "(I)D"⟩ : MethodName) prog_10_method_8_code 3 (some .double) :: ws) ({ frames := 0, cells := 0, slots := 0, locals := 0 } : Room)) (fun a U => a = #[(.ref a1), (.int p1)] ∧ Z.Warmed39 U.vm ∧ U.heap = h0) (fun _ _ _ _ _ => True) (fun _ U o U' => ∃ v L, o = .returned v ∧ Q_prec0_0 Z a1 p1 a2 k1 h0 n0 v U'.heap L ∧ FrameEnd U o U' L ({ frames := 0, cells := 0, slots := 0, locals := 0 } : Room).cells ({ frames := 0, cells := 0, slots := 0, locals := 0 } : Room).slots) := by
  refine MetFree.of_bodySF (plainFor_of_name pn_com_2fexample_2fround2_2fround2_2feval_2fTopicResult) hisR ?_
  intro p e s m args below meth c s₁ Bd hml0 hP hK
  obtain ⟨rfl, hZ, hh⟩ := hP
  have hx := Bd.exec
  have hby := Bd.bytes
  have hml : c.maxLocals = 3 := hml0
  have hown : s.vm.findClass "com/example/round2/round2/eval/TopicResult" = some m.cls := findClass_of_methodNamed Bd.named
  have hnm := (name_of_methodNamed Bd.named Bd.method).1
  have X0 : Stand p l e ({ frames := 0, cells := 0, slots := 0, locals := 0 } : Room) s m #[(.ref a1), (.int p1)] below meth c s₁ [] 0 0 := Stand.of_body Bd
  have e0 : s₁.heap = h0 := by rw [← hh, Bd.state]; rfl
  have N0 := Fr.nil n0
  have k0 : ∀ t, Steps p.tables e below (s₁.setTop (mkF m 0 #[.val (.ref a1), .val (.int p1), .unset] [])) t → Steps p.tables e below (s₁.setTop (entryFrame m #[(.ref a1), (.int p1)] 3)) t := fun t k => castTop (ef_4_RI m a1 p1) k
  have k101 : ∀ t, Steps p.tables e below (s₁.setTop (mkF m 23 #[.val (.ref a1), .val (.int p1), .val (.int (0 : Int32))] [(.ref a1), (.int (0 : Int32))])) t → Steps p.tables e below (s₁.setTop (entryFrame m #[(.ref a1), (.int p1)] 3)) t := fun t k => k0 t (by
    show Steps p.tables e below (s₁.setTop (mkF m 0 #[.val (.ref a1), .val (.int p1), .unset] [])) _
    refine XS.iloadN X0.here hx rfl (hb hby d4_0) rfl ?_
    show Steps p.tables e below (s₁.setTop (mkF m 1 #[.val (.ref a1), .val (.int p1), .unset] [(.int p1)])) _
    refine XS.iconst X0.here hx rfl (hb hby d4_1) ?_
    show Steps p.tables e below (s₁.setTop (mkF m 2 #[.val (.ref a1), .val (.int p1), .unset] [(.int (1 : Int32)), (.int p1)])) _
    refine XS.icmpYes X0.here hx rfl (pc0 := 2) (pc' := 19) rfl (hb hby d4_2) rfl (flt c2).2.1 (by decide) (by decide) ?_
    show Steps p.tables e below (s₁.setTop (mkF m 19 #[.val (.ref a1), .val (.int p1), .unset] [])) _
    refine XS.iconst X0.here hx rfl (hb hby d4_19) ?_
    show Steps p.tables e below (s₁.setTop (mkF m 20 #[.val (.ref a1), .val (.int p1), .unset] [(.int (0 : Int32))])) _
    refine XS.istoreN X0.here hx rfl (hb hby d4_20) rfl (l' := #[.val (.ref a1), .val (.int p1), .val (.int (0 : Int32))]) rfl ?_
    show Steps p.tables e below (s₁.setTop (mkF m 21 #[.val (.ref a1), .val (.int p1), .val (.int (0 : Int32))] [])) _
    refine XS.iloadN X0.here hx rfl (hb hby d4_21) rfl ?_
    show Steps p.tables e below (s₁.setTop (mkF m 22 #[.val (.ref a1), .val (.int p1), .val (.int (0 : Int32))] [(.int (0 : Int32))])) _
    refine XS.aloadN X0.here hx rfl (hb hby d4_22) rfl rfl ?_
    exact k)
  obtain ⟨T102, X102, e102, st102⟩ := getF X0 hx hZ hown (host := "") (Or.inl (hw _ (List.mem_of_getElem? (i := 30) rfl))) Via.refl e0 F1 (g := (mkF m 23 #[.val (.ref a1), .val (.int p1), .val (.int (0 : Int32))] [(.ref a1), (.int (0 : Int32))])) rfl rfl (hb hby d4_23)
  have k103 : ∀ t, Steps p.tables e below (T102.setTop (mkF m 26 #[.val (.ref a1), .val (.int p1), .val (.int (0 : Int32))] [(.ref a2), (.int (0 : Int32))])) t → Steps p.tables e below (s₁.setTop (entryFrame m #[(.ref a1), (.int p1)] 3)) t := fun t k => k101 t (st102 t k)
  obtain ⟨c104, Ar104, -, As104, An104, -, -⟩ := id V1
  have k105 : ∀ t, Steps p.tables e below (T102.setTop (mkF m 51 #[.val (.ref a1), .val (.int p1), .val (.int (0 : Int32))] [(.double (FP.ddiv (FP.i2d (0 : Int32)) (FP.i2d p1)))])) t → Steps p.tables e below (s₁.setTop (entryFrame m #[(.ref a1), (.int p1)] 3)) t := fun t k => k103 t (by
    show Steps p.tables e below (T102.setTop (mkF m 26 #[.val (.ref a1), .val (.int p1), .val (.int (0 : Int32))] [(.ref a2), (.int (0 : Int32))])) _
    refine X102.arraylength hx (by rw [e102]; exact Ar104.1) (State.isArrayOf_alike hZ.alike Ar104.2.1) (g := (mkF m 26 #[.val (.ref a1), .val (.int p1), .val (.int (0 : Int32))] [(.ref a2), (.int (0 : Int32))])) rfl rfl (hb hby d4_26) _ ?_
    rw [len_of As104 An104]
    show Steps p.tables e below (T102.setTop (mkF m 27 #[.val (.ref a1), .val (.int p1), .val (.int (0 : Int32))] [(.int (0 : Int32)), (.int (0 : Int32))])) _
    refine XS.icmpYes X102.here hx rfl (pc0 := 27) (pc' := 46) rfl (hb hby d4_27) rfl (flt (by decide)).2.1 (by decide) (by decide) ?_
    show Steps p.tables e below (T102.setTop (mkF m 46 #[.val (.ref a1), .val (.int p1), .val (.int (0 : Int32))] [])) _
    refine XS.iloadN X102.here hx rfl (hb hby d4_46) rfl ?_
    show Steps p.tables e below (T102.setTop (mkF m 47 #[.val (.ref a1), .val (.int p1), .val (.int (0 : Int32))] [(.int (0 : Int32))])) _
    refine XS.i2dS X102.here hx rfl (hb hby d4_47) rfl rfl ?_
    show Steps p.tables e below (T102.setTop (mkF m 48 #[.val (.ref a1), .val (.int p1), .val (.int (0 : Int32))] [(.double (FP.i2d (0 : Int32)))])) _
    refine XS.iloadN X102.here hx rfl (hb hby d4_48) rfl ?_
    show Steps p.tables e below (T102.setTop (mkF m 49 #[.val (.ref a1), .val (.int p1), .val (.int (0 : Int32))] [(.int p1), (.double (FP.i2d (0 : Int32)))])) _
    refine XS.i2dS X102.here hx rfl (hb hby d4_49) rfl rfl ?_
    show Steps p.tables e below (T102.setTop (mkF m 50 #[.val (.ref a1), .val (.int p1), .val (.int (0 : Int32))] [(.double (FP.i2d p1)), (.double (FP.i2d (0 : Int32)))])) _
    refine XS.ddivS X102.here hx rfl (hb hby d4_50) rfl (nn50) rfl ?_
    exact k)
  obtain ⟨fs, hr, hrun, hended, hW, hsame⟩ := X102.leave (v := some (.double (FP.ddiv (FP.i2d (0 : Int32)) (FP.i2d p1)))) (fun h => by rw [Bd.returns] at h; cases h)
  refine ⟨_, _, k105 _ (retOut X102 hx (t := .double) Bd.returns rfl (Or.inr (Or.inr (Or.inl ⟨rfl, rfl, _, rfl⟩))) (hb hby d4_51) hr), hrun, hended, _, _, rfl, ?_, ⟨_, rfl⟩, hW, hsame.mono (by decide) (by decide)⟩
  show Q_prec0_0 Z a1 p1 a2 k1 h0 n0 _ T102.heap _
  rw [e102]
  exact ⟨rfl, N0, rfl⟩
theorem d4_30 : decode prog_10_method_8_code 30 = .ok (.aload_n 0, 1) := by decide +kernel
theorem d4_31 : decode prog_10_method_8_code 31 = .ok (.getfield 20, 3) := by decide +kernel
theorem d4_34 : decode prog_10_method_8_code 34 = .ok (.iload_n 2, 1) := by decide +kernel
theorem d4_35 : decode prog_10_method_8_code 35 = .ok (.iaload, 1) := by decide +kernel
theorem d4_36 : decode prog_10_method_8_code 36 = .ok (.iload_n 1, 1) := by decide +kernel
theorem d4_37 : decode prog_10_method_8_code 37 = .ok (.if_icmp .gt 9, 3) := by decide +kernel
def Q_prec1_0 (Z : State) (a1 : Addr) (p1 : Int32) (a2 : Addr) (k1 : ClassId) (r1 : Int32) (h0 : Heap) (n0 : Nat) (v : Option Value) (h : Heap) (L : List Loc) : Prop := v = some (.double (FP.ddiv (FP.i2d (0 : Int32)) (FP.i2d p1))) ∧ Fr n0 L ∧ h = h0
set_option maxRecDepth 65536 in
set_option maxHeartbeats 40000000 in
theorem prec1_0 (l : Launch) (Z : State) (a0 : Array Value) (hw : ∀ d ∈ tables_1, d.before a0 Z = true) (ws : List Jvm.Cond) (a1 : Addr) (p1 : Int32) (a2 : Addr) (k1 : ClassId) (r1 : Int32) (h0 : Heap) (n0 : Nat) (Z0 : n0 ≤ h0.size) (F1 : Fld Z h0 a1 "com/example/round2/round2/eval/TopicResult" "relevantRanks" "[I" (.ref a2)) (V1 : Arv Z h0 a2 k1 .int (1 : Int32) [(.int r1)] (.int (0 : Int32))) (c2 : ¬ (p1 < (1 : Int32))) (nn50 : Jvm.Free.Fl.NoNaN64 (FP.ddiv (FP.i2d (0 : Int32)) (FP.i2d p1))) (d0 : p1 < r1) :
    MetFree l (⟨"com/example/round2/round2/eval/TopicResult", "precisionAt", "(I)D"⟩ : MethodName) (head1 (Jvm.Cond.code (⟨"com/example/round2/round2/eval/TopicResult", "precisionAt", "(I)D"⟩ : MethodName) prog_10_method_8_code 3 (some .double) :: ws) ({ frames := 0, cells := 0, slots := 0, locals := 0 } : Room)) (fun a U => a = #[(.ref a1), (.int p1)] ∧ Z.Warmed39 U.vm ∧ U.heap = h0) (fun _ _ _ _ _ => True) (fun _ U o U' => ∃ v L, o = .returned v ∧ Q_prec1_0 Z a1 p1 a2 k1 r1 h0 n0 v U'.heap L ∧ FrameEnd U o U' L ({ frames := 0, cells := 0, slots := 0, locals := 0 } : Room).cells ({ frames := 0, cells := 0, slots := 0, locals := 0 } : Room).slots) := by
  refine MetFree.of_bodySF (plainFor_of_name pn_com_2fexample_2fround2_2fround2_2feval_2fTopicResult) hisR ?_
  intro p e s m args below meth c s₁ Bd hml0 hP hK
  obtain ⟨rfl, hZ, hh⟩ := hP
  have hx := Bd.exec
  have hby := Bd.bytes
  have hml : c.maxLocals = 3 := hml0
  have hown : s.vm.findClass "com/example/round2/round2/eval/TopicResult" = some m.cls := findClass_of_methodNamed Bd.named
  have hnm := (name_of_methodNamed Bd.named Bd.method).1
  have X0 : Stand p l e ({ frames := 0, cells := 0, slots := 0, locals := 0 } : Room) s m #[(.ref a1), (.int p1)] below meth c s₁ [] 0 0 := Stand.of_body Bd
  have e0 : s₁.heap = h0 := by rw [← hh, Bd.state]; rfl
  have N0 := Fr.nil n0
  have k0 : ∀ t, Steps p.tables e below (s₁.setTop (mkF m 0 #[.val (.ref a1), .val (.int p1), .unset] [])) t → Steps p.tables e below (s₁.setTop (entryFrame m #[(.ref a1), (.int p1)] 3)) t := fun t k => castTop (ef_4_RI m a1 p1) k
  have k101 : ∀ t, Steps p.tables e below (s₁.setTop (mkF m 23 #[.val (.ref a1), .val (.int p1), .val (.int (0 : Int32))] [(.ref a1), (.int (0 : Int32))])) t → Steps p.tables e below (s₁.setTop (entryFrame m #[(.ref a1), (.int p1)] 3)) t := fun t k => k0 t (by
    show Steps p.tables e below (s₁.setTop (mkF m 0 #[.val (.ref a1), .val (.int p1), .unset] [])) _
    refine XS.iloadN X0.here hx rfl (hb hby d4_0) rfl ?_
    show Steps p.tables e below (s₁.setTop (mkF m 1 #[.val (.ref a1), .val (.int p1), .unset] [(.int p1)])) _
    refine XS.iconst X0.here hx rfl (hb hby d4_1) ?_
    show Steps p.tables e below (s₁.setTop (mkF m 2 #[.val (.ref a1), .val (.int p1), .unset] [(.int (1 : Int32)), (.int p1)])) _
    refine XS.icmpYes X0.here hx rfl (pc0 := 2) (pc' := 19) rfl (hb hby d4_2) rfl (flt c2).2.1 (by decide) (by decide) ?_
    show Steps p.tables e below (s₁.setTop (mkF m 19 #[.val (.ref a1), .val (.int p1), .unset] [])) _
    refine XS.iconst X0.here hx rfl (hb hby d4_19) ?_
    show Steps p.tables e below (s₁.setTop (mkF m 20 #[.val (.ref a1), .val (.int p1), .unset] [(.int (0 : Int32))])) _
    refine XS.istoreN X0.here hx rfl (hb hby d4_20) rfl (l' := #[.val (.ref a1), .val (.int p1), .val (.int (0 : Int32))]) rfl ?_
    show Steps p.tables e below (s₁.setTop (mkF m 21 #[.val (.ref a1), .val (.int p1), .val (.int (0 : Int32))] [])) _
    refine XS.iloadN X0.here hx rfl (hb hby d4_21) rfl ?_
    show Steps p.tables e below (s₁.setTop (mkF m 22 #[.val (.ref a1), .val (.int p1), .val (.int (0 : Int32))] [(.int (0 : Int32))])) _
    refine XS.aloadN X0.here hx rfl (hb hby d4_22) rfl rfl ?_
    exact k)
  obtain ⟨T102, X102, e102, st102⟩ := getF X0 hx hZ hown (host := "") (Or.inl (hw _ (List.mem_of_getElem? (i := 30) rfl))) Via.refl e0 F1 (g := (mkF m 23 #[.val (.ref a1), .val (.int p1), .val (.int (0 : Int32))] [(.ref a1), (.int (0 : Int32))])) rfl rfl (hb hby d4_23)
  have k103 : ∀ t, Steps p.tables e below (T102.setTop (mkF m 26 #[.val (.ref a1), .val (.int p1), .val (.int (0 : Int32))] [(.ref a2), (.int (0 : Int32))])) t → Steps p.tables e below (s₁.setTop (entryFrame m #[(.ref a1), (.int p1)] 3)) t := fun t k => k101 t (st102 t k)
  obtain ⟨c104, Ar104, -, As104, An104, -, -⟩ := id V1
  have k105 : ∀ t, Steps p.tables e below (T102.setTop (mkF m 31 #[.val (.ref a1), .val (.int p1), .val (.int (0 : Int32))] [(.ref a1)])) t → Steps p.tables e below (s₁.setTop (entryFrame m #[(.ref a1), (.int p1)] 3)) t := fun t k => k103 t (by
    show Steps p.tables e below (T102.setTop (mkF m 26 #[.val (.ref a1), .val (.int p1), .val (.int (0 : Int32))] [(.ref a2), (.int (0 : Int32))])) _
    refine X102.arraylength hx (by rw [e102]; exact Ar104.1) (State.isArrayOf_alike hZ.alike Ar104.2.1) (g := (mkF m 26 #[.val (.ref a1), .val (.int p1), .val (.int (0 : Int32))] [(.ref a2), (.int (0 : Int32))])) rfl rfl (hb hby d4_26) _ ?_
    rw [len_of As104 An104]
    show Steps p.tables e below (T102.setTop (mkF m 27 #[.val (.ref a1), .val (.int p1), .val (.int (0 : Int32))] [(.int (1 : Int32)), (.int (0 : Int32))])) _
    refine XS.icmpNo X102.here hx rfl (hb hby d4_27) rfl (tlt (by decide)).2.1 ?_
    show Steps p.tables e below (T102.setTop (mkF m 30 #[.val (.ref a1), .val (.int p1), .val (.int (0 : Int32))] [])) _
    refine XS.aloadN X102.here hx rfl (hb hby d4_30) rfl rfl ?_
    exact k)
  obtain ⟨T106, X106, e106, st106⟩ := getF X102 hx hZ hown (host := "") (Or.inl (hw _ (List.mem_of_getElem? (i := 30) rfl))) Via.refl e102 F1 (g := (mkF m 31 #[.val (.ref a1), .val (.int p1), .val (.int (0 : Int32))] [(.ref a1)])) rfl rfl (hb hby d4_31)
  have k107 : ∀ t, Steps p.tables e below (T106.setTop (mkF m 34 #[.val (.ref a1), .val (.int p1), .val (.int (0 : Int32))] [(.ref a2)])) t → Steps p.tables e below (s₁.setTop (entryFrame m #[(.ref a1), (.int p1)] 3)) t := fun t k => k105 t (st106 t k)
  have k108 : ∀ t, Steps p.tables e below (T106.setTop (mkF m 35 #[.val (.ref a1), .val (.int p1), .val (.int (0 : Int32))] [(.int (0 : Int32)), (.ref a2)])) t → Steps p.tables e below (s₁.setTop (entryFrame m #[(.ref a1), (.int p1)] 3)) t := fun t k => k107 t (by
    show Steps p.tables e below (T106.setTop (mkF m 34 #[.val (.ref a1), .val (.int p1), .val (.int (0 : Int32))] [(.ref a2)])) _
    refine XS.iloadN X106.here hx rfl (hb hby d4_34) rfl ?_
    exact k)
  obtain ⟨c109, Ar109, -, As109, An109, Ah109, -⟩ := id V1
  have hin109 : ¬ ((0 : Int32) < 0 ∨ c109.slots.size ≤ ((0 : Int32)).toNatClampNeg) := inb_of As109 ⟨by decide, by decide⟩
  have hat109 : c109.slots[((0 : Int32)).toNatClampNeg]? = some (.int r1) := Has.at Ah109 hin109 rfl
  have k110 : ∀ t, Steps p.tables e below (T106.setTop (mkF m 51 #[.val (.ref a1), .val (.int p1), .val (.int (0 : Int32))] [(.double (FP.ddiv (FP.i2d (0 : Int32)) (FP.i2d p1)))])) t → Steps p.tables e below (s₁.setTop (entryFrame m #[(.ref a1), (.int p1)] 3)) t := fun t k => k108 t (by
    show Steps p.tables e below (T106.setTop (mkF m 35 #[.val (.ref a1), .val (.int p1), .val (.int (0 : Int32))] [(.int (0 : Int32)), (.ref a2)])) _
    refine X106.iaload hx (j := (0 : Int32)) (v := (.int r1)) (by rw [e106]; exact Ar109.1) (State.isArrayOf_alike hZ.alike Ar109.2.1) Ar109.2.2 hin109 hat109 (g := (mkF m 35 #[.val (.ref a1), .val (.int p1), .val (.int (0 : Int32))] [(.int (0 : Int32)), (.ref a2)])) rfl rfl (hb hby d4_35) _ ?_
    show Steps p.tables e below (T106.setTop (mkF m 36 #[.val (.ref a1), .val (.int p1), .val (.int (0 : Int32))] [(.int r1)])) _
    refine XS.iloadN X106.here hx rfl (hb hby d4_36) rfl ?_
    show Steps p.tables e below (T106.setTop (mkF m 37 #[.val (.ref a1), .val (.int p1), .val (.int (0 : Int32))] [(.int p1), (.int r1)])) _
    refine XS.icmpYes X106.here hx rfl (pc0 := 37) (pc' := 46) rfl (hb hby d4_37) rfl (tlt d0).2.2.1 (by decide) (by decide) ?_
    show Steps p.tables e below (T106.setTop (mkF m 46 #[.val (.ref a1), .val (.int p1), .val (.int (0 : Int32))] [])) _
    refine XS.iloadN X106.here hx rfl (hb hby d4_46) rfl ?_
    show Steps p.tables e below (T106.setTop (mkF m 47 #[.val (.ref a1), .val (.int p1), .val (.int (0 : Int32))] [(.int (0 : Int32))])) _
    refine XS.i2dS X106.here hx rfl (hb hby d4_47) rfl rfl ?_
    show Steps p.tables e below (T106.setTop (mkF m 48 #[.val (.ref a1), .val (.int p1), .val (.int (0 : Int32))] [(.double (FP.i2d (0 : Int32)))])) _
    refine XS.iloadN X106.here hx rfl (hb hby d4_48) rfl ?_
    show Steps p.tables e below (T106.setTop (mkF m 49 #[.val (.ref a1), .val (.int p1), .val (.int (0 : Int32))] [(.int p1), (.double (FP.i2d (0 : Int32)))])) _
    refine XS.i2dS X106.here hx rfl (hb hby d4_49) rfl rfl ?_
    show Steps p.tables e below (T106.setTop (mkF m 50 #[.val (.ref a1), .val (.int p1), .val (.int (0 : Int32))] [(.double (FP.i2d p1)), (.double (FP.i2d (0 : Int32)))])) _
    refine XS.ddivS X106.here hx rfl (hb hby d4_50) rfl (nn50) rfl ?_
    exact k)
  obtain ⟨fs, hr, hrun, hended, hW, hsame⟩ := X106.leave (v := some (.double (FP.ddiv (FP.i2d (0 : Int32)) (FP.i2d p1)))) (fun h => by rw [Bd.returns] at h; cases h)
  refine ⟨_, _, k110 _ (retOut X106 hx (t := .double) Bd.returns rfl (Or.inr (Or.inr (Or.inl ⟨rfl, rfl, _, rfl⟩))) (hb hby d4_51) hr), hrun, hended, _, _, rfl, ?_, ⟨_, rfl⟩, hW, hsame.mono (by decide) (by decide)⟩
  show Q_prec1_0 Z a1 p1 a2 k1 r1 h0 n0 _ T106.heap _
  rw [e106]
  exact ⟨rfl, N0, rfl⟩
theorem d4_40 : decode prog_10_method_8_code 40 = .ok (.iinc 2 1, 3) := by decide +kernel
theorem d4_43 : decode prog_10_method_8_code 43 = .ok (.goto (-22), 3) := by decide +kernel
def Q_prec1_1 (Z : State) (a1 : Addr) (p1 : Int32) (a2 : Addr) (k1 : ClassId) (r1 : Int32) (h0 : Heap) (n0 : Nat) (v : Option Value) (h : Heap) (L : List Loc) : Prop := v = some (.double (FP.ddiv (FP.i2d (1 : Int32)) (FP.i2d p1))) ∧ Fr n0 L ∧ h = h0
set_option maxRecDepth 65536 in
set_option maxHeartbeats 40000000 in
theorem prec1_1 (l : Launch) (Z : State) (a0 : Array Value) (hw : ∀ d ∈ tables_1, d.before a0 Z = true) (ws : List Jvm.Cond) (a1 : Addr) (p1 : Int32) (a2 : Addr) (k1 : ClassId) (r1 : Int32) (h0 : Heap) (n0 : Nat) (Z0 : n0 ≤ h0.size) (F1 : Fld Z h0 a1 "com/example/round2/round2/eval/TopicResult" "relevantRanks" "[I" (.ref a2)) (V1 : Arv Z h0 a2 k1 .int (1 : Int32) [(.int r1)] (.int (0 : Int32))) (c2 : ¬ (p1 < (1 : Int32))) (nn50 : Jvm.Free.Fl.NoNaN64 (FP.ddiv (FP.i2d (1 : Int32)) (FP.i2d p1))) (d0 : ¬ (p1 < r1)) :
    MetFree l (⟨"com/example/round2/round2/eval/TopicResult", "precisionAt", "(I)D"⟩ : MethodName) (head1 (Jvm.Cond.code (⟨"com/example/round2/round2/eval/TopicResult", "precisionAt", "(I)D"⟩ : MethodName) prog_10_method_8_code 3 (some .double) :: ws) ({ frames := 0, cells := 0, slots := 0, locals := 0 } : Room)) (fun a U => a = #[(.ref a1), (.int p1)] ∧ Z.Warmed39 U.vm ∧ U.heap = h0) (fun _ _ _ _ _ => True) (fun _ U o U' => ∃ v L, o = .returned v ∧ Q_prec1_1 Z a1 p1 a2 k1 r1 h0 n0 v U'.heap L ∧ FrameEnd U o U' L ({ frames := 0, cells := 0, slots := 0, locals := 0 } : Room).cells ({ frames := 0, cells := 0, slots := 0, locals := 0 } : Room).slots) := by
  refine MetFree.of_bodySF (plainFor_of_name pn_com_2fexample_2fround2_2fround2_2feval_2fTopicResult) hisR ?_
  intro p e s m args below meth c s₁ Bd hml0 hP hK
  obtain ⟨rfl, hZ, hh⟩ := hP
  have hx := Bd.exec
  have hby := Bd.bytes
  have hml : c.maxLocals = 3 := hml0
  have hown : s.vm.findClass "com/example/round2/round2/eval/TopicResult" = some m.cls := findClass_of_methodNamed Bd.named
  have hnm := (name_of_methodNamed Bd.named Bd.method).1
  have X0 : Stand p l e ({ frames := 0, cells := 0, slots := 0, locals := 0 } : Room) s m #[(.ref a1), (.int p1)] below meth c s₁ [] 0 0 := Stand.of_body Bd
  have e0 : s₁.heap = h0 := by rw [← hh, Bd.state]; rfl
  have N0 := Fr.nil n0
  have k0 : ∀ t, Steps p.tables e below (s₁.setTop (mkF m 0 #[.val (.ref a1), .val (.int p1), .unset] [])) t → Steps p.tables e below (s₁.setTop (entryFrame m #[(.ref a1), (.int p1)] 3)) t := fun t k => castTop (ef_4_RI m a1 p1) k
  have k101 : ∀ t, Steps p.tables e below (s₁.setTop (mkF m 23 #[.val (.ref a1), .val (.int p1), .val (.int (0 : Int32))] [(.ref a1), (.int (0 : Int32))])) t → Steps p.tables e below (s₁.setTop (entryFrame m #[(.ref a1), (.int p1)] 3)) t := fun t k => k0 t (by
    show Steps p.tables e below (s₁.setTop (mkF m 0 #[.val (.ref a1), .val (.int p1), .unset] [])) _
    refine XS.iloadN X0.here hx rfl (hb hby d4_0) rfl ?_
    show Steps p.tables e below (s₁.setTop (mkF m 1 #[.val (.ref a1), .val (.int p1), .unset] [(.int p1)])) _
    refine XS.iconst X0.here hx rfl (hb hby d4_1) ?_
    show Steps p.tables e below (s₁.setTop (mkF m 2 #[.val (.ref a1), .val (.int p1), .unset] [(.int (1 : Int32)), (.int p1)])) _
    refine XS.icmpYes X0.here hx rfl (pc0 := 2) (pc' := 19) rfl (hb hby d4_2) rfl (flt c2).2.1 (by decide) (by decide) ?_
    show Steps p.tables e below (s₁.setTop (mkF m 19 #[.val (.ref a1), .val (.int p1), .unset] [])) _
    refine XS.iconst X0.here hx rfl (hb hby d4_19) ?_
    show Steps p.tables e below (s₁.setTop (mkF m 20 #[.val (.ref a1), .val (.int p1), .unset] [(.int (0 : Int32))])) _
    refine XS.istoreN X0.here hx rfl (hb hby d4_20) rfl (l' := #[.val (.ref a1), .val (.int p1), .val (.int (0 : Int32))]) rfl ?_
    show Steps p.tables e below (s₁.setTop (mkF m 21 #[.val (.ref a1), .val (.int p1), .val (.int (0 : Int32))] [])) _
    refine XS.iloadN X0.here hx rfl (hb hby d4_21) rfl ?_
    show Steps p.tables e below (s₁.setTop (mkF m 22 #[.val (.ref a1), .val (.int p1), .val (.int (0 : Int32))] [(.int (0 : Int32))])) _
    refine XS.aloadN X0.here hx rfl (hb hby d4_22) rfl rfl ?_
    exact k)
  obtain ⟨T102, X102, e102, st102⟩ := getF X0 hx hZ hown (host := "") (Or.inl (hw _ (List.mem_of_getElem? (i := 30) rfl))) Via.refl e0 F1 (g := (mkF m 23 #[.val (.ref a1), .val (.int p1), .val (.int (0 : Int32))] [(.ref a1), (.int (0 : Int32))])) rfl rfl (hb hby d4_23)
  have k103 : ∀ t, Steps p.tables e below (T102.setTop (mkF m 26 #[.val (.ref a1), .val (.int p1), .val (.int (0 : Int32))] [(.ref a2), (.int (0 : Int32))])) t → Steps p.tables e below (s₁.setTop (entryFrame m #[(.ref a1), (.int p1)] 3)) t := fun t k => k101 t (st102 t k)
  obtain ⟨c104, Ar104, -, As104, An104, -, -⟩ := id V1
  have k105 : ∀ t, Steps p.tables e below (T102.setTop (mkF m 31 #[.val (.ref a1), .val (.int p1), .val (.int (0 : Int32))] [(.ref a1)])) t → Steps p.tables e below (s₁.setTop (entryFrame m #[(.ref a1), (.int p1)] 3)) t := fun t k => k103 t (by
    show Steps p.tables e below (T102.setTop (mkF m 26 #[.val (.ref a1), .val (.int p1), .val (.int (0 : Int32))] [(.ref a2), (.int (0 : Int32))])) _
    refine X102.arraylength hx (by rw [e102]; exact Ar104.1) (State.isArrayOf_alike hZ.alike Ar104.2.1) (g := (mkF m 26 #[.val (.ref a1), .val (.int p1), .val (.int (0 : Int32))] [(.ref a2), (.int (0 : Int32))])) rfl rfl (hb hby d4_26) _ ?_
    rw [len_of As104 An104]
    show Steps p.tables e below (T102.setTop (mkF m 27 #[.val (.ref a1), .val (.int p1), .val (.int (0 : Int32))] [(.int (1 : Int32)), (.int (0 : Int32))])) _
    refine XS.icmpNo X102.here hx rfl (hb hby d4_27) rfl (tlt (by decide)).2.1 ?_
    show Steps p.tables e below (T102.setTop (mkF m 30 #[.val (.ref a1), .val (.int p1), .val (.int (0 : Int32))] [])) _
    refine XS.aloadN X102.here hx rfl (hb hby d4_30) rfl rfl ?_
    exact k)
  obtain ⟨T106, X106, e106, st106⟩ := getF X102 hx hZ hown (host := "") (Or.inl (hw _ (List.mem_of_getElem? (i := 30) rfl))) Via.refl e102 F1 (g := (mkF m 31 #[.val (.ref a1), .val (.int p1), .val (.int (0 : Int32))] [(.ref a1)])) rfl rfl (hb hby d4_31)
  have k107 : ∀ t, Steps p.tables e below (T106.setTop (mkF m 34 #[.val (.ref a1), .val (.int p1), .val (.int (0 : Int32))] [(.ref a2)])) t → Steps p.tables e below (s₁.setTop (entryFrame m #[(.ref a1), (.int p1)] 3)) t := fun t k => k105 t (st106 t k)
  have k108 : ∀ t, Steps p.tables e below (T106.setTop (mkF m 35 #[.val (.ref a1), .val (.int p1), .val (.int (0 : Int32))] [(.int (0 : Int32)), (.ref a2)])) t → Steps p.tables e below (s₁.setTop (entryFrame m #[(.ref a1), (.int p1)] 3)) t := fun t k => k107 t (by
    show Steps p.tables e below (T106.setTop (mkF m 34 #[.val (.ref a1), .val (.int p1), .val (.int (0 : Int32))] [(.ref a2)])) _
    refine XS.iloadN X106.here hx rfl (hb hby d4_34) rfl ?_
    exact k)
  obtain ⟨c109, Ar109, -, As109, An109, Ah109, -⟩ := id V1
  have hin109 : ¬ ((0 : Int32) < 0 ∨ c109.slots.size ≤ ((0 : Int32)).toNatClampNeg) := inb_of As109 ⟨by decide, by decide⟩
  have hat109 : c109.slots[((0 : Int32)).toNatClampNeg]? = some (.int r1) := Has.at Ah109 hin109 rfl
  have k110 : ∀ t, Steps p.tables e below (T106.setTop (mkF m 23 #[.val (.ref a1), .val (.int p1), .val (.int (1 : Int32))] [(.ref a1), (.int (1 : Int32))])) t → Steps p.tables e below (s₁.setTop (entryFrame m #[(.ref a1), (.int p1)] 3)) t := fun t k => k108 t (by
    show Steps p.tables e below (T106.setTop (mkF m 35 #[.val (.ref a1), .val (.int p1), .val (.int (0 : Int32))] [(.int (0 : Int32)), (.ref a2)])) _
    refine X106.iaload hx (j := (0 : Int32)) (v := (.int r1)) (by rw [e106]; exact Ar109.1) (State.isArrayOf_alike hZ.alike Ar109.2.1) Ar109.2.2 hin109 hat109 (g := (mkF m 35 #[.val (.ref a1), .val (.int p1), .val (.int (0 : Int32))] [(.int (0 : Int32)), (.ref a2)])) rfl rfl (hb hby d4_35) _ ?_
    show Steps p.tables e below (T106.setTop (mkF m 36 #[.val (.ref a1), .val (.int p1), .val (.int (0 : Int32))] [(.int r1)])) _
    refine XS.iloadN X106.here hx rfl (hb hby d4_36) rfl ?_
    show Steps p.tables e below (T106.setTop (mkF m 37 #[.val (.ref a1), .val (.int p1), .val (.int (0 : Int32))] [(.int p1), (.int r1)])) _
    refine XS.icmpNo X106.here hx rfl (hb hby d4_37) rfl (flt d0).2.2.1 ?_
    show Steps p.tables e below (T106.setTop (mkF m 40 #[.val (.ref a1), .val (.int p1), .val (.int (0 : Int32))] [])) _
    refine XS.iinc X106.here hx rfl (hb hby d4_40) rfl (l' := #[.val (.ref a1), .val (.int p1), .val (.int (1 : Int32))]) rfl ?_
    show Steps p.tables e below (T106.setTop (mkF m 43 #[.val (.ref a1), .val (.int p1), .val (.int (1 : Int32))] [])) _
    refine XS.goto X106.here hx rfl (pc0 := 43) (pc' := 21) rfl (hb hby d4_43) (by decide) (by decide) ?_
    show Steps p.tables e below (T106.setTop (mkF m 21 #[.val (.ref a1), .val (.int p1), .val (.int (1 : Int32))] [])) _
    refine XS.iloadN X106.here hx rfl (hb hby d4_21) rfl ?_
    show Steps p.tables e below (T106.setTop (mkF m 22 #[.val (.ref a1), .val (.int p1), .val (.int (1 : Int32))] [(.int (1 : Int32))])) _
    refine XS.aloadN X106.here hx rfl (hb hby d4_22) rfl rfl ?_
    exact k)
  obtain ⟨T111, X111, e111, st111⟩ := getF X106 hx hZ hown (host := "") (Or.inl (hw _ (List.mem_of_getElem? (i := 30) rfl))) Via.refl e106 F1 (g := (mkF m 23 #[.val (.ref a1), .val (.int p1), .val (.int (1 : Int32))] [(.ref a1), (.int (1 : Int32))])) rfl rfl (hb hby d4_23)
  have k112 : ∀ t, Steps p.tables e below (T111.setTop (mkF m 26 #[.val (.ref a1), .val (.int p1), .val (.int (1 : Int32))] [(.ref a2), (.int (1 : Int32))])) t → Steps p.tables e below (s₁.setTop (entryFrame m #[(.ref a1), (.int p1)] 3)) t := fun t k => k110 t (st111 t k)
  obtain ⟨c113, Ar113, -, As113, An113, -, -⟩ := id V1
  have k114 : ∀ t, Steps p.tables e below (T111.setTop (mkF m 51 #[.val (.ref a1), .val (.int p1), .val (.int (1 : Int32))] [(.double (FP.ddiv (FP.i2d (1 : Int32)) (FP.i2d p1)))])) t → Steps p.tables e below (s₁.setTop (entryFrame m #[(.ref a1), (.int p1)] 3)) t := fun t k => k112 t (by
    show Steps p.tables e below (T111.setTop (mkF m 26 #[.val (.ref a1), .val (.int p1), .val (.int (1 : Int32))] [(.ref a2), (.int (1 : Int32))])) _
    refine X111.arraylength hx (by rw [e111]; exact Ar113.1) (State.isArrayOf_alike hZ.alike Ar113.2.1) (g := (mkF m 26 #[.val (.ref a1), .val (.int p1), .val (.int (1 : Int32))] [(.ref a2), (.int (1 : Int32))])) rfl rfl (hb hby d4_26) _ ?_
    rw [len_of As113 An113]
    show Steps p.tables e below (T111.setTop (mkF m 27 #[.val (.ref a1), .val (.int p1), .val (.int (1 : Int32))] [(.int (1 : Int32)), (.int (1 : Int32))])) _
    refine XS.icmpYes X111.here hx rfl (pc0 := 27) (pc' := 46) rfl (hb hby d4_27) rfl (flt (by decide)).2.1 (by decide) (by decide) ?_
    show Steps p.tables e below (T111.setTop (mkF m 46 #[.val (.ref a1), .val (.int p1), .val (.int (1 : Int32))] [])) _
    refine XS.iloadN X111.here hx rfl (hb hby d4_46) rfl ?_
    show Steps p.tables e below (T111.setTop (mkF m 47 #[.val (.ref a1), .val (.int p1), .val (.int (1 : Int32))] [(.int (1 : Int32))])) _
    refine XS.i2dS X111.here hx rfl (hb hby d4_47) rfl rfl ?_
    show Steps p.tables e below (T111.setTop (mkF m 48 #[.val (.ref a1), .val (.int p1), .val (.int (1 : Int32))] [(.double (FP.i2d (1 : Int32)))])) _
    refine XS.iloadN X111.here hx rfl (hb hby d4_48) rfl ?_
    show Steps p.tables e below (T111.setTop (mkF m 49 #[.val (.ref a1), .val (.int p1), .val (.int (1 : Int32))] [(.int p1), (.double (FP.i2d (1 : Int32)))])) _
    refine XS.i2dS X111.here hx rfl (hb hby d4_49) rfl rfl ?_
    show Steps p.tables e below (T111.setTop (mkF m 50 #[.val (.ref a1), .val (.int p1), .val (.int (1 : Int32))] [(.double (FP.i2d p1)), (.double (FP.i2d (1 : Int32)))])) _
    refine XS.ddivS X111.here hx rfl (hb hby d4_50) rfl (nn50) rfl ?_
    exact k)
  obtain ⟨fs, hr, hrun, hended, hW, hsame⟩ := X111.leave (v := some (.double (FP.ddiv (FP.i2d (1 : Int32)) (FP.i2d p1)))) (fun h => by rw [Bd.returns] at h; cases h)
  refine ⟨_, _, k114 _ (retOut X111 hx (t := .double) Bd.returns rfl (Or.inr (Or.inr (Or.inl ⟨rfl, rfl, _, rfl⟩))) (hb hby d4_51) hr), hrun, hended, _, _, rfl, ?_, ⟨_, rfl⟩, hW, hsame.mono (by decide) (by decide)⟩
  show Q_prec1_1 Z a1 p1 a2 k1 r1 h0 n0 _ T111.heap _
  rw [e111]
  exact ⟨rfl, N0, rfl⟩
def Q_prec2_0 (Z : State) (a1 : Addr) (p1 : Int32) (a2 : Addr) (k1 : ClassId) (r1 : Int32) (r2 : Int32) (h0 : Heap) (n0 : Nat) (v : Option Value) (h : Heap) (L : List Loc) : Prop := v = some (.double (FP.ddiv (FP.i2d (0 : Int32)) (FP.i2d p1))) ∧ Fr n0 L ∧ h = h0
set_option maxRecDepth 65536 in
set_option maxHeartbeats 40000000 in
theorem prec2_0 (l : Launch) (Z : State) (a0 : Array Value) (hw : ∀ d ∈ tables_1, d.before a0 Z = true) (ws : List Jvm.Cond) (a1 : Addr) (p1 : Int32) (a2 : Addr) (k1 : ClassId) (r1 : Int32) (r2 : Int32) (h0 : Heap) (n0 : Nat) (Z0 : n0 ≤ h0.size) (F1 : Fld Z h0 a1 "com/example/round2/round2/eval/TopicResult" "relevantRanks" "[I" (.ref a2)) (V1 : Arv Z h0 a2 k1 .int (2 : Int32) [(.int r1), (.int r2)] (.int (0 : Int32))) (c2 : ¬ (p1 < (1 : Int32))) (nn50 : Jvm.Free.Fl.NoNaN64 (FP.ddiv (FP.i2d (0 : Int32)) (FP.i2d p1))) (d0 : p1 < r1) :
    MetFree l (⟨"com/example/round2/round2/eval/TopicResult", "precisionAt", "(I)D"⟩ : MethodName) (head1 (Jvm.Cond.code (⟨"com/example/round2/round2/eval/TopicResult", "precisionAt", "(I)D"⟩ : MethodName) prog_10_method_8_code 3 (some .double) :: ws) ({ frames := 0, cells := 0, slots := 0, locals := 0 } : Room)) (fun a U => a = #[(.ref a1), (.int p1)] ∧ Z.Warmed39 U.vm ∧ U.heap = h0) (fun _ _ _ _ _ => True) (fun _ U o U' => ∃ v L, o = .returned v ∧ Q_prec2_0 Z a1 p1 a2 k1 r1 r2 h0 n0 v U'.heap L ∧ FrameEnd U o U' L ({ frames := 0, cells := 0, slots := 0, locals := 0 } : Room).cells ({ frames := 0, cells := 0, slots := 0, locals := 0 } : Room).slots) := by
  refine MetFree.of_bodySF (plainFor_of_name pn_com_2fexample_2fround2_2fround2_2feval_2fTopicResult) hisR ?_
  intro p e s m args below meth c s₁ Bd hml0 hP hK
  obtain ⟨rfl, hZ, hh⟩ := hP
  have hx := Bd.exec
  have hby := Bd.bytes
  have hml : c.maxLocals = 3 := hml0
  have hown : s.vm.findClass "com/example/round2/round2/eval/TopicResult" = some m.cls := findClass_of_methodNamed Bd.named
  have hnm := (name_of_methodNamed Bd.named Bd.method).1
  have X0 : Stand p l e ({ frames := 0, cells := 0, slots := 0, locals := 0 } : Room) s m #[(.ref a1), (.int p1)] below meth c s₁ [] 0 0 := Stand.of_body Bd
  have e0 : s₁.heap = h0 := by rw [← hh, Bd.state]; rfl
  have N0 := Fr.nil n0
  have k0 : ∀ t, Steps p.tables e below (s₁.setTop (mkF m 0 #[.val (.ref a1), .val (.int p1), .unset] [])) t → Steps p.tables e below (s₁.setTop (entryFrame m #[(.ref a1), (.int p1)] 3)) t := fun t k => castTop (ef_4_RI m a1 p1) k
  have k101 : ∀ t, Steps p.tables e below (s₁.setTop (mkF m 23 #[.val (.ref a1), .val (.int p1), .val (.int (0 : Int32))] [(.ref a1), (.int (0 : Int32))])) t → Steps p.tables e below (s₁.setTop (entryFrame m #[(.ref a1), (.int p1)] 3)) t := fun t k => k0 t (by
    show Steps p.tables e below (s₁.setTop (mkF m 0 #[.val (.ref a1), .val (.int p1), .unset] [])) _
    refine XS.iloadN X0.here hx rfl (hb hby d4_0) rfl ?_
    show Steps p.tables e below (s₁.setTop (mkF m 1 #[.val (.ref a1), .val (.int p1), .unset] [(.int p1)])) _
    refine XS.iconst X0.here hx rfl (hb hby d4_1) ?_
    show Steps p.tables e below (s₁.setTop (mkF m 2 #[.val (.ref a1), .val (.int p1), .unset] [(.int (1 : Int32)), (.int p1)])) _
    refine XS.icmpYes X0.here hx rfl (pc0 := 2) (pc' := 19) rfl (hb hby d4_2) rfl (flt c2).2.1 (by decide) (by decide) ?_
    show Steps p.tables e below (s₁.setTop (mkF m 19 #[.val (.ref a1), .val (.int p1), .unset] [])) _
    refine XS.iconst X0.here hx rfl (hb hby d4_19) ?_
    show Steps p.tables e below (s₁.setTop (mkF m 20 #[.val (.ref a1), .val (.int p1), .unset] [(.int (0 : Int32))])) _
    refine XS.istoreN X0.here hx rfl (hb hby d4_20) rfl (l' := #[.val (.ref a1), .val (.int p1), .val (.int (0 : Int32))]) rfl ?_
    show Steps p.tables e below (s₁.setTop (mkF m 21 #[.val (.ref a1), .val (.int p1), .val (.int (0 : Int32))] [])) _
    refine XS.iloadN X0.here hx rfl (hb hby d4_21) rfl ?_
    show Steps p.tables e below (s₁.setTop (mkF m 22 #[.val (.ref a1), .val (.int p1), .val (.int (0 : Int32))] [(.int (0 : Int32))])) _
    refine XS.aloadN X0.here hx rfl (hb hby d4_22) rfl rfl ?_
    exact k)
  obtain ⟨T102, X102, e102, st102⟩ := getF X0 hx hZ hown (host := "") (Or.inl (hw _ (List.mem_of_getElem? (i := 30) rfl))) Via.refl e0 F1 (g := (mkF m 23 #[.val (.ref a1), .val (.int p1), .val (.int (0 : Int32))] [(.ref a1), (.int (0 : Int32))])) rfl rfl (hb hby d4_23)
  have k103 : ∀ t, Steps p.tables e below (T102.setTop (mkF m 26 #[.val (.ref a1), .val (.int p1), .val (.int (0 : Int32))] [(.ref a2), (.int (0 : Int32))])) t → Steps p.tables e below (s₁.setTop (entryFrame m #[(.ref a1), (.int p1)] 3)) t := fun t k => k101 t (st102 t k)
  obtain ⟨c104, Ar104, -, As104, An104, -, -⟩ := id V1
  have k105 : ∀ t, Steps p.tables e below (T102.setTop (mkF m 31 #[.val (.ref a1), .val (.int p1), .val (.int (0 : Int32))] [(.ref a1)])) t → Steps p.tables e below (s₁.setTop (entryFrame m #[(.ref a1), (.int p1)] 3)) t := fun t k => k103 t (by
    show Steps p.tables e below (T102.setTop (mkF m 26 #[.val (.ref a1), .val (.int p1), .val (.int (0 : Int32))] [(.ref a2), (.int (0 : Int32))])) _
    refine X102.arraylength hx (by rw [e102]; exact Ar104.1) (State.isArrayOf_alike hZ.alike Ar104.2.1) (g := (mkF m 26 #[.val (.ref a1), .val (.int p1), .val (.int (0 : Int32))] [(.ref a2), (.int (0 : Int32))])) rfl rfl (hb hby d4_26) _ ?_
    rw [len_of As104 An104]
    show Steps p.tables e below (T102.setTop (mkF m 27 #[.val (.ref a1), .val (.int p1), .val (.int (0 : Int32))] [(.int (2 : Int32)), (.int (0 : Int32))])) _
    refine XS.icmpNo X102.here hx rfl (hb hby d4_27) rfl (tlt (by decide)).2.1 ?_
    show Steps p.tables e below (T102.setTop (mkF m 30 #[.val (.ref a1), .val (.int p1), .val (.int (0 : Int32))] [])) _
    refine XS.aloadN X102.here hx rfl (hb hby d4_30) rfl rfl ?_
    exact k)
  obtain ⟨T106, X106, e106, st106⟩ := getF X102 hx hZ hown (host := "") (Or.inl (hw _ (List.mem_of_getElem? (i := 30) rfl))) Via.refl e102 F1 (g := (mkF m 31 #[.val (.ref a1), .val (.int p1), .val (.int (0 : Int32))] [(.ref a1)])) rfl rfl (hb hby d4_31)
  have k107 : ∀ t, Steps p.tables e below (T106.setTop (mkF m 34 #[.val (.ref a1), .val (.int p1), .val (.int (0 : Int32))] [(.ref a2)])) t → Steps p.tables e below (s₁.setTop (entryFrame m #[(.ref a1), (.int p1)] 3)) t := fun t k => k105 t (st106 t k)
  have k108 : ∀ t, Steps p.tables e below (T106.setTop (mkF m 35 #[.val (.ref a1), .val (.int p1), .val (.int (0 : Int32))] [(.int (0 : Int32)), (.ref a2)])) t → Steps p.tables e below (s₁.setTop (entryFrame m #[(.ref a1), (.int p1)] 3)) t := fun t k => k107 t (by
    show Steps p.tables e below (T106.setTop (mkF m 34 #[.val (.ref a1), .val (.int p1), .val (.int (0 : Int32))] [(.ref a2)])) _
    refine XS.iloadN X106.here hx rfl (hb hby d4_34) rfl ?_
    exact k)
  obtain ⟨c109, Ar109, -, As109, An109, Ah109, -⟩ := id V1
  have hin109 : ¬ ((0 : Int32) < 0 ∨ c109.slots.size ≤ ((0 : Int32)).toNatClampNeg) := inb_of As109 ⟨by decide, by decide⟩
  have hat109 : c109.slots[((0 : Int32)).toNatClampNeg]? = some (.int r1) := Has.at Ah109 hin109 rfl
  have k110 : ∀ t, Steps p.tables e below (T106.setTop (mkF m 51 #[.val (.ref a1), .val (.int p1), .val (.int (0 : Int32))] [(.double (FP.ddiv (FP.i2d (0 : Int32)) (FP.i2d p1)))])) t → Steps p.tables e below (s₁.setTop (entryFrame m #[(.ref a1), (.int p1)] 3)) t := fun t k => k108 t (by
    show Steps p.tables e below (T106.setTop (mkF m 35 #[.val (.ref a1), .val (.int p1), .val (.int (0 : Int32))] [(.int (0 : Int32)), (.ref a2)])) _
    refine X106.iaload hx (j := (0 : Int32)) (v := (.int r1)) (by rw [e106]; exact Ar109.1) (State.isArrayOf_alike hZ.alike Ar109.2.1) Ar109.2.2 hin109 hat109 (g := (mkF m 35 #[.val (.ref a1), .val (.int p1), .val (.int (0 : Int32))] [(.int (0 : Int32)), (.ref a2)])) rfl rfl (hb hby d4_35) _ ?_
    show Steps p.tables e below (T106.setTop (mkF m 36 #[.val (.ref a1), .val (.int p1), .val (.int (0 : Int32))] [(.int r1)])) _
    refine XS.iloadN X106.here hx rfl (hb hby d4_36) rfl ?_
    show Steps p.tables e below (T106.setTop (mkF m 37 #[.val (.ref a1), .val (.int p1), .val (.int (0 : Int32))] [(.int p1), (.int r1)])) _
    refine XS.icmpYes X106.here hx rfl (pc0 := 37) (pc' := 46) rfl (hb hby d4_37) rfl (tlt d0).2.2.1 (by decide) (by decide) ?_
    show Steps p.tables e below (T106.setTop (mkF m 46 #[.val (.ref a1), .val (.int p1), .val (.int (0 : Int32))] [])) _
    refine XS.iloadN X106.here hx rfl (hb hby d4_46) rfl ?_
    show Steps p.tables e below (T106.setTop (mkF m 47 #[.val (.ref a1), .val (.int p1), .val (.int (0 : Int32))] [(.int (0 : Int32))])) _
    refine XS.i2dS X106.here hx rfl (hb hby d4_47) rfl rfl ?_
    show Steps p.tables e below (T106.setTop (mkF m 48 #[.val (.ref a1), .val (.int p1), .val (.int (0 : Int32))] [(.double (FP.i2d (0 : Int32)))])) _
    refine XS.iloadN X106.here hx rfl (hb hby d4_48) rfl ?_
    show Steps p.tables e below (T106.setTop (mkF m 49 #[.val (.ref a1), .val (.int p1), .val (.int (0 : Int32))] [(.int p1), (.double (FP.i2d (0 : Int32)))])) _
    refine XS.i2dS X106.here hx rfl (hb hby d4_49) rfl rfl ?_
    show Steps p.tables e below (T106.setTop (mkF m 50 #[.val (.ref a1), .val (.int p1), .val (.int (0 : Int32))] [(.double (FP.i2d p1)), (.double (FP.i2d (0 : Int32)))])) _
    refine XS.ddivS X106.here hx rfl (hb hby d4_50) rfl (nn50) rfl ?_
    exact k)
  obtain ⟨fs, hr, hrun, hended, hW, hsame⟩ := X106.leave (v := some (.double (FP.ddiv (FP.i2d (0 : Int32)) (FP.i2d p1)))) (fun h => by rw [Bd.returns] at h; cases h)
  refine ⟨_, _, k110 _ (retOut X106 hx (t := .double) Bd.returns rfl (Or.inr (Or.inr (Or.inl ⟨rfl, rfl, _, rfl⟩))) (hb hby d4_51) hr), hrun, hended, _, _, rfl, ?_, ⟨_, rfl⟩, hW, hsame.mono (by decide) (by decide)⟩
  show Q_prec2_0 Z a1 p1 a2 k1 r1 r2 h0 n0 _ T106.heap _
  rw [e106]
  exact ⟨rfl, N0, rfl⟩
def Q_prec2_1 (Z : State) (a1 : Addr) (p1 : Int32) (a2 : Addr) (k1 : ClassId) (r1 : Int32) (r2 : Int32) (h0 : Heap) (n0 : Nat) (v : Option Value) (h : Heap) (L : List Loc) : Prop := v = some (.double (FP.ddiv (FP.i2d (1 : Int32)) (FP.i2d p1))) ∧ Fr n0 L ∧ h = h0
set_option maxRecDepth 65536 in
set_option maxHeartbeats 40000000 in
theorem prec2_1 (l : Launch) (Z : State) (a0 : Array Value) (hw : ∀ d ∈ tables_1, d.before a0 Z = true) (ws : List Jvm.Cond) (a1 : Addr) (p1 : Int32) (a2 : Addr) (k1 : ClassId) (r1 : Int32) (r2 : Int32) (h0 : Heap) (n0 : Nat) (Z0 : n0 ≤ h0.size) (F1 : Fld Z h0 a1 "com/example/round2/round2/eval/TopicResult" "relevantRanks" "[I" (.ref a2)) (V1 : Arv Z h0 a2 k1 .int (2 : Int32) [(.int r1), (.int r2)] (.int (0 : Int32))) (c2 : ¬ (p1 < (1 : Int32))) (nn50 : Jvm.Free.Fl.NoNaN64 (FP.ddiv (FP.i2d (1 : Int32)) (FP.i2d p1))) (d0 : ¬ (p1 < r1)) (d1 : p1 < r2) :
    MetFree l (⟨"com/example/round2/round2/eval/TopicResult", "precisionAt", "(I)D"⟩ : MethodName) (head1 (Jvm.Cond.code (⟨"com/example/round2/round2/eval/TopicResult", "precisionAt", "(I)D"⟩ : MethodName) prog_10_method_8_code 3 (some .double) :: ws) ({ frames := 0, cells := 0, slots := 0, locals := 0 } : Room)) (fun a U => a = #[(.ref a1), (.int p1)] ∧ Z.Warmed39 U.vm ∧ U.heap = h0) (fun _ _ _ _ _ => True) (fun _ U o U' => ∃ v L, o = .returned v ∧ Q_prec2_1 Z a1 p1 a2 k1 r1 r2 h0 n0 v U'.heap L ∧ FrameEnd U o U' L ({ frames := 0, cells := 0, slots := 0, locals := 0 } : Room).cells ({ frames := 0, cells := 0, slots := 0, locals := 0 } : Room).slots) := by
  refine MetFree.of_bodySF (plainFor_of_name pn_com_2fexample_2fround2_2fround2_2feval_2fTopicResult) hisR ?_
  intro p e s m args below meth c s₁ Bd hml0 hP hK
  obtain ⟨rfl, hZ, hh⟩ := hP
  have hx := Bd.exec
  have hby := Bd.bytes
  have hml : c.maxLocals = 3 := hml0
  have hown : s.vm.findClass "com/example/round2/round2/eval/TopicResult" = some m.cls := findClass_of_methodNamed Bd.named
  have hnm := (name_of_methodNamed Bd.named Bd.method).1
  have X0 : Stand p l e ({ frames := 0, cells := 0, slots := 0, locals := 0 } : Room) s m #[(.ref a1), (.int p1)] below meth c s₁ [] 0 0 := Stand.of_body Bd
  have e0 : s₁.heap = h0 := by rw [← hh, Bd.state]; rfl
  have N0 := Fr.nil n0
  have k0 : ∀ t, Steps p.tables e below (s₁.setTop (mkF m 0 #[.val (.ref a1), .val (.int p1), .unset] [])) t → Steps p.tables e below (s₁.setTop (entryFrame m #[(.ref a1), (.int p1)] 3)) t := fun t k => castTop (ef_4_RI m a1 p1) k
  have k101 : ∀ t, Steps p.tables e below (s₁.setTop (mkF m 23 #[.val (.ref a1), .val (.int p1), .val (.int (0 : Int32))] [(.ref a1), (.int (0 : Int32))])) t → Steps p.tables e below (s₁.setTop (entryFrame m #[(.ref a1), (.int p1)] 3)) t := fun t k => k0 t (by
    show Steps p.tables e below (s₁.setTop (mkF m 0 #[.val (.ref a1), .val (.int p1), .unset] [])) _
    refine XS.iloadN X0.here hx rfl (hb hby d4_0) rfl ?_
    show Steps p.tables e below (s₁.setTop (mkF m 1 #[.val (.ref a1), .val (.int p1), .unset] [(.int p1)])) _
    refine XS.iconst X0.here hx rfl (hb hby d4_1) ?_
    show Steps p.tables e below (s₁.setTop (mkF m 2 #[.val (.ref a1), .val (.int p1), .unset] [(.int (1 : Int32)), (.int p1)])) _
    refine XS.icmpYes X0.here hx rfl (pc0 := 2) (pc' := 19) rfl (hb hby d4_2) rfl (flt c2).2.1 (by decide) (by decide) ?_
    show Steps p.tables e below (s₁.setTop (mkF m 19 #[.val (.ref a1), .val (.int p1), .unset] [])) _
    refine XS.iconst X0.here hx rfl (hb hby d4_19) ?_
    show Steps p.tables e below (s₁.setTop (mkF m 20 #[.val (.ref a1), .val (.int p1), .unset] [(.int (0 : Int32))])) _
    refine XS.istoreN X0.here hx rfl (hb hby d4_20) rfl (l' := #[.val (.ref a1), .val (.int p1), .val (.int (0 : Int32))]) rfl ?_
    show Steps p.tables e below (s₁.setTop (mkF m 21 #[.val (.ref a1), .val (.int p1), .val (.int (0 : Int32))] [])) _
    refine XS.iloadN X0.here hx rfl (hb hby d4_21) rfl ?_
    show Steps p.tables e below (s₁.setTop (mkF m 22 #[.val (.ref a1), .val (.int p1), .val (.int (0 : Int32))] [(.int (0 : Int32))])) _
    refine XS.aloadN X0.here hx rfl (hb hby d4_22) rfl rfl ?_
    exact k)
  obtain ⟨T102, X102, e102, st102⟩ := getF X0 hx hZ hown (host := "") (Or.inl (hw _ (List.mem_of_getElem? (i := 30) rfl))) Via.refl e0 F1 (g := (mkF m 23 #[.val (.ref a1), .val (.int p1), .val (.int (0 : Int32))] [(.ref a1), (.int (0 : Int32))])) rfl rfl (hb hby d4_23)
  have k103 : ∀ t, Steps p.tables e below (T102.setTop (mkF m 26 #[.val (.ref a1), .val (.int p1), .val (.int (0 : Int32))] [(.ref a2), (.int (0 : Int32))])) t → Steps p.tables e below (s₁.setTop (entryFrame m #[(.ref a1), (.int p1)] 3)) t := fun t k => k101 t (st102 t k)
  obtain ⟨c104, Ar104, -, As104, An104, -, -⟩ := id V1
  have k105 : ∀ t, Steps p.tables e below (T102.setTop (mkF m 31 #[.val (.ref a1), .val (.int p1), .val (.int (0 : Int32))] [(.ref a1)])) t → Steps p.tables e below (s₁.setTop (entryFrame m #[(.ref a1), (.int p1)] 3)) t := fun t k => k103 t (by
    show Steps p.tables e below (T102.setTop (mkF m 26 #[.val (.ref a1), .val (.int p1), .val (.int (0 : Int32))] [(.ref a2), (.int (0 : Int32))])) _
    refine X102.arraylength hx (by rw [e102]; exact Ar104.1) (State.isArrayOf_alike hZ.alike Ar104.2.1) (g := (mkF m 26 #[.val (.ref a1), .val (.int p1), .val (.int (0 : Int32))] [(.ref a2), (.int (0 : Int32))])) rfl rfl (hb hby d4_26) _ ?_
    rw [len_of As104 An104]
    show Steps p.tables e below (T102.setTop (mkF m 27 #[.val (.ref a1), .val (.int p1), .val (.int (0 : Int32))] [(.int (2 : Int32)), (.int (0 : Int32))])) _
    refine XS.icmpNo X102.here hx rfl (hb hby d4_27) rfl (tlt (by decide)).2.1 ?_
    show Steps p.tables e below (T102.setTop (mkF m 30 #[.val (.ref a1), .val (.int p1), .val (.int (0 : Int32))] [])) _
    refine XS.aloadN X102.here hx rfl (hb hby d4_30) rfl rfl ?_
    exact k)
  obtain ⟨T106, X106, e106, st106⟩ := getF X102 hx hZ hown (host := "") (Or.inl (hw _ (List.mem_of_getElem? (i := 30) rfl))) Via.refl e102 F1 (g := (mkF m 31 #[.val (.ref a1), .val (.int p1), .val (.int (0 : Int32))] [(.ref a1)])) rfl rfl (hb hby d4_31)
  have k107 : ∀ t, Steps p.tables e below (T106.setTop (mkF m 34 #[.val (.ref a1), .val (.int p1), .val (.int (0 : Int32))] [(.ref a2)])) t → Steps p.tables e below (s₁.setTop (entryFrame m #[(.ref a1), (.int p1)] 3)) t := fun t k => k105 t (st106 t k)
  have k108 : ∀ t, Steps p.tables e below (T106.setTop (mkF m 35 #[.val (.ref a1), .val (.int p1), .val (.int (0 : Int32))] [(.int (0 : Int32)), (.ref a2)])) t → Steps p.tables e below (s₁.setTop (entryFrame m #[(.ref a1), (.int p1)] 3)) t := fun t k => k107 t (by
    show Steps p.tables e below (T106.setTop (mkF m 34 #[.val (.ref a1), .val (.int p1), .val (.int (0 : Int32))] [(.ref a2)])) _
    refine XS.iloadN X106.here hx rfl (hb hby d4_34) rfl ?_
    exact k)
  obtain ⟨c109, Ar109, -, As109, An109, Ah109, -⟩ := id V1
  have hin109 : ¬ ((0 : Int32) < 0 ∨ c109.slots.size ≤ ((0 : Int32)).toNatClampNeg) := inb_of As109 ⟨by decide, by decide⟩
  have hat109 : c109.slots[((0 : Int32)).toNatClampNeg]? = some (.int r1) := Has.at Ah109 hin109 rfl
  have k110 : ∀ t, Steps p.tables e below (T106.setTop (mkF m 23 #[.val (.ref a1), .val (.int p1), .val (.int (1 : Int32))] [(.ref a1), (.int (1 : Int32))])) t → Steps p.tables e below (s₁.setTop (entryFrame m #[(.ref a1), (.int p1)] 3)) t := fun t k => k108 t (by
    show Steps p.tables e below (T106.setTop (mkF m 35 #[.val (.ref a1), .val (.int p1), .val (.int (0 : Int32))] [(.int (0 : Int32)), (.ref a2)])) _
    refine X106.iaload hx (j := (0 : Int32)) (v := (.int r1)) (by rw [e106]; exact Ar109.1) (State.isArrayOf_alike hZ.alike Ar109.2.1) Ar109.2.2 hin109 hat109 (g := (mkF m 35 #[.val (.ref a1), .val (.int p1), .val (.int (0 : Int32))] [(.int (0 : Int32)), (.ref a2)])) rfl rfl (hb hby d4_35) _ ?_
    show Steps p.tables e below (T106.setTop (mkF m 36 #[.val (.ref a1), .val (.int p1), .val (.int (0 : Int32))] [(.int r1)])) _
    refine XS.iloadN X106.here hx rfl (hb hby d4_36) rfl ?_
    show Steps p.tables e below (T106.setTop (mkF m 37 #[.val (.ref a1), .val (.int p1), .val (.int (0 : Int32))] [(.int p1), (.int r1)])) _
    refine XS.icmpNo X106.here hx rfl (hb hby d4_37) rfl (flt d0).2.2.1 ?_
    show Steps p.tables e below (T106.setTop (mkF m 40 #[.val (.ref a1), .val (.int p1), .val (.int (0 : Int32))] [])) _
    refine XS.iinc X106.here hx rfl (hb hby d4_40) rfl (l' := #[.val (.ref a1), .val (.int p1), .val (.int (1 : Int32))]) rfl ?_
    show Steps p.tables e below (T106.setTop (mkF m 43 #[.val (.ref a1), .val (.int p1), .val (.int (1 : Int32))] [])) _
    refine XS.goto X106.here hx rfl (pc0 := 43) (pc' := 21) rfl (hb hby d4_43) (by decide) (by decide) ?_
    show Steps p.tables e below (T106.setTop (mkF m 21 #[.val (.ref a1), .val (.int p1), .val (.int (1 : Int32))] [])) _
    refine XS.iloadN X106.here hx rfl (hb hby d4_21) rfl ?_
    show Steps p.tables e below (T106.setTop (mkF m 22 #[.val (.ref a1), .val (.int p1), .val (.int (1 : Int32))] [(.int (1 : Int32))])) _
    refine XS.aloadN X106.here hx rfl (hb hby d4_22) rfl rfl ?_
    exact k)
  obtain ⟨T111, X111, e111, st111⟩ := getF X106 hx hZ hown (host := "") (Or.inl (hw _ (List.mem_of_getElem? (i := 30) rfl))) Via.refl e106 F1 (g := (mkF m 23 #[.val (.ref a1), .val (.int p1), .val (.int (1 : Int32))] [(.ref a1), (.int (1 : Int32))])) rfl rfl (hb hby d4_23)
  have k112 : ∀ t, Steps p.tables e below (T111.setTop (mkF m 26 #[.val (.ref a1), .val (.int p1), .val (.int (1 : Int32))] [(.ref a2), (.int (1 : Int32))])) t → Steps p.tables e below (s₁.setTop (entryFrame m #[(.ref a1), (.int p1)] 3)) t := fun t k => k110 t (st111 t k)
  obtain ⟨c113, Ar113, -, As113, An113, -, -⟩ := id V1
  have k114 : ∀ t, Steps p.tables e below (T111.setTop (mkF m 31 #[.val (.ref a1), .val (.int p1), .val (.int (1 : Int32))] [(.ref a1)])) t → Steps p.tables e below (s₁.setTop (entryFrame m #[(.ref a1), (.int p1)] 3)) t := fun t k => k112 t (by
    show Steps p.tables e below (T111.setTop (mkF m 26 #[.val (.ref a1), .val (.int p1), .val (.int (1 : Int32))] [(.ref a2), (.int (1 : Int32))])) _
    refine X111.arraylength hx (by rw [e111]; exact Ar113.1) (State.isArrayOf_alike hZ.alike Ar113.2.1) (g := (mkF m 26 #[.val (.ref a1), .val (.int p1), .val (.int (1 : Int32))] [(.ref a2), (.int (1 : Int32))])) rfl rfl (hb hby d4_26) _ ?_
    rw [len_of As113 An113]
    show Steps p.tables e below (T111.setTop (mkF m 27 #[.val (.ref a1), .val (.int p1), .val (.int (1 : Int32))] [(.int (2 : Int32)), (.int (1 : Int32))])) _
    refine XS.icmpNo X111.here hx rfl (hb hby d4_27) rfl (tlt (by decide)).2.1 ?_
    show Steps p.tables e below (T111.setTop (mkF m 30 #[.val (.ref a1), .val (.int p1), .val (.int (1 : Int32))] [])) _
    refine XS.aloadN X111.here hx rfl (hb hby d4_30) rfl rfl ?_
    exact k)
  obtain ⟨T115, X115, e115, st115⟩ := getF X111 hx hZ hown (host := "") (Or.inl (hw _ (List.mem_of_getElem? (i := 30) rfl))) Via.refl e111 F1 (g := (mkF m 31 #[.val (.ref a1), .val (.int p1), .val (.int (1 : Int32))] [(.ref a1)])) rfl rfl (hb hby d4_31)
  have k116 : ∀ t, Steps p.tables e below (T115.setTop (mkF m 34 #[.val (.ref a1), .val (.int p1), .val (.int (1 : Int32))] [(.ref a2)])) t → Steps p.tables e below (s₁.setTop (entryFrame m #[(.ref a1), (.int p1)] 3)) t := fun t k => k114 t (st115 t k)
  have k117 : ∀ t, Steps p.tables e below (T115.setTop (mkF m 35 #[.val (.ref a1), .val (.int p1), .val (.int (1 : Int32))] [(.int (1 : Int32)), (.ref a2)])) t → Steps p.tables e below (s₁.setTop (entryFrame m #[(.ref a1), (.int p1)] 3)) t := fun t k => k116 t (by
    show Steps p.tables e below (T115.setTop (mkF m 34 #[.val (.ref a1), .val (.int p1), .val (.int (1 : Int32))] [(.ref a2)])) _
    refine XS.iloadN X115.here hx rfl (hb hby d4_34) rfl ?_
    exact k)
  obtain ⟨c118, Ar118, -, As118, An118, Ah118, -⟩ := id V1
  have hin118 : ¬ ((1 : Int32) < 0 ∨ c118.slots.size ≤ ((1 : Int32)).toNatClampNeg) := inb_of As118 ⟨by decide, by decide⟩
  have hat118 : c118.slots[((1 : Int32)).toNatClampNeg]? = some (.int r2) := Has.at Ah118 hin118 rfl
  have k119 : ∀ t, Steps p.tables e below (T115.setTop (mkF m 51 #[.val (.ref a1), .val (.int p1), .val (.int (1 : Int32))] [(.double (FP.ddiv (FP.i2d (1 : Int32)) (FP.i2d p1)))])) t → Steps p.tables e below (s₁.setTop (entryFrame m #[(.ref a1), (.int p1)] 3)) t := fun t k => k117 t (by
    show Steps p.tables e below (T115.setTop (mkF m 35 #[.val (.ref a1), .val (.int p1), .val (.int (1 : Int32))] [(.int (1 : Int32)), (.ref a2)])) _
    refine X115.iaload hx (j := (1 : Int32)) (v := (.int r2)) (by rw [e115]; exact Ar118.1) (State.isArrayOf_alike hZ.alike Ar118.2.1) Ar118.2.2 hin118 hat118 (g := (mkF m 35 #[.val (.ref a1), .val (.int p1), .val (.int (1 : Int32))] [(.int (1 : Int32)), (.ref a2)])) rfl rfl (hb hby d4_35) _ ?_
    show Steps p.tables e below (T115.setTop (mkF m 36 #[.val (.ref a1), .val (.int p1), .val (.int (1 : Int32))] [(.int r2)])) _
    refine XS.iloadN X115.here hx rfl (hb hby d4_36) rfl ?_
    show Steps p.tables e below (T115.setTop (mkF m 37 #[.val (.ref a1), .val (.int p1), .val (.int (1 : Int32))] [(.int p1), (.int r2)])) _
    refine XS.icmpYes X115.here hx rfl (pc0 := 37) (pc' := 46) rfl (hb hby d4_37) rfl (tlt d1).2.2.1 (by decide) (by decide) ?_
    show Steps p.tables e below (T115.setTop (mkF m 46 #[.val (.ref a1), .val (.int p1), .val (.int (1 : Int32))] [])) _
    refine XS.iloadN X115.here hx rfl (hb hby d4_46) rfl ?_
    show Steps p.tables e below (T115.setTop (mkF m 47 #[.val (.ref a1), .val (.int p1), .val (.int (1 : Int32))] [(.int (1 : Int32))])) _
    refine XS.i2dS X115.here hx rfl (hb hby d4_47) rfl rfl ?_
    show Steps p.tables e below (T115.setTop (mkF m 48 #[.val (.ref a1), .val (.int p1), .val (.int (1 : Int32))] [(.double (FP.i2d (1 : Int32)))])) _
    refine XS.iloadN X115.here hx rfl (hb hby d4_48) rfl ?_
    show Steps p.tables e below (T115.setTop (mkF m 49 #[.val (.ref a1), .val (.int p1), .val (.int (1 : Int32))] [(.int p1), (.double (FP.i2d (1 : Int32)))])) _
    refine XS.i2dS X115.here hx rfl (hb hby d4_49) rfl rfl ?_
    show Steps p.tables e below (T115.setTop (mkF m 50 #[.val (.ref a1), .val (.int p1), .val (.int (1 : Int32))] [(.double (FP.i2d p1)), (.double (FP.i2d (1 : Int32)))])) _
    refine XS.ddivS X115.here hx rfl (hb hby d4_50) rfl (nn50) rfl ?_
    exact k)
  obtain ⟨fs, hr, hrun, hended, hW, hsame⟩ := X115.leave (v := some (.double (FP.ddiv (FP.i2d (1 : Int32)) (FP.i2d p1)))) (fun h => by rw [Bd.returns] at h; cases h)
  refine ⟨_, _, k119 _ (retOut X115 hx (t := .double) Bd.returns rfl (Or.inr (Or.inr (Or.inl ⟨rfl, rfl, _, rfl⟩))) (hb hby d4_51) hr), hrun, hended, _, _, rfl, ?_, ⟨_, rfl⟩, hW, hsame.mono (by decide) (by decide)⟩
  show Q_prec2_1 Z a1 p1 a2 k1 r1 r2 h0 n0 _ T115.heap _
  rw [e115]
  exact ⟨rfl, N0, rfl⟩
def Q_prec2_2 (Z : State) (a1 : Addr) (p1 : Int32) (a2 : Addr) (k1 : ClassId) (r1 : Int32) (r2 : Int32) (h0 : Heap) (n0 : Nat) (v : Option Value) (h : Heap) (L : List Loc) : Prop := v = some (.double (FP.ddiv (FP.i2d (2 : Int32)) (FP.i2d p1))) ∧ Fr n0 L ∧ h = h0
set_option maxRecDepth 65536 in
set_option maxHeartbeats 40000000 in
theorem prec2_2 (l : Launch) (Z : State) (a0 : Array Value) (hw : ∀ d ∈ tables_1, d.before a0 Z = true) (ws : List Jvm.Cond) (a1 : Addr) (p1 : Int32) (a2 : Addr) (k1 : ClassId) (r1 : Int32) (r2 : Int32) (h0 : Heap) (n0 : Nat) (Z0 : n0 ≤ h0.size) (F1 : Fld Z h0 a1 "com/example/round2/round2/eval/TopicResult" "relevantRanks" "[I" (.ref a2)) (V1 : Arv Z h0 a2 k1 .int (2 : Int32) [(.int r1), (.int r2)] (.int (0 : Int32))) (c2 : ¬ (p1 < (1 : Int32))) (nn50 : Jvm.Free.Fl.NoNaN64 (FP.ddiv (FP.i2d (2 : Int32)) (FP.i2d p1))) (d0 : ¬ (p1 < r1)) (d1 : ¬ (p1 < r2)) :
    MetFree l (⟨"com/example/round2/round2/eval/TopicResult", "precisionAt", "(I)D"⟩ : MethodName) (head1 (Jvm.Cond.code (⟨"com/example/round2/round2/eval/TopicResult", "precisionAt", "(I)D"⟩ : MethodName) prog_10_method_8_code 3 (some .double) :: ws) ({ frames := 0, cells := 0, slots := 0, locals := 0 } : Room)) (fun a U => a = #[(.ref a1), (.int p1)] ∧ Z.Warmed39 U.vm ∧ U.heap = h0) (fun _ _ _ _ _ => True) (fun _ U o U' => ∃ v L, o = .returned v ∧ Q_prec2_2 Z a1 p1 a2 k1 r1 r2 h0 n0 v U'.heap L ∧ FrameEnd U o U' L ({ frames := 0, cells := 0, slots := 0, locals := 0 } : Room).cells ({ frames := 0, cells := 0, slots := 0, locals := 0 } : Room).slots) := by
  refine MetFree.of_bodySF (plainFor_of_name pn_com_2fexample_2fround2_2fround2_2feval_2fTopicResult) hisR ?_
  intro p e s m args below meth c s₁ Bd hml0 hP hK
  obtain ⟨rfl, hZ, hh⟩ := hP
  have hx := Bd.exec
  have hby := Bd.bytes
  have hml : c.maxLocals = 3 := hml0
  have hown : s.vm.findClass "com/example/round2/round2/eval/TopicResult" = some m.cls := findClass_of_methodNamed Bd.named
  have hnm := (name_of_methodNamed Bd.named Bd.method).1
  have X0 : Stand p l e ({ frames := 0, cells := 0, slots := 0, locals := 0 } : Room) s m #[(.ref a1), (.int p1)] below meth c s₁ [] 0 0 := Stand.of_body Bd
  have e0 : s₁.heap = h0 := by rw [← hh, Bd.state]; rfl
  have N0 := Fr.nil n0
  have k0 : ∀ t, Steps p.tables e below (s₁.setTop (mkF m 0 #[.val (.ref a1), .val (.int p1), .unset] [])) t → Steps p.tables e below (s₁.setTop (entryFrame m #[(.ref a1), (.int p1)] 3)) t := fun t k => castTop (ef_4_RI m a1 p1) k
  have k101 : ∀ t, Steps p.tables e below (s₁.setTop (mkF m 23 #[.val (.ref a1), .val (.int p1), .val (.int (0 : Int32))] [(.ref a1), (.int (0 : Int32))])) t → Steps p.tables e below (s₁.setTop (entryFrame m #[(.ref a1), (.int p1)] 3)) t := fun t k => k0 t (by
    show Steps p.tables e below (s₁.setTop (mkF m 0 #[.val (.ref a1), .val (.int p1), .unset] [])) _
    refine XS.iloadN X0.here hx rfl (hb hby d4_0) rfl ?_
    show Steps p.tables e below (s₁.setTop (mkF m 1 #[.val (.ref a1), .val (.int p1), .unset] [(.int p1)])) _
    refine XS.iconst X0.here hx rfl (hb hby d4_1) ?_
    show Steps p.tables e below (s₁.setTop (mkF m 2 #[.val (.ref a1), .val (.int p1), .unset] [(.int (1 : Int32)), (.int p1)])) _
    refine XS.icmpYes X0.here hx rfl (pc0 := 2) (pc' := 19) rfl (hb hby d4_2) rfl (flt c2).2.1 (by decide) (by decide) ?_
    show Steps p.tables e below (s₁.setTop (mkF m 19 #[.val (.ref a1), .val (.int p1), .unset] [])) _
    refine XS.iconst X0.here hx rfl (hb hby d4_19) ?_
    show Steps p.tables e below (s₁.setTop (mkF m 20 #[.val (.ref a1), .val (.int p1), .unset] [(.int (0 : Int32))])) _
    refine XS.istoreN X0.here hx rfl (hb hby d4_20) rfl (l' := #[.val (.ref a1), .val (.int p1), .val (.int (0 : Int32))]) rfl ?_
    show Steps p.tables e below (s₁.setTop (mkF m 21 #[.val (.ref a1), .val (.int p1), .val (.int (0 : Int32))] [])) _
    refine XS.iloadN X0.here hx rfl (hb hby d4_21) rfl ?_
    show Steps p.tables e below (s₁.setTop (mkF m 22 #[.val (.ref a1), .val (.int p1), .val (.int (0 : Int32))] [(.int (0 : Int32))])) _
    refine XS.aloadN X0.here hx rfl (hb hby d4_22) rfl rfl ?_
    exact k)
  obtain ⟨T102, X102, e102, st102⟩ := getF X0 hx hZ hown (host := "") (Or.inl (hw _ (List.mem_of_getElem? (i := 30) rfl))) Via.refl e0 F1 (g := (mkF m 23 #[.val (.ref a1), .val (.int p1), .val (.int (0 : Int32))] [(.ref a1), (.int (0 : Int32))])) rfl rfl (hb hby d4_23)
  have k103 : ∀ t, Steps p.tables e below (T102.setTop (mkF m 26 #[.val (.ref a1), .val (.int p1), .val (.int (0 : Int32))] [(.ref a2), (.int (0 : Int32))])) t → Steps p.tables e below (s₁.setTop (entryFrame m #[(.ref a1), (.int p1)] 3)) t := fun t k => k101 t (st102 t k)
  obtain ⟨c104, Ar104, -, As104, An104, -, -⟩ := id V1
  have k105 : ∀ t, Steps p.tables e below (T102.setTop (mkF m 31 #[.val (.ref a1), .val (.int p1), .val (.int (0 : Int32))] [(.ref a1)])) t → Steps p.tables e below (s₁.setTop (entryFrame m #[(.ref a1), (.int p1)] 3)) t := fun t k => k103 t (by
    show Steps p.tables e below (T102.setTop (mkF m 26 #[.val (.ref a1), .val (.int p1), .val (.int (0 : Int32))] [(.ref a2), (.int (0 : Int32))])) _
    refine X102.arraylength hx (by rw [e102]; exact Ar104.1) (State.isArrayOf_alike hZ.alike Ar104.2.1) (g := (mkF m 26 #[.val (.ref a1), .val (.int p1), .val (.int (0 : Int32))] [(.ref a2), (.int (0 : Int32))])) rfl rfl (hb hby d4_26) _ ?_
    rw [len_of As104 An104]
    show Steps p.tables e below (T102.setTop (mkF m 27 #[.val (.ref a1), .val (.int p1), .val (.int (0 : Int32))] [(.int (2 : Int32)), (.int (0 : Int32))])) _
    refine XS.icmpNo X102.here hx rfl (hb hby d4_27) rfl (tlt (by decide)).2.1 ?_
    show Steps p.tables e below (T102.setTop (mkF m 30 #[.val (.ref a1), .val (.int p1), .val (.int (0 : Int32))] [])) _
    refine XS.aloadN X102.here hx rfl (hb hby d4_30) rfl rfl ?_
    exact k)
  obtain ⟨T106, X106, e106, st106⟩ := getF X102 hx hZ hown (host := "") (Or.inl (hw _ (List.mem_of_getElem? (i := 30) rfl))) Via.refl e102 F1 (g := (mkF m 31 #[.val (.ref a1), .val (.int p1), .val (.int (0 : Int32))] [(.ref a1)])) rfl rfl (hb hby d4_31)
  have k107 : ∀ t, Steps p.tables e below (T106.setTop (mkF m 34 #[.val (.ref a1), .val (.int p1), .val (.int (0 : Int32))] [(.ref a2)])) t → Steps p.tables e below (s₁.setTop (entryFrame m #[(.ref a1), (.int p1)] 3)) t := fun t k => k105 t (st106 t k)
  have k108 : ∀ t, Steps p.tables e below (T106.setTop (mkF m 35 #[.val (.ref a1), .val (.int p1), .val (.int (0 : Int32))] [(.int (0 : Int32)), (.ref a2)])) t → Steps p.tables e below (s₁.setTop (entryFrame m #[(.ref a1), (.int p1)] 3)) t := fun t k => k107 t (by
    show Steps p.tables e below (T106.setTop (mkF m 34 #[.val (.ref a1), .val (.int p1), .val (.int (0 : Int32))] [(.ref a2)])) _
    refine XS.iloadN X106.here hx rfl (hb hby d4_34) rfl ?_
    exact k)
  obtain ⟨c109, Ar109, -, As109, An109, Ah109, -⟩ := id V1
  have hin109 : ¬ ((0 : Int32) < 0 ∨ c109.slots.size ≤ ((0 : Int32)).toNatClampNeg) := inb_of As109 ⟨by decide, by decide⟩
  have hat109 : c109.slots[((0 : Int32)).toNatClampNeg]? = some (.int r1) := Has.at Ah109 hin109 rfl
  have k110 : ∀ t, Steps p.tables e below (T106.setTop (mkF m 23 #[.val (.ref a1), .val (.int p1), .val (.int (1 : Int32))] [(.ref a1), (.int (1 : Int32))])) t → Steps p.tables e below (s₁.setTop (entryFrame m #[(.ref a1), (.int p1)] 3)) t := fun t k => k108 t (by
    show Steps p.tables e below (T106.setTop (mkF m 35 #[.val (.ref a1), .val (.int p1), .val (.int (0 : Int32))] [(.int (0 : Int32)), (.ref a2)])) _
    refine X106.iaload hx (j := (0 : Int32)) (v := (.int r1)) (by rw [e106]; exact Ar109.1) (State.isArrayOf_alike hZ.alike Ar109.2.1) Ar109.2.2 hin109 hat109 (g := (mkF m 35 #[.val (.ref a1), .val (.int p1), .val (.int (0 : Int32))] [(.int (0 : Int32)), (.ref a2)])) rfl rfl (hb hby d4_35) _ ?_
    show Steps p.tables e below (T106.setTop (mkF m 36 #[.val (.ref a1), .val (.int p1), .val (.int (0 : Int32))] [(.int r1)])) _
    refine XS.iloadN X106.here hx rfl (hb hby d4_36) rfl ?_
    show Steps p.tables e below (T106.setTop (mkF m 37 #[.val (.ref a1), .val (.int p1), .val (.int (0 : Int32))] [(.int p1), (.int r1)])) _
    refine XS.icmpNo X106.here hx rfl (hb hby d4_37) rfl (flt d0).2.2.1 ?_
    show Steps p.tables e below (T106.setTop (mkF m 40 #[.val (.ref a1), .val (.int p1), .val (.int (0 : Int32))] [])) _
    refine XS.iinc X106.here hx rfl (hb hby d4_40) rfl (l' := #[.val (.ref a1), .val (.int p1), .val (.int (1 : Int32))]) rfl ?_
    show Steps p.tables e below (T106.setTop (mkF m 43 #[.val (.ref a1), .val (.int p1), .val (.int (1 : Int32))] [])) _
    refine XS.goto X106.here hx rfl (pc0 := 43) (pc' := 21) rfl (hb hby d4_43) (by decide) (by decide) ?_
    show Steps p.tables e below (T106.setTop (mkF m 21 #[.val (.ref a1), .val (.int p1), .val (.int (1 : Int32))] [])) _
    refine XS.iloadN X106.here hx rfl (hb hby d4_21) rfl ?_
    show Steps p.tables e below (T106.setTop (mkF m 22 #[.val (.ref a1), .val (.int p1), .val (.int (1 : Int32))] [(.int (1 : Int32))])) _
    refine XS.aloadN X106.here hx rfl (hb hby d4_22) rfl rfl ?_
    exact k)
  obtain ⟨T111, X111, e111, st111⟩ := getF X106 hx hZ hown (host := "") (Or.inl (hw _ (List.mem_of_getElem? (i := 30) rfl))) Via.refl e106 F1 (g := (mkF m 23 #[.val (.ref a1), .val (.int p1), .val (.int (1 : Int32))] [(.ref a1), (.int (1 : Int32))])) rfl rfl (hb hby d4_23)
  have k112 : ∀ t, Steps p.tables e below (T111.setTop (mkF m 26 #[.val (.ref a1), .val (.int p1), .val (.int (1 : Int32))] [(.ref a2), (.int (1 : Int32))])) t → Steps p.tables e below (s₁.setTop (entryFrame m #[(.ref a1), (.int p1)] 3)) t := fun t k => k110 t (st111 t k)
  obtain ⟨c113, Ar113, -, As113, An113, -, -⟩ := id V1
  have k114 : ∀ t, Steps p.tables e below (T111.setTop (mkF m 31 #[.val (.ref a1), .val (.int p1), .val (.int (1 : Int32))] [(.ref a1)])) t → Steps p.tables e below (s₁.setTop (entryFrame m #[(.ref a1), (.int p1)] 3)) t := fun t k => k112 t (by
    show Steps p.tables e below (T111.setTop (mkF m 26 #[.val (.ref a1), .val (.int p1), .val (.int (1 : Int32))] [(.ref a2), (.int (1 : Int32))])) _
    refine X111.arraylength hx (by rw [e111]; exact Ar113.1) (State.isArrayOf_alike hZ.alike Ar113.2.1) (g := (mkF m 26 #[.val (.ref a1), .val (.int p1), .val (.int (1 : Int32))] [(.ref a2), (.int (1 : Int32))])) rfl rfl (hb hby d4_26) _ ?_
    rw [len_of As113 An113]
    show Steps p.tables e below (T111.setTop (mkF m 27 #[.val (.ref a1), .val (.int p1), .val (.int (1 : Int32))] [(.int (2 : Int32)), (.int (1 : Int32))])) _
    refine XS.icmpNo X111.here hx rfl (hb hby d4_27) rfl (tlt (by decide)).2.1 ?_
    show Steps p.tables e below (T111.setTop (mkF m 30 #[.val (.ref a1), .val (.int p1), .val (.int (1 : Int32))] [])) _
    refine XS.aloadN X111.here hx rfl (hb hby d4_30) rfl rfl ?_
    exact k)
  obtain ⟨T115, X115, e115, st115⟩ := getF X111 hx hZ hown (host := "") (Or.inl (hw _ (List.mem_of_getElem? (i := 30) rfl))) Via.refl e111 F1 (g := (mkF m 31 #[.val (.ref a1), .val (.int p1), .val (.int (1 : Int32))] [(.ref a1)])) rfl rfl (hb hby d4_31)
  have k116 : ∀ t, Steps p.tables e below (T115.setTop (mkF m 34 #[.val (.ref a1), .val (.int p1), .val (.int (1 : Int32))] [(.ref a2)])) t → Steps p.tables e below (s₁.setTop (entryFrame m #[(.ref a1), (.int p1)] 3)) t := fun t k => k114 t (st115 t k)
  have k117 : ∀ t, Steps p.tables e below (T115.setTop (mkF m 35 #[.val (.ref a1), .val (.int p1), .val (.int (1 : Int32))] [(.int (1 : Int32)), (.ref a2)])) t → Steps p.tables e below (s₁.setTop (entryFrame m #[(.ref a1), (.int p1)] 3)) t := fun t k => k116 t (by
    show Steps p.tables e below (T115.setTop (mkF m 34 #[.val (.ref a1), .val (.int p1), .val (.int (1 : Int32))] [(.ref a2)])) _
    refine XS.iloadN X115.here hx rfl (hb hby d4_34) rfl ?_
    exact k)
  obtain ⟨c118, Ar118, -, As118, An118, Ah118, -⟩ := id V1
  have hin118 : ¬ ((1 : Int32) < 0 ∨ c118.slots.size ≤ ((1 : Int32)).toNatClampNeg) := inb_of As118 ⟨by decide, by decide⟩
  have hat118 : c118.slots[((1 : Int32)).toNatClampNeg]? = some (.int r2) := Has.at Ah118 hin118 rfl
  have k119 : ∀ t, Steps p.tables e below (T115.setTop (mkF m 23 #[.val (.ref a1), .val (.int p1), .val (.int (2 : Int32))] [(.ref a1), (.int (2 : Int32))])) t → Steps p.tables e below (s₁.setTop (entryFrame m #[(.ref a1), (.int p1)] 3)) t := fun t k => k117 t (by
    show Steps p.tables e below (T115.setTop (mkF m 35 #[.val (.ref a1), .val (.int p1), .val (.int (1 : Int32))] [(.int (1 : Int32)), (.ref a2)])) _
    refine X115.iaload hx (j := (1 : Int32)) (v := (.int r2)) (by rw [e115]; exact Ar118.1) (State.isArrayOf_alike hZ.alike Ar118.2.1) Ar118.2.2 hin118 hat118 (g := (mkF m 35 #[.val (.ref a1), .val (.int p1), .val (.int (1 : Int32))] [(.int (1 : Int32)), (.ref a2)])) rfl rfl (hb hby d4_35) _ ?_
    show Steps p.tables e below (T115.setTop (mkF m 36 #[.val (.ref a1), .val (.int p1), .val (.int (1 : Int32))] [(.int r2)])) _
    refine XS.iloadN X115.here hx rfl (hb hby d4_36) rfl ?_
    show Steps p.tables e below (T115.setTop (mkF m 37 #[.val (.ref a1), .val (.int p1), .val (.int (1 : Int32))] [(.int p1), (.int r2)])) _
    refine XS.icmpNo X115.here hx rfl (hb hby d4_37) rfl (flt d1).2.2.1 ?_
    show Steps p.tables e below (T115.setTop (mkF m 40 #[.val (.ref a1), .val (.int p1), .val (.int (1 : Int32))] [])) _
    refine XS.iinc X115.here hx rfl (hb hby d4_40) rfl (l' := #[.val (.ref a1), .val (.int p1), .val (.int (2 : Int32))]) rfl ?_
    show Steps p.tables e below (T115.setTop (mkF m 43 #[.val (.ref a1), .val (.int p1), .val (.int (2 : Int32))] [])) _
    refine XS.goto X115.here hx rfl (pc0 := 43) (pc' := 21) rfl (hb hby d4_43) (by decide) (by decide) ?_
    show Steps p.tables e below (T115.setTop (mkF m 21 #[.val (.ref a1), .val (.int p1), .val (.int (2 : Int32))] [])) _
    refine XS.iloadN X115.here hx rfl (hb hby d4_21) rfl ?_
    show Steps p.tables e below (T115.setTop (mkF m 22 #[.val (.ref a1), .val (.int p1), .val (.int (2 : Int32))] [(.int (2 : Int32))])) _
    refine XS.aloadN X115.here hx rfl (hb hby d4_22) rfl rfl ?_
    exact k)
  obtain ⟨T120, X120, e120, st120⟩ := getF X115 hx hZ hown (host := "") (Or.inl (hw _ (List.mem_of_getElem? (i := 30) rfl))) Via.refl e115 F1 (g := (mkF m 23 #[.val (.ref a1), .val (.int p1), .val (.int (2 : Int32))] [(.ref a1), (.int (2 : Int32))])) rfl rfl (hb hby d4_23)
  have k121 : ∀ t, Steps p.tables e below (T120.setTop (mkF m 26 #[.val (.ref a1), .val (.int p1), .val (.int (2 : Int32))] [(.ref a2), (.int (2 : Int32))])) t → Steps p.tables e below (s₁.setTop (entryFrame m #[(.ref a1), (.int p1)] 3)) t := fun t k => k119 t (st120 t k)
  obtain ⟨c122, Ar122, -, As122, An122, -, -⟩ := id V1
  have k123 : ∀ t, Steps p.tables e below (T120.setTop (mkF m 51 #[.val (.ref a1), .val (.int p1), .val (.int (2 : Int32))] [(.double (FP.ddiv (FP.i2d (2 : Int32)) (FP.i2d p1)))])) t → Steps p.tables e below (s₁.setTop (entryFrame m #[(.ref a1), (.int p1)] 3)) t := fun t k => k121 t (by
    show Steps p.tables e below (T120.setTop (mkF m 26 #[.val (.ref a1), .val (.int p1), .val (.int (2 : Int32))] [(.ref a2), (.int (2 : Int32))])) _
    refine X120.arraylength hx (by rw [e120]; exact Ar122.1) (State.isArrayOf_alike hZ.alike Ar122.2.1) (g := (mkF m 26 #[.val (.ref a1), .val (.int p1), .val (.int (2 : Int32))] [(.ref a2), (.int (2 : Int32))])) rfl rfl (hb hby d4_26) _ ?_
    rw [len_of As122 An122]
    show Steps p.tables e below (T120.setTop (mkF m 27 #[.val (.ref a1), .val (.int p1), .val (.int (2 : Int32))] [(.int (2 : Int32)), (.int (2 : Int32))])) _
    refine XS.icmpYes X120.here hx rfl (pc0 := 27) (pc' := 46) rfl (hb hby d4_27) rfl (flt (by decide)).2.1 (by decide) (by decide) ?_
    show Steps p.tables e below (T120.setTop (mkF m 46 #[.val (.ref a1), .val (.int p1), .val (.int (2 : Int32))] [])) _
    refine XS.iloadN X120.here hx rfl (hb hby d4_46) rfl ?_
    show Steps p.tables e below (T120.setTop (mkF m 47 #[.val (.ref a1), .val (.int p1), .val (.int (2 : Int32))] [(.int (2 : Int32))])) _
    refine XS.i2dS X120.here hx rfl (hb hby d4_47) rfl rfl ?_
    show Steps p.tables e below (T120.setTop (mkF m 48 #[.val (.ref a1), .val (.int p1), .val (.int (2 : Int32))] [(.double (FP.i2d (2 : Int32)))])) _
    refine XS.iloadN X120.here hx rfl (hb hby d4_48) rfl ?_
    show Steps p.tables e below (T120.setTop (mkF m 49 #[.val (.ref a1), .val (.int p1), .val (.int (2 : Int32))] [(.int p1), (.double (FP.i2d (2 : Int32)))])) _
    refine XS.i2dS X120.here hx rfl (hb hby d4_49) rfl rfl ?_
    show Steps p.tables e below (T120.setTop (mkF m 50 #[.val (.ref a1), .val (.int p1), .val (.int (2 : Int32))] [(.double (FP.i2d p1)), (.double (FP.i2d (2 : Int32)))])) _
    refine XS.ddivS X120.here hx rfl (hb hby d4_50) rfl (nn50) rfl ?_
    exact k)
  obtain ⟨fs, hr, hrun, hended, hW, hsame⟩ := X120.leave (v := some (.double (FP.ddiv (FP.i2d (2 : Int32)) (FP.i2d p1)))) (fun h => by rw [Bd.returns] at h; cases h)
  refine ⟨_, _, k123 _ (retOut X120 hx (t := .double) Bd.returns rfl (Or.inr (Or.inr (Or.inl ⟨rfl, rfl, _, rfl⟩))) (hb hby d4_51) hr), hrun, hended, _, _, rfl, ?_, ⟨_, rfl⟩, hW, hsame.mono (by decide) (by decide)⟩
  show Q_prec2_2 Z a1 p1 a2 k1 r1 r2 h0 n0 _ T120.heap _
  rw [e120]
  exact ⟨rfl, N0, rfl⟩
def Q_prec3_0 (Z : State) (a1 : Addr) (p1 : Int32) (a2 : Addr) (k1 : ClassId) (r1 : Int32) (r2 : Int32) (r3 : Int32) (h0 : Heap) (n0 : Nat) (v : Option Value) (h : Heap) (L : List Loc) : Prop := v = some (.double (FP.ddiv (FP.i2d (0 : Int32)) (FP.i2d p1))) ∧ Fr n0 L ∧ h = h0
set_option maxRecDepth 65536 in
set_option maxHeartbeats 40000000 in
theorem prec3_0 (l : Launch) (Z : State) (a0 : Array Value) (hw : ∀ d ∈ tables_1, d.before a0 Z = true) (ws : List Jvm.Cond) (a1 : Addr) (p1 : Int32) (a2 : Addr) (k1 : ClassId) (r1 : Int32) (r2 : Int32) (r3 : Int32) (h0 : Heap) (n0 : Nat) (Z0 : n0 ≤ h0.size) (F1 : Fld Z h0 a1 "com/example/round2/round2/eval/TopicResult" "relevantRanks" "[I" (.ref a2)) (V1 : Arv Z h0 a2 k1 .int (3 : Int32) [(.int r1), (.int r2), (.int r3)] (.int (0 : Int32))) (c2 : ¬ (p1 < (1 : Int32))) (nn50 : Jvm.Free.Fl.NoNaN64 (FP.ddiv (FP.i2d (0 : Int32)) (FP.i2d p1))) (d0 : p1 < r1) :
    MetFree l (⟨"com/example/round2/round2/eval/TopicResult", "precisionAt", "(I)D"⟩ : MethodName) (head1 (Jvm.Cond.code (⟨"com/example/round2/round2/eval/TopicResult", "precisionAt", "(I)D"⟩ : MethodName) prog_10_method_8_code 3 (some .double) :: ws) ({ frames := 0, cells := 0, slots := 0, locals := 0 } : Room)) (fun a U => a = #[(.ref a1), (.int p1)] ∧ Z.Warmed39 U.vm ∧ U.heap = h0) (fun _ _ _ _ _ => True) (fun _ U o U' => ∃ v L, o = .returned v ∧ Q_prec3_0 Z a1 p1 a2 k1 r1 r2 r3 h0 n0 v U'.heap L ∧ FrameEnd U o U' L ({ frames := 0, cells := 0, slots := 0, locals := 0 } : Room).cells ({ frames := 0, cells := 0, slots := 0, locals := 0 } : Room).slots) := by
  refine MetFree.of_bodySF (plainFor_of_name pn_com_2fexample_2fround2_2fround2_2feval_2fTopicResult) hisR ?_
  intro p e s m args below meth c s₁ Bd hml0 hP hK
  obtain ⟨rfl, hZ, hh⟩ := hP
  have hx := Bd.exec
  have hby := Bd.bytes
  have hml : c.maxLocals = 3 := hml0
  have hown : s.vm.findClass "com/example/round2/round2/eval/TopicResult" = some m.cls := findClass_of_methodNamed Bd.named
  have hnm := (name_of_methodNamed Bd.named Bd.method).1
  have X0 : Stand p l e ({ frames := 0, cells := 0, slots := 0, locals := 0 } : Room) s m #[(.ref a1), (.int p1)] below meth c s₁ [] 0 0 := Stand.of_body Bd
  have e0 : s₁.heap = h0 := by rw [← hh, Bd.state]; rfl
  have N0 := Fr.nil n0
  have k0 : ∀ t, Steps p.tables e below (s₁.setTop (mkF m 0 #[.val (.ref a1), .val (.int p1), .unset] [])) t → Steps p.tables e below (s₁.setTop (entryFrame m #[(.ref a1), (.int p1)] 3)) t := fun t k => castTop (ef_4_RI m a1 p1) k
  have k101 : ∀ t, Steps p.tables e below (s₁.setTop (mkF m 23 #[.val (.ref a1), .val (.int p1), .val (.int (0 : Int32))] [(.ref a1), (.int (0 : Int32))])) t → Steps p.tables e below (s₁.setTop (entryFrame m #[(.ref a1), (.int p1)] 3)) t := fun t k => k0 t (by
    show Steps p.tables e below (s₁.setTop (mkF m 0 #[.val (.ref a1), .val (.int p1), .unset] [])) _
    refine XS.iloadN X0.here hx rfl (hb hby d4_0) rfl ?_
    show Steps p.tables e below (s₁.setTop (mkF m 1 #[.val (.ref a1), .val (.int p1), .unset] [(.int p1)])) _
    refine XS.iconst X0.here hx rfl (hb hby d4_1) ?_
    show Steps p.tables e below (s₁.setTop (mkF m 2 #[.val (.ref a1), .val (.int p1), .unset] [(.int (1 : Int32)), (.int p1)])) _
    refine XS.icmpYes X0.here hx rfl (pc0 := 2) (pc' := 19) rfl (hb hby d4_2) rfl (flt c2).2.1 (by decide) (by decide) ?_
    show Steps p.tables e below (s₁.setTop (mkF m 19 #[.val (.ref a1), .val (.int p1), .unset] [])) _
    refine XS.iconst X0.here hx rfl (hb hby d4_19) ?_
    show Steps p.tables e below (s₁.setTop (mkF m 20 #[.val (.ref a1), .val (.int p1), .unset] [(.int (0 : Int32))])) _
    refine XS.istoreN X0.here hx rfl (hb hby d4_20) rfl (l' := #[.val (.ref a1), .val (.int p1), .val (.int (0 : Int32))]) rfl ?_
    show Steps p.tables e below (s₁.setTop (mkF m 21 #[.val (.ref a1), .val (.int p1), .val (.int (0 : Int32))] [])) _
    refine XS.iloadN X0.here hx rfl (hb hby d4_21) rfl ?_
    show Steps p.tables e below (s₁.setTop (mkF m 22 #[.val (.ref a1), .val (.int p1), .val (.int (0 : Int32))] [(.int (0 : Int32))])) _
    refine XS.aloadN X0.here hx rfl (hb hby d4_22) rfl rfl ?_
    exact k)
  obtain ⟨T102, X102, e102, st102⟩ := getF X0 hx hZ hown (host := "") (Or.inl (hw _ (List.mem_of_getElem? (i := 30) rfl))) Via.refl e0 F1 (g := (mkF m 23 #[.val (.ref a1), .val (.int p1), .val (.int (0 : Int32))] [(.ref a1), (.int (0 : Int32))])) rfl rfl (hb hby d4_23)
  have k103 : ∀ t, Steps p.tables e below (T102.setTop (mkF m 26 #[.val (.ref a1), .val (.int p1), .val (.int (0 : Int32))] [(.ref a2), (.int (0 : Int32))])) t → Steps p.tables e below (s₁.setTop (entryFrame m #[(.ref a1), (.int p1)] 3)) t := fun t k => k101 t (st102 t k)
  obtain ⟨c104, Ar104, -, As104, An104, -, -⟩ := id V1
  have k105 : ∀ t, Steps p.tables e below (T102.setTop (mkF m 31 #[.val (.ref a1), .val (.int p1), .val (.int (0 : Int32))] [(.ref a1)])) t → Steps p.tables e below (s₁.setTop (entryFrame m #[(.ref a1), (.int p1)] 3)) t := fun t k => k103 t (by
    show Steps p.tables e below (T102.setTop (mkF m 26 #[.val (.ref a1), .val (.int p1), .val (.int (0 : Int32))] [(.ref a2), (.int (0 : Int32))])) _
    refine X102.arraylength hx (by rw [e102]; exact Ar104.1) (State.isArrayOf_alike hZ.alike Ar104.2.1) (g := (mkF m 26 #[.val (.ref a1), .val (.int p1), .val (.int (0 : Int32))] [(.ref a2), (.int (0 : Int32))])) rfl rfl (hb hby d4_26) _ ?_
    rw [len_of As104 An104]
    show Steps p.tables e below (T102.setTop (mkF m 27 #[.val (.ref a1), .val (.int p1), .val (.int (0 : Int32))] [(.int (3 : Int32)), (.int (0 : Int32))])) _
    refine XS.icmpNo X102.here hx rfl (hb hby d4_27) rfl (tlt (by decide)).2.1 ?_
    show Steps p.tables e below (T102.setTop (mkF m 30 #[.val (.ref a1), .val (.int p1), .val (.int (0 : Int32))] [])) _
    refine XS.aloadN X102.here hx rfl (hb hby d4_30) rfl rfl ?_
    exact k)
  obtain ⟨T106, X106, e106, st106⟩ := getF X102 hx hZ hown (host := "") (Or.inl (hw _ (List.mem_of_getElem? (i := 30) rfl))) Via.refl e102 F1 (g := (mkF m 31 #[.val (.ref a1), .val (.int p1), .val (.int (0 : Int32))] [(.ref a1)])) rfl rfl (hb hby d4_31)
  have k107 : ∀ t, Steps p.tables e below (T106.setTop (mkF m 34 #[.val (.ref a1), .val (.int p1), .val (.int (0 : Int32))] [(.ref a2)])) t → Steps p.tables e below (s₁.setTop (entryFrame m #[(.ref a1), (.int p1)] 3)) t := fun t k => k105 t (st106 t k)
  have k108 : ∀ t, Steps p.tables e below (T106.setTop (mkF m 35 #[.val (.ref a1), .val (.int p1), .val (.int (0 : Int32))] [(.int (0 : Int32)), (.ref a2)])) t → Steps p.tables e below (s₁.setTop (entryFrame m #[(.ref a1), (.int p1)] 3)) t := fun t k => k107 t (by
    show Steps p.tables e below (T106.setTop (mkF m 34 #[.val (.ref a1), .val (.int p1), .val (.int (0 : Int32))] [(.ref a2)])) _
    refine XS.iloadN X106.here hx rfl (hb hby d4_34) rfl ?_
    exact k)
  obtain ⟨c109, Ar109, -, As109, An109, Ah109, -⟩ := id V1
  have hin109 : ¬ ((0 : Int32) < 0 ∨ c109.slots.size ≤ ((0 : Int32)).toNatClampNeg) := inb_of As109 ⟨by decide, by decide⟩
  have hat109 : c109.slots[((0 : Int32)).toNatClampNeg]? = some (.int r1) := Has.at Ah109 hin109 rfl
  have k110 : ∀ t, Steps p.tables e below (T106.setTop (mkF m 51 #[.val (.ref a1), .val (.int p1), .val (.int (0 : Int32))] [(.double (FP.ddiv (FP.i2d (0 : Int32)) (FP.i2d p1)))])) t → Steps p.tables e below (s₁.setTop (entryFrame m #[(.ref a1), (.int p1)] 3)) t := fun t k => k108 t (by
    show Steps p.tables e below (T106.setTop (mkF m 35 #[.val (.ref a1), .val (.int p1), .val (.int (0 : Int32))] [(.int (0 : Int32)), (.ref a2)])) _
    refine X106.iaload hx (j := (0 : Int32)) (v := (.int r1)) (by rw [e106]; exact Ar109.1) (State.isArrayOf_alike hZ.alike Ar109.2.1) Ar109.2.2 hin109 hat109 (g := (mkF m 35 #[.val (.ref a1), .val (.int p1), .val (.int (0 : Int32))] [(.int (0 : Int32)), (.ref a2)])) rfl rfl (hb hby d4_35) _ ?_
    show Steps p.tables e below (T106.setTop (mkF m 36 #[.val (.ref a1), .val (.int p1), .val (.int (0 : Int32))] [(.int r1)])) _
    refine XS.iloadN X106.here hx rfl (hb hby d4_36) rfl ?_
    show Steps p.tables e below (T106.setTop (mkF m 37 #[.val (.ref a1), .val (.int p1), .val (.int (0 : Int32))] [(.int p1), (.int r1)])) _
    refine XS.icmpYes X106.here hx rfl (pc0 := 37) (pc' := 46) rfl (hb hby d4_37) rfl (tlt d0).2.2.1 (by decide) (by decide) ?_
    show Steps p.tables e below (T106.setTop (mkF m 46 #[.val (.ref a1), .val (.int p1), .val (.int (0 : Int32))] [])) _
    refine XS.iloadN X106.here hx rfl (hb hby d4_46) rfl ?_
    show Steps p.tables e below (T106.setTop (mkF m 47 #[.val (.ref a1), .val (.int p1), .val (.int (0 : Int32))] [(.int (0 : Int32))])) _
    refine XS.i2dS X106.here hx rfl (hb hby d4_47) rfl rfl ?_
    show Steps p.tables e below (T106.setTop (mkF m 48 #[.val (.ref a1), .val (.int p1), .val (.int (0 : Int32))] [(.double (FP.i2d (0 : Int32)))])) _
    refine XS.iloadN X106.here hx rfl (hb hby d4_48) rfl ?_
    show Steps p.tables e below (T106.setTop (mkF m 49 #[.val (.ref a1), .val (.int p1), .val (.int (0 : Int32))] [(.int p1), (.double (FP.i2d (0 : Int32)))])) _
    refine XS.i2dS X106.here hx rfl (hb hby d4_49) rfl rfl ?_
    show Steps p.tables e below (T106.setTop (mkF m 50 #[.val (.ref a1), .val (.int p1), .val (.int (0 : Int32))] [(.double (FP.i2d p1)), (.double (FP.i2d (0 : Int32)))])) _
    refine XS.ddivS X106.here hx rfl (hb hby d4_50) rfl (nn50) rfl ?_
    exact k)
  obtain ⟨fs, hr, hrun, hended, hW, hsame⟩ := X106.leave (v := some (.double (FP.ddiv (FP.i2d (0 : Int32)) (FP.i2d p1)))) (fun h => by rw [Bd.returns] at h; cases h)
  refine ⟨_, _, k110 _ (retOut X106 hx (t := .double) Bd.returns rfl (Or.inr (Or.inr (Or.inl ⟨rfl, rfl, _, rfl⟩))) (hb hby d4_51) hr), hrun, hended, _, _, rfl, ?_, ⟨_, rfl⟩, hW, hsame.mono (by decide) (by decide)⟩
  show Q_prec3_0 Z a1 p1 a2 k1 r1 r2 r3 h0 n0 _ T106.heap _
  rw [e106]
  exact ⟨rfl, N0, rfl⟩
def Q_prec3_1 (Z : State) (a1 : Addr) (p1 : Int32) (a2 : Addr) (k1 : ClassId) (r1 : Int32) (r2 : Int32) (r3 : Int32) (h0 : Heap) (n0 : Nat) (v : Option Value) (h : Heap) (L : List Loc) : Prop := v = some (.double (FP.ddiv (FP.i2d (1 : Int32)) (FP.i2d p1))) ∧ Fr n0 L ∧ h = h0
set_option maxRecDepth 65536 in
set_option maxHeartbeats 40000000 in
theorem prec3_1 (l : Launch) (Z : State) (a0 : Array Value) (hw : ∀ d ∈ tables_1, d.before a0 Z = true) (ws : List Jvm.Cond) (a1 : Addr) (p1 : Int32) (a2 : Addr) (k1 : ClassId) (r1 : Int32) (r2 : Int32) (r3 : Int32) (h0 : Heap) (n0 : Nat) (Z0 : n0 ≤ h0.size) (F1 : Fld Z h0 a1 "com/example/round2/round2/eval/TopicResult" "relevantRanks" "[I" (.ref a2)) (V1 : Arv Z h0 a2 k1 .int (3 : Int32) [(.int r1), (.int r2), (.int r3)] (.int (0 : Int32))) (c2 : ¬ (p1 < (1 : Int32))) (nn50 : Jvm.Free.Fl.NoNaN64 (FP.ddiv (FP.i2d (1 : Int32)) (FP.i2d p1))) (d0 : ¬ (p1 < r1)) (d1 : p1 < r2) :
    MetFree l (⟨"com/example/round2/round2/eval/TopicResult", "precisionAt", "(I)D"⟩ : MethodName) (head1 (Jvm.Cond.code (⟨"com/example/round2/round2/eval/TopicResult", "precisionAt", "(I)D"⟩ : MethodName) prog_10_method_8_code 3 (some .double) :: ws) ({ frames := 0, cells := 0, slots := 0, locals := 0 } : Room)) (fun a U => a = #[(.ref a1), (.int p1)] ∧ Z.Warmed39 U.vm ∧ U.heap = h0) (fun _ _ _ _ _ => True) (fun _ U o U' => ∃ v L, o = .returned v ∧ Q_prec3_1 Z a1 p1 a2 k1 r1 r2 r3 h0 n0 v U'.heap L ∧ FrameEnd U o U' L ({ frames := 0, cells := 0, slots := 0, locals := 0 } : Room).cells ({ frames := 0, cells := 0, slots := 0, locals := 0 } : Room).slots) := by
  refine MetFree.of_bodySF (plainFor_of_name pn_com_2fexample_2fround2_2fround2_2feval_2fTopicResult) hisR ?_
  intro p e s m args below meth c s₁ Bd hml0 hP hK
  obtain ⟨rfl, hZ, hh⟩ := hP
  have hx := Bd.exec
  have hby := Bd.bytes
  have hml : c.maxLocals = 3 := hml0
  have hown : s.vm.findClass "com/example/round2/round2/eval/TopicResult" = some m.cls := findClass_of_methodNamed Bd.named
  have hnm := (name_of_methodNamed Bd.named Bd.method).1
  have X0 : Stand p l e ({ frames := 0, cells := 0, slots := 0, locals := 0 } : Room) s m #[(.ref a1), (.int p1)] below meth c s₁ [] 0 0 := Stand.of_body Bd
  have e0 : s₁.heap = h0 := by rw [← hh, Bd.state]; rfl
  have N0 := Fr.nil n0
  have k0 : ∀ t, Steps p.tables e below (s₁.setTop (mkF m 0 #[.val (.ref a1), .val (.int p1), .unset] [])) t → Steps p.tables e below (s₁.setTop (entryFrame m #[(.ref a1), (.int p1)] 3)) t := fun t k => castTop (ef_4_RI m a1 p1) k
  have k101 : ∀ t, Steps p.tables e below (s₁.setTop (mkF m 23 #[.val (.ref a1), .val (.int p1), .val (.int (0 : Int32))] [(.ref a1), (.int (0 : Int32))])) t → Steps p.tables e below (s₁.setTop (entryFrame m #[(.ref a1), (.int p1)] 3)) t := fun t k => k0 t (by
    show Steps p.tables e below (s₁.setTop (mkF m 0 #[.val (.ref a1), .val (.int p1), .unset] [])) _
    refine XS.iloadN X0.here hx rfl (hb hby d4_0) rfl ?_
    show Steps p.tables e below (s₁.setTop (mkF m 1 #[.val (.ref a1), .val (.int p1), .unset] [(.int p1)])) _
    refine XS.iconst X0.here hx rfl (hb hby d4_1) ?_
    show Steps p.tables e below (s₁.setTop (mkF m 2 #[.val (.ref a1), .val (.int p1), .unset] [(.int (1 : Int32)), (.int p1)])) _
    refine XS.icmpYes X0.here hx rfl (pc0 := 2) (pc' := 19) rfl (hb hby d4_2) rfl (flt c2).2.1 (by decide) (by decide) ?_
    show Steps p.tables e below (s₁.setTop (mkF m 19 #[.val (.ref a1), .val (.int p1), .unset] [])) _
    refine XS.iconst X0.here hx rfl (hb hby d4_19) ?_
    show Steps p.tables e below (s₁.setTop (mkF m 20 #[.val (.ref a1), .val (.int p1), .unset] [(.int (0 : Int32))])) _
    refine XS.istoreN X0.here hx rfl (hb hby d4_20) rfl (l' := #[.val (.ref a1), .val (.int p1), .val (.int (0 : Int32))]) rfl ?_
    show Steps p.tables e below (s₁.setTop (mkF m 21 #[.val (.ref a1), .val (.int p1), .val (.int (0 : Int32))] [])) _
    refine XS.iloadN X0.here hx rfl (hb hby d4_21) rfl ?_
    show Steps p.tables e below (s₁.setTop (mkF m 22 #[.val (.ref a1), .val (.int p1), .val (.int (0 : Int32))] [(.int (0 : Int32))])) _
    refine XS.aloadN X0.here hx rfl (hb hby d4_22) rfl rfl ?_
    exact k)
  obtain ⟨T102, X102, e102, st102⟩ := getF X0 hx hZ hown (host := "") (Or.inl (hw _ (List.mem_of_getElem? (i := 30) rfl))) Via.refl e0 F1 (g := (mkF m 23 #[.val (.ref a1), .val (.int p1), .val (.int (0 : Int32))] [(.ref a1), (.int (0 : Int32))])) rfl rfl (hb hby d4_23)
  have k103 : ∀ t, Steps p.tables e below (T102.setTop (mkF m 26 #[.val (.ref a1), .val (.int p1), .val (.int (0 : Int32))] [(.ref a2), (.int (0 : Int32))])) t → Steps p.tables e below (s₁.setTop (entryFrame m #[(.ref a1), (.int p1)] 3)) t := fun t k => k101 t (st102 t k)
  obtain ⟨c104, Ar104, -, As104, An104, -, -⟩ := id V1
  have k105 : ∀ t, Steps p.tables e below (T102.setTop (mkF m 31 #[.val (.ref a1), .val (.int p1), .val (.int (0 : Int32))] [(.ref a1)])) t → Steps p.tables e below (s₁.setTop (entryFrame m #[(.ref a1), (.int p1)] 3)) t := fun t k => k103 t (by
    show Steps p.tables e below (T102.setTop (mkF m 26 #[.val (.ref a1), .val (.int p1), .val (.int (0 : Int32))] [(.ref a2), (.int (0 : Int32))])) _
    refine X102.arraylength hx (by rw [e102]; exact Ar104.1) (State.isArrayOf_alike hZ.alike Ar104.2.1) (g := (mkF m 26 #[.val (.ref a1), .val (.int p1), .val (.int (0 : Int32))] [(.ref a2), (.int (0 : Int32))])) rfl rfl (hb hby d4_26) _ ?_
    rw [len_of As104 An104]
    show Steps p.tables e below (T102.setTop (mkF m 27 #[.val (.ref a1), .val (.int p1), .val (.int (0 : Int32))] [(.int (3 : Int32)), (.int (0 : Int32))])) _
    refine XS.icmpNo X102.here hx rfl (hb hby d4_27) rfl (tlt (by decide)).2.1 ?_
    show Steps p.tables e below (T102.setTop (mkF m 30 #[.val (.ref a1), .val (.int p1), .val (.int (0 : Int32))] [])) _
    refine XS.aloadN X102.here hx rfl (hb hby d4_30) rfl rfl ?_
    exact k)
  obtain ⟨T106, X106, e106, st106⟩ := getF X102 hx hZ hown (host := "") (Or.inl (hw _ (List.mem_of_getElem? (i := 30) rfl))) Via.refl e102 F1 (g := (mkF m 31 #[.val (.ref a1), .val (.int p1), .val (.int (0 : Int32))] [(.ref a1)])) rfl rfl (hb hby d4_31)
  have k107 : ∀ t, Steps p.tables e below (T106.setTop (mkF m 34 #[.val (.ref a1), .val (.int p1), .val (.int (0 : Int32))] [(.ref a2)])) t → Steps p.tables e below (s₁.setTop (entryFrame m #[(.ref a1), (.int p1)] 3)) t := fun t k => k105 t (st106 t k)
  have k108 : ∀ t, Steps p.tables e below (T106.setTop (mkF m 35 #[.val (.ref a1), .val (.int p1), .val (.int (0 : Int32))] [(.int (0 : Int32)), (.ref a2)])) t → Steps p.tables e below (s₁.setTop (entryFrame m #[(.ref a1), (.int p1)] 3)) t := fun t k => k107 t (by
    show Steps p.tables e below (T106.setTop (mkF m 34 #[.val (.ref a1), .val (.int p1), .val (.int (0 : Int32))] [(.ref a2)])) _
    refine XS.iloadN X106.here hx rfl (hb hby d4_34) rfl ?_
    exact k)
  obtain ⟨c109, Ar109, -, As109, An109, Ah109, -⟩ := id V1
  have hin109 : ¬ ((0 : Int32) < 0 ∨ c109.slots.size ≤ ((0 : Int32)).toNatClampNeg) := inb_of As109 ⟨by decide, by decide⟩
  have hat109 : c109.slots[((0 : Int32)).toNatClampNeg]? = some (.int r1) := Has.at Ah109 hin109 rfl
  have k110 : ∀ t, Steps p.tables e below (T106.setTop (mkF m 23 #[.val (.ref a1), .val (.int p1), .val (.int (1 : Int32))] [(.ref a1), (.int (1 : Int32))])) t → Steps p.tables e below (s₁.setTop (entryFrame m #[(.ref a1), (.int p1)] 3)) t := fun t k => k108 t (by
    show Steps p.tables e below (T106.setTop (mkF m 35 #[.val (.ref a1), .val (.int p1), .val (.int (0 : Int32))] [(.int (0 : Int32)), (.ref a2)])) _
    refine X106.iaload hx (j := (0 : Int32)) (v := (.int r1)) (by rw [e106]; exact Ar109.1) (State.isArrayOf_alike hZ.alike Ar109.2.1) Ar109.2.2 hin109 hat109 (g := (mkF m 35 #[.val (.ref a1), .val (.int p1), .val (.int (0 : Int32))] [(.int (0 : Int32)), (.ref a2)])) rfl rfl (hb hby d4_35) _ ?_
    show Steps p.tables e below (T106.setTop (mkF m 36 #[.val (.ref a1), .val (.int p1), .val (.int (0 : Int32))] [(.int r1)])) _
    refine XS.iloadN X106.here hx rfl (hb hby d4_36) rfl ?_
    show Steps p.tables e below (T106.setTop (mkF m 37 #[.val (.ref a1), .val (.int p1), .val (.int (0 : Int32))] [(.int p1), (.int r1)])) _
    refine XS.icmpNo X106.here hx rfl (hb hby d4_37) rfl (flt d0).2.2.1 ?_
    show Steps p.tables e below (T106.setTop (mkF m 40 #[.val (.ref a1), .val (.int p1), .val (.int (0 : Int32))] [])) _
    refine XS.iinc X106.here hx rfl (hb hby d4_40) rfl (l' := #[.val (.ref a1), .val (.int p1), .val (.int (1 : Int32))]) rfl ?_
    show Steps p.tables e below (T106.setTop (mkF m 43 #[.val (.ref a1), .val (.int p1), .val (.int (1 : Int32))] [])) _
    refine XS.goto X106.here hx rfl (pc0 := 43) (pc' := 21) rfl (hb hby d4_43) (by decide) (by decide) ?_
    show Steps p.tables e below (T106.setTop (mkF m 21 #[.val (.ref a1), .val (.int p1), .val (.int (1 : Int32))] [])) _
    refine XS.iloadN X106.here hx rfl (hb hby d4_21) rfl ?_
    show Steps p.tables e below (T106.setTop (mkF m 22 #[.val (.ref a1), .val (.int p1), .val (.int (1 : Int32))] [(.int (1 : Int32))])) _
    refine XS.aloadN X106.here hx rfl (hb hby d4_22) rfl rfl ?_
    exact k)
  obtain ⟨T111, X111, e111, st111⟩ := getF X106 hx hZ hown (host := "") (Or.inl (hw _ (List.mem_of_getElem? (i := 30) rfl))) Via.refl e106 F1 (g := (mkF m 23 #[.val (.ref a1), .val (.int p1), .val (.int (1 : Int32))] [(.ref a1), (.int (1 : Int32))])) rfl rfl (hb hby d4_23)
  have k112 : ∀ t, Steps p.tables e below (T111.setTop (mkF m 26 #[.val (.ref a1), .val (.int p1), .val (.int (1 : Int32))] [(.ref a2), (.int (1 : Int32))])) t → Steps p.tables e below (s₁.setTop (entryFrame m #[(.ref a1), (.int p1)] 3)) t := fun t k => k110 t (st111 t k)
  obtain ⟨c113, Ar113, -, As113, An113, -, -⟩ := id V1
  have k114 : ∀ t, Steps p.tables e below (T111.setTop (mkF m 31 #[.val (.ref a1), .val (.int p1), .val (.int (1 : Int32))] [(.ref a1)])) t → Steps p.tables e below (s₁.setTop (entryFrame m #[(.ref a1), (.int p1)] 3)) t := fun t k => k112 t (by
    show Steps p.tables e below (T111.setTop (mkF m 26 #[.val (.ref a1), .val (.int p1), .val (.int (1 : Int32))] [(.ref a2), (.int (1 : Int32))])) _
    refine X111.arraylength hx (by rw [e111]; exact Ar113.1) (State.isArrayOf_alike hZ.alike Ar113.2.1) (g := (mkF m 26 #[.val (.ref a1), .val (.int p1), .val (.int (1 : Int32))] [(.ref a2), (.int (1 : Int32))])) rfl rfl (hb hby d4_26) _ ?_
    rw [len_of As113 An113]
    show Steps p.tables e below (T111.setTop (mkF m 27 #[.val (.ref a1), .val (.int p1), .val (.int (1 : Int32))] [(.int (3 : Int32)), (.int (1 : Int32))])) _
    refine XS.icmpNo X111.here hx rfl (hb hby d4_27) rfl (tlt (by decide)).2.1 ?_
    show Steps p.tables e below (T111.setTop (mkF m 30 #[.val (.ref a1), .val (.int p1), .val (.int (1 : Int32))] [])) _
    refine XS.aloadN X111.here hx rfl (hb hby d4_30) rfl rfl ?_
    exact k)
  obtain ⟨T115, X115, e115, st115⟩ := getF X111 hx hZ hown (host := "") (Or.inl (hw _ (List.mem_of_getElem? (i := 30) rfl))) Via.refl e111 F1 (g := (mkF m 31 #[.val (.ref a1), .val (.int p1), .val (.int (1 : Int32))] [(.ref a1)])) rfl rfl (hb hby d4_31)
  have k116 : ∀ t, Steps p.tables e below (T115.setTop (mkF m 34 #[.val (.ref a1), .val (.int p1), .val (.int (1 : Int32))] [(.ref a2)])) t → Steps p.tables e below (s₁.setTop (entryFrame m #[(.ref a1), (.int p1)] 3)) t := fun t k => k114 t (st115 t k)
  have k117 : ∀ t, Steps p.tables e below (T115.setTop (mkF m 35 #[.val (.ref a1), .val (.int p1), .val (.int (1 : Int32))] [(.int (1 : Int32)), (.ref a2)])) t → Steps p.tables e below (s₁.setTop (entryFrame m #[(.ref a1), (.int p1)] 3)) t := fun t k => k116 t (by
    show Steps p.tables e below (T115.setTop (mkF m 34 #[.val (.ref a1), .val (.int p1), .val (.int (1 : Int32))] [(.ref a2)])) _
    refine XS.iloadN X115.here hx rfl (hb hby d4_34) rfl ?_
    exact k)
  obtain ⟨c118, Ar118, -, As118, An118, Ah118, -⟩ := id V1
  have hin118 : ¬ ((1 : Int32) < 0 ∨ c118.slots.size ≤ ((1 : Int32)).toNatClampNeg) := inb_of As118 ⟨by decide, by decide⟩
  have hat118 : c118.slots[((1 : Int32)).toNatClampNeg]? = some (.int r2) := Has.at Ah118 hin118 rfl
  have k119 : ∀ t, Steps p.tables e below (T115.setTop (mkF m 51 #[.val (.ref a1), .val (.int p1), .val (.int (1 : Int32))] [(.double (FP.ddiv (FP.i2d (1 : Int32)) (FP.i2d p1)))])) t → Steps p.tables e below (s₁.setTop (entryFrame m #[(.ref a1), (.int p1)] 3)) t := fun t k => k117 t (by
    show Steps p.tables e below (T115.setTop (mkF m 35 #[.val (.ref a1), .val (.int p1), .val (.int (1 : Int32))] [(.int (1 : Int32)), (.ref a2)])) _
    refine X115.iaload hx (j := (1 : Int32)) (v := (.int r2)) (by rw [e115]; exact Ar118.1) (State.isArrayOf_alike hZ.alike Ar118.2.1) Ar118.2.2 hin118 hat118 (g := (mkF m 35 #[.val (.ref a1), .val (.int p1), .val (.int (1 : Int32))] [(.int (1 : Int32)), (.ref a2)])) rfl rfl (hb hby d4_35) _ ?_
    show Steps p.tables e below (T115.setTop (mkF m 36 #[.val (.ref a1), .val (.int p1), .val (.int (1 : Int32))] [(.int r2)])) _
    refine XS.iloadN X115.here hx rfl (hb hby d4_36) rfl ?_
    show Steps p.tables e below (T115.setTop (mkF m 37 #[.val (.ref a1), .val (.int p1), .val (.int (1 : Int32))] [(.int p1), (.int r2)])) _
    refine XS.icmpYes X115.here hx rfl (pc0 := 37) (pc' := 46) rfl (hb hby d4_37) rfl (tlt d1).2.2.1 (by decide) (by decide) ?_
    show Steps p.tables e below (T115.setTop (mkF m 46 #[.val (.ref a1), .val (.int p1), .val (.int (1 : Int32))] [])) _
    refine XS.iloadN X115.here hx rfl (hb hby d4_46) rfl ?_
    show Steps p.tables e below (T115.setTop (mkF m 47 #[.val (.ref a1), .val (.int p1), .val (.int (1 : Int32))] [(.int (1 : Int32))])) _
    refine XS.i2dS X115.here hx rfl (hb hby d4_47) rfl rfl ?_
    show Steps p.tables e below (T115.setTop (mkF m 48 #[.val (.ref a1), .val (.int p1), .val (.int (1 : Int32))] [(.double (FP.i2d (1 : Int32)))])) _
    refine XS.iloadN X115.here hx rfl (hb hby d4_48) rfl ?_
    show Steps p.tables e below (T115.setTop (mkF m 49 #[.val (.ref a1), .val (.int p1), .val (.int (1 : Int32))] [(.int p1), (.double (FP.i2d (1 : Int32)))])) _
    refine XS.i2dS X115.here hx rfl (hb hby d4_49) rfl rfl ?_
    show Steps p.tables e below (T115.setTop (mkF m 50 #[.val (.ref a1), .val (.int p1), .val (.int (1 : Int32))] [(.double (FP.i2d p1)), (.double (FP.i2d (1 : Int32)))])) _
    refine XS.ddivS X115.here hx rfl (hb hby d4_50) rfl (nn50) rfl ?_
    exact k)
  obtain ⟨fs, hr, hrun, hended, hW, hsame⟩ := X115.leave (v := some (.double (FP.ddiv (FP.i2d (1 : Int32)) (FP.i2d p1)))) (fun h => by rw [Bd.returns] at h; cases h)
  refine ⟨_, _, k119 _ (retOut X115 hx (t := .double) Bd.returns rfl (Or.inr (Or.inr (Or.inl ⟨rfl, rfl, _, rfl⟩))) (hb hby d4_51) hr), hrun, hended, _, _, rfl, ?_, ⟨_, rfl⟩, hW, hsame.mono (by decide) (by decide)⟩
  show Q_prec3_1 Z a1 p1 a2 k1 r1 r2 r3 h0 n0 _ T115.heap _
  rw [e115]
  exact ⟨rfl, N0, rfl⟩
def Q_prec3_2 (Z : State) (a1 : Addr) (p1 : Int32) (a2 : Addr) (k1 : ClassId) (r1 : Int32) (r2 : Int32) (r3 : Int32) (h0 : Heap) (n0 : Nat) (v : Option Value) (h : Heap) (L : List Loc) : Prop := v = some (.double (FP.ddiv (FP.i2d (2 : Int32)) (FP.i2d p1))) ∧ Fr n0 L ∧ h = h0
set_option maxRecDepth 65536 in
set_option maxHeartbeats 40000000 in
theorem prec3_2 (l : Launch) (Z : State) (a0 : Array Value) (hw : ∀ d ∈ tables_1, d.before a0 Z = true) (ws : List Jvm.Cond) (a1 : Addr) (p1 : Int32) (a2 : Addr) (k1 : ClassId) (r1 : Int32) (r2 : Int32) (r3 : Int32) (h0 : Heap) (n0 : Nat) (Z0 : n0 ≤ h0.size) (F1 : Fld Z h0 a1 "com/example/round2/round2/eval/TopicResult" "relevantRanks" "[I" (.ref a2)) (V1 : Arv Z h0 a2 k1 .int (3 : Int32) [(.int r1), (.int r2), (.int r3)] (.int (0 : Int32))) (c2 : ¬ (p1 < (1 : Int32))) (nn50 : Jvm.Free.Fl.NoNaN64 (FP.ddiv (FP.i2d (2 : Int32)) (FP.i2d p1))) (d0 : ¬ (p1 < r1)) (d1 : ¬ (p1 < r2)) (d2 : p1 < r3) :
    MetFree l (⟨"com/example/round2/round2/eval/TopicResult", "precisionAt", "(I)D"⟩ : MethodName) (head1 (Jvm.Cond.code (⟨"com/example/round2/round2/eval/TopicResult", "precisionAt", "(I)D"⟩ : MethodName) prog_10_method_8_code 3 (some .double) :: ws) ({ frames := 0, cells := 0, slots := 0, locals := 0 } : Room)) (fun a U => a = #[(.ref a1), (.int p1)] ∧ Z.Warmed39 U.vm ∧ U.heap = h0) (fun _ _ _ _ _ => True) (fun _ U o U' => ∃ v L, o = .returned v ∧ Q_prec3_2 Z a1 p1 a2 k1 r1 r2 r3 h0 n0 v U'.heap L ∧ FrameEnd U o U' L ({ frames := 0, cells := 0, slots := 0, locals := 0 } : Room).cells ({ frames := 0, cells := 0, slots := 0, locals := 0 } : Room).slots) := by
  refine MetFree.of_bodySF (plainFor_of_name pn_com_2fexample_2fround2_2fround2_2feval_2fTopicResult) hisR ?_
  intro p e s m args below meth c s₁ Bd hml0 hP hK
  obtain ⟨rfl, hZ, hh⟩ := hP
  have hx := Bd.exec
  have hby := Bd.bytes
  have hml : c.maxLocals = 3 := hml0
  have hown : s.vm.findClass "com/example/round2/round2/eval/TopicResult" = some m.cls := findClass_of_methodNamed Bd.named
  have hnm := (name_of_methodNamed Bd.named Bd.method).1
  have X0 : Stand p l e ({ frames := 0, cells := 0, slots := 0, locals := 0 } : Room) s m #[(.ref a1), (.int p1)] below meth c s₁ [] 0 0 := Stand.of_body Bd
  have e0 : s₁.heap = h0 := by rw [← hh, Bd.state]; rfl
  have N0 := Fr.nil n0
  have k0 : ∀ t, Steps p.tables e below (s₁.setTop (mkF m 0 #[.val (.ref a1), .val (.int p1), .unset] [])) t → Steps p.tables e below (s₁.setTop (entryFrame m #[(.ref a1), (.int p1)] 3)) t := fun t k => castTop (ef_4_RI m a1 p1) k
  have k101 : ∀ t, Steps p.tables e below (s₁.setTop (mkF m 23 #[.val (.ref a1), .val (.int p1), .val (.int (0 : Int32))] [(.ref a1), (.int (0 : Int32))])) t → Steps p.tables e below (s₁.setTop (entryFrame m #[(.ref a1), (.int p1)] 3)) t := fun t k => k0 t (by
    show Steps p.tables e below (s₁.setTop (mkF m 0 #[.val (.ref a1), .val (.int p1), .unset] [])) _
    refine XS.iloadN X0.here hx rfl (hb hby d4_0) rfl ?_
    show Steps p.tables e below (s₁.setTop (mkF m 1 #[.val (.ref a1), .val (.int p1), .unset] [(.int p1)])) _
    refine XS.iconst X0.here hx rfl (hb hby d4_1) ?_
    show Steps p.tables e below (s₁.setTop (mkF m 2 #[.val (.ref a1), .val (.int p1), .unset] [(.int (1 : Int32)), (.int p1)])) _
    refine XS.icmpYes X0.here hx rfl (pc0 := 2) (pc' := 19) rfl (hb hby d4_2) rfl (flt c2).2.1 (by decide) (by decide) ?_
    show Steps p.tables e below (s₁.setTop (mkF m 19 #[.val (.ref a1), .val (.int p1), .unset] [])) _
    refine XS.iconst X0.here hx rfl (hb hby d4_19) ?_
    show Steps p.tables e below (s₁.setTop (mkF m 20 #[.val (.ref a1), .val (.int p1), .unset] [(.int (0 : Int32))])) _
    refine XS.istoreN X0.here hx rfl (hb hby d4_20) rfl (l' := #[.val (.ref a1), .val (.int p1), .val (.int (0 : Int32))]) rfl ?_
    show Steps p.tables e below (s₁.setTop (mkF m 21 #[.val (.ref a1), .val (.int p1), .val (.int (0 : Int32))] [])) _
    refine XS.iloadN X0.here hx rfl (hb hby d4_21) rfl ?_
    show Steps p.tables e below (s₁.setTop (mkF m 22 #[.val (.ref a1), .val (.int p1), .val (.int (0 : Int32))] [(.int (0 : Int32))])) _
    refine XS.aloadN X0.here hx rfl (hb hby d4_22) rfl rfl ?_
    exact k)
  obtain ⟨T102, X102, e102, st102⟩ := getF X0 hx hZ hown (host := "") (Or.inl (hw _ (List.mem_of_getElem? (i := 30) rfl))) Via.refl e0 F1 (g := (mkF m 23 #[.val (.ref a1), .val (.int p1), .val (.int (0 : Int32))] [(.ref a1), (.int (0 : Int32))])) rfl rfl (hb hby d4_23)
  have k103 : ∀ t, Steps p.tables e below (T102.setTop (mkF m 26 #[.val (.ref a1), .val (.int p1), .val (.int (0 : Int32))] [(.ref a2), (.int (0 : Int32))])) t → Steps p.tables e below (s₁.setTop (entryFrame m #[(.ref a1), (.int p1)] 3)) t := fun t k => k101 t (st102 t k)
  obtain ⟨c104, Ar104, -, As104, An104, -, -⟩ := id V1
  have k105 : ∀ t, Steps p.tables e below (T102.setTop (mkF m 31 #[.val (.ref a1), .val (.int p1), .val (.int (0 : Int32))] [(.ref a1)])) t → Steps p.tables e below (s₁.setTop (entryFrame m #[(.ref a1), (.int p1)] 3)) t := fun t k => k103 t (by
    show Steps p.tables e below (T102.setTop (mkF m 26 #[.val (.ref a1), .val (.int p1), .val (.int (0 : Int32))] [(.ref a2), (.int (0 : Int32))])) _
    refine X102.arraylength hx (by rw [e102]; exact Ar104.1) (State.isArrayOf_alike hZ.alike Ar104.2.1) (g := (mkF m 26 #[.val (.ref a1), .val (.int p1), .val (.int (0 : Int32))] [(.ref a2), (.int (0 : Int32))])) rfl rfl (hb hby d4_26) _ ?_
    rw [len_of As104 An104]
    show Steps p.tables e below (T102.setTop (mkF m 27 #[.val (.ref a1), .val (.int p1), .val (.int (0 : Int32))] [(.int (3 : Int32)), (.int (0 : Int32))])) _
    refine XS.icmpNo X102.here hx rfl (hb hby d4_27) rfl (tlt (by decide)).2.1 ?_
    show Steps p.tables e below (T102.setTop (mkF m 30 #[.val (.ref a1), .val (.int p1), .val (.int (0 : Int32))] [])) _
    refine XS.aloadN X102.here hx rfl (hb hby d4_30) rfl rfl ?_
    exact k)
  obtain ⟨T106, X106, e106, st106⟩ := getF X102 hx hZ hown (host := "") (Or.inl (hw _ (List.mem_of_getElem? (i := 30) rfl))) Via.refl e102 F1 (g := (mkF m 31 #[.val (.ref a1), .val (.int p1), .val (.int (0 : Int32))] [(.ref a1)])) rfl rfl (hb hby d4_31)
  have k107 : ∀ t, Steps p.tables e below (T106.setTop (mkF m 34 #[.val (.ref a1), .val (.int p1), .val (.int (0 : Int32))] [(.ref a2)])) t → Steps p.tables e below (s₁.setTop (entryFrame m #[(.ref a1), (.int p1)] 3)) t := fun t k => k105 t (st106 t k)
  have k108 : ∀ t, Steps p.tables e below (T106.setTop (mkF m 35 #[.val (.ref a1), .val (.int p1), .val (.int (0 : Int32))] [(.int (0 : Int32)), (.ref a2)])) t → Steps p.tables e below (s₁.setTop (entryFrame m #[(.ref a1), (.int p1)] 3)) t := fun t k => k107 t (by
    show Steps p.tables e below (T106.setTop (mkF m 34 #[.val (.ref a1), .val (.int p1), .val (.int (0 : Int32))] [(.ref a2)])) _
    refine XS.iloadN X106.here hx rfl (hb hby d4_34) rfl ?_
    exact k)
  obtain ⟨c109, Ar109, -, As109, An109, Ah109, -⟩ := id V1
  have hin109 : ¬ ((0 : Int32) < 0 ∨ c109.slots.size ≤ ((0 : Int32)).toNatClampNeg) := inb_of As109 ⟨by decide, by decide⟩
  have hat109 : c109.slots[((0 : Int32)).toNatClampNeg]? = some (.int r1) := Has.at Ah109 hin109 rfl
  have k110 : ∀ t, Steps p.tables e below (T106.setTop (mkF m 23 #[.val (.ref a1), .val (.int p1), .val (.int (1 : Int32))] [(.ref a1), (.int (1 : Int32))])) t → Steps p.tables e below (s₁.setTop (entryFrame m #[(.ref a1), (.int p1)] 3)) t := fun t k => k108 t (by
    show Steps p.tables e below (T106.setTop (mkF m 35 #[.val (.ref a1), .val (.int p1), .val (.int (0 : Int32))] [(.int (0 : Int32)), (.ref a2)])) _
    refine X106.iaload hx (j := (0 : Int32)) (v := (.int r1)) (by rw [e106]; exact Ar109.1) (State.isArrayOf_alike hZ.alike Ar109.2.1) Ar109.2.2 hin109 hat109 (g := (mkF m 35 #[.val (.ref a1), .val (.int p1), .val (.int (0 : Int32))] [(.int (0 : Int32)), (.ref a2)])) rfl rfl (hb hby d4_35) _ ?_
    show Steps p.tables e below (T106.setTop (mkF m 36 #[.val (.ref a1), .val (.int p1), .val (.int (0 : Int32))] [(.int r1)])) _
    refine XS.iloadN X106.here hx rfl (hb hby d4_36) rfl ?_
    show Steps p.tables e below (T106.setTop (mkF m 37 #[.val (.ref a1), .val (.int p1), .val (.int (0 : Int32))] [(.int p1), (.int r1)])) _
    refine XS.icmpNo X106.here hx rfl (hb hby d4_37) rfl (flt d0).2.2.1 ?_
    show Steps p.tables e below (T106.setTop (mkF m 40 #[.val (.ref a1), .val (.int p1), .val (.int (0 : Int32))] [])) _
    refine XS.iinc X106.here hx rfl (hb hby d4_40) rfl (l' := #[.val (.ref a1), .val (.int p1), .val (.int (1 : Int32))]) rfl ?_
    show Steps p.tables e below (T106.setTop (mkF m 43 #[.val (.ref a1), .val (.int p1), .val (.int (1 : Int32))] [])) _
    refine XS.goto X106.here hx rfl (pc0 := 43) (pc' := 21) rfl (hb hby d4_43) (by decide) (by decide) ?_
    show Steps p.tables e below (T106.setTop (mkF m 21 #[.val (.ref a1), .val (.int p1), .val (.int (1 : Int32))] [])) _
    refine XS.iloadN X106.here hx rfl (hb hby d4_21) rfl ?_
    show Steps p.tables e below (T106.setTop (mkF m 22 #[.val (.ref a1), .val (.int p1), .val (.int (1 : Int32))] [(.int (1 : Int32))])) _
    refine XS.aloadN X106.here hx rfl (hb hby d4_22) rfl rfl ?_
    exact k)
  obtain ⟨T111, X111, e111, st111⟩ := getF X106 hx hZ hown (host := "") (Or.inl (hw _ (List.mem_of_getElem? (i := 30) rfl))) Via.refl e106 F1 (g := (mkF m 23 #[.val (.ref a1), .val (.int p1), .val (.int (1 : Int32))] [(.ref a1), (.int (1 : Int32))])) rfl rfl (hb hby d4_23)
  have k112 : ∀ t, Steps p.tables e below (T111.setTop (mkF m 26 #[.val (.ref a1), .val (.int p1), .val (.int (1 : Int32))] [(.ref a2), (.int (1 : Int32))])) t → Steps p.tables e below (s₁.setTop (entryFrame m #[(.ref a1), (.int p1)] 3)) t := fun t k => k110 t (st111 t k)
  obtain ⟨c113, Ar113, -, As113, An113, -, -⟩ := id V1
  have k114 : ∀ t, Steps p.tables e below (T111.setTop (mkF m 31 #[.val (.ref a1), .val (.int p1), .val (.int (1 : Int32))] [(.ref a1)])) t → Steps p.tables e below (s₁.setTop (entryFrame m #[(.ref a1), (.int p1)] 3)) t := fun t k => k112 t (by
    show Steps p.tables e below (T111.setTop (mkF m 26 #[.val (.ref a1), .val (.int p1), .val (.int (1 : Int32))] [(.ref a2), (.int (1 : Int32))])) _
    refine X111.arraylength hx (by rw [e111]; exact Ar113.1) (State.isArrayOf_alike hZ.alike Ar113.2.1) (g := (mkF m 26 #[.val (.ref a1), .val (.int p1), .val (.int (1 : Int32))] [(.ref a2), (.int (1 : Int32))])) rfl rfl (hb hby d4_26) _ ?_
    rw [len_of As113 An113]
    show Steps p.tables e below (T111.setTop (mkF m 27 #[.val (.ref a1), .val (.int p1), .val (.int (1 : Int32))] [(.int (3 : Int32)), (.int (1 : Int32))])) _
    refine XS.icmpNo X111.here hx rfl (hb hby d4_27) rfl (tlt (by decide)).2.1 ?_
    show Steps p.tables e below (T111.setTop (mkF m 30 #[.val (.ref a1), .val (.int p1), .val (.int (1 : Int32))] [])) _
    refine XS.aloadN X111.here hx rfl (hb hby d4_30) rfl rfl ?_
    exact k)
  obtain ⟨T115, X115, e115, st115⟩ := getF X111 hx hZ hown (host := "") (Or.inl (hw _ (List.mem_of_getElem? (i := 30) rfl))) Via.refl e111 F1 (g := (mkF m 31 #[.val (.ref a1), .val (.int p1), .val (.int (1 : Int32))] [(.ref a1)])) rfl rfl (hb hby d4_31)
  have k116 : ∀ t, Steps p.tables e below (T115.setTop (mkF m 34 #[.val (.ref a1), .val (.int p1), .val (.int (1 : Int32))] [(.ref a2)])) t → Steps p.tables e below (s₁.setTop (entryFrame m #[(.ref a1), (.int p1)] 3)) t := fun t k => k114 t (st115 t k)
  have k117 : ∀ t, Steps p.tables e below (T115.setTop (mkF m 35 #[.val (.ref a1), .val (.int p1), .val (.int (1 : Int32))] [(.int (1 : Int32)), (.ref a2)])) t → Steps p.tables e below (s₁.setTop (entryFrame m #[(.ref a1), (.int p1)] 3)) t := fun t k => k116 t (by
    show Steps p.tables e below (T115.setTop (mkF m 34 #[.val (.ref a1), .val (.int p1), .val (.int (1 : Int32))] [(.ref a2)])) _
    refine XS.iloadN X115.here hx rfl (hb hby d4_34) rfl ?_
    exact k)
  obtain ⟨c118, Ar118, -, As118, An118, Ah118, -⟩ := id V1
  have hin118 : ¬ ((1 : Int32) < 0 ∨ c118.slots.size ≤ ((1 : Int32)).toNatClampNeg) := inb_of As118 ⟨by decide, by decide⟩
  have hat118 : c118.slots[((1 : Int32)).toNatClampNeg]? = some (.int r2) := Has.at Ah118 hin118 rfl
  have k119 : ∀ t, Steps p.tables e below (T115.setTop (mkF m 23 #[.val (.ref a1), .val (.int p1), .val (.int (2 : Int32))] [(.ref a1), (.int (2 : Int32))])) t → Steps p.tables e below (s₁.setTop (entryFrame m #[(.ref a1), (.int p1)] 3)) t := fun t k => k117 t (by
    show Steps p.tables e below (T115.setTop (mkF m 35 #[.val (.ref a1), .val (.int p1), .val (.int (1 : Int32))] [(.int (1 : Int32)), (.ref a2)])) _
    refine X115.iaload hx (j := (1 : Int32)) (v := (.int r2)) (by rw [e115]; exact Ar118.1) (State.isArrayOf_alike hZ.alike Ar118.2.1) Ar118.2.2 hin118 hat118 (g := (mkF m 35 #[.val (.ref a1), .val (.int p1), .val (.int (1 : Int32))] [(.int (1 : Int32)), (.ref a2)])) rfl rfl (hb hby d4_35) _ ?_
    show Steps p.tables e below (T115.setTop (mkF m 36 #[.val (.ref a1), .val (.int p1), .val (.int (1 : Int32))] [(.int r2)])) _
    refine XS.iloadN X115.here hx rfl (hb hby d4_36) rfl ?_
    show Steps p.tables e below (T115.setTop (mkF m 37 #[.val (.ref a1), .val (.int p1), .val (.int (1 : Int32))] [(.int p1), (.int r2)])) _
    refine XS.icmpNo X115.here hx rfl (hb hby d4_37) rfl (flt d1).2.2.1 ?_
    show Steps p.tables e below (T115.setTop (mkF m 40 #[.val (.ref a1), .val (.int p1), .val (.int (1 : Int32))] [])) _
    refine XS.iinc X115.here hx rfl (hb hby d4_40) rfl (l' := #[.val (.ref a1), .val (.int p1), .val (.int (2 : Int32))]) rfl ?_
    show Steps p.tables e below (T115.setTop (mkF m 43 #[.val (.ref a1), .val (.int p1), .val (.int (2 : Int32))] [])) _
    refine XS.goto X115.here hx rfl (pc0 := 43) (pc' := 21) rfl (hb hby d4_43) (by decide) (by decide) ?_
    show Steps p.tables e below (T115.setTop (mkF m 21 #[.val (.ref a1), .val (.int p1), .val (.int (2 : Int32))] [])) _
    refine XS.iloadN X115.here hx rfl (hb hby d4_21) rfl ?_
    show Steps p.tables e below (T115.setTop (mkF m 22 #[.val (.ref a1), .val (.int p1), .val (.int (2 : Int32))] [(.int (2 : Int32))])) _
    refine XS.aloadN X115.here hx rfl (hb hby d4_22) rfl rfl ?_
    exact k)
  obtain ⟨T120, X120, e120, st120⟩ := getF X115 hx hZ hown (host := "") (Or.inl (hw _ (List.mem_of_getElem? (i := 30) rfl))) Via.refl e115 F1 (g := (mkF m 23 #[.val (.ref a1), .val (.int p1), .val (.int (2 : Int32))] [(.ref a1), (.int (2 : Int32))])) rfl rfl (hb hby d4_23)
  have k121 : ∀ t, Steps p.tables e below (T120.setTop (mkF m 26 #[.val (.ref a1), .val (.int p1), .val (.int (2 : Int32))] [(.ref a2), (.int (2 : Int32))])) t → Steps p.tables e below (s₁.setTop (entryFrame m #[(.ref a1), (.int p1)] 3)) t := fun t k => k119 t (st120 t k)
  obtain ⟨c122, Ar122, -, As122, An122, -, -⟩ := id V1
  have k123 : ∀ t, Steps p.tables e below (T120.setTop (mkF m 31 #[.val (.ref a1), .val (.int p1), .val (.int (2 : Int32))] [(.ref a1)])) t → Steps p.tables e below (s₁.setTop (entryFrame m #[(.ref a1), (.int p1)] 3)) t := fun t k => k121 t (by
    show Steps p.tables e below (T120.setTop (mkF m 26 #[.val (.ref a1), .val (.int p1), .val (.int (2 : Int32))] [(.ref a2), (.int (2 : Int32))])) _
    refine X120.arraylength hx (by rw [e120]; exact Ar122.1) (State.isArrayOf_alike hZ.alike Ar122.2.1) (g := (mkF m 26 #[.val (.ref a1), .val (.int p1), .val (.int (2 : Int32))] [(.ref a2), (.int (2 : Int32))])) rfl rfl (hb hby d4_26) _ ?_
    rw [len_of As122 An122]
    show Steps p.tables e below (T120.setTop (mkF m 27 #[.val (.ref a1), .val (.int p1), .val (.int (2 : Int32))] [(.int (3 : Int32)), (.int (2 : Int32))])) _
    refine XS.icmpNo X120.here hx rfl (hb hby d4_27) rfl (tlt (by decide)).2.1 ?_
    show Steps p.tables e below (T120.setTop (mkF m 30 #[.val (.ref a1), .val (.int p1), .val (.int (2 : Int32))] [])) _
    refine XS.aloadN X120.here hx rfl (hb hby d4_30) rfl rfl ?_
    exact k)
  obtain ⟨T124, X124, e124, st124⟩ := getF X120 hx hZ hown (host := "") (Or.inl (hw _ (List.mem_of_getElem? (i := 30) rfl))) Via.refl e120 F1 (g := (mkF m 31 #[.val (.ref a1), .val (.int p1), .val (.int (2 : Int32))] [(.ref a1)])) rfl rfl (hb hby d4_31)
  have k125 : ∀ t, Steps p.tables e below (T124.setTop (mkF m 34 #[.val (.ref a1), .val (.int p1), .val (.int (2 : Int32))] [(.ref a2)])) t → Steps p.tables e below (s₁.setTop (entryFrame m #[(.ref a1), (.int p1)] 3)) t := fun t k => k123 t (st124 t k)
  have k126 : ∀ t, Steps p.tables e below (T124.setTop (mkF m 35 #[.val (.ref a1), .val (.int p1), .val (.int (2 : Int32))] [(.int (2 : Int32)), (.ref a2)])) t → Steps p.tables e below (s₁.setTop (entryFrame m #[(.ref a1), (.int p1)] 3)) t := fun t k => k125 t (by
    show Steps p.tables e below (T124.setTop (mkF m 34 #[.val (.ref a1), .val (.int p1), .val (.int (2 : Int32))] [(.ref a2)])) _
    refine XS.iloadN X124.here hx rfl (hb hby d4_34) rfl ?_
    exact k)
  obtain ⟨c127, Ar127, -, As127, An127, Ah127, -⟩ := id V1
  have hin127 : ¬ ((2 : Int32) < 0 ∨ c127.slots.size ≤ ((2 : Int32)).toNatClampNeg) := inb_of As127 ⟨by decide, by decide⟩
  have hat127 : c127.slots[((2 : Int32)).toNatClampNeg]? = some (.int r3) := Has.at Ah127 hin127 rfl
  have k128 : ∀ t, Steps p.tables e below (T124.setTop (mkF m 51 #[.val (.ref a1), .val (.int p1), .val (.int (2 : Int32))] [(.double (FP.ddiv (FP.i2d (2 : Int32)) (FP.i2d p1)))])) t → Steps p.tables e below (s₁.setTop (entryFrame m #[(.ref a1), (.int p1)] 3)) t := fun t k => k126 t (by
    show Steps p.tables e below (T124.setTop (mkF m 35 #[.val (.ref a1), .val (.int p1), .val (.int (2 : Int32))] [(.int (2 : Int32)), (.ref a2)])) _
    refine X124.iaload hx (j := (2 : Int32)) (v := (.int r3)) (by rw [e124]; exact Ar127.1) (State.isArrayOf_alike hZ.alike Ar127.2.1) Ar127.2.2 hin127 hat127 (g := (mkF m 35 #[.val (.ref a1), .val (.int p1), .val (.int (2 : Int32))] [(.int (2 : Int32)), (.ref a2)])) rfl rfl (hb hby d4_35) _ ?_
    show Steps p.tables e below (T124.setTop (mkF m 36 #[.val (.ref a1), .val (.int p1), .val (.int (2 : Int32))] [(.int r3)])) _
    refine XS.iloadN X124.here hx rfl (hb hby d4_36) rfl ?_
    show Steps p.tables e below (T124.setTop (mkF m 37 #[.val (.ref a1), .val (.int p1), .val (.int (2 : Int32))] [(.int p1), (.int r3)])) _
    refine XS.icmpYes X124.here hx rfl (pc0 := 37) (pc' := 46) rfl (hb hby d4_37) rfl (tlt d2).2.2.1 (by decide) (by decide) ?_
    show Steps p.tables e below (T124.setTop (mkF m 46 #[.val (.ref a1), .val (.int p1), .val (.int (2 : Int32))] [])) _
    refine XS.iloadN X124.here hx rfl (hb hby d4_46) rfl ?_
    show Steps p.tables e below (T124.setTop (mkF m 47 #[.val (.ref a1), .val (.int p1), .val (.int (2 : Int32))] [(.int (2 : Int32))])) _
    refine XS.i2dS X124.here hx rfl (hb hby d4_47) rfl rfl ?_
    show Steps p.tables e below (T124.setTop (mkF m 48 #[.val (.ref a1), .val (.int p1), .val (.int (2 : Int32))] [(.double (FP.i2d (2 : Int32)))])) _
    refine XS.iloadN X124.here hx rfl (hb hby d4_48) rfl ?_
    show Steps p.tables e below (T124.setTop (mkF m 49 #[.val (.ref a1), .val (.int p1), .val (.int (2 : Int32))] [(.int p1), (.double (FP.i2d (2 : Int32)))])) _
    refine XS.i2dS X124.here hx rfl (hb hby d4_49) rfl rfl ?_
    show Steps p.tables e below (T124.setTop (mkF m 50 #[.val (.ref a1), .val (.int p1), .val (.int (2 : Int32))] [(.double (FP.i2d p1)), (.double (FP.i2d (2 : Int32)))])) _
    refine XS.ddivS X124.here hx rfl (hb hby d4_50) rfl (nn50) rfl ?_
    exact k)
  obtain ⟨fs, hr, hrun, hended, hW, hsame⟩ := X124.leave (v := some (.double (FP.ddiv (FP.i2d (2 : Int32)) (FP.i2d p1)))) (fun h => by rw [Bd.returns] at h; cases h)
  refine ⟨_, _, k128 _ (retOut X124 hx (t := .double) Bd.returns rfl (Or.inr (Or.inr (Or.inl ⟨rfl, rfl, _, rfl⟩))) (hb hby d4_51) hr), hrun, hended, _, _, rfl, ?_, ⟨_, rfl⟩, hW, hsame.mono (by decide) (by decide)⟩
  show Q_prec3_2 Z a1 p1 a2 k1 r1 r2 r3 h0 n0 _ T124.heap _
  rw [e124]
  exact ⟨rfl, N0, rfl⟩
def Q_prec3_3 (Z : State) (a1 : Addr) (p1 : Int32) (a2 : Addr) (k1 : ClassId) (r1 : Int32) (r2 : Int32) (r3 : Int32) (h0 : Heap) (n0 : Nat) (v : Option Value) (h : Heap) (L : List Loc) : Prop := v = some (.double (FP.ddiv (FP.i2d (3 : Int32)) (FP.i2d p1))) ∧ Fr n0 L ∧ h = h0
set_option maxRecDepth 65536 in
set_option maxHeartbeats 40000000 in
theorem prec3_3 (l : Launch) (Z : State) (a0 : Array Value) (hw : ∀ d ∈ tables_1, d.before a0 Z = true) (ws : List Jvm.Cond) (a1 : Addr) (p1 : Int32) (a2 : Addr) (k1 : ClassId) (r1 : Int32) (r2 : Int32) (r3 : Int32) (h0 : Heap) (n0 : Nat) (Z0 : n0 ≤ h0.size) (F1 : Fld Z h0 a1 "com/example/round2/round2/eval/TopicResult" "relevantRanks" "[I" (.ref a2)) (V1 : Arv Z h0 a2 k1 .int (3 : Int32) [(.int r1), (.int r2), (.int r3)] (.int (0 : Int32))) (c2 : ¬ (p1 < (1 : Int32))) (nn50 : Jvm.Free.Fl.NoNaN64 (FP.ddiv (FP.i2d (3 : Int32)) (FP.i2d p1))) (d0 : ¬ (p1 < r1)) (d1 : ¬ (p1 < r2)) (d2 : ¬ (p1 < r3)) :
    MetFree l (⟨"com/example/round2/round2/eval/TopicResult", "precisionAt", "(I)D"⟩ : MethodName) (head1 (Jvm.Cond.code (⟨"com/example/round2/round2/eval/TopicResult", "precisionAt", "(I)D"⟩ : MethodName) prog_10_method_8_code 3 (some .double) :: ws) ({ frames := 0, cells := 0, slots := 0, locals := 0 } : Room)) (fun a U => a = #[(.ref a1), (.int p1)] ∧ Z.Warmed39 U.vm ∧ U.heap = h0) (fun _ _ _ _ _ => True) (fun _ U o U' => ∃ v L, o = .returned v ∧ Q_prec3_3 Z a1 p1 a2 k1 r1 r2 r3 h0 n0 v U'.heap L ∧ FrameEnd U o U' L ({ frames := 0, cells := 0, slots := 0, locals := 0 } : Room).cells ({ frames := 0, cells := 0, slots := 0, locals := 0 } : Room).slots) := by
  refine MetFree.of_bodySF (plainFor_of_name pn_com_2fexample_2fround2_2fround2_2feval_2fTopicResult) hisR ?_
  intro p e s m args below meth c s₁ Bd hml0 hP hK
  obtain ⟨rfl, hZ, hh⟩ := hP
  have hx := Bd.exec
  have hby := Bd.bytes
  have hml : c.maxLocals = 3 := hml0
  have hown : s.vm.findClass "com/example/round2/round2/eval/TopicResult" = some m.cls := findClass_of_methodNamed Bd.named
  have hnm := (name_of_methodNamed Bd.named Bd.method).1
  have X0 : Stand p l e ({ frames := 0, cells := 0, slots := 0, locals := 0 } : Room) s m #[(.ref a1), (.int p1)] below meth c s₁ [] 0 0 := Stand.of_body Bd
  have e0 : s₁.heap = h0 := by rw [← hh, Bd.state]; rfl
  have N0 := Fr.nil n0
  have k0 : ∀ t, Steps p.tables e below (s₁.setTop (mkF m 0 #[.val (.ref a1), .val (.int p1), .unset] [])) t → Steps p.tables e below (s₁.setTop (entryFrame m #[(.ref a1), (.int p1)] 3)) t := fun t k => castTop (ef_4_RI m a1 p1) k
  have k101 : ∀ t, Steps p.tables e below (s₁.setTop (mkF m 23 #[.val (.ref a1), .val (.int p1), .val (.int (0 : Int32))] [(.ref a1), (.int (0 : Int32))])) t → Steps p.tables e below (s₁.setTop (entryFrame m #[(.ref a1), (.int p1)] 3)) t := fun t k => k0 t (by
    show Steps p.tables e below (s₁.setTop (mkF m 0 #[.val (.ref a1), .val (.int p1), .unset] [])) _
    refine XS.iloadN X0.here hx rfl (hb hby d4_0) rfl ?_
    show Steps p.tables e below (s₁.setTop (mkF m 1 #[.val (.ref a1), .val (.int p1), .unset] [(.int p1)])) _
    refine XS.iconst X0.here hx rfl (hb hby d4_1) ?_
    show Steps p.tables e below (s₁.setTop (mkF m 2 #[.val (.ref a1), .val (.int p1), .unset] [(.int (1 : Int32)), (.int p1)])) _
    refine XS.icmpYes X0.here hx rfl (pc0 := 2) (pc' := 19) rfl (hb hby d4_2) rfl (flt c2).2.1 (by decide) (by decide) ?_
    show Steps p.tables e below (s₁.setTop (mkF m 19 #[.val (.ref a1), .val (.int p1), .unset] [])) _
    refine XS.iconst X0.here hx rfl (hb hby d4_19) ?_
    show Steps p.tables e below (s₁.setTop (mkF m 20 #[.val (.ref a1), .val (.int p1), .unset] [(.int (0 : Int32))])) _
    refine XS.istoreN X0.here hx rfl (hb hby d4_20) rfl (l' := #[.val (.ref a1), .val (.int p1), .val (.int (0 : Int32))]) rfl ?_
    show Steps p.tables e below (s₁.setTop (mkF m 21 #[.val (.ref a1), .val (.int p1), .val (.int (0 : Int32))] [])) _
    refine XS.iloadN X0.here hx rfl (hb hby d4_21) rfl ?_
    show Steps p.tables e below (s₁.setTop (mkF m 22 #[.val (.ref a1), .val (.int p1), .val (.int (0 : Int32))] [(.int (0 : Int32))])) _
    refine XS.aloadN X0.here hx rfl (hb hby d4_22) rfl rfl ?_
    exact k)
  obtain ⟨T102, X102, e102, st102⟩ := getF X0 hx hZ hown (host := "") (Or.inl (hw _ (List.mem_of_getElem? (i := 30) rfl))) Via.refl e0 F1 (g := (mkF m 23 #[.val (.ref a1), .val (.int p1), .val (.int (0 : Int32))] [(.ref a1), (.int (0 : Int32))])) rfl rfl (hb hby d4_23)
  have k103 : ∀ t, Steps p.tables e below (T102.setTop (mkF m 26 #[.val (.ref a1), .val (.int p1), .val (.int (0 : Int32))] [(.ref a2), (.int (0 : Int32))])) t → Steps p.tables e below (s₁.setTop (entryFrame m #[(.ref a1), (.int p1)] 3)) t := fun t k => k101 t (st102 t k)
  obtain ⟨c104, Ar104, -, As104, An104, -, -⟩ := id V1
  have k105 : ∀ t, Steps p.tables e below (T102.setTop (mkF m 31 #[.val (.ref a1), .val (.int p1), .val (.int (0 : Int32))] [(.ref a1)])) t → Steps p.tables e below (s₁.setTop (entryFrame m #[(.ref a1), (.int p1)] 3)) t := fun t k => k103 t (by
    show Steps p.tables e below (T102.setTop (mkF m 26 #[.val (.ref a1), .val (.int p1), .val (.int (0 : Int32))] [(.ref a2), (.int (0 : Int32))])) _
    refine X102.arraylength hx (by rw [e102]; exact Ar104.1) (State.isArrayOf_alike hZ.alike Ar104.2.1) (g := (mkF m 26 #[.val (.ref a1), .val (.int p1), .val (.int (0 : Int32))] [(.ref a2), (.int (0 : Int32))])) rfl rfl (hb hby d4_26) _ ?_
    rw [len_of As104 An104]
    show Steps p.tables e below (T102.setTop (mkF m 27 #[.val (.ref a1), .val (.int p1), .val (.int (0 : Int32))] [(.int (3 : Int32)), (.int (0 : Int32))])) _
    refine XS.icmpNo X102.here hx rfl (hb hby d4_27) rfl (tlt (by decide)).2.1 ?_
    show Steps p.tables e below (T102.setTop (mkF m 30 #[.val (.ref a1), .val (.int p1), .val (.int (0 : Int32))] [])) _
    refine XS.aloadN X102.here hx rfl (hb hby d4_30) rfl rfl ?_
    exact k)
  obtain ⟨T106, X106, e106, st106⟩ := getF X102 hx hZ hown (host := "") (Or.inl (hw _ (List.mem_of_getElem? (i := 30) rfl))) Via.refl e102 F1 (g := (mkF m 31 #[.val (.ref a1), .val (.int p1), .val (.int (0 : Int32))] [(.ref a1)])) rfl rfl (hb hby d4_31)
  have k107 : ∀ t, Steps p.tables e below (T106.setTop (mkF m 34 #[.val (.ref a1), .val (.int p1), .val (.int (0 : Int32))] [(.ref a2)])) t → Steps p.tables e below (s₁.setTop (entryFrame m #[(.ref a1), (.int p1)] 3)) t := fun t k => k105 t (st106 t k)
  have k108 : ∀ t, Steps p.tables e below (T106.setTop (mkF m 35 #[.val (.ref a1), .val (.int p1), .val (.int (0 : Int32))] [(.int (0 : Int32)), (.ref a2)])) t → Steps p.tables e below (s₁.setTop (entryFrame m #[(.ref a1), (.int p1)] 3)) t := fun t k => k107 t (by
    show Steps p.tables e below (T106.setTop (mkF m 34 #[.val (.ref a1), .val (.int p1), .val (.int (0 : Int32))] [(.ref a2)])) _
    refine XS.iloadN X106.here hx rfl (hb hby d4_34) rfl ?_
    exact k)
  obtain ⟨c109, Ar109, -, As109, An109, Ah109, -⟩ := id V1
  have hin109 : ¬ ((0 : Int32) < 0 ∨ c109.slots.size ≤ ((0 : Int32)).toNatClampNeg) := inb_of As109 ⟨by decide, by decide⟩
  have hat109 : c109.slots[((0 : Int32)).toNatClampNeg]? = some (.int r1) := Has.at Ah109 hin109 rfl
  have k110 : ∀ t, Steps p.tables e below (T106.setTop (mkF m 23 #[.val (.ref a1), .val (.int p1), .val (.int (1 : Int32))] [(.ref a1), (.int (1 : Int32))])) t → Steps p.tables e below (s₁.setTop (entryFrame m #[(.ref a1), (.int p1)] 3)) t := fun t k => k108 t (by
    show Steps p.tables e below (T106.setTop (mkF m 35 #[.val (.ref a1), .val (.int p1), .val (.int (0 : Int32))] [(.int (0 : Int32)), (.ref a2)])) _
    refine X106.iaload hx (j := (0 : Int32)) (v := (.int r1)) (by rw [e106]; exact Ar109.1) (State.isArrayOf_alike hZ.alike Ar109.2.1) Ar109.2.2 hin109 hat109 (g := (mkF m 35 #[.val (.ref a1), .val (.int p1), .val (.int (0 : Int32))] [(.int (0 : Int32)), (.ref a2)])) rfl rfl (hb hby d4_35) _ ?_
    show Steps p.tables e below (T106.setTop (mkF m 36 #[.val (.ref a1), .val (.int p1), .val (.int (0 : Int32))] [(.int r1)])) _
    refine XS.iloadN X106.here hx rfl (hb hby d4_36) rfl ?_
    show Steps p.tables e below (T106.setTop (mkF m 37 #[.val (.ref a1), .val (.int p1), .val (.int (0 : Int32))] [(.int p1), (.int r1)])) _
    refine XS.icmpNo X106.here hx rfl (hb hby d4_37) rfl (flt d0).2.2.1 ?_
    show Steps p.tables e below (T106.setTop (mkF m 40 #[.val (.ref a1), .val (.int p1), .val (.int (0 : Int32))] [])) _
    refine XS.iinc X106.here hx rfl (hb hby d4_40) rfl (l' := #[.val (.ref a1), .val (.int p1), .val (.int (1 : Int32))]) rfl ?_
    show Steps p.tables e below (T106.setTop (mkF m 43 #[.val (.ref a1), .val (.int p1), .val (.int (1 : Int32))] [])) _
    refine XS.goto X106.here hx rfl (pc0 := 43) (pc' := 21) rfl (hb hby d4_43) (by decide) (by decide) ?_
    show Steps p.tables e below (T106.setTop (mkF m 21 #[.val (.ref a1), .val (.int p1), .val (.int (1 : Int32))] [])) _
    refine XS.iloadN X106.here hx rfl (hb hby d4_21) rfl ?_
    show Steps p.tables e below (T106.setTop (mkF m 22 #[.val (.ref a1), .val (.int p1), .val (.int (1 : Int32))] [(.int (1 : Int32))])) _
    refine XS.aloadN X106.here hx rfl (hb hby d4_22) rfl rfl ?_
    exact k)
  obtain ⟨T111, X111, e111, st111⟩ := getF X106 hx hZ hown (host := "") (Or.inl (hw _ (List.mem_of_getElem? (i := 30) rfl))) Via.refl e106 F1 (g := (mkF m 23 #[.val (.ref a1), .val (.int p1), .val (.int (1 : Int32))] [(.ref a1), (.int (1 : Int32))])) rfl rfl (hb hby d4_23)
  have k112 : ∀ t, Steps p.tables e below (T111.setTop (mkF m 26 #[.val (.ref a1), .val (.int p1), .val (.int (1 : Int32))] [(.ref a2), (.int (1 : Int32))])) t → Steps p.tables e below (s₁.setTop (entryFrame m #[(.ref a1), (.int p1)] 3)) t := fun t k => k110 t (st111 t k)
  obtain ⟨c113, Ar113, -, As113, An113, -, -⟩ := id V1
  have k114 : ∀ t, Steps p.tables e below (T111.setTop (mkF m 31 #[.val (.ref a1), .val (.int p1), .val (.int (1 : Int32))] [(.ref a1)])) t → Steps p.tables e below (s₁.setTop (entryFrame m #[(.ref a1), (.int p1)] 3)) t := fun t k => k112 t (by
    show Steps p.tables e below (T111.setTop (mkF m 26 #[.val (.ref a1), .val (.int p1), .val (.int (1 : Int32))] [(.ref a2), (.int (1 : Int32))])) _
    refine X111.arraylength hx (by rw [e111]; exact Ar113.1) (State.isArrayOf_alike hZ.alike Ar113.2.1) (g := (mkF m 26 #[.val (.ref a1), .val (.int p1), .val (.int (1 : Int32))] [(.ref a2), (.int (1 : Int32))])) rfl rfl (hb hby d4_26) _ ?_
    rw [len_of As113 An113]
    show Steps p.tables e below (T111.setTop (mkF m 27 #[.val (.ref a1), .val (.int p1), .val (.int (1 : Int32))] [(.int (3 : Int32)), (.int (1 : Int32))])) _
    refine XS.icmpNo X111.here hx rfl (hb hby d4_27) rfl (tlt (by decide)).2.1 ?_
    show Steps p.tables e below (T111.setTop (mkF m 30 #[.val (.ref a1), .val (.int p1), .val (.int (1 : Int32))] [])) _
    refine XS.aloadN X111.here hx rfl (hb hby d4_30) rfl rfl ?_
    exact k)
  obtain ⟨T115, X115, e115, st115⟩ := getF X111 hx hZ hown (host := "") (Or.inl (hw _ (List.mem_of_getElem? (i := 30) rfl))) Via.refl e111 F1 (g := (mkF m 31 #[.val (.ref a1), .val (.int p1), .val (.int (1 : Int32))] [(.ref a1)])) rfl rfl (hb hby d4_31)
  have k116 : ∀ t, Steps p.tables e below (T115.setTop (mkF m 34 #[.val (.ref a1), .val (.int p1), .val (.int (1 : Int32))] [(.ref a2)])) t → Steps p.tables e below (s₁.setTop (entryFrame m #[(.ref a1), (.int p1)] 3)) t := fun t k => k114 t (st115 t k)
  have k117 : ∀ t, Steps p.tables e below (T115.setTop (mkF m 35 #[.val (.ref a1), .val (.int p1), .val (.int (1 : Int32))] [(.int (1 : Int32)), (.ref a2)])) t → Steps p.tables e below (s₁.setTop (entryFrame m #[(.ref a1), (.int p1)] 3)) t := fun t k => k116 t (by
    show Steps p.tables e below (T115.setTop (mkF m 34 #[.val (.ref a1), .val (.int p1), .val (.int (1 : Int32))] [(.ref a2)])) _
    refine XS.iloadN X115.here hx rfl (hb hby d4_34) rfl ?_
    exact k)
  obtain ⟨c118, Ar118, -, As118, An118, Ah118, -⟩ := id V1
  have hin118 : ¬ ((1 : Int32) < 0 ∨ c118.slots.size ≤ ((1 : Int32)).toNatClampNeg) := inb_of As118 ⟨by decide, by decide⟩
  have hat118 : c118.slots[((1 : Int32)).toNatClampNeg]? = some (.int r2) := Has.at Ah118 hin118 rfl
  have k119 : ∀ t, Steps p.tables e below (T115.setTop (mkF m 23 #[.val (.ref a1), .val (.int p1), .val (.int (2 : Int32))] [(.ref a1), (.int (2 : Int32))])) t → Steps p.tables e below (s₁.setTop (entryFrame m #[(.ref a1), (.int p1)] 3)) t := fun t k => k117 t (by
    show Steps p.tables e below (T115.setTop (mkF m 35 #[.val (.ref a1), .val (.int p1), .val (.int (1 : Int32))] [(.int (1 : Int32)), (.ref a2)])) _
    refine X115.iaload hx (j := (1 : Int32)) (v := (.int r2)) (by rw [e115]; exact Ar118.1) (State.isArrayOf_alike hZ.alike Ar118.2.1) Ar118.2.2 hin118 hat118 (g := (mkF m 35 #[.val (.ref a1), .val (.int p1), .val (.int (1 : Int32))] [(.int (1 : Int32)), (.ref a2)])) rfl rfl (hb hby d4_35) _ ?_
    show Steps p.tables e below (T115.setTop (mkF m 36 #[.val (.ref a1), .val (.int p1), .val (.int (1 : Int32))] [(.int r2)])) _
    refine XS.iloadN X115.here hx rfl (hb hby d4_36) rfl ?_
    show Steps p.tables e below (T115.setTop (mkF m 37 #[.val (.ref a1), .val (.int p1), .val (.int (1 : Int32))] [(.int p1), (.int r2)])) _
    refine XS.icmpNo X115.here hx rfl (hb hby d4_37) rfl (flt d1).2.2.1 ?_
    show Steps p.tables e below (T115.setTop (mkF m 40 #[.val (.ref a1), .val (.int p1), .val (.int (1 : Int32))] [])) _
    refine XS.iinc X115.here hx rfl (hb hby d4_40) rfl (l' := #[.val (.ref a1), .val (.int p1), .val (.int (2 : Int32))]) rfl ?_
    show Steps p.tables e below (T115.setTop (mkF m 43 #[.val (.ref a1), .val (.int p1), .val (.int (2 : Int32))] [])) _
    refine XS.goto X115.here hx rfl (pc0 := 43) (pc' := 21) rfl (hb hby d4_43) (by decide) (by decide) ?_
    show Steps p.tables e below (T115.setTop (mkF m 21 #[.val (.ref a1), .val (.int p1), .val (.int (2 : Int32))] [])) _
    refine XS.iloadN X115.here hx rfl (hb hby d4_21) rfl ?_
    show Steps p.tables e below (T115.setTop (mkF m 22 #[.val (.ref a1), .val (.int p1), .val (.int (2 : Int32))] [(.int (2 : Int32))])) _
    refine XS.aloadN X115.here hx rfl (hb hby d4_22) rfl rfl ?_
    exact k)
  obtain ⟨T120, X120, e120, st120⟩ := getF X115 hx hZ hown (host := "") (Or.inl (hw _ (List.mem_of_getElem? (i := 30) rfl))) Via.refl e115 F1 (g := (mkF m 23 #[.val (.ref a1), .val (.int p1), .val (.int (2 : Int32))] [(.ref a1), (.int (2 : Int32))])) rfl rfl (hb hby d4_23)
  have k121 : ∀ t, Steps p.tables e below (T120.setTop (mkF m 26 #[.val (.ref a1), .val (.int p1), .val (.int (2 : Int32))] [(.ref a2), (.int (2 : Int32))])) t → Steps p.tables e below (s₁.setTop (entryFrame m #[(.ref a1), (.int p1)] 3)) t := fun t k => k119 t (st120 t k)
  obtain ⟨c122, Ar122, -, As122, An122, -, -⟩ := id V1
  have k123 : ∀ t, Steps p.tables e below (T120.setTop (mkF m 31 #[.val (.ref a1), .val (.int p1), .val (.int (2 : Int32))] [(.ref a1)])) t → Steps p.tables e below (s₁.setTop (entryFrame m #[(.ref a1), (.int p1)] 3)) t := fun t k => k121 t (by
    show Steps p.tables e below (T120.setTop (mkF m 26 #[.val (.ref a1), .val (.int p1), .val (.int (2 : Int32))] [(.ref a2), (.int (2 : Int32))])) _
    refine X120.arraylength hx (by rw [e120]; exact Ar122.1) (State.isArrayOf_alike hZ.alike Ar122.2.1) (g := (mkF m 26 #[.val (.ref a1), .val (.int p1), .val (.int (2 : Int32))] [(.ref a2), (.int (2 : Int32))])) rfl rfl (hb hby d4_26) _ ?_
    rw [len_of As122 An122]
    show Steps p.tables e below (T120.setTop (mkF m 27 #[.val (.ref a1), .val (.int p1), .val (.int (2 : Int32))] [(.int (3 : Int32)), (.int (2 : Int32))])) _
    refine XS.icmpNo X120.here hx rfl (hb hby d4_27) rfl (tlt (by decide)).2.1 ?_
    show Steps p.tables e below (T120.setTop (mkF m 30 #[.val (.ref a1), .val (.int p1), .val (.int (2 : Int32))] [])) _
    refine XS.aloadN X120.here hx rfl (hb hby d4_30) rfl rfl ?_
    exact k)
  obtain ⟨T124, X124, e124, st124⟩ := getF X120 hx hZ hown (host := "") (Or.inl (hw _ (List.mem_of_getElem? (i := 30) rfl))) Via.refl e120 F1 (g := (mkF m 31 #[.val (.ref a1), .val (.int p1), .val (.int (2 : Int32))] [(.ref a1)])) rfl rfl (hb hby d4_31)
  have k125 : ∀ t, Steps p.tables e below (T124.setTop (mkF m 34 #[.val (.ref a1), .val (.int p1), .val (.int (2 : Int32))] [(.ref a2)])) t → Steps p.tables e below (s₁.setTop (entryFrame m #[(.ref a1), (.int p1)] 3)) t := fun t k => k123 t (st124 t k)
  have k126 : ∀ t, Steps p.tables e below (T124.setTop (mkF m 35 #[.val (.ref a1), .val (.int p1), .val (.int (2 : Int32))] [(.int (2 : Int32)), (.ref a2)])) t → Steps p.tables e below (s₁.setTop (entryFrame m #[(.ref a1), (.int p1)] 3)) t := fun t k => k125 t (by
    show Steps p.tables e below (T124.setTop (mkF m 34 #[.val (.ref a1), .val (.int p1), .val (.int (2 : Int32))] [(.ref a2)])) _
    refine XS.iloadN X124.here hx rfl (hb hby d4_34) rfl ?_
    exact k)
  obtain ⟨c127, Ar127, -, As127, An127, Ah127, -⟩ := id V1
  have hin127 : ¬ ((2 : Int32) < 0 ∨ c127.slots.size ≤ ((2 : Int32)).toNatClampNeg) := inb_of As127 ⟨by decide, by decide⟩
  have hat127 : c127.slots[((2 : Int32)).toNatClampNeg]? = some (.int r3) := Has.at Ah127 hin127 rfl
  have k128 : ∀ t, Steps p.tables e below (T124.setTop (mkF m 23 #[.val (.ref a1), .val (.int p1), .val (.int (3 : Int32))] [(.ref a1), (.int (3 : Int32))])) t → Steps p.tables e below (s₁.setTop (entryFrame m #[(.ref a1), (.int p1)] 3)) t := fun t k => k126 t (by
    show Steps p.tables e below (T124.setTop (mkF m 35 #[.val (.ref a1), .val (.int p1), .val (.int (2 : Int32))] [(.int (2 : Int32)), (.ref a2)])) _
    refine X124.iaload hx (j := (2 : Int32)) (v := (.int r3)) (by rw [e124]; exact Ar127.1) (State.isArrayOf_alike hZ.alike Ar127.2.1) Ar127.2.2 hin127 hat127 (g := (mkF m 35 #[.val (.ref a1), .val (.int p1), .val (.int (2 : Int32))] [(.int (2 : Int32)), (.ref a2)])) rfl rfl (hb hby d4_35) _ ?_
    show Steps p.tables e below (T124.setTop (mkF m 36 #[.val (.ref a1), .val (.int p1), .val (.int (2 : Int32))] [(.int r3)])) _
    refine XS.iloadN X124.here hx rfl (hb hby d4_36) rfl ?_
    show Steps p.tables e below (T124.setTop (mkF m 37 #[.val (.ref a1), .val (.int p1), .val (.int (2 : Int32))] [(.int p1), (.int r3)])) _
    refine XS.icmpNo X124.here hx rfl (hb hby d4_37) rfl (flt d2).2.2.1 ?_
    show Steps p.tables e below (T124.setTop (mkF m 40 #[.val (.ref a1), .val (.int p1), .val (.int (2 : Int32))] [])) _
    refine XS.iinc X124.here hx rfl (hb hby d4_40) rfl (l' := #[.val (.ref a1), .val (.int p1), .val (.int (3 : Int32))]) rfl ?_
    show Steps p.tables e below (T124.setTop (mkF m 43 #[.val (.ref a1), .val (.int p1), .val (.int (3 : Int32))] [])) _
    refine XS.goto X124.here hx rfl (pc0 := 43) (pc' := 21) rfl (hb hby d4_43) (by decide) (by decide) ?_
    show Steps p.tables e below (T124.setTop (mkF m 21 #[.val (.ref a1), .val (.int p1), .val (.int (3 : Int32))] [])) _
    refine XS.iloadN X124.here hx rfl (hb hby d4_21) rfl ?_
    show Steps p.tables e below (T124.setTop (mkF m 22 #[.val (.ref a1), .val (.int p1), .val (.int (3 : Int32))] [(.int (3 : Int32))])) _
    refine XS.aloadN X124.here hx rfl (hb hby d4_22) rfl rfl ?_
    exact k)
  obtain ⟨T129, X129, e129, st129⟩ := getF X124 hx hZ hown (host := "") (Or.inl (hw _ (List.mem_of_getElem? (i := 30) rfl))) Via.refl e124 F1 (g := (mkF m 23 #[.val (.ref a1), .val (.int p1), .val (.int (3 : Int32))] [(.ref a1), (.int (3 : Int32))])) rfl rfl (hb hby d4_23)
  have k130 : ∀ t, Steps p.tables e below (T129.setTop (mkF m 26 #[.val (.ref a1), .val (.int p1), .val (.int (3 : Int32))] [(.ref a2), (.int (3 : Int32))])) t → Steps p.tables e below (s₁.setTop (entryFrame m #[(.ref a1), (.int p1)] 3)) t := fun t k => k128 t (st129 t k)
  obtain ⟨c131, Ar131, -, As131, An131, -, -⟩ := id V1
  have k132 : ∀ t, Steps p.tables e below (T129.setTop (mkF m 51 #[.val (.ref a1), .val (.int p1), .val (.int (3 : Int32))] [(.double (FP.ddiv (FP.i2d (3 : Int32)) (FP.i2d p1)))])) t → Steps p.tables e below (s₁.setTop (entryFrame m #[(.ref a1), (.int p1)] 3)) t := fun t k => k130 t (by
    show Steps p.tables e below (T129.setTop (mkF m 26 #[.val (.ref a1), .val (.int p1), .val (.int (3 : Int32))] [(.ref a2), (.int (3 : Int32))])) _
    refine X129.arraylength hx (by rw [e129]; exact Ar131.1) (State.isArrayOf_alike hZ.alike Ar131.2.1) (g := (mkF m 26 #[.val (.ref a1), .val (.int p1), .val (.int (3 : Int32))] [(.ref a2), (.int (3 : Int32))])) rfl rfl (hb hby d4_26) _ ?_
    rw [len_of As131 An131]
    show Steps p.tables e below (T129.setTop (mkF m 27 #[.val (.ref a1), .val (.int p1), .val (.int (3 : Int32))] [(.int (3 : Int32)), (.int (3 : Int32))])) _
    refine XS.icmpYes X129.here hx rfl (pc0 := 27) (pc' := 46) rfl (hb hby d4_27) rfl (flt (by decide)).2.1 (by decide) (by decide) ?_
    show Steps p.tables e below (T129.setTop (mkF m 46 #[.val (.ref a1), .val (.int p1), .val (.int (3 : Int32))] [])) _
    refine XS.iloadN X129.here hx rfl (hb hby d4_46) rfl ?_
    show Steps p.tables e below (T129.setTop (mkF m 47 #[.val (.ref a1), .val (.int p1), .val (.int (3 : Int32))] [(.int (3 : Int32))])) _
    refine XS.i2dS X129.here hx rfl (hb hby d4_47) rfl rfl ?_
    show Steps p.tables e below (T129.setTop (mkF m 48 #[.val (.ref a1), .val (.int p1), .val (.int (3 : Int32))] [(.double (FP.i2d (3 : Int32)))])) _
    refine XS.iloadN X129.here hx rfl (hb hby d4_48) rfl ?_
    show Steps p.tables e below (T129.setTop (mkF m 49 #[.val (.ref a1), .val (.int p1), .val (.int (3 : Int32))] [(.int p1), (.double (FP.i2d (3 : Int32)))])) _
    refine XS.i2dS X129.here hx rfl (hb hby d4_49) rfl rfl ?_
    show Steps p.tables e below (T129.setTop (mkF m 50 #[.val (.ref a1), .val (.int p1), .val (.int (3 : Int32))] [(.double (FP.i2d p1)), (.double (FP.i2d (3 : Int32)))])) _
    refine XS.ddivS X129.here hx rfl (hb hby d4_50) rfl (nn50) rfl ?_
    exact k)
  obtain ⟨fs, hr, hrun, hended, hW, hsame⟩ := X129.leave (v := some (.double (FP.ddiv (FP.i2d (3 : Int32)) (FP.i2d p1)))) (fun h => by rw [Bd.returns] at h; cases h)
  refine ⟨_, _, k132 _ (retOut X129 hx (t := .double) Bd.returns rfl (Or.inr (Or.inr (Or.inl ⟨rfl, rfl, _, rfl⟩))) (hb hby d4_51) hr), hrun, hended, _, _, rfl, ?_, ⟨_, rfl⟩, hW, hsame.mono (by decide) (by decide)⟩
  show Q_prec3_3 Z a1 p1 a2 k1 r1 r2 r3 h0 n0 _ T129.heap _
  rw [e129]
  exact ⟨rfl, N0, rfl⟩
theorem ef_0_IIIIII (m : MethodId) (x0 : Int32) (x1 : Int32) (x2 : Int32) (x3 : Int32) (x4 : Int32) (x5 : Int32) : entryFrame m #[(.int x0), (.int x1), (.int x2), (.int x3), (.int x4), (.int x5)] maxLocals = mkF m 0 #[.val (.int x0), .val (.int x1), .val (.int x2), .val (.int x3), .val (.int x4), .val (.int x5), .unset, .unset, .unset, .unset, .unset, .unset, .unset, .unset, .unset, .unset] [] := by first | (simp [entryFrame, mkF, argsToLocals, Value.category, maxLocals]; done) | rfl
theorem pd__28II_29I : parseMethodDescriptor "(II)I" = some ⟨[.int, .int], some .int⟩ := by decide +kernel
theorem own_strAtoms {Z : State} {a0 : Array Value} (hw : ∀ d ∈ tables_1, d.before a0 Z = true) : ∀ a ∈ Bundle.stringAtoms, a.before a0 Z = true := by
  intro a ha
  simp only [Bundle.stringAtoms, List.mem_cons, List.not_mem_nil, or_false] at ha
  rcases ha with rfl | rfl | rfl | rfl | rfl | rfl | rfl
  · exact (hw _ (List.mem_of_getElem? (i := 11) rfl))
  · exact (hw _ (List.mem_of_getElem? (i := 12) rfl))
  · exact (hw _ (List.mem_of_getElem? (i := 13) rfl))
  · exact (hw _ (List.mem_of_getElem? (i := 14) rfl))
  · exact (hw _ (List.mem_of_getElem? (i := 15) rfl))
  · exact (hw _ (List.mem_of_getElem? (i := 16) rfl))
  · exact (hw _ (List.mem_of_getElem? (i := 17) rfl))
theorem pd__28Ljava_2flang_2fString_3bII_5bI_29V : parseMethodDescriptor "(Ljava/lang/String;II[I)V" = some ⟨[(.object "java/lang/String"), .int, .int, (.array .int)], none⟩ := by decide +kernel
theorem pd__28I_29D : parseMethodDescriptor "(I)D" = some ⟨[.int], some .double⟩ := by decide +kernel
def Q_rm0 (Z : State) (g1 : Int32) (g2 : Int32) (g3 : Int32) (sh : Int32) (cu : Int32) (de : Int32) (h0 : Heap) (n0 : Nat) (v : Option Value) (h : Heap) (L : List Loc) : Prop := v = some (.int 1) ∧ Fr n0 L
theorem pn_com_2fexample_2fround2_2fround2_2feval_2fTopicResultPrecisionAtPinLaw : plainName "com/example/round2/round2/eval/TopicResultPrecisionAtPinLaw" = true := by first | (simp [plainName, overriddenIn]; done) | decide +kernel
set_option maxRecDepth 65536 in
set_option maxHeartbeats 40000000 in
theorem rm0 (l : Launch) (Z : State) (a0 : Array Value) (hw : ∀ d ∈ tables_1, d.before a0 Z = true) (ws : List Jvm.Cond) (g1 : Int32) (g2 : Int32) (g3 : Int32) (sh : Int32) (cu : Int32) (de : Int32) (h0 : Heap) (n0 : Nat) (Z0 : n0 ≤ h0.size) :
    MetFree l x (head1 (Jvm.Cond.code x code maxLocals ret :: ws) room_1) (fun a U => a = #[(.int g1), (.int g2), (.int g3), (.int sh), (.int cu), (.int de)] ∧ Z.Warmed39 U.vm ∧ U.heap = h0) (fun _ _ _ _ _ => True) (fun _ U o U' => ∃ v L, o = .returned v ∧ Q_rm0 Z g1 g2 g3 sh cu de h0 n0 v U'.heap L ∧ ReturnedEndW U o U' L room_1.cells room_1.slots) := by
  refine MetFree.of_bodySF (plainFor_of_name pn_com_2fexample_2fround2_2fround2_2feval_2fTopicResultPrecisionAtPinLaw) hisR ?_
  intro p e s m args below meth c s₁ Bd hml0 hP hK
  obtain ⟨rfl, hZ, hh⟩ := hP
  have hx := Bd.exec
  have hby := Bd.bytes
  have hml : c.maxLocals = 16 := hml0
  have hown : s.vm.findClass "com/example/round2/round2/eval/TopicResultPrecisionAtPinLaw" = some m.cls := findClass_of_methodNamed Bd.named
  have hnm := (name_of_methodNamed Bd.named Bd.method).1
  have X0 : Stand p l e room_1 s m #[(.int g1), (.int g2), (.int g3), (.int sh), (.int cu), (.int de)] below meth c s₁ [] 0 0 := Stand.of_body Bd
  have e0 : s₁.heap = h0 := by rw [← hh, Bd.state]; rfl
  have N0 := Fr.nil n0
  have hS0 : s.Since s.vm 0 := Jvm.OwnFp.since0 s
  have k0 : ∀ t, Steps p.tables e below (s₁.setTop (mkF m 0 #[.val (.int g1), .val (.int g2), .val (.int g3), .val (.int sh), .val (.int cu), .val (.int de), .unset, .unset, .unset, .unset, .unset, .unset, .unset, .unset, .unset, .unset] [])) t → Steps p.tables e below (s₁.setTop (entryFrame m #[(.int g1), (.int g2), (.int g3), (.int sh), (.int cu), (.int de)] maxLocals)) t := fun t k => castTop (ef_0_IIIIII m g1 g2 g3 sh cu de) k
  obtain ⟨r1, hr1⟩ : ∃ z : Int32, z = ((1 : Int32) + (g1 &&& (536870911 : Int32))) := ⟨_, rfl⟩
  obtain ⟨r2, hr2⟩ : ∃ z : Int32, z = ((r1 + (1 : Int32)) + (g2 &&& (536870911 : Int32))) := ⟨_, rfl⟩
  obtain ⟨r3, hr3⟩ : ∃ z : Int32, z = ((r2 + (1 : Int32)) + (g3 &&& (536870911 : Int32))) := ⟨_, rfl⟩
  obtain ⟨n, hn⟩ : ∃ z : Int32, z = (sh &&& (3 : Int32)) := ⟨_, rfl⟩
  have k101 : ∀ t, Steps p.tables e below (s₁.setTop (mkF m 35 #[.val (.int g1), .val (.int g2), .val (.int g3), .val (.int sh), .val (.int cu), .val (.int de), .val (.int r1), .val (.int r2), .val (.int r3), .val (.int n), .unset, .unset, .unset, .unset, .unset, .unset] [])) t → Steps p.tables e below (s₁.setTop (entryFrame m #[(.int g1), (.int g2), (.int g3), (.int sh), (.int cu), (.int de)] maxLocals)) t := fun t k => k0 t (by
    show Steps p.tables e below (s₁.setTop (mkF m 0 #[.val (.int g1), .val (.int g2), .val (.int g3), .val (.int sh), .val (.int cu), .val (.int de), .unset, .unset, .unset, .unset, .unset, .unset, .unset, .unset, .unset, .unset] [])) _
    refine XS.iconst X0.here hx rfl (hb hby at_0) ?_
    show Steps p.tables e below (s₁.setTop (mkF m 1 #[.val (.int g1), .val (.int g2), .val (.int g3), .val (.int sh), .val (.int cu), .val (.int de), .unset, .unset, .unset, .unset, .unset, .unset, .unset, .unset, .unset, .unset] [(.int (1 : Int32))])) _
    refine XS.iloadN X0.here hx rfl (hb hby at_1) rfl ?_
    show Steps p.tables e below (s₁.setTop (mkF m 2 #[.val (.int g1), .val (.int g2), .val (.int g3), .val (.int sh), .val (.int cu), .val (.int de), .unset, .unset, .unset, .unset, .unset, .unset, .unset, .unset, .unset, .unset] [(.int g1), (.int (1 : Int32))])) _
    refine X0.ldcInt hx hown (mvT hZ (hw _ (List.mem_of_getElem? (i := 0) rfl))) (g := (mkF m 2 #[.val (.int g1), .val (.int g2), .val (.int g3), .val (.int sh), .val (.int cu), .val (.int de), .unset, .unset, .unset, .unset, .unset, .unset, .unset, .unset, .unset, .unset] [(.int g1), (.int (1 : Int32))])) rfl (hb hby at_2) _ ?_
    show Steps p.tables e below (s₁.setTop (mkF m 4 #[.val (.int g1), .val (.int g2), .val (.int g3), .val (.int sh), .val (.int cu), .val (.int de), .unset, .unset, .unset, .unset, .unset, .unset, .unset, .unset, .unset, .unset] [(.int (536870911 : Int32)), (.int g1), (.int (1 : Int32))])) _
    refine XS.iand X0.here hx rfl (hb hby at_4) rfl ?_
    show Steps p.tables e below (s₁.setTop (mkF m 5 #[.val (.int g1), .val (.int g2), .val (.int g3), .val (.int sh), .val (.int cu), .val (.int de), .unset, .unset, .unset, .unset, .unset, .unset, .unset, .unset, .unset, .unset] [(.int (g1 &&& (536870911 : Int32))), (.int (1 : Int32))])) _
    refine XS.iadd X0.here hx rfl (hb hby at_5) rfl ?_
    show Steps p.tables e below (s₁.setTop (mkF m 6 #[.val (.int g1), .val (.int g2), .val (.int g3), .val (.int sh), .val (.int cu), .val (.int de), .unset, .unset, .unset, .unset, .unset, .unset, .unset, .unset, .unset, .unset] [(.int ((1 : Int32) + (g1 &&& (536870911 : Int32))))])) _
    refine castTop (g' := (mkF m 6 #[.val (.int g1), .val (.int g2), .val (.int g3), .val (.int sh), .val (.int cu), .val (.int de), .unset, .unset, .unset, .unset, .unset, .unset, .unset, .unset, .unset, .unset] [(.int r1)])) (by rw [hr1]) ?_
    show Steps p.tables e below (s₁.setTop (mkF m 6 #[.val (.int g1), .val (.int g2), .val (.int g3), .val (.int sh), .val (.int cu), .val (.int de), .unset, .unset, .unset, .unset, .unset, .unset, .unset, .unset, .unset, .unset] [(.int r1)])) _
    refine XS.istore X0.here hx rfl (hb hby at_6) rfl (l' := #[.val (.int g1), .val (.int g2), .val (.int g3), .val (.int sh), .val (.int cu), .val (.int de), .val (.int r1), .unset, .unset, .unset, .unset, .unset, .unset, .unset, .unset, .unset]) rfl ?_
    show Steps p.tables e below (s₁.setTop (mkF m 8 #[.val (.int g1), .val (.int g2), .val (.int g3), .val (.int sh), .val (.int cu), .val (.int de), .val (.int r1), .unset, .unset, .unset, .unset, .unset, .unset, .unset, .unset, .unset] [])) _
    refine XS.iload X0.here hx rfl (hb hby at_8) rfl ?_
    show Steps p.tables e below (s₁.setTop (mkF m 10 #[.val (.int g1), .val (.int g2), .val (.int g3), .val (.int sh), .val (.int cu), .val (.int de), .val (.int r1), .unset, .unset, .unset, .unset, .unset, .unset, .unset, .unset, .unset] [(.int r1)])) _
    refine XS.iconst X0.here hx rfl (hb hby at_10) ?_
    show Steps p.tables e below (s₁.setTop (mkF m 11 #[.val (.int g1), .val (.int g2), .val (.int g3), .val (.int sh), .val (.int cu), .val (.int de), .val (.int r1), .unset, .unset, .unset, .unset, .unset, .unset, .unset, .unset, .unset] [(.int (1 : Int32)), (.int r1)])) _
    refine XS.iadd X0.here hx rfl (hb hby at_11) rfl ?_
    show Steps p.tables e below (s₁.setTop (mkF m 12 #[.val (.int g1), .val (.int g2), .val (.int g3), .val (.int sh), .val (.int cu), .val (.int de), .val (.int r1), .unset, .unset, .unset, .unset, .unset, .unset, .unset, .unset, .unset] [(.int (r1 + (1 : Int32)))])) _
    refine XS.iloadN X0.here hx rfl (hb hby at_12) rfl ?_
    show Steps p.tables e below (s₁.setTop (mkF m 13 #[.val (.int g1), .val (.int g2), .val (.int g3), .val (.int sh), .val (.int cu), .val (.int de), .val (.int r1), .unset, .unset, .unset, .unset, .unset, .unset, .unset, .unset, .unset] [(.int g2), (.int (r1 + (1 : Int32)))])) _
    refine X0.ldcInt hx hown (mvT hZ (hw _ (List.mem_of_getElem? (i := 0) rfl))) (g := (mkF m 13 #[.val (.int g1), .val (.int g2), .val (.int g3), .val (.int sh), .val (.int cu), .val (.int de), .val (.int r1), .unset, .unset, .unset, .unset, .unset, .unset, .unset, .unset, .unset] [(.int g2), (.int (r1 + (1 : Int32)))])) rfl (hb hby at_13) _ ?_
    show Steps p.tables e below (s₁.setTop (mkF m 15 #[.val (.int g1), .val (.int g2), .val (.int g3), .val (.int sh), .val (.int cu), .val (.int de), .val (.int r1), .unset, .unset, .unset, .unset, .unset, .unset, .unset, .unset, .unset] [(.int (536870911 : Int32)), (.int g2), (.int (r1 + (1 : Int32)))])) _
    refine XS.iand X0.here hx rfl (hb hby at_15) rfl ?_
    show Steps p.tables e below (s₁.setTop (mkF m 16 #[.val (.int g1), .val (.int g2), .val (.int g3), .val (.int sh), .val (.int cu), .val (.int de), .val (.int r1), .unset, .unset, .unset, .unset, .unset, .unset, .unset, .unset, .unset] [(.int (g2 &&& (536870911 : Int32))), (.int (r1 + (1 : Int32)))])) _
    refine XS.iadd X0.here hx rfl (hb hby at_16) rfl ?_
    show Steps p.tables e below (s₁.setTop (mkF m 17 #[.val (.int g1), .val (.int g2), .val (.int g3), .val (.int sh), .val (.int cu), .val (.int de), .val (.int r1), .unset, .unset, .unset, .unset, .unset, .unset, .unset, .unset, .unset] [(.int ((r1 + (1 : Int32)) + (g2 &&& (536870911 : Int32))))])) _
    refine castTop (g' := (mkF m 17 #[.val (.int g1), .val (.int g2), .val (.int g3), .val (.int sh), .val (.int cu), .val (.int de), .val (.int r1), .unset, .unset, .unset, .unset, .unset, .unset, .unset, .unset, .unset] [(.int r2)])) (by rw [hr2]) ?_
    show Steps p.tables e below (s₁.setTop (mkF m 17 #[.val (.int g1), .val (.int g2), .val (.int g3), .val (.int sh), .val (.int cu), .val (.int de), .val (.int r1), .unset, .unset, .unset, .unset, .unset, .unset, .unset, .unset, .unset] [(.int r2)])) _
    refine XS.istore X0.here hx rfl (hb hby at_17) rfl (l' := #[.val (.int g1), .val (.int g2), .val (.int g3), .val (.int sh), .val (.int cu), .val (.int de), .val (.int r1), .val (.int r2), .unset, .unset, .unset, .unset, .unset, .unset, .unset, .unset]) rfl ?_
    show Steps p.tables e below (s₁.setTop (mkF m 19 #[.val (.int g1), .val (.int g2), .val (.int g3), .val (.int sh), .val (.int cu), .val (.int de), .val (.int r1), .val (.int r2), .unset, .unset, .unset, .unset, .unset, .unset, .unset, .unset] [])) _
    refine XS.iload X0.here hx rfl (hb hby at_19) rfl ?_
    show Steps p.tables e below (s₁.setTop (mkF m 21 #[.val (.int g1), .val (.int g2), .val (.int g3), .val (.int sh), .val (.int cu), .val (.int de), .val (.int r1), .val (.int r2), .unset, .unset, .unset, .unset, .unset, .unset, .unset, .unset] [(.int r2)])) _
    refine XS.iconst X0.here hx rfl (hb hby at_21) ?_
    show Steps p.tables e below (s₁.setTop (mkF m 22 #[.val (.int g1), .val (.int g2), .val (.int g3), .val (.int sh), .val (.int cu), .val (.int de), .val (.int r1), .val (.int r2), .unset, .unset, .unset, .unset, .unset, .unset, .unset, .unset] [(.int (1 : Int32)), (.int r2)])) _
    refine XS.iadd X0.here hx rfl (hb hby at_22) rfl ?_
    show Steps p.tables e below (s₁.setTop (mkF m 23 #[.val (.int g1), .val (.int g2), .val (.int g3), .val (.int sh), .val (.int cu), .val (.int de), .val (.int r1), .val (.int r2), .unset, .unset, .unset, .unset, .unset, .unset, .unset, .unset] [(.int (r2 + (1 : Int32)))])) _
    refine XS.iloadN X0.here hx rfl (hb hby at_23) rfl ?_
    show Steps p.tables e below (s₁.setTop (mkF m 24 #[.val (.int g1), .val (.int g2), .val (.int g3), .val (.int sh), .val (.int cu), .val (.int de), .val (.int r1), .val (.int r2), .unset, .unset, .unset, .unset, .unset, .unset, .unset, .unset] [(.int g3), (.int (r2 + (1 : Int32)))])) _
    refine X0.ldcInt hx hown (mvT hZ (hw _ (List.mem_of_getElem? (i := 0) rfl))) (g := (mkF m 24 #[.val (.int g1), .val (.int g2), .val (.int g3), .val (.int sh), .val (.int cu), .val (.int de), .val (.int r1), .val (.int r2), .unset, .unset, .unset, .unset, .unset, .unset, .unset, .unset] [(.int g3), (.int (r2 + (1 : Int32)))])) rfl (hb hby at_24) _ ?_
    show Steps p.tables e below (s₁.setTop (mkF m 26 #[.val (.int g1), .val (.int g2), .val (.int g3), .val (.int sh), .val (.int cu), .val (.int de), .val (.int r1), .val (.int r2), .unset, .unset, .unset, .unset, .unset, .unset, .unset, .unset] [(.int (536870911 : Int32)), (.int g3), (.int (r2 + (1 : Int32)))])) _
    refine XS.iand X0.here hx rfl (hb hby at_26) rfl ?_
    show Steps p.tables e below (s₁.setTop (mkF m 27 #[.val (.int g1), .val (.int g2), .val (.int g3), .val (.int sh), .val (.int cu), .val (.int de), .val (.int r1), .val (.int r2), .unset, .unset, .unset, .unset, .unset, .unset, .unset, .unset] [(.int (g3 &&& (536870911 : Int32))), (.int (r2 + (1 : Int32)))])) _
    refine XS.iadd X0.here hx rfl (hb hby at_27) rfl ?_
    show Steps p.tables e below (s₁.setTop (mkF m 28 #[.val (.int g1), .val (.int g2), .val (.int g3), .val (.int sh), .val (.int cu), .val (.int de), .val (.int r1), .val (.int r2), .unset, .unset, .unset, .unset, .unset, .unset, .unset, .unset] [(.int ((r2 + (1 : Int32)) + (g3 &&& (536870911 : Int32))))])) _
    refine castTop (g' := (mkF m 28 #[.val (.int g1), .val (.int g2), .val (.int g3), .val (.int sh), .val (.int cu), .val (.int de), .val (.int r1), .val (.int r2), .unset, .unset, .unset, .unset, .unset, .unset, .unset, .unset] [(.int r3)])) (by rw [hr3]) ?_
    show Steps p.tables e below (s₁.setTop (mkF m 28 #[.val (.int g1), .val (.int g2), .val (.int g3), .val (.int sh), .val (.int cu), .val (.int de), .val (.int r1), .val (.int r2), .unset, .unset, .unset, .unset, .unset, .unset, .unset, .unset] [(.int r3)])) _
    refine XS.istore X0.here hx rfl (hb hby at_28) rfl (l' := #[.val (.int g1), .val (.int g2), .val (.int g3), .val (.int sh), .val (.int cu), .val (.int de), .val (.int r1), .val (.int r2), .val (.int r3), .unset, .unset, .unset, .unset, .unset, .unset, .unset]) rfl ?_
    show Steps p.tables e below (s₁.setTop (mkF m 30 #[.val (.int g1), .val (.int g2), .val (.int g3), .val (.int sh), .val (.int cu), .val (.int de), .val (.int r1), .val (.int r2), .val (.int r3), .unset, .unset, .unset, .unset, .unset, .unset, .unset] [])) _
    refine XS.iloadN X0.here hx rfl (hb hby at_30) rfl ?_
    show Steps p.tables e below (s₁.setTop (mkF m 31 #[.val (.int g1), .val (.int g2), .val (.int g3), .val (.int sh), .val (.int cu), .val (.int de), .val (.int r1), .val (.int r2), .val (.int r3), .unset, .unset, .unset, .unset, .unset, .unset, .unset] [(.int sh)])) _
    refine XS.iconst X0.here hx rfl (hb hby at_31) ?_
    show Steps p.tables e below (s₁.setTop (mkF m 32 #[.val (.int g1), .val (.int g2), .val (.int g3), .val (.int sh), .val (.int cu), .val (.int de), .val (.int r1), .val (.int r2), .val (.int r3), .unset, .unset, .unset, .unset, .unset, .unset, .unset] [(.int (3 : Int32)), (.int sh)])) _
    refine XS.iand X0.here hx rfl (hb hby at_32) rfl ?_
    show Steps p.tables e below (s₁.setTop (mkF m 33 #[.val (.int g1), .val (.int g2), .val (.int g3), .val (.int sh), .val (.int cu), .val (.int de), .val (.int r1), .val (.int r2), .val (.int r3), .unset, .unset, .unset, .unset, .unset, .unset, .unset] [(.int (sh &&& (3 : Int32)))])) _
    refine castTop (g' := (mkF m 33 #[.val (.int g1), .val (.int g2), .val (.int g3), .val (.int sh), .val (.int cu), .val (.int de), .val (.int r1), .val (.int r2), .val (.int r3), .unset, .unset, .unset, .unset, .unset, .unset, .unset] [(.int n)])) (by rw [hn]) ?_
    show Steps p.tables e below (s₁.setTop (mkF m 33 #[.val (.int g1), .val (.int g2), .val (.int g3), .val (.int sh), .val (.int cu), .val (.int de), .val (.int r1), .val (.int r2), .val (.int r3), .unset, .unset, .unset, .unset, .unset, .unset, .unset] [(.int n)])) _
    refine XS.istore X0.here hx rfl (hb hby at_33) rfl (l' := #[.val (.int g1), .val (.int g2), .val (.int g3), .val (.int sh), .val (.int cu), .val (.int de), .val (.int r1), .val (.int r2), .val (.int r3), .val (.int n), .unset, .unset, .unset, .unset, .unset, .unset]) rfl ?_
    exact k)
  obtain ⟨R12, R23⟩ := own_ranks hr1 hr2 hr3
  rcases own_n4 sh n hn with rfl | rfl | rfl | rfl
  · have k102 : ∀ t, Steps p.tables e below (s₁.setTop (mkF m 41 #[.val (.int g1), .val (.int g2), .val (.int g3), .val (.int sh), .val (.int cu), .val (.int de), .val (.int r1), .val (.int r2), .val (.int r3), .val (.int (0 : Int32)), .unset, .unset, .unset, .unset, .unset, .unset] [(.int (0 : Int32))])) t → Steps p.tables e below (s₁.setTop (entryFrame m #[(.int g1), (.int g2), (.int g3), (.int sh), (.int cu), (.int de)] maxLocals)) t := fun t k => k101 t (by
      show Steps p.tables e below (s₁.setTop (mkF m 35 #[.val (.int g1), .val (.int g2), .val (.int g3), .val (.int sh), .val (.int cu), .val (.int de), .val (.int r1), .val (.int r2), .val (.int r3), .val (.int (0 : Int32)), .unset, .unset, .unset, .unset, .unset, .unset] [])) _
      refine XS.iload X0.here hx rfl (hb hby at_35) rfl ?_
      show Steps p.tables e below (s₁.setTop (mkF m 37 #[.val (.int g1), .val (.int g2), .val (.int g3), .val (.int sh), .val (.int cu), .val (.int de), .val (.int r1), .val (.int r2), .val (.int r3), .val (.int (0 : Int32)), .unset, .unset, .unset, .unset, .unset, .unset] [(.int (0 : Int32))])) _
      refine XS.ifNo X0.here hx rfl (hb hby at_37) rfl ((if0 _ _).trans (teq (by decide)).2) ?_
      show Steps p.tables e below (s₁.setTop (mkF m 40 #[.val (.int g1), .val (.int g2), .val (.int g3), .val (.int sh), .val (.int cu), .val (.int de), .val (.int r1), .val (.int r2), .val (.int r3), .val (.int (0 : Int32)), .unset, .unset, .unset, .unset, .unset, .unset] [])) _
      refine XS.iconst X0.here hx rfl (hb hby at_40) ?_
      exact k)
    obtain ⟨T103, h103, k103, X103, e103, E103, A103, st103⟩ := newP X0 hx hZ (hw _ (List.mem_of_getElem? (i := 1) rfl)) e0 (g := (mkF m 41 #[.val (.int g1), .val (.int g2), .val (.int g3), .val (.int sh), .val (.int cu), .val (.int de), .val (.int r1), .val (.int r2), .val (.int r3), .val (.int (0 : Int32)), .unset, .unset, .unset, .unset, .unset, .unset] [(.int (0 : Int32))])) rfl (hb hby at_41) rfl (by decide) (cap := 0) (by decide) (by decide) (by decide) (by decide)
    obtain ⟨b103, g103⟩ : ∃ z, z = h0.size := ⟨_, rfl⟩
    rw [← g103] at A103 st103
    have g104 : n0 ≤ b103 := Nat.le_trans Z0 (Nat.le_of_eq g103.symm)
    have Z105 : n0 ≤ h103.size := Nat.le_trans Z0 E103.1
    have hk106 : 0 ≤ h103.size := Nat.le_trans (Nat.zero_le _) E103.1
    have V107 : Arv Z h103 b103 k103 .int (0 : Int32) [] (.int (0 : Int32)) := (Arv.new A103 (by decide)).pad (pad_rep [] (.int (0 : Int32)) 0)
    have k108 : ∀ t, Steps p.tables e below (T103.setTop (mkF m 43 #[.val (.int g1), .val (.int g2), .val (.int g3), .val (.int sh), .val (.int cu), .val (.int de), .val (.int r1), .val (.int r2), .val (.int r3), .val (.int (0 : Int32)), .unset, .unset, .unset, .unset, .unset, .unset] [(.ref b103)])) t → Steps p.tables e below (s₁.setTop (entryFrame m #[(.int g1), (.int g2), (.int g3), (.int sh), (.int cu), (.int de)] maxLocals)) t := fun t k => k102 t (st103 t k)
    obtain ⟨md, hmd⟩ : ∃ z : Int32, z = (((sh.toUInt32 >>> ((2 : Int32) &&& 31).toUInt32).toInt32) &&& (3 : Int32)) := ⟨_, rfl⟩
    obtain ⟨dd, hdd⟩ : ∃ z : Int32, z = ((de &&& (3 : Int32)) - (1 : Int32)) := ⟨_, rfl⟩
    have k109 : ∀ t, Steps p.tables e below (T103.setTop (mkF m 126 #[.val (.int g1), .val (.int g2), .val (.int g3), .val (.int sh), .val (.int cu), .val (.int de), .val (.int r1), .val (.int r2), .val (.int r3), .val (.int (0 : Int32)), .val (.ref b103), .val (.int md), .val (.int dd), .unset, .unset, .unset] [])) t → Steps p.tables e below (s₁.setTop (entryFrame m #[(.int g1), (.int g2), (.int g3), (.int sh), (.int cu), (.int de)] maxLocals)) t := fun t k => k108 t (by
      show Steps p.tables e below (T103.setTop (mkF m 43 #[.val (.int g1), .val (.int g2), .val (.int g3), .val (.int sh), .val (.int cu), .val (.int de), .val (.int r1), .val (.int r2), .val (.int r3), .val (.int (0 : Int32)), .unset, .unset, .unset, .unset, .unset, .unset] [(.ref b103)])) _
      refine XS.astore X103.here hx rfl (hb hby at_43) rfl rfl (l' := #[.val (.int g1), .val (.int g2), .val (.int g3), .val (.int sh), .val (.int cu), .val (.int de), .val (.int r1), .val (.int r2), .val (.int r3), .val (.int (0 : Int32)), .val (.ref b103), .unset, .unset, .unset, .unset, .unset]) rfl ?_
      show Steps p.tables e below (T103.setTop (mkF m 45 #[.val (.int g1), .val (.int g2), .val (.int g3), .val (.int sh), .val (.int cu), .val (.int de), .val (.int r1), .val (.int r2), .val (.int r3), .val (.int (0 : Int32)), .val (.ref b103), .unset, .unset, .unset, .unset, .unset] [])) _
      refine XS.goto X103.here hx rfl (pc0 := 45) (pc' := 111) rfl (hb hby at_45) (by decide) (by decide) ?_
      show Steps p.tables e below (T103.setTop (mkF m 111 #[.val (.int g1), .val (.int g2), .val (.int g3), .val (.int sh), .val (.int cu), .val (.int de), .val (.int r1), .val (.int r2), .val (.int r3), .val (.int (0 : Int32)), .val (.ref b103), .unset, .unset, .unset, .unset, .unset] [])) _
      refine XS.iloadN X103.here hx rfl (hb hby at_111) rfl ?_
      show Steps p.tables e below (T103.setTop (mkF m 112 #[.val (.int g1), .val (.int g2), .val (.int g3), .val (.int sh), .val (.int cu), .val (.int de), .val (.int r1), .val (.int r2), .val (.int r3), .val (.int (0 : Int32)), .val (.ref b103), .unset, .unset, .unset, .unset, .unset] [(.int sh)])) _
      refine XS.iconst X103.here hx rfl (hb hby at_112) ?_
      show Steps p.tables e below (T103.setTop (mkF m 113 #[.val (.int g1), .val (.int g2), .val (.int g3), .val (.int sh), .val (.int cu), .val (.int de), .val (.int r1), .val (.int r2), .val (.int r3), .val (.int (0 : Int32)), .val (.ref b103), .unset, .unset, .unset, .unset, .unset] [(.int (2 : Int32)), (.int sh)])) _
      refine XS.iushr X103.here hx rfl (hb hby at_113) rfl ?_
      show Steps p.tables e below (T103.setTop (mkF m 114 #[.val (.int g1), .val (.int g2), .val (.int g3), .val (.int sh), .val (.int cu), .val (.int de), .val (.int r1), .val (.int r2), .val (.int r3), .val (.int (0 : Int32)), .val (.ref b103), .unset, .unset, .unset, .unset, .unset] [(.int ((sh.toUInt32 >>> ((2 : Int32) &&& 31).toUInt32).toInt32))])) _
      refine XS.iconst X103.here hx rfl (hb hby at_114) ?_
      show Steps p.tables e below (T103.setTop (mkF m 115 #[.val (.int g1), .val (.int g2), .val (.int g3), .val (.int sh), .val (.int cu), .val (.int de), .val (.int r1), .val (.int r2), .val (.int r3), .val (.int (0 : Int32)), .val (.ref b103), .unset, .unset, .unset, .unset, .unset] [(.int (3 : Int32)), (.int ((sh.toUInt32 >>> ((2 : Int32) &&& 31).toUInt32).toInt32))])) _
      refine XS.iand X103.here hx rfl (hb hby at_115) rfl ?_
      show Steps p.tables e below (T103.setTop (mkF m 116 #[.val (.int g1), .val (.int g2), .val (.int g3), .val (.int sh), .val (.int cu), .val (.int de), .val (.int r1), .val (.int r2), .val (.int r3), .val (.int (0 : Int32)), .val (.ref b103), .unset, .unset, .unset, .unset, .unset] [(.int (((sh.toUInt32 >>> ((2 : Int32) &&& 31).toUInt32).toInt32) &&& (3 : Int32)))])) _
      refine castTop (g' := (mkF m 116 #[.val (.int g1), .val (.int g2), .val (.int g3), .val (.int sh), .val (.int cu), .val (.int de), .val (.int r1), .val (.int r2), .val (.int r3), .val (.int (0 : Int32)), .val (.ref b103), .unset, .unset, .unset, .unset, .unset] [(.int md)])) (by rw [hmd]) ?_
      show Steps p.tables e below (T103.setTop (mkF m 116 #[.val (.int g1), .val (.int g2), .val (.int g3), .val (.int sh), .val (.int cu), .val (.int de), .val (.int r1), .val (.int r2), .val (.int r3), .val (.int (0 : Int32)), .val (.ref b103), .unset, .unset, .unset, .unset, .unset] [(.int md)])) _
      refine XS.istore X103.here hx rfl (hb hby at_116) rfl (l' := #[.val (.int g1), .val (.int g2), .val (.int g3), .val (.int sh), .val (.int cu), .val (.int de), .val (.int r1), .val (.int r2), .val (.int r3), .val (.int (0 : Int32)), .val (.ref b103), .val (.int md), .unset, .unset, .unset, .unset]) rfl ?_
      show Steps p.tables e below (T103.setTop (mkF m 118 #[.val (.int g1), .val (.int g2), .val (.int g3), .val (.int sh), .val (.int cu), .val (.int de), .val (.int r1), .val (.int r2), .val (.int r3), .val (.int (0 : Int32)), .val (.ref b103), .val (.int md), .unset, .unset, .unset, .unset] [])) _
      refine XS.iload X103.here hx rfl (hb hby at_118) rfl ?_
      show Steps p.tables e below (T103.setTop (mkF m 120 #[.val (.int g1), .val (.int g2), .val (.int g3), .val (.int sh), .val (.int cu), .val (.int de), .val (.int r1), .val (.int r2), .val (.int r3), .val (.int (0 : Int32)), .val (.ref b103), .val (.int md), .unset, .unset, .unset, .unset] [(.int de)])) _
      refine XS.iconst X103.here hx rfl (hb hby at_120) ?_
      show Steps p.tables e below (T103.setTop (mkF m 121 #[.val (.int g1), .val (.int g2), .val (.int g3), .val (.int sh), .val (.int cu), .val (.int de), .val (.int r1), .val (.int r2), .val (.int r3), .val (.int (0 : Int32)), .val (.ref b103), .val (.int md), .unset, .unset, .unset, .unset] [(.int (3 : Int32)), (.int de)])) _
      refine XS.iand X103.here hx rfl (hb hby at_121) rfl ?_
      show Steps p.tables e below (T103.setTop (mkF m 122 #[.val (.int g1), .val (.int g2), .val (.int g3), .val (.int sh), .val (.int cu), .val (.int de), .val (.int r1), .val (.int r2), .val (.int r3), .val (.int (0 : Int32)), .val (.ref b103), .val (.int md), .unset, .unset, .unset, .unset] [(.int (de &&& (3 : Int32)))])) _
      refine XS.iconst X103.here hx rfl (hb hby at_122) ?_
      show Steps p.tables e below (T103.setTop (mkF m 123 #[.val (.int g1), .val (.int g2), .val (.int g3), .val (.int sh), .val (.int cu), .val (.int de), .val (.int r1), .val (.int r2), .val (.int r3), .val (.int (0 : Int32)), .val (.ref b103), .val (.int md), .unset, .unset, .unset, .unset] [(.int (1 : Int32)), (.int (de &&& (3 : Int32)))])) _
      refine XS.isub X103.here hx rfl (hb hby at_123) rfl ?_
      show Steps p.tables e below (T103.setTop (mkF m 124 #[.val (.int g1), .val (.int g2), .val (.int g3), .val (.int sh), .val (.int cu), .val (.int de), .val (.int r1), .val (.int r2), .val (.int r3), .val (.int (0 : Int32)), .val (.ref b103), .val (.int md), .unset, .unset, .unset, .unset] [(.int ((de &&& (3 : Int32)) - (1 : Int32)))])) _
      refine castTop (g' := (mkF m 124 #[.val (.int g1), .val (.int g2), .val (.int g3), .val (.int sh), .val (.int cu), .val (.int de), .val (.int r1), .val (.int r2), .val (.int r3), .val (.int (0 : Int32)), .val (.ref b103), .val (.int md), .unset, .unset, .unset, .unset] [(.int dd)])) (by rw [hdd]) ?_
      show Steps p.tables e below (T103.setTop (mkF m 124 #[.val (.int g1), .val (.int g2), .val (.int g3), .val (.int sh), .val (.int cu), .val (.int de), .val (.int r1), .val (.int r2), .val (.int r3), .val (.int (0 : Int32)), .val (.ref b103), .val (.int md), .unset, .unset, .unset, .unset] [(.int dd)])) _
      refine XS.istore X103.here hx rfl (hb hby at_124) rfl (l' := #[.val (.int g1), .val (.int g2), .val (.int g3), .val (.int sh), .val (.int cu), .val (.int de), .val (.int r1), .val (.int r2), .val (.int r3), .val (.int (0 : Int32)), .val (.ref b103), .val (.int md), .val (.int dd), .unset, .unset, .unset]) rfl ?_
      exact k)
    obtain ⟨T110, h110, Ls110, cut, X110, e110, N110, Zq110, hkq110, F134, hcut, kq110⟩ : ∃ (T110 : State) (h110 : Heap) (Ls110 : List Loc) (cut : Int32), Stand p l e room_1 (s.setVm s.vm) m #[(.int g1), (.int g2), (.int g3), (.int sh), (.int cu), (.int de)] below meth c T110 Ls110 1 0 ∧ T110.heap = h110 ∧ Fr n0 Ls110 ∧ n0 ≤ h110.size ∧ 0 ≤ h110.size ∧ Arv Z h110 b103 k103 .int (0 : Int32) [] (.int (0 : Int32)) ∧ 1 ≤ cut.toInt ∧ ∀ t, Steps p.tables e below (T110.setTop (mkF m 196 #[.val (.int g1), .val (.int g2), .val (.int g3), .val (.int sh), .val (.int cu), .val (.int de), .val (.int r1), .val (.int r2), .val (.int r3), .val (.int (0 : Int32)), .val (.ref b103), .val (.int md), .val (.int dd), .val (.int cut), .unset, .unset] [])) t → Steps p.tables e below (s₁.setTop (entryFrame m #[(.int g1), (.int g2), (.int g3), (.int sh), (.int cu), (.int de)] maxLocals)) t := by
      have k111 : ∀ t, Steps p.tables e below (T103.setTop (mkF m 128 #[.val (.int g1), .val (.int g2), .val (.int g3), .val (.int sh), .val (.int cu), .val (.int de), .val (.int r1), .val (.int r2), .val (.int r3), .val (.int (0 : Int32)), .val (.ref b103), .val (.int md), .val (.int dd), .unset, .unset, .unset] [(.int md)])) t → Steps p.tables e below (s₁.setTop (entryFrame m #[(.int g1), (.int g2), (.int g3), (.int sh), (.int cu), (.int de)] maxLocals)) t := fun t k => k109 t (by
        show Steps p.tables e below (T103.setTop (mkF m 126 #[.val (.int g1), .val (.int g2), .val (.int g3), .val (.int sh), .val (.int cu), .val (.int de), .val (.int r1), .val (.int r2), .val (.int r3), .val (.int (0 : Int32)), .val (.ref b103), .val (.int md), .val (.int dd), .unset, .unset, .unset] [])) _
        refine XS.iload X103.here hx rfl (hb hby at_126) rfl ?_
        exact k)
      by_cases m0 : md = (0 : Int32)
      · have k112 : ∀ t, Steps p.tables e below (T103.setTop (mkF m 137 #[.val (.int g1), .val (.int g2), .val (.int g3), .val (.int sh), .val (.int cu), .val (.int de), .val (.int r1), .val (.int r2), .val (.int r3), .val (.int (0 : Int32)), .val (.ref b103), .val (.int md), .val (.int dd), .unset, .unset, .unset] [(.int (cu &&& (2147483647 : Int32))), (.int (1 : Int32))])) t → Steps p.tables e below (s₁.setTop (entryFrame m #[(.int g1), (.int g2), (.int g3), (.int sh), (.int cu), (.int de)] maxLocals)) t := fun t k => k111 t (by
          show Steps p.tables e below (T103.setTop (mkF m 128 #[.val (.int g1), .val (.int g2), .val (.int g3), .val (.int sh), .val (.int cu), .val (.int de), .val (.int r1), .val (.int r2), .val (.int r3), .val (.int (0 : Int32)), .val (.ref b103), .val (.int md), .val (.int dd), .unset, .unset, .unset] [(.int md)])) _
          refine XS.ifNo X103.here hx rfl (hb hby at_128) rfl ((if0 _ _).trans (teq m0).2) ?_
          show Steps p.tables e below (T103.setTop (mkF m 131 #[.val (.int g1), .val (.int g2), .val (.int g3), .val (.int sh), .val (.int cu), .val (.int de), .val (.int r1), .val (.int r2), .val (.int r3), .val (.int (0 : Int32)), .val (.ref b103), .val (.int md), .val (.int dd), .unset, .unset, .unset] [])) _
          refine XS.iconst X103.here hx rfl (hb hby at_131) ?_
          show Steps p.tables e below (T103.setTop (mkF m 132 #[.val (.int g1), .val (.int g2), .val (.int g3), .val (.int sh), .val (.int cu), .val (.int de), .val (.int r1), .val (.int r2), .val (.int r3), .val (.int (0 : Int32)), .val (.ref b103), .val (.int md), .val (.int dd), .unset, .unset, .unset] [(.int (1 : Int32))])) _
          refine XS.iload X103.here hx rfl (hb hby at_132) rfl ?_
          show Steps p.tables e below (T103.setTop (mkF m 134 #[.val (.int g1), .val (.int g2), .val (.int g3), .val (.int sh), .val (.int cu), .val (.int de), .val (.int r1), .val (.int r2), .val (.int r3), .val (.int (0 : Int32)), .val (.ref b103), .val (.int md), .val (.int dd), .unset, .unset, .unset] [(.int cu), (.int (1 : Int32))])) _
          refine X103.ldcInt hx hown (mvT hZ (hw _ (List.mem_of_getElem? (i := 2) rfl))) (g := (mkF m 134 #[.val (.int g1), .val (.int g2), .val (.int g3), .val (.int sh), .val (.int cu), .val (.int de), .val (.int r1), .val (.int r2), .val (.int r3), .val (.int (0 : Int32)), .val (.ref b103), .val (.int md), .val (.int dd), .unset, .unset, .unset] [(.int cu), (.int (1 : Int32))])) rfl (hb hby at_134) _ ?_
          show Steps p.tables e below (T103.setTop (mkF m 136 #[.val (.int g1), .val (.int g2), .val (.int g3), .val (.int sh), .val (.int cu), .val (.int de), .val (.int r1), .val (.int r2), .val (.int r3), .val (.int (0 : Int32)), .val (.ref b103), .val (.int md), .val (.int dd), .unset, .unset, .unset] [(.int (2147483647 : Int32)), (.int cu), (.int (1 : Int32))])) _
          refine XS.iand X103.here hx rfl (hb hby at_136) rfl ?_
          exact k)
        obtain ⟨_, _, ⟨T113, L113, k113, n113⟩, -, X113, ⟨Lc113, hQ113, l113, y113, z113⟩, st113⟩ := Jvm.LawKit.callS X103 hx (y := (⟨"java/lang/Math", "max", "(II)I"⟩ : MethodName)) hown (mvT hZ (hw _ (List.mem_of_getElem? (i := 3) rfl))) (mvT hZ (hw _ (List.mem_of_getElem? (i := 4) rfl))) (mvT hZ (hw _ (List.mem_of_getElem? (i := 5) rfl))) (mvT hZ (hw _ (List.mem_of_getElem? (i := 6) rfl))) (by decide) (backOf (W := 0) (rm1 l Z a0 hw [] (1 : Int32) (cu &&& (2147483647 : Int32)) h103 n0 Z105 ) hZ (hw _ (List.mem_of_getElem? (i := 6) rfl)) (hw _ (List.mem_of_getElem? (i := 5) rfl)) (by decide) (by decide)) (g := (mkF m 137 #[.val (.int g1), .val (.int g2), .val (.int g3), .val (.int sh), .val (.int cu), .val (.int de), .val (.int r1), .val (.int r2), .val (.int r3), .val (.int (0 : Int32)), .val (.ref b103), .val (.int md), .val (.int dd), .unset, .unset, .unset] [(.int (cu &&& (2147483647 : Int32))), (.int (1 : Int32))])) rfl (by rw [hml]; rfl) (argsL := [(.int (1 : Int32)), (.int (cu &&& (2147483647 : Int32)))]) (rest := []) (lenOf pd__28II_29I rfl) rfl (by show 2 * 0 + _ ≤ _; exact Nat.le_of_eq rfl) (hb hby at_137) (fun _ _ => ⟨rfl, e103, (by decide : 1 + 0 ≤ _), (by decide : 0 + 0 ≤ _)⟩)
        dsimp only [Pt.U, Pt.locs, Pt.cells, Pt.slots] at X113 l113 y113 z113 st113 hQ113
        subst l113 y113 z113
        obtain ⟨rfl, N113q, e113⟩ := hQ113
        have N114 := Fr.app N0 N113q
        have k115 : ∀ t, Steps p.tables e below (T113.setTop (mkF m 140 #[.val (.int g1), .val (.int g2), .val (.int g3), .val (.int sh), .val (.int cu), .val (.int de), .val (.int r1), .val (.int r2), .val (.int r3), .val (.int (0 : Int32)), .val (.ref b103), .val (.int md), .val (.int dd), .unset, .unset, .unset] [(.int (if (1 : Int32) < (cu &&& (2147483647 : Int32)) then (cu &&& (2147483647 : Int32)) else (1 : Int32)))])) t → Steps p.tables e below (s₁.setTop (entryFrame m #[(.int g1), (.int g2), (.int g3), (.int sh), (.int cu), (.int de)] maxLocals)) t := fun t k => k112 t (st113 t k)
        have k116 : ∀ t, Steps p.tables e below (T113.setTop (mkF m 196 #[.val (.int g1), .val (.int g2), .val (.int g3), .val (.int sh), .val (.int cu), .val (.int de), .val (.int r1), .val (.int r2), .val (.int r3), .val (.int (0 : Int32)), .val (.ref b103), .val (.int md), .val (.int dd), .val (.int (if (1 : Int32) < (cu &&& (2147483647 : Int32)) then (cu &&& (2147483647 : Int32)) else (1 : Int32))), .unset, .unset] [])) t → Steps p.tables e below (s₁.setTop (entryFrame m #[(.int g1), (.int g2), (.int g3), (.int sh), (.int cu), (.int de)] maxLocals)) t := fun t k => k115 t (by
          show Steps p.tables e below (T113.setTop (mkF m 140 #[.val (.int g1), .val (.int g2), .val (.int g3), .val (.int sh), .val (.int cu), .val (.int de), .val (.int r1), .val (.int r2), .val (.int r3), .val (.int (0 : Int32)), .val (.ref b103), .val (.int md), .val (.int dd), .unset, .unset, .unset] [(.int (if (1 : Int32) < (cu &&& (2147483647 : Int32)) then (cu &&& (2147483647 : Int32)) else (1 : Int32)))])) _
          refine XS.istore X113.here hx rfl (hb hby at_140) rfl (l' := #[.val (.int g1), .val (.int g2), .val (.int g3), .val (.int sh), .val (.int cu), .val (.int de), .val (.int r1), .val (.int r2), .val (.int r3), .val (.int (0 : Int32)), .val (.ref b103), .val (.int md), .val (.int dd), .val (.int (if (1 : Int32) < (cu &&& (2147483647 : Int32)) then (cu &&& (2147483647 : Int32)) else (1 : Int32))), .unset, .unset]) rfl ?_
          show Steps p.tables e below (T113.setTop (mkF m 142 #[.val (.int g1), .val (.int g2), .val (.int g3), .val (.int sh), .val (.int cu), .val (.int de), .val (.int r1), .val (.int r2), .val (.int r3), .val (.int (0 : Int32)), .val (.ref b103), .val (.int md), .val (.int dd), .val (.int (if (1 : Int32) < (cu &&& (2147483647 : Int32)) then (cu &&& (2147483647 : Int32)) else (1 : Int32))), .unset, .unset] [])) _
          refine XS.goto X113.here hx rfl (pc0 := 142) (pc' := 196) rfl (hb hby at_142) (by decide) (by decide) ?_
          exact k)
        exact ⟨T113, h103, _, (if (1 : Int32) < (cu &&& (2147483647 : Int32)) then (cu &&& (2147483647 : Int32)) else (1 : Int32)), X113, e113, N114, Z105, hk106, V107, (own_max1 _), k116⟩
      · have k117 : ∀ t, Steps p.tables e below (T103.setTop (mkF m 148 #[.val (.int g1), .val (.int g2), .val (.int g3), .val (.int sh), .val (.int cu), .val (.int de), .val (.int r1), .val (.int r2), .val (.int r3), .val (.int (0 : Int32)), .val (.ref b103), .val (.int md), .val (.int dd), .unset, .unset, .unset] [(.int (1 : Int32)), (.int md)])) t → Steps p.tables e below (s₁.setTop (entryFrame m #[(.int g1), (.int g2), (.int g3), (.int sh), (.int cu), (.int de)] maxLocals)) t := fun t k => k111 t (by
          show Steps p.tables e below (T103.setTop (mkF m 128 #[.val (.int g1), .val (.int g2), .val (.int g3), .val (.int sh), .val (.int cu), .val (.int de), .val (.int r1), .val (.int r2), .val (.int r3), .val (.int (0 : Int32)), .val (.ref b103), .val (.int md), .val (.int dd), .unset, .unset, .unset] [(.int md)])) _
          refine XS.ifYes X103.here hx rfl (pc0 := 128) (pc' := 145) rfl (hb hby at_128) rfl ((if0 _ _).trans (feq m0).2) (by decide) (by decide) ?_
          show Steps p.tables e below (T103.setTop (mkF m 145 #[.val (.int g1), .val (.int g2), .val (.int g3), .val (.int sh), .val (.int cu), .val (.int de), .val (.int r1), .val (.int r2), .val (.int r3), .val (.int (0 : Int32)), .val (.ref b103), .val (.int md), .val (.int dd), .unset, .unset, .unset] [])) _
          refine XS.iload X103.here hx rfl (hb hby at_145) rfl ?_
          show Steps p.tables e below (T103.setTop (mkF m 147 #[.val (.int g1), .val (.int g2), .val (.int g3), .val (.int sh), .val (.int cu), .val (.int de), .val (.int r1), .val (.int r2), .val (.int r3), .val (.int (0 : Int32)), .val (.ref b103), .val (.int md), .val (.int dd), .unset, .unset, .unset] [(.int md)])) _
          refine XS.iconst X103.here hx rfl (hb hby at_147) ?_
          exact k)
        by_cases m1 : md = (1 : Int32)
        · have k118 : ∀ t, Steps p.tables e below (T103.setTop (mkF m 157 #[.val (.int g1), .val (.int g2), .val (.int g3), .val (.int sh), .val (.int cu), .val (.int de), .val (.int r1), .val (.int r2), .val (.int r3), .val (.int (0 : Int32)), .val (.ref b103), .val (.int md), .val (.int dd), .unset, .unset, .unset] [(.int (r1 + dd)), (.int (1 : Int32))])) t → Steps p.tables e below (s₁.setTop (entryFrame m #[(.int g1), (.int g2), (.int g3), (.int sh), (.int cu), (.int de)] maxLocals)) t := fun t k => k117 t (by
            show Steps p.tables e below (T103.setTop (mkF m 148 #[.val (.int g1), .val (.int g2), .val (.int g3), .val (.int sh), .val (.int cu), .val (.int de), .val (.int r1), .val (.int r2), .val (.int r3), .val (.int (0 : Int32)), .val (.ref b103), .val (.int md), .val (.int dd), .unset, .unset, .unset] [(.int (1 : Int32)), (.int md)])) _
            refine XS.icmpNo X103.here hx rfl (hb hby at_148) rfl (teq m1).2 ?_
            show Steps p.tables e below (T103.setTop (mkF m 151 #[.val (.int g1), .val (.int g2), .val (.int g3), .val (.int sh), .val (.int cu), .val (.int de), .val (.int r1), .val (.int r2), .val (.int r3), .val (.int (0 : Int32)), .val (.ref b103), .val (.int md), .val (.int dd), .unset, .unset, .unset] [])) _
            refine XS.iconst X103.here hx rfl (hb hby at_151) ?_
            show Steps p.tables e below (T103.setTop (mkF m 152 #[.val (.int g1), .val (.int g2), .val (.int g3), .val (.int sh), .val (.int cu), .val (.int de), .val (.int r1), .val (.int r2), .val (.int r3), .val (.int (0 : Int32)), .val (.ref b103), .val (.int md), .val (.int dd), .unset, .unset, .unset] [(.int (1 : Int32))])) _
            refine XS.iload X103.here hx rfl (hb hby at_152) rfl ?_
            show Steps p.tables e below (T103.setTop (mkF m 154 #[.val (.int g1), .val (.int g2), .val (.int g3), .val (.int sh), .val (.int cu), .val (.int de), .val (.int r1), .val (.int r2), .val (.int r3), .val (.int (0 : Int32)), .val (.ref b103), .val (.int md), .val (.int dd), .unset, .unset, .unset] [(.int r1), (.int (1 : Int32))])) _
            refine XS.iload X103.here hx rfl (hb hby at_154) rfl ?_
            show Steps p.tables e below (T103.setTop (mkF m 156 #[.val (.int g1), .val (.int g2), .val (.int g3), .val (.int sh), .val (.int cu), .val (.int de), .val (.int r1), .val (.int r2), .val (.int r3), .val (.int (0 : Int32)), .val (.ref b103), .val (.int md), .val (.int dd), .unset, .unset, .unset] [(.int dd), (.int r1), (.int (1 : Int32))])) _
            refine XS.iadd X103.here hx rfl (hb hby at_156) rfl ?_
            exact k)
          obtain ⟨_, _, ⟨T119, L119, k119, n119⟩, -, X119, ⟨Lc119, hQ119, l119, y119, z119⟩, st119⟩ := Jvm.LawKit.callS X103 hx (y := (⟨"java/lang/Math", "max", "(II)I"⟩ : MethodName)) hown (mvT hZ (hw _ (List.mem_of_getElem? (i := 3) rfl))) (mvT hZ (hw _ (List.mem_of_getElem? (i := 4) rfl))) (mvT hZ (hw _ (List.mem_of_getElem? (i := 5) rfl))) (mvT hZ (hw _ (List.mem_of_getElem? (i := 6) rfl))) (by decide) (backOf (W := 0) (rm1 l Z a0 hw [] (1 : Int32) (r1 + dd) h103 n0 Z105 ) hZ (hw _ (List.mem_of_getElem? (i := 6) rfl)) (hw _ (List.mem_of_getElem? (i := 5) rfl)) (by decide) (by decide)) (g := (mkF m 157 #[.val (.int g1), .val (.int g2), .val (.int g3), .val (.int sh), .val (.int cu), .val (.int de), .val (.int r1), .val (.int r2), .val (.int r3), .val (.int (0 : Int32)), .val (.ref b103), .val (.int md), .val (.int dd), .unset, .unset, .unset] [(.int (r1 + dd)), (.int (1 : Int32))])) rfl (by rw [hml]; rfl) (argsL := [(.int (1 : Int32)), (.int (r1 + dd))]) (rest := []) (lenOf pd__28II_29I rfl) rfl (by show 2 * 0 + _ ≤ _; exact Nat.le_of_eq rfl) (hb hby at_157) (fun _ _ => ⟨rfl, e103, (by decide : 1 + 0 ≤ _), (by decide : 0 + 0 ≤ _)⟩)
          dsimp only [Pt.U, Pt.locs, Pt.cells, Pt.slots] at X119 l119 y119 z119 st119 hQ119
          subst l119 y119 z119
          obtain ⟨rfl, N119q, e119⟩ := hQ119
          have N120 := Fr.app N0 N119q
          have k121 : ∀ t, Steps p.tables e below (T119.setTop (mkF m 160 #[.val (.int g1), .val (.int g2), .val (.int g3), .val (.int sh), .val (.int cu), .val (.int de), .val (.int r1), .val (.int r2), .val (.int r3), .val (.int (0 : Int32)), .val (.ref b103), .val (.int md), .val (.int dd), .unset, .unset, .unset] [(.int (if (1 : Int32) < (r1 + dd) then (r1 + dd) else (1 : Int32)))])) t → Steps p.tables e below (s₁.setTop (entryFrame m #[(.int g1), (.int g2), (.int g3), (.int sh), (.int cu), (.int de)] maxLocals)) t := fun t k => k118 t (st119 t k)
          have k122 : ∀ t, Steps p.tables e below (T119.setTop (mkF m 196 #[.val (.int g1), .val (.int g2), .val (.int g3), .val (.int sh), .val (.int cu), .val (.int de), .val (.int r1), .val (.int r2), .val (.int r3), .val (.int (0 : Int32)), .val (.ref b103), .val (.int md), .val (.int dd), .val (.int (if (1 : Int32) < (r1 + dd) then (r1 + dd) else (1 : Int32))), .unset, .unset] [])) t → Steps p.tables e below (s₁.setTop (entryFrame m #[(.int g1), (.int g2), (.int g3), (.int sh), (.int cu), (.int de)] maxLocals)) t := fun t k => k121 t (by
            show Steps p.tables e below (T119.setTop (mkF m 160 #[.val (.int g1), .val (.int g2), .val (.int g3), .val (.int sh), .val (.int cu), .val (.int de), .val (.int r1), .val (.int r2), .val (.int r3), .val (.int (0 : Int32)), .val (.ref b103), .val (.int md), .val (.int dd), .unset, .unset, .unset] [(.int (if (1 : Int32) < (r1 + dd) then (r1 + dd) else (1 : Int32)))])) _
            refine XS.istore X119.here hx rfl (hb hby at_160) rfl (l' := #[.val (.int g1), .val (.int g2), .val (.int g3), .val (.int sh), .val (.int cu), .val (.int de), .val (.int r1), .val (.int r2), .val (.int r3), .val (.int (0 : Int32)), .val (.ref b103), .val (.int md), .val (.int dd), .val (.int (if (1 : Int32) < (r1 + dd) then (r1 + dd) else (1 : Int32))), .unset, .unset]) rfl ?_
            show Steps p.tables e below (T119.setTop (mkF m 162 #[.val (.int g1), .val (.int g2), .val (.int g3), .val (.int sh), .val (.int cu), .val (.int de), .val (.int r1), .val (.int r2), .val (.int r3), .val (.int (0 : Int32)), .val (.ref b103), .val (.int md), .val (.int dd), .val (.int (if (1 : Int32) < (r1 + dd) then (r1 + dd) else (1 : Int32))), .unset, .unset] [])) _
            refine XS.goto X119.here hx rfl (pc0 := 162) (pc' := 196) rfl (hb hby at_162) (by decide) (by decide) ?_
            exact k)
          exact ⟨T119, h103, _, (if (1 : Int32) < (r1 + dd) then (r1 + dd) else (1 : Int32)), X119, e119, N120, Z105, hk106, V107, (own_max1 _), k122⟩
        · have k123 : ∀ t, Steps p.tables e below (T103.setTop (mkF m 168 #[.val (.int g1), .val (.int g2), .val (.int g3), .val (.int sh), .val (.int cu), .val (.int de), .val (.int r1), .val (.int r2), .val (.int r3), .val (.int (0 : Int32)), .val (.ref b103), .val (.int md), .val (.int dd), .unset, .unset, .unset] [(.int (2 : Int32)), (.int md)])) t → Steps p.tables e below (s₁.setTop (entryFrame m #[(.int g1), (.int g2), (.int g3), (.int sh), (.int cu), (.int de)] maxLocals)) t := fun t k => k117 t (by
            show Steps p.tables e below (T103.setTop (mkF m 148 #[.val (.int g1), .val (.int g2), .val (.int g3), .val (.int sh), .val (.int cu), .val (.int de), .val (.int r1), .val (.int r2), .val (.int r3), .val (.int (0 : Int32)), .val (.ref b103), .val (.int md), .val (.int dd), .unset, .unset, .unset] [(.int (1 : Int32)), (.int md)])) _
            refine XS.icmpYes X103.here hx rfl (pc0 := 148) (pc' := 165) rfl (hb hby at_148) rfl (feq m1).2 (by decide) (by decide) ?_
            show Steps p.tables e below (T103.setTop (mkF m 165 #[.val (.int g1), .val (.int g2), .val (.int g3), .val (.int sh), .val (.int cu), .val (.int de), .val (.int r1), .val (.int r2), .val (.int r3), .val (.int (0 : Int32)), .val (.ref b103), .val (.int md), .val (.int dd), .unset, .unset, .unset] [])) _
            refine XS.iload X103.here hx rfl (hb hby at_165) rfl ?_
            show Steps p.tables e below (T103.setTop (mkF m 167 #[.val (.int g1), .val (.int g2), .val (.int g3), .val (.int sh), .val (.int cu), .val (.int de), .val (.int r1), .val (.int r2), .val (.int r3), .val (.int (0 : Int32)), .val (.ref b103), .val (.int md), .val (.int dd), .unset, .unset, .unset] [(.int md)])) _
            refine XS.iconst X103.here hx rfl (hb hby at_167) ?_
            exact k)
          by_cases m2 : md = (2 : Int32)
          · have k124 : ∀ t, Steps p.tables e below (T103.setTop (mkF m 177 #[.val (.int g1), .val (.int g2), .val (.int g3), .val (.int sh), .val (.int cu), .val (.int de), .val (.int r1), .val (.int r2), .val (.int r3), .val (.int (0 : Int32)), .val (.ref b103), .val (.int md), .val (.int dd), .unset, .unset, .unset] [(.int (r2 + dd)), (.int (1 : Int32))])) t → Steps p.tables e below (s₁.setTop (entryFrame m #[(.int g1), (.int g2), (.int g3), (.int sh), (.int cu), (.int de)] maxLocals)) t := fun t k => k123 t (by
              show Steps p.tables e below (T103.setTop (mkF m 168 #[.val (.int g1), .val (.int g2), .val (.int g3), .val (.int sh), .val (.int cu), .val (.int de), .val (.int r1), .val (.int r2), .val (.int r3), .val (.int (0 : Int32)), .val (.ref b103), .val (.int md), .val (.int dd), .unset, .unset, .unset] [(.int (2 : Int32)), (.int md)])) _
              refine XS.icmpNo X103.here hx rfl (hb hby at_168) rfl (teq m2).2 ?_
              show Steps p.tables e below (T103.setTop (mkF m 171 #[.val (.int g1), .val (.int g2), .val (.int g3), .val (.int sh), .val (.int cu), .val (.int de), .val (.int r1), .val (.int r2), .val (.int r3), .val (.int (0 : Int32)), .val (.ref b103), .val (.int md), .val (.int dd), .unset, .unset, .unset] [])) _
              refine XS.iconst X103.here hx rfl (hb hby at_171) ?_
              show Steps p.tables e below (T103.setTop (mkF m 172 #[.val (.int g1), .val (.int g2), .val (.int g3), .val (.int sh), .val (.int cu), .val (.int de), .val (.int r1), .val (.int r2), .val (.int r3), .val (.int (0 : Int32)), .val (.ref b103), .val (.int md), .val (.int dd), .unset, .unset, .unset] [(.int (1 : Int32))])) _
              refine XS.iload X103.here hx rfl (hb hby at_172) rfl ?_
              show Steps p.tables e below (T103.setTop (mkF m 174 #[.val (.int g1), .val (.int g2), .val (.int g3), .val (.int sh), .val (.int cu), .val (.int de), .val (.int r1), .val (.int r2), .val (.int r3), .val (.int (0 : Int32)), .val (.ref b103), .val (.int md), .val (.int dd), .unset, .unset, .unset] [(.int r2), (.int (1 : Int32))])) _
              refine XS.iload X103.here hx rfl (hb hby at_174) rfl ?_
              show Steps p.tables e below (T103.setTop (mkF m 176 #[.val (.int g1), .val (.int g2), .val (.int g3), .val (.int sh), .val (.int cu), .val (.int de), .val (.int r1), .val (.int r2), .val (.int r3), .val (.int (0 : Int32)), .val (.ref b103), .val (.int md), .val (.int dd), .unset, .unset, .unset] [(.int dd), (.int r2), (.int (1 : Int32))])) _
              refine XS.iadd X103.here hx rfl (hb hby at_176) rfl ?_
              exact k)
            obtain ⟨_, _, ⟨T125, L125, k125, n125⟩, -, X125, ⟨Lc125, hQ125, l125, y125, z125⟩, st125⟩ := Jvm.LawKit.callS X103 hx (y := (⟨"java/lang/Math", "max", "(II)I"⟩ : MethodName)) hown (mvT hZ (hw _ (List.mem_of_getElem? (i := 3) rfl))) (mvT hZ (hw _ (List.mem_of_getElem? (i := 4) rfl))) (mvT hZ (hw _ (List.mem_of_getElem? (i := 5) rfl))) (mvT hZ (hw _ (List.mem_of_getElem? (i := 6) rfl))) (by decide) (backOf (W := 0) (rm1 l Z a0 hw [] (1 : Int32) (r2 + dd) h103 n0 Z105 ) hZ (hw _ (List.mem_of_getElem? (i := 6) rfl)) (hw _ (List.mem_of_getElem? (i := 5) rfl)) (by decide) (by decide)) (g := (mkF m 177 #[.val (.int g1), .val (.int g2), .val (.int g3), .val (.int sh), .val (.int cu), .val (.int de), .val (.int r1), .val (.int r2), .val (.int r3), .val (.int (0 : Int32)), .val (.ref b103), .val (.int md), .val (.int dd), .unset, .unset, .unset] [(.int (r2 + dd)), (.int (1 : Int32))])) rfl (by rw [hml]; rfl) (argsL := [(.int (1 : Int32)), (.int (r2 + dd))]) (rest := []) (lenOf pd__28II_29I rfl) rfl (by show 2 * 0 + _ ≤ _; exact Nat.le_of_eq rfl) (hb hby at_177) (fun _ _ => ⟨rfl, e103, (by decide : 1 + 0 ≤ _), (by decide : 0 + 0 ≤ _)⟩)
            dsimp only [Pt.U, Pt.locs, Pt.cells, Pt.slots] at X125 l125 y125 z125 st125 hQ125
            subst l125 y125 z125
            obtain ⟨rfl, N125q, e125⟩ := hQ125
            have N126 := Fr.app N0 N125q
            have k127 : ∀ t, Steps p.tables e below (T125.setTop (mkF m 180 #[.val (.int g1), .val (.int g2), .val (.int g3), .val (.int sh), .val (.int cu), .val (.int de), .val (.int r1), .val (.int r2), .val (.int r3), .val (.int (0 : Int32)), .val (.ref b103), .val (.int md), .val (.int dd), .unset, .unset, .unset] [(.int (if (1 : Int32) < (r2 + dd) then (r2 + dd) else (1 : Int32)))])) t → Steps p.tables e below (s₁.setTop (entryFrame m #[(.int g1), (.int g2), (.int g3), (.int sh), (.int cu), (.int de)] maxLocals)) t := fun t k => k124 t (st125 t k)
            have k128 : ∀ t, Steps p.tables e below (T125.setTop (mkF m 196 #[.val (.int g1), .val (.int g2), .val (.int g3), .val (.int sh), .val (.int cu), .val (.int de), .val (.int r1), .val (.int r2), .val (.int r3), .val (.int (0 : Int32)), .val (.ref b103), .val (.int md), .val (.int dd), .val (.int (if (1 : Int32) < (r2 + dd) then (r2 + dd) else (1 : Int32))), .unset, .unset] [])) t → Steps p.tables e below (s₁.setTop (entryFrame m #[(.int g1), (.int g2), (.int g3), (.int sh), (.int cu), (.int de)] maxLocals)) t := fun t k => k127 t (by
              show Steps p.tables e below (T125.setTop (mkF m 180 #[.val (.int g1), .val (.int g2), .val (.int g3), .val (.int sh), .val (.int cu), .val (.int de), .val (.int r1), .val (.int r2), .val (.int r3), .val (.int (0 : Int32)), .val (.ref b103), .val (.int md), .val (.int dd), .unset, .unset, .unset] [(.int (if (1 : Int32) < (r2 + dd) then (r2 + dd) else (1 : Int32)))])) _
              refine XS.istore X125.here hx rfl (hb hby at_180) rfl (l' := #[.val (.int g1), .val (.int g2), .val (.int g3), .val (.int sh), .val (.int cu), .val (.int de), .val (.int r1), .val (.int r2), .val (.int r3), .val (.int (0 : Int32)), .val (.ref b103), .val (.int md), .val (.int dd), .val (.int (if (1 : Int32) < (r2 + dd) then (r2 + dd) else (1 : Int32))), .unset, .unset]) rfl ?_
              show Steps p.tables e below (T125.setTop (mkF m 182 #[.val (.int g1), .val (.int g2), .val (.int g3), .val (.int sh), .val (.int cu), .val (.int de), .val (.int r1), .val (.int r2), .val (.int r3), .val (.int (0 : Int32)), .val (.ref b103), .val (.int md), .val (.int dd), .val (.int (if (1 : Int32) < (r2 + dd) then (r2 + dd) else (1 : Int32))), .unset, .unset] [])) _
              refine XS.goto X125.here hx rfl (pc0 := 182) (pc' := 196) rfl (hb hby at_182) (by decide) (by decide) ?_
              exact k)
            exact ⟨T125, h103, _, (if (1 : Int32) < (r2 + dd) then (r2 + dd) else (1 : Int32)), X125, e125, N126, Z105, hk106, V107, (own_max1 _), k128⟩
          · have k129 : ∀ t, Steps p.tables e below (T103.setTop (mkF m 191 #[.val (.int g1), .val (.int g2), .val (.int g3), .val (.int sh), .val (.int cu), .val (.int de), .val (.int r1), .val (.int r2), .val (.int r3), .val (.int (0 : Int32)), .val (.ref b103), .val (.int md), .val (.int dd), .unset, .unset, .unset] [(.int (r3 + dd)), (.int (1 : Int32))])) t → Steps p.tables e below (s₁.setTop (entryFrame m #[(.int g1), (.int g2), (.int g3), (.int sh), (.int cu), (.int de)] maxLocals)) t := fun t k => k123 t (by
              show Steps p.tables e below (T103.setTop (mkF m 168 #[.val (.int g1), .val (.int g2), .val (.int g3), .val (.int sh), .val (.int cu), .val (.int de), .val (.int r1), .val (.int r2), .val (.int r3), .val (.int (0 : Int32)), .val (.ref b103), .val (.int md), .val (.int dd), .unset, .unset, .unset] [(.int (2 : Int32)), (.int md)])) _
              refine XS.icmpYes X103.here hx rfl (pc0 := 168) (pc' := 185) rfl (hb hby at_168) rfl (feq m2).2 (by decide) (by decide) ?_
              show Steps p.tables e below (T103.setTop (mkF m 185 #[.val (.int g1), .val (.int g2), .val (.int g3), .val (.int sh), .val (.int cu), .val (.int de), .val (.int r1), .val (.int r2), .val (.int r3), .val (.int (0 : Int32)), .val (.ref b103), .val (.int md), .val (.int dd), .unset, .unset, .unset] [])) _
              refine XS.iconst X103.here hx rfl (hb hby at_185) ?_
              show Steps p.tables e below (T103.setTop (mkF m 186 #[.val (.int g1), .val (.int g2), .val (.int g3), .val (.int sh), .val (.int cu), .val (.int de), .val (.int r1), .val (.int r2), .val (.int r3), .val (.int (0 : Int32)), .val (.ref b103), .val (.int md), .val (.int dd), .unset, .unset, .unset] [(.int (1 : Int32))])) _
              refine XS.iload X103.here hx rfl (hb hby at_186) rfl ?_
              show Steps p.tables e below (T103.setTop (mkF m 188 #[.val (.int g1), .val (.int g2), .val (.int g3), .val (.int sh), .val (.int cu), .val (.int de), .val (.int r1), .val (.int r2), .val (.int r3), .val (.int (0 : Int32)), .val (.ref b103), .val (.int md), .val (.int dd), .unset, .unset, .unset] [(.int r3), (.int (1 : Int32))])) _
              refine XS.iload X103.here hx rfl (hb hby at_188) rfl ?_
              show Steps p.tables e below (T103.setTop (mkF m 190 #[.val (.int g1), .val (.int g2), .val (.int g3), .val (.int sh), .val (.int cu), .val (.int de), .val (.int r1), .val (.int r2), .val (.int r3), .val (.int (0 : Int32)), .val (.ref b103), .val (.int md), .val (.int dd), .unset, .unset, .unset] [(.int dd), (.int r3), (.int (1 : Int32))])) _
              refine XS.iadd X103.here hx rfl (hb hby at_190) rfl ?_
              exact k)
            obtain ⟨_, _, ⟨T130, L130, k130, n130⟩, -, X130, ⟨Lc130, hQ130, l130, y130, z130⟩, st130⟩ := Jvm.LawKit.callS X103 hx (y := (⟨"java/lang/Math", "max", "(II)I"⟩ : MethodName)) hown (mvT hZ (hw _ (List.mem_of_getElem? (i := 3) rfl))) (mvT hZ (hw _ (List.mem_of_getElem? (i := 4) rfl))) (mvT hZ (hw _ (List.mem_of_getElem? (i := 5) rfl))) (mvT hZ (hw _ (List.mem_of_getElem? (i := 6) rfl))) (by decide) (backOf (W := 0) (rm1 l Z a0 hw [] (1 : Int32) (r3 + dd) h103 n0 Z105 ) hZ (hw _ (List.mem_of_getElem? (i := 6) rfl)) (hw _ (List.mem_of_getElem? (i := 5) rfl)) (by decide) (by decide)) (g := (mkF m 191 #[.val (.int g1), .val (.int g2), .val (.int g3), .val (.int sh), .val (.int cu), .val (.int de), .val (.int r1), .val (.int r2), .val (.int r3), .val (.int (0 : Int32)), .val (.ref b103), .val (.int md), .val (.int dd), .unset, .unset, .unset] [(.int (r3 + dd)), (.int (1 : Int32))])) rfl (by rw [hml]; rfl) (argsL := [(.int (1 : Int32)), (.int (r3 + dd))]) (rest := []) (lenOf pd__28II_29I rfl) rfl (by show 2 * 0 + _ ≤ _; exact Nat.le_of_eq rfl) (hb hby at_191) (fun _ _ => ⟨rfl, e103, (by decide : 1 + 0 ≤ _), (by decide : 0 + 0 ≤ _)⟩)
            dsimp only [Pt.U, Pt.locs, Pt.cells, Pt.slots] at X130 l130 y130 z130 st130 hQ130
            subst l130 y130 z130
            obtain ⟨rfl, N130q, e130⟩ := hQ130
            have N131 := Fr.app N0 N130q
            have k132 : ∀ t, Steps p.tables e below (T130.setTop (mkF m 194 #[.val (.int g1), .val (.int g2), .val (.int g3), .val (.int sh), .val (.int cu), .val (.int de), .val (.int r1), .val (.int r2), .val (.int r3), .val (.int (0 : Int32)), .val (.ref b103), .val (.int md), .val (.int dd), .unset, .unset, .unset] [(.int (if (1 : Int32) < (r3 + dd) then (r3 + dd) else (1 : Int32)))])) t → Steps p.tables e below (s₁.setTop (entryFrame m #[(.int g1), (.int g2), (.int g3), (.int sh), (.int cu), (.int de)] maxLocals)) t := fun t k => k129 t (st130 t k)
            have k133 : ∀ t, Steps p.tables e below (T130.setTop (mkF m 196 #[.val (.int g1), .val (.int g2), .val (.int g3), .val (.int sh), .val (.int cu), .val (.int de), .val (.int r1), .val (.int r2), .val (.int r3), .val (.int (0 : Int32)), .val (.ref b103), .val (.int md), .val (.int dd), .val (.int (if (1 : Int32) < (r3 + dd) then (r3 + dd) else (1 : Int32))), .unset, .unset] [])) t → Steps p.tables e below (s₁.setTop (entryFrame m #[(.int g1), (.int g2), (.int g3), (.int sh), (.int cu), (.int de)] maxLocals)) t := fun t k => k132 t (by
              show Steps p.tables e below (T130.setTop (mkF m 194 #[.val (.int g1), .val (.int g2), .val (.int g3), .val (.int sh), .val (.int cu), .val (.int de), .val (.int r1), .val (.int r2), .val (.int r3), .val (.int (0 : Int32)), .val (.ref b103), .val (.int md), .val (.int dd), .unset, .unset, .unset] [(.int (if (1 : Int32) < (r3 + dd) then (r3 + dd) else (1 : Int32)))])) _
              refine XS.istore X130.here hx rfl (hb hby at_194) rfl (l' := #[.val (.int g1), .val (.int g2), .val (.int g3), .val (.int sh), .val (.int cu), .val (.int de), .val (.int r1), .val (.int r2), .val (.int r3), .val (.int (0 : Int32)), .val (.ref b103), .val (.int md), .val (.int dd), .val (.int (if (1 : Int32) < (r3 + dd) then (r3 + dd) else (1 : Int32))), .unset, .unset]) rfl ?_
              exact k)
            exact ⟨T130, h103, _, (if (1 : Int32) < (r3 + dd) then (r3 + dd) else (1 : Int32)), X130, e130, N131, Z105, hk106, V107, (own_max1 _), k133⟩
    have k135 : ∀ t, Steps p.tables e below (T110.setTop (mkF m 256 #[.val (.int g1), .val (.int g2), .val (.int g3), .val (.int sh), .val (.int cu), .val (.int de), .val (.int r1), .val (.int r2), .val (.int r3), .val (.int (0 : Int32)), .val (.ref b103), .val (.int md), .val (.int dd), .val (.int cut), .val (.int (0 : Int32)), .unset] [])) t → Steps p.tables e below (s₁.setTop (entryFrame m #[(.int g1), (.int g2), (.int g3), (.int sh), (.int cu), (.int de)] maxLocals)) t := fun t k => kq110 t (by
      show Steps p.tables e below (T110.setTop (mkF m 196 #[.val (.int g1), .val (.int g2), .val (.int g3), .val (.int sh), .val (.int cu), .val (.int de), .val (.int r1), .val (.int r2), .val (.int r3), .val (.int (0 : Int32)), .val (.ref b103), .val (.int md), .val (.int dd), .val (.int cut), .unset, .unset] [])) _
      refine XS.iconst X110.here hx rfl (hb hby at_196) ?_
      show Steps p.tables e below (T110.setTop (mkF m 197 #[.val (.int g1), .val (.int g2), .val (.int g3), .val (.int sh), .val (.int cu), .val (.int de), .val (.int r1), .val (.int r2), .val (.int r3), .val (.int (0 : Int32)), .val (.ref b103), .val (.int md), .val (.int dd), .val (.int cut), .unset, .unset] [(.int (0 : Int32))])) _
      refine XS.istore X110.here hx rfl (hb hby at_197) rfl (l' := #[.val (.int g1), .val (.int g2), .val (.int g3), .val (.int sh), .val (.int cu), .val (.int de), .val (.int r1), .val (.int r2), .val (.int r3), .val (.int (0 : Int32)), .val (.ref b103), .val (.int md), .val (.int dd), .val (.int cut), .val (.int (0 : Int32)), .unset]) rfl ?_
      show Steps p.tables e below (T110.setTop (mkF m 199 #[.val (.int g1), .val (.int g2), .val (.int g3), .val (.int sh), .val (.int cu), .val (.int de), .val (.int r1), .val (.int r2), .val (.int r3), .val (.int (0 : Int32)), .val (.ref b103), .val (.int md), .val (.int dd), .val (.int cut), .val (.int (0 : Int32)), .unset] [])) _
      refine XS.iload X110.here hx rfl (hb hby at_199) rfl ?_
      show Steps p.tables e below (T110.setTop (mkF m 201 #[.val (.int g1), .val (.int g2), .val (.int g3), .val (.int sh), .val (.int cu), .val (.int de), .val (.int r1), .val (.int r2), .val (.int r3), .val (.int (0 : Int32)), .val (.ref b103), .val (.int md), .val (.int dd), .val (.int cut), .val (.int (0 : Int32)), .unset] [(.int (0 : Int32))])) _
      refine XS.iconst X110.here hx rfl (hb hby at_201) ?_
      show Steps p.tables e below (T110.setTop (mkF m 202 #[.val (.int g1), .val (.int g2), .val (.int g3), .val (.int sh), .val (.int cu), .val (.int de), .val (.int r1), .val (.int r2), .val (.int r3), .val (.int (0 : Int32)), .val (.ref b103), .val (.int md), .val (.int dd), .val (.int cut), .val (.int (0 : Int32)), .unset] [(.int (1 : Int32)), (.int (0 : Int32))])) _
      refine XS.icmpYes X110.here hx rfl (pc0 := 202) (pc' := 218) rfl (hb hby at_202) rfl (tlt (by decide)).1 (by decide) (by decide) ?_
      show Steps p.tables e below (T110.setTop (mkF m 218 #[.val (.int g1), .val (.int g2), .val (.int g3), .val (.int sh), .val (.int cu), .val (.int de), .val (.int r1), .val (.int r2), .val (.int r3), .val (.int (0 : Int32)), .val (.ref b103), .val (.int md), .val (.int dd), .val (.int cut), .val (.int (0 : Int32)), .unset] [])) _
      refine XS.iload X110.here hx rfl (hb hby at_218) rfl ?_
      show Steps p.tables e below (T110.setTop (mkF m 220 #[.val (.int g1), .val (.int g2), .val (.int g3), .val (.int sh), .val (.int cu), .val (.int de), .val (.int r1), .val (.int r2), .val (.int r3), .val (.int (0 : Int32)), .val (.ref b103), .val (.int md), .val (.int dd), .val (.int cut), .val (.int (0 : Int32)), .unset] [(.int (0 : Int32))])) _
      refine XS.iconst X110.here hx rfl (hb hby at_220) ?_
      show Steps p.tables e below (T110.setTop (mkF m 221 #[.val (.int g1), .val (.int g2), .val (.int g3), .val (.int sh), .val (.int cu), .val (.int de), .val (.int r1), .val (.int r2), .val (.int r3), .val (.int (0 : Int32)), .val (.ref b103), .val (.int md), .val (.int dd), .val (.int cut), .val (.int (0 : Int32)), .unset] [(.int (2 : Int32)), (.int (0 : Int32))])) _
      refine XS.icmpYes X110.here hx rfl (pc0 := 221) (pc' := 237) rfl (hb hby at_221) rfl (tlt (by decide)).1 (by decide) (by decide) ?_
      show Steps p.tables e below (T110.setTop (mkF m 237 #[.val (.int g1), .val (.int g2), .val (.int g3), .val (.int sh), .val (.int cu), .val (.int de), .val (.int r1), .val (.int r2), .val (.int r3), .val (.int (0 : Int32)), .val (.ref b103), .val (.int md), .val (.int dd), .val (.int cut), .val (.int (0 : Int32)), .unset] [])) _
      refine XS.iload X110.here hx rfl (hb hby at_237) rfl ?_
      show Steps p.tables e below (T110.setTop (mkF m 239 #[.val (.int g1), .val (.int g2), .val (.int g3), .val (.int sh), .val (.int cu), .val (.int de), .val (.int r1), .val (.int r2), .val (.int r3), .val (.int (0 : Int32)), .val (.ref b103), .val (.int md), .val (.int dd), .val (.int cut), .val (.int (0 : Int32)), .unset] [(.int (0 : Int32))])) _
      refine XS.iconst X110.here hx rfl (hb hby at_239) ?_
      show Steps p.tables e below (T110.setTop (mkF m 240 #[.val (.int g1), .val (.int g2), .val (.int g3), .val (.int sh), .val (.int cu), .val (.int de), .val (.int r1), .val (.int r2), .val (.int r3), .val (.int (0 : Int32)), .val (.ref b103), .val (.int md), .val (.int dd), .val (.int cut), .val (.int (0 : Int32)), .unset] [(.int (3 : Int32)), (.int (0 : Int32))])) _
      refine XS.icmpYes X110.here hx rfl (pc0 := 240) (pc' := 256) rfl (hb hby at_240) rfl (tlt (by decide)).1 (by decide) (by decide) ?_
      exact k)
    obtain ⟨T136, h136, X136, e136, E136, A136, D136, -, st136⟩ := newO X110 hx hZ hown (hw _ (List.mem_of_getElem? (i := 7) rfl)) (hw _ (List.mem_of_getElem? (i := 8) rfl)) (hw _ (List.mem_of_getElem? (i := 9) rfl)) e110 (g := (mkF m 256 #[.val (.int g1), .val (.int g2), .val (.int g3), .val (.int sh), .val (.int cu), .val (.int de), .val (.int r1), .val (.int r2), .val (.int r3), .val (.int (0 : Int32)), .val (.ref b103), .val (.int md), .val (.int dd), .val (.int cut), .val (.int (0 : Int32)), .unset] [])) rfl (hb hby at_256) (by decide) (by decide)
    obtain ⟨b136, g136⟩ : ∃ z, z = h110.size := ⟨_, rfl⟩
    rw [← g136] at A136 D136 st136
    have n137 : b103 ≠ b136 := Nat.ne_of_lt (Nat.lt_of_lt_of_le F134.lt (Nat.le_of_eq g136.symm))
    have g138 : n0 ≤ b136 := Nat.le_trans Zq110 (Nat.le_of_eq g136.symm)
    have F139 := F134.ext E136
    have Z140 : n0 ≤ h136.size := Nat.le_trans Zq110 E136.1
    have hk141 : 0 ≤ h136.size := Nat.le_trans hkq110 E136.1
    have F142 : Fld Z h136 b136 "com/example/round2/round2/eval/TopicResult" "topic" "Ljava/lang/String;" .null := D136 (Or.inr (hw _ (List.mem_of_getElem? (i := 25) rfl))) (ty := (.object "java/lang/String")) (by decide)
    have F143 : Fld Z h136 b136 "com/example/round2/round2/eval/TopicResult" "retrieved" "I" (.int (0 : Int32)) := D136 (Or.inr (hw _ (List.mem_of_getElem? (i := 27) rfl))) (ty := .int) (by decide)
    have F144 : Fld Z h136 b136 "com/example/round2/round2/eval/TopicResult" "relevant" "I" (.int (0 : Int32)) := D136 (Or.inr (hw _ (List.mem_of_getElem? (i := 29) rfl))) (ty := .int) (by decide)
    have F145 : Fld Z h136 b136 "com/example/round2/round2/eval/TopicResult" "relevantRanks" "[I" .null := D136 (Or.inr (hw _ (List.mem_of_getElem? (i := 31) rfl))) (ty := (.array .int)) (by decide)
    have k146 : ∀ t, Steps p.tables e below (T136.setTop (mkF m 259 #[.val (.int g1), .val (.int g2), .val (.int g3), .val (.int sh), .val (.int cu), .val (.int de), .val (.int r1), .val (.int r2), .val (.int r3), .val (.int (0 : Int32)), .val (.ref b103), .val (.int md), .val (.int dd), .val (.int cut), .val (.int (0 : Int32)), .unset] [(.ref b136)])) t → Steps p.tables e below (s₁.setTop (entryFrame m #[(.int g1), (.int g2), (.int g3), (.int sh), (.int cu), (.int de)] maxLocals)) t := fun t k => k135 t (st136 t k)
    have k147 : ∀ t, Steps p.tables e below (T136.setTop (mkF m 260 #[.val (.int g1), .val (.int g2), .val (.int g3), .val (.int sh), .val (.int cu), .val (.int de), .val (.int r1), .val (.int r2), .val (.int r3), .val (.int (0 : Int32)), .val (.ref b103), .val (.int md), .val (.int dd), .val (.int cut), .val (.int (0 : Int32)), .unset] [(.ref b136), (.ref b136)])) t → Steps p.tables e below (s₁.setTop (entryFrame m #[(.int g1), (.int g2), (.int g3), (.int sh), (.int cu), (.int de)] maxLocals)) t := fun t k => k146 t (by
      show Steps p.tables e below (T136.setTop (mkF m 259 #[.val (.int g1), .val (.int g2), .val (.int g3), .val (.int sh), .val (.int cu), .val (.int de), .val (.int r1), .val (.int r2), .val (.int r3), .val (.int (0 : Int32)), .val (.ref b103), .val (.int md), .val (.int dd), .val (.int cut), .val (.int (0 : Int32)), .unset] [(.ref b136)])) _
      refine XS.dup X136.here hx rfl (hb hby at_259) rfl rfl ?_
      exact k)
    obtain ⟨b148, T148, h148, kk148, X148, e148, E148, hS148, hk148, hZ148, hown148, st148⟩ := ldcS (s := s) (vm0 := s.vm) X136 hx hZ hown (hw _ (List.mem_of_getElem? (i := 10) rfl)) (own_strAtoms hw) e136 hS0 hk141 (g := (mkF m 260 #[.val (.int g1), .val (.int g2), .val (.int g3), .val (.int sh), .val (.int cu), .val (.int de), .val (.int r1), .val (.int r2), .val (.int r3), .val (.int (0 : Int32)), .val (.ref b103), .val (.int md), .val (.int dd), .val (.int cut), .val (.int (0 : Int32)), .unset] [(.ref b136), (.ref b136)])) rfl (hb hby at_260) (n := 4) (by decide) (by decide) (by decide) (by decide)
    have F149 := F139.ext E148
    have F150 := A136.ext E148
    have F151 := F142.ext E148
    have F152 := F143.ext E148
    have F153 := F144.ext E148
    have F154 := F145.ext E148
    have Z155 : n0 ≤ h148.size := Nat.le_trans Z140 E148.1
    have k156 : ∀ t, Steps p.tables e below (T148.setTop (mkF m 262 #[.val (.int g1), .val (.int g2), .val (.int g3), .val (.int sh), .val (.int cu), .val (.int de), .val (.int r1), .val (.int r2), .val (.int r3), .val (.int (0 : Int32)), .val (.ref b103), .val (.int md), .val (.int dd), .val (.int cut), .val (.int (0 : Int32)), .unset] [(.ref b148), (.ref b136), (.ref b136)])) t → Steps p.tables e below (s₁.setTop (entryFrame m #[(.int g1), (.int g2), (.int g3), (.int sh), (.int cu), (.int de)] maxLocals)) t := fun t k => k147 t (st148 t k)
    have k157 : ∀ t, Steps p.tables e below (T148.setTop (mkF m 268 #[.val (.int g1), .val (.int g2), .val (.int g3), .val (.int sh), .val (.int cu), .val (.int de), .val (.int r1), .val (.int r2), .val (.int r3), .val (.int (0 : Int32)), .val (.ref b103), .val (.int md), .val (.int dd), .val (.int cut), .val (.int (0 : Int32)), .unset] [(.ref b103), (.int (0 : Int32)), (.int r3), (.ref b148), (.ref b136), (.ref b136)])) t → Steps p.tables e below (s₁.setTop (entryFrame m #[(.int g1), (.int g2), (.int g3), (.int sh), (.int cu), (.int de)] maxLocals)) t := fun t k => k156 t (by
      show Steps p.tables e below (T148.setTop (mkF m 262 #[.val (.int g1), .val (.int g2), .val (.int g3), .val (.int sh), .val (.int cu), .val (.int de), .val (.int r1), .val (.int r2), .val (.int r3), .val (.int (0 : Int32)), .val (.ref b103), .val (.int md), .val (.int dd), .val (.int cut), .val (.int (0 : Int32)), .unset] [(.ref b148), (.ref b136), (.ref b136)])) _
      refine XS.iload X148.here hx rfl (hb hby at_262) rfl ?_
      show Steps p.tables e below (T148.setTop (mkF m 264 #[.val (.int g1), .val (.int g2), .val (.int g3), .val (.int sh), .val (.int cu), .val (.int de), .val (.int r1), .val (.int r2), .val (.int r3), .val (.int (0 : Int32)), .val (.ref b103), .val (.int md), .val (.int dd), .val (.int cut), .val (.int (0 : Int32)), .unset] [(.int r3), (.ref b148), (.ref b136), (.ref b136)])) _
      refine XS.iload X148.here hx rfl (hb hby at_264) rfl ?_
      show Steps p.tables e below (T148.setTop (mkF m 266 #[.val (.int g1), .val (.int g2), .val (.int g3), .val (.int sh), .val (.int cu), .val (.int de), .val (.int r1), .val (.int r2), .val (.int r3), .val (.int (0 : Int32)), .val (.ref b103), .val (.int md), .val (.int dd), .val (.int cut), .val (.int (0 : Int32)), .unset] [(.int (0 : Int32)), (.int r3), (.ref b148), (.ref b136), (.ref b136)])) _
      refine XS.aload X148.here hx rfl (hb hby at_266) rfl rfl ?_
      exact k)
    obtain ⟨_, _, ⟨T158, L158, k158, n158⟩, -, X158, ⟨Lc158, hQ158, l158, y158, z158⟩, st158⟩ := X148.specialBack hx (y := (⟨"com/example/round2/round2/eval/TopicResult", "<init>", "(Ljava/lang/String;II[I)V"⟩ : MethodName)) rfl hown148 (mvT hZ148 (hw _ (List.mem_of_getElem? (i := 18) rfl))) (mvT hZ148 (hw _ (List.mem_of_getElem? (i := 19) rfl))) (mvT hZ148 (hw _ (List.mem_of_getElem? (i := 20) rfl))) (by decide) (backOf (W := 1) (rm2 l Z a0 hw [] b136 b148 r3 (0 : Int32) b103 h148 n0 Z155 F151 F152 F153 F154 F150 g138) hZ148 (hw _ (List.mem_of_getElem? (i := 20) rfl)) (hw _ (List.mem_of_getElem? (i := 9) rfl)) (by decide) (by decide)) (g := (mkF m 268 #[.val (.int g1), .val (.int g2), .val (.int g3), .val (.int sh), .val (.int cu), .val (.int de), .val (.int r1), .val (.int r2), .val (.int r3), .val (.int (0 : Int32)), .val (.ref b103), .val (.int md), .val (.int dd), .val (.int cut), .val (.int (0 : Int32)), .unset] [(.ref b103), (.int (0 : Int32)), (.int r3), (.ref b148), (.ref b136), (.ref b136)])) rfl (by rw [hml]; rfl) (Steps.refl _) (a := b136) (argsL := [(.ref b148), (.int r3), (.int (0 : Int32)), (.ref b103)]) (rest := [(.ref b136)]) (lenOf pd__28Ljava_2flang_2fString_3bII_5bI_29V rfl) rfl (by show 2 * 0 + _ ≤ _; exact Nat.le_of_eq rfl) (hb hby at_268) (fun _ _ => ⟨rfl, e148, (by decide : 4 + 0 ≤ _), (by decide : 12 + 0 ≤ _)⟩)
    dsimp only [Pt.U, Pt.locs, Pt.cells, Pt.slots] at X158 l158 y158 z158 st158 hQ158
    subst l158 y158 z158
    obtain ⟨h158, e158⟩ : ∃ h', T158.heap = h' := ⟨_, rfl⟩
    rw [e158] at hQ158
    obtain ⟨rfl, N158q, K158, G158a, G158b, G158c⟩ := hQ158
    have N159 := Fr.app N110 N158q
    have k160 : ∀ t, Steps p.tables e below (T158.setTop (mkF m 271 #[.val (.int g1), .val (.int g2), .val (.int g3), .val (.int sh), .val (.int cu), .val (.int de), .val (.int r1), .val (.int r2), .val (.int r3), .val (.int (0 : Int32)), .val (.ref b103), .val (.int md), .val (.int dd), .val (.int cut), .val (.int (0 : Int32)), .unset] [(.ref b136)])) t → Steps p.tables e below (s₁.setTop (entryFrame m #[(.int g1), (.int g2), (.int g3), (.int sh), (.int cu), (.int de)] maxLocals)) t := fun t k => k157 t (st158.trans k)
    have F161 := F149.keep K158 (ninS n137 nin0)
    have F162 := F150.keep K158
    have Z163 : n0 ≤ h158.size := Nat.le_trans Z155 K158.1
    have hk164 : kk148 ≤ h158.size := Nat.le_trans hk148 K158.1
    have hne : cut ≠ 0 := fun q => by rw [q, show (0 : Int32).toInt = 0 by decide] at hcut; omega
    have k165 : ∀ t, Steps p.tables e below (T158.setTop (mkF m 277 #[.val (.int g1), .val (.int g2), .val (.int g3), .val (.int sh), .val (.int cu), .val (.int de), .val (.int r1), .val (.int r2), .val (.int r3), .val (.int (0 : Int32)), .val (.ref b103), .val (.int md), .val (.int dd), .val (.int cut), .val (.int (0 : Int32)), .val (.ref b136)] [(.int cut), (.ref b136)])) t → Steps p.tables e below (s₁.setTop (entryFrame m #[(.int g1), (.int g2), (.int g3), (.int sh), (.int cu), (.int de)] maxLocals)) t := fun t k => k160 t (by
      show Steps p.tables e below (T158.setTop (mkF m 271 #[.val (.int g1), .val (.int g2), .val (.int g3), .val (.int sh), .val (.int cu), .val (.int de), .val (.int r1), .val (.int r2), .val (.int r3), .val (.int (0 : Int32)), .val (.ref b103), .val (.int md), .val (.int dd), .val (.int cut), .val (.int (0 : Int32)), .unset] [(.ref b136)])) _
      refine XS.astore X158.here hx rfl (hb hby at_271) rfl rfl (l' := #[.val (.int g1), .val (.int g2), .val (.int g3), .val (.int sh), .val (.int cu), .val (.int de), .val (.int r1), .val (.int r2), .val (.int r3), .val (.int (0 : Int32)), .val (.ref b103), .val (.int md), .val (.int dd), .val (.int cut), .val (.int (0 : Int32)), .val (.ref b136)]) rfl ?_
      show Steps p.tables e below (T158.setTop (mkF m 273 #[.val (.int g1), .val (.int g2), .val (.int g3), .val (.int sh), .val (.int cu), .val (.int de), .val (.int r1), .val (.int r2), .val (.int r3), .val (.int (0 : Int32)), .val (.ref b103), .val (.int md), .val (.int dd), .val (.int cut), .val (.int (0 : Int32)), .val (.ref b136)] [])) _
      refine XS.aload X158.here hx rfl (hb hby at_273) rfl rfl ?_
      show Steps p.tables e below (T158.setTop (mkF m 275 #[.val (.int g1), .val (.int g2), .val (.int g3), .val (.int sh), .val (.int cu), .val (.int de), .val (.int r1), .val (.int r2), .val (.int r3), .val (.int (0 : Int32)), .val (.ref b103), .val (.int md), .val (.int dd), .val (.int cut), .val (.int (0 : Int32)), .val (.ref b136)] [(.ref b136)])) _
      refine XS.iload X158.here hx rfl (hb hby at_275) rfl ?_
      exact k)
    obtain ⟨cq166, kq166, q166a, q166b, q166c⟩ := isOf hZ148 e158 G158a
    obtain ⟨_, _, ⟨T166, L166, k166, n166⟩, -, X166, ⟨Lc166, hQ166, l166, y166, z166⟩, st166⟩ := X158.virtualBack hx (y := (⟨"com/example/round2/round2/eval/TopicResult", "precisionAt", "(I)D"⟩ : MethodName)) (z := (⟨"com/example/round2/round2/eval/TopicResult", "precisionAt", "(I)D"⟩ : MethodName)) hown148 (mvT hZ148 (hw _ (List.mem_of_getElem? (i := 32) rfl))) (mvT hZ148 (hw _ (List.mem_of_getElem? (i := 33) rfl))) (notFace_of_selects (args := #[]) (mvT hZ148 (hw _ (List.mem_of_getElem? (i := 35) rfl)))) (mvT hZ148 (hw _ (List.mem_of_getElem? (i := 35) rfl))) (mvT hZ148 (hw _ (List.mem_of_getElem? (i := 34) rfl))) (by decide) (backOf (W := 0) (prec0_0 l Z a0 hw [] b136 cut b103 k103 h158 n0 Z163 G158c F161 (own_ge1 hcut) (nn_div (no_fin (Jvm.FP.Core.i2d_fin _)) hne)) hZ148 (hw _ (List.mem_of_getElem? (i := 36) rfl)) (hw _ (List.mem_of_getElem? (i := 9) rfl)) (by decide) (by decide)) q166a q166c (g := (mkF m 277 #[.val (.int g1), .val (.int g2), .val (.int g3), .val (.int sh), .val (.int cu), .val (.int de), .val (.int r1), .val (.int r2), .val (.int r3), .val (.int (0 : Int32)), .val (.ref b103), .val (.int md), .val (.int dd), .val (.int cut), .val (.int (0 : Int32)), .val (.ref b136)] [(.int cut), (.ref b136)])) rfl (by rw [hml]; rfl) (Steps.refl _) (argsL := [(.int cut)]) (rest := []) (lenOf pd__28I_29D rfl) rfl (by show 2 * 0 + _ ≤ _; exact Nat.le_of_eq rfl) (hb hby at_277) (fun _ _ => ⟨rfl, e158, (by decide : 4 + 0 ≤ _), (by decide : 12 + 0 ≤ _)⟩)
    dsimp only [Pt.U, Pt.locs, Pt.cells, Pt.slots] at X166 l166 y166 z166 st166 hQ166
    subst l166 y166 z166
    obtain ⟨rfl, N166q, e166⟩ := hQ166
    have N167 := Fr.app N159 N166q
    have k168 : ∀ t, Steps p.tables e below (T166.setTop (mkF m 280 #[.val (.int g1), .val (.int g2), .val (.int g3), .val (.int sh), .val (.int cu), .val (.int de), .val (.int r1), .val (.int r2), .val (.int r3), .val (.int (0 : Int32)), .val (.ref b103), .val (.int md), .val (.int dd), .val (.int cut), .val (.int (0 : Int32)), .val (.ref b136)] [(.double (FP.ddiv (FP.i2d (0 : Int32)) (FP.i2d cut)))])) t → Steps p.tables e below (s₁.setTop (entryFrame m #[(.int g1), (.int g2), (.int g3), (.int sh), (.int cu), (.int de)] maxLocals)) t := fun t k => k165 t (st166.trans k)
    have hc : (0 : Int32) = (0 : Int32) := by rfl
    obtain ⟨vc, hvc⟩ : ∃ z : UInt64, FP.i2d (0 : Int32) = z := ⟨_, rfl⟩
    obtain ⟨vk, hvk⟩ : ∃ z : UInt64, FP.i2d cut = z := ⟨_, rfl⟩
    obtain ⟨want, hwant⟩ : ∃ z : UInt64, FP.ddiv vc vk = z := ⟨_, rfl⟩
    have nnw : Jvm.Free.Fl.NoNaN64 (FP.ddiv vc vk) := by rw [← hvc, ← hvk]; exact nn_div (no_fin (Jvm.FP.Core.i2d_fin _)) hne
    have hfin : cmpValue (FP.dcmp (FP.ddiv (FP.i2d (0 : Int32)) (FP.i2d cut)) want) .l = (0 : Int32) := by rw [← hwant, ← hvc, ← hvk, hc]; exact dcmpV_self (nn_div (no_fin (Jvm.FP.Core.i2d_fin _)) hne) .l
    have k169 : ∀ t, Steps p.tables e below (T166.setTop (mkF m 296 #[.val (.int g1), .val (.int g2), .val (.int g3), .val (.int sh), .val (.int cu), .val (.int de), .val (.int r1), .val (.int r2), .val (.int r3), .val (.int (0 : Int32)), .val (.ref b103), .val (.int md), .val (.int dd), .val (.int cut), .val (.int (0 : Int32)), .val (.ref b136)] [(.int (1 : Int32))])) t → Steps p.tables e below (s₁.setTop (entryFrame m #[(.int g1), (.int g2), (.int g3), (.int sh), (.int cu), (.int de)] maxLocals)) t := fun t k => k168 t (by
      show Steps p.tables e below (T166.setTop (mkF m 280 #[.val (.int g1), .val (.int g2), .val (.int g3), .val (.int sh), .val (.int cu), .val (.int de), .val (.int r1), .val (.int r2), .val (.int r3), .val (.int (0 : Int32)), .val (.ref b103), .val (.int md), .val (.int dd), .val (.int cut), .val (.int (0 : Int32)), .val (.ref b136)] [(.double (FP.ddiv (FP.i2d (0 : Int32)) (FP.i2d cut)))])) _
      refine XS.iload X166.here hx rfl (hb hby at_280) rfl ?_
      show Steps p.tables e below (T166.setTop (mkF m 282 #[.val (.int g1), .val (.int g2), .val (.int g3), .val (.int sh), .val (.int cu), .val (.int de), .val (.int r1), .val (.int r2), .val (.int r3), .val (.int (0 : Int32)), .val (.ref b103), .val (.int md), .val (.int dd), .val (.int cut), .val (.int (0 : Int32)), .val (.ref b136)] [(.int (0 : Int32)), (.double (FP.ddiv (FP.i2d (0 : Int32)) (FP.i2d cut)))])) _
      refine XS.i2dS X166.here hx rfl (hb hby at_282) rfl hvc ?_
      show Steps p.tables e below (T166.setTop (mkF m 283 #[.val (.int g1), .val (.int g2), .val (.int g3), .val (.int sh), .val (.int cu), .val (.int de), .val (.int r1), .val (.int r2), .val (.int r3), .val (.int (0 : Int32)), .val (.ref b103), .val (.int md), .val (.int dd), .val (.int cut), .val (.int (0 : Int32)), .val (.ref b136)] [(.double vc), (.double (FP.ddiv (FP.i2d (0 : Int32)) (FP.i2d cut)))])) _
      refine XS.iload X166.here hx rfl (hb hby at_283) rfl ?_
      show Steps p.tables e below (T166.setTop (mkF m 285 #[.val (.int g1), .val (.int g2), .val (.int g3), .val (.int sh), .val (.int cu), .val (.int de), .val (.int r1), .val (.int r2), .val (.int r3), .val (.int (0 : Int32)), .val (.ref b103), .val (.int md), .val (.int dd), .val (.int cut), .val (.int (0 : Int32)), .val (.ref b136)] [(.int cut), (.double vc), (.double (FP.ddiv (FP.i2d (0 : Int32)) (FP.i2d cut)))])) _
      refine XS.i2dS X166.here hx rfl (hb hby at_285) rfl hvk ?_
      show Steps p.tables e below (T166.setTop (mkF m 286 #[.val (.int g1), .val (.int g2), .val (.int g3), .val (.int sh), .val (.int cu), .val (.int de), .val (.int r1), .val (.int r2), .val (.int r3), .val (.int (0 : Int32)), .val (.ref b103), .val (.int md), .val (.int dd), .val (.int cut), .val (.int (0 : Int32)), .val (.ref b136)] [(.double vk), (.double vc), (.double (FP.ddiv (FP.i2d (0 : Int32)) (FP.i2d cut)))])) _
      refine XS.ddivS X166.here hx rfl (hb hby at_286) rfl (nnw) hwant ?_
      show Steps p.tables e below (T166.setTop (mkF m 287 #[.val (.int g1), .val (.int g2), .val (.int g3), .val (.int sh), .val (.int cu), .val (.int de), .val (.int r1), .val (.int r2), .val (.int r3), .val (.int (0 : Int32)), .val (.ref b103), .val (.int md), .val (.int dd), .val (.int cut), .val (.int (0 : Int32)), .val (.ref b136)] [(.double want), (.double (FP.ddiv (FP.i2d (0 : Int32)) (FP.i2d cut)))])) _
      refine XS.dcmpS X166.here hx rfl (hb hby at_287) rfl rfl ?_
      show Steps p.tables e below (T166.setTop (mkF m 288 #[.val (.int g1), .val (.int g2), .val (.int g3), .val (.int sh), .val (.int cu), .val (.int de), .val (.int r1), .val (.int r2), .val (.int r3), .val (.int (0 : Int32)), .val (.ref b103), .val (.int md), .val (.int dd), .val (.int cut), .val (.int (0 : Int32)), .val (.ref b136)] [(.int (cmpValue (FP.dcmp (FP.ddiv (FP.i2d (0 : Int32)) (FP.i2d cut)) want) .l))])) _
      refine XS.ifNo X166.here hx rfl (hb hby at_288) rfl ((if0 _ _).trans (teq hfin).2) ?_
      show Steps p.tables e below (T166.setTop (mkF m 291 #[.val (.int g1), .val (.int g2), .val (.int g3), .val (.int sh), .val (.int cu), .val (.int de), .val (.int r1), .val (.int r2), .val (.int r3), .val (.int (0 : Int32)), .val (.ref b103), .val (.int md), .val (.int dd), .val (.int cut), .val (.int (0 : Int32)), .val (.ref b136)] [])) _
      refine XS.iconst X166.here hx rfl (hb hby at_291) ?_
      show Steps p.tables e below (T166.setTop (mkF m 292 #[.val (.int g1), .val (.int g2), .val (.int g3), .val (.int sh), .val (.int cu), .val (.int de), .val (.int r1), .val (.int r2), .val (.int r3), .val (.int (0 : Int32)), .val (.ref b103), .val (.int md), .val (.int dd), .val (.int cut), .val (.int (0 : Int32)), .val (.ref b136)] [(.int (1 : Int32))])) _
      refine XS.goto X166.here hx rfl (pc0 := 292) (pc' := 296) rfl (hb hby at_292) (by decide) (by decide) ?_
      exact k)
    obtain ⟨fs, hr, hrun, hended, hRE⟩ := Stand.leaveW (s := s) (vm₁ := T148.vm) X166 hS148 (by rw [e166]; exact hk164) (v := some (.int (1 : Int32))) (fun h => by rw [Bd.returns] at h; cases h)
    refine ⟨_, _, k169 _ (retOut X166 hx (t := .boolean) Bd.returns rfl (Or.inl ⟨rfl, Or.inr (Or.inl rfl), _, rfl⟩) (hb hby at_296) hr), hrun, hended, _, _, rfl, ?_, hRE.1, hRE.2.1, hRE.2.2.1, hRE.2.2.2.mono (by decide) (by decide)⟩
    show Q_rm0 Z g1 g2 g3 sh cu de h0 n0 _ T166.heap _
    rw [e166]
    exact ⟨rfl, N167⟩
  · have k170 : ∀ t, Steps p.tables e below (s₁.setTop (mkF m 55 #[.val (.int g1), .val (.int g2), .val (.int g3), .val (.int sh), .val (.int cu), .val (.int de), .val (.int r1), .val (.int r2), .val (.int r3), .val (.int (1 : Int32)), .unset, .unset, .unset, .unset, .unset, .unset] [(.int (1 : Int32))])) t → Steps p.tables e below (s₁.setTop (entryFrame m #[(.int g1), (.int g2), (.int g3), (.int sh), (.int cu), (.int de)] maxLocals)) t := fun t k => k101 t (by
      show Steps p.tables e below (s₁.setTop (mkF m 35 #[.val (.int g1), .val (.int g2), .val (.int g3), .val (.int sh), .val (.int cu), .val (.int de), .val (.int r1), .val (.int r2), .val (.int r3), .val (.int (1 : Int32)), .unset, .unset, .unset, .unset, .unset, .unset] [])) _
      refine XS.iload X0.here hx rfl (hb hby at_35) rfl ?_
      show Steps p.tables e below (s₁.setTop (mkF m 37 #[.val (.int g1), .val (.int g2), .val (.int g3), .val (.int sh), .val (.int cu), .val (.int de), .val (.int r1), .val (.int r2), .val (.int r3), .val (.int (1 : Int32)), .unset, .unset, .unset, .unset, .unset, .unset] [(.int (1 : Int32))])) _
      refine XS.ifYes X0.here hx rfl (pc0 := 37) (pc' := 48) rfl (hb hby at_37) rfl ((if0 _ _).trans (feq (by decide)).2) (by decide) (by decide) ?_
      show Steps p.tables e below (s₁.setTop (mkF m 48 #[.val (.int g1), .val (.int g2), .val (.int g3), .val (.int sh), .val (.int cu), .val (.int de), .val (.int r1), .val (.int r2), .val (.int r3), .val (.int (1 : Int32)), .unset, .unset, .unset, .unset, .unset, .unset] [])) _
      refine XS.iload X0.here hx rfl (hb hby at_48) rfl ?_
      show Steps p.tables e below (s₁.setTop (mkF m 50 #[.val (.int g1), .val (.int g2), .val (.int g3), .val (.int sh), .val (.int cu), .val (.int de), .val (.int r1), .val (.int r2), .val (.int r3), .val (.int (1 : Int32)), .unset, .unset, .unset, .unset, .unset, .unset] [(.int (1 : Int32))])) _
      refine XS.iconst X0.here hx rfl (hb hby at_50) ?_
      show Steps p.tables e below (s₁.setTop (mkF m 51 #[.val (.int g1), .val (.int g2), .val (.int g3), .val (.int sh), .val (.int cu), .val (.int de), .val (.int r1), .val (.int r2), .val (.int r3), .val (.int (1 : Int32)), .unset, .unset, .unset, .unset, .unset, .unset] [(.int (1 : Int32)), (.int (1 : Int32))])) _
      refine XS.icmpNo X0.here hx rfl (hb hby at_51) rfl (teq (by decide)).2 ?_
      show Steps p.tables e below (s₁.setTop (mkF m 54 #[.val (.int g1), .val (.int g2), .val (.int g3), .val (.int sh), .val (.int cu), .val (.int de), .val (.int r1), .val (.int r2), .val (.int r3), .val (.int (1 : Int32)), .unset, .unset, .unset, .unset, .unset, .unset] [])) _
      refine XS.iconst X0.here hx rfl (hb hby at_54) ?_
      exact k)
    obtain ⟨T171, h171, k171, X171, e171, E171, A171, st171⟩ := newP X0 hx hZ (hw _ (List.mem_of_getElem? (i := 1) rfl)) e0 (g := (mkF m 55 #[.val (.int g1), .val (.int g2), .val (.int g3), .val (.int sh), .val (.int cu), .val (.int de), .val (.int r1), .val (.int r2), .val (.int r3), .val (.int (1 : Int32)), .unset, .unset, .unset, .unset, .unset, .unset] [(.int (1 : Int32))])) rfl (hb hby at_55) rfl (by decide) (cap := 1) (by decide) (by decide) (by decide) (by decide)
    obtain ⟨b171, g171⟩ : ∃ z, z = h0.size := ⟨_, rfl⟩
    rw [← g171] at A171 st171
    have g172 : n0 ≤ b171 := Nat.le_trans Z0 (Nat.le_of_eq g171.symm)
    have Z173 : n0 ≤ h171.size := Nat.le_trans Z0 E171.1
    have hk174 : 0 ≤ h171.size := Nat.le_trans (Nat.zero_le _) E171.1
    have V175 : Arv Z h171 b171 k171 .int (1 : Int32) [(.int (0 : Int32))] (.int (0 : Int32)) := (Arv.new A171 (by decide)).pad (pad_rep [] (.int (0 : Int32)) 1)
    have k176 : ∀ t, Steps p.tables e below (T171.setTop (mkF m 57 #[.val (.int g1), .val (.int g2), .val (.int g3), .val (.int sh), .val (.int cu), .val (.int de), .val (.int r1), .val (.int r2), .val (.int r3), .val (.int (1 : Int32)), .unset, .unset, .unset, .unset, .unset, .unset] [(.ref b171)])) t → Steps p.tables e below (s₁.setTop (entryFrame m #[(.int g1), (.int g2), (.int g3), (.int sh), (.int cu), (.int de)] maxLocals)) t := fun t k => k170 t (st171 t k)
    have k177 : ∀ t, Steps p.tables e below (T171.setTop (mkF m 61 #[.val (.int g1), .val (.int g2), .val (.int g3), .val (.int sh), .val (.int cu), .val (.int de), .val (.int r1), .val (.int r2), .val (.int r3), .val (.int (1 : Int32)), .unset, .unset, .unset, .unset, .unset, .unset] [(.int r1), (.int (0 : Int32)), (.ref b171), (.ref b171)])) t → Steps p.tables e below (s₁.setTop (entryFrame m #[(.int g1), (.int g2), (.int g3), (.int sh), (.int cu), (.int de)] maxLocals)) t := fun t k => k176 t (by
      show Steps p.tables e below (T171.setTop (mkF m 57 #[.val (.int g1), .val (.int g2), .val (.int g3), .val (.int sh), .val (.int cu), .val (.int de), .val (.int r1), .val (.int r2), .val (.int r3), .val (.int (1 : Int32)), .unset, .unset, .unset, .unset, .unset, .unset] [(.ref b171)])) _
      refine XS.dup X171.here hx rfl (hb hby at_57) rfl rfl ?_
      show Steps p.tables e below (T171.setTop (mkF m 58 #[.val (.int g1), .val (.int g2), .val (.int g3), .val (.int sh), .val (.int cu), .val (.int de), .val (.int r1), .val (.int r2), .val (.int r3), .val (.int (1 : Int32)), .unset, .unset, .unset, .unset, .unset, .unset] [(.ref b171), (.ref b171)])) _
      refine XS.iconst X171.here hx rfl (hb hby at_58) ?_
      show Steps p.tables e below (T171.setTop (mkF m 59 #[.val (.int g1), .val (.int g2), .val (.int g3), .val (.int sh), .val (.int cu), .val (.int de), .val (.int r1), .val (.int r2), .val (.int r3), .val (.int (1 : Int32)), .unset, .unset, .unset, .unset, .unset, .unset] [(.int (0 : Int32)), (.ref b171), (.ref b171)])) _
      refine XS.iload X171.here hx rfl (hb hby at_59) rfl ?_
      exact k)
    obtain ⟨c178, Ar178, Aq178, As178, An178, Ah178, Ag178⟩ := id V175
    have hin178 : ¬ ((0 : Int32) < 0 ∨ c178.slots.size ≤ ((0 : Int32)).toNatClampNeg) := inb_of As178 ⟨by decide, by decide⟩
    obtain ⟨T178, h178, X178, e178, W178, st178⟩ := stI X171 hx hZ e171 Ar178 (j := (0 : Int32)) hin178 (g := (mkF m 61 #[.val (.int g1), .val (.int g2), .val (.int g3), .val (.int sh), .val (.int cu), .val (.int de), .val (.int r1), .val (.int r2), .val (.int r3), .val (.int (1 : Int32)), .unset, .unset, .unset, .unset, .unset, .unset] [(.int r1), (.int (0 : Int32)), (.ref b171), (.ref b171)])) rfl rfl (hb hby at_61)
    have V179 := Arv.set Ar178 Aq178 As178 An178 Ah178 Ag178 rfl W178 0 rfl (Nat.le_of_ble_eq_true rfl)
    have Z180 : n0 ≤ h178.size := Nat.le_trans Z173 (Nat.le_of_eq W178.size.symm)
    have N181 := Fr.snoc X178 N0 g172
    have hk182 : 0 ≤ h178.size := Nat.le_trans hk174 (Nat.le_of_eq W178.size.symm)
    have k183 : ∀ t, Steps p.tables e below (T178.setTop (mkF m 62 #[.val (.int g1), .val (.int g2), .val (.int g3), .val (.int sh), .val (.int cu), .val (.int de), .val (.int r1), .val (.int r2), .val (.int r3), .val (.int (1 : Int32)), .unset, .unset, .unset, .unset, .unset, .unset] [(.ref b171)])) t → Steps p.tables e below (s₁.setTop (entryFrame m #[(.int g1), (.int g2), (.int g3), (.int sh), (.int cu), (.int de)] maxLocals)) t := fun t k => k177 t (st178 t k)
    obtain ⟨md, hmd⟩ : ∃ z : Int32, z = (((sh.toUInt32 >>> ((2 : Int32) &&& 31).toUInt32).toInt32) &&& (3 : Int32)) := ⟨_, rfl⟩
    obtain ⟨dd, hdd⟩ : ∃ z : Int32, z = ((de &&& (3 : Int32)) - (1 : Int32)) := ⟨_, rfl⟩
    have k184 : ∀ t, Steps p.tables e below (T178.setTop (mkF m 126 #[.val (.int g1), .val (.int g2), .val (.int g3), .val (.int sh), .val (.int cu), .val (.int de), .val (.int r1), .val (.int r2), .val (.int r3), .val (.int (1 : Int32)), .val (.ref b171), .val (.int md), .val (.int dd), .unset, .unset, .unset] [])) t → Steps p.tables e below (s₁.setTop (entryFrame m #[(.int g1), (.int g2), (.int g3), (.int sh), (.int cu), (.int de)] maxLocals)) t := fun t k => k183 t (by
      show Steps p.tables e below (T178.setTop (mkF m 62 #[.val (.int g1), .val (.int g2), .val (.int g3), .val (.int sh), .val (.int cu), .val (.int de), .val (.int r1), .val (.int r2), .val (.int r3), .val (.int (1 : Int32)), .unset, .unset, .unset, .unset, .unset, .unset] [(.ref b171)])) _
      refine XS.astore X178.here hx rfl (hb hby at_62) rfl rfl (l' := #[.val (.int g1), .val (.int g2), .val (.int g3), .val (.int sh), .val (.int cu), .val (.int de), .val (.int r1), .val (.int r2), .val (.int r3), .val (.int (1 : Int32)), .val (.ref b171), .unset, .unset, .unset, .unset, .unset]) rfl ?_
      show Steps p.tables e below (T178.setTop (mkF m 64 #[.val (.int g1), .val (.int g2), .val (.int g3), .val (.int sh), .val (.int cu), .val (.int de), .val (.int r1), .val (.int r2), .val (.int r3), .val (.int (1 : Int32)), .val (.ref b171), .unset, .unset, .unset, .unset, .unset] [])) _
      refine XS.goto X178.here hx rfl (pc0 := 64) (pc' := 111) rfl (hb hby at_64) (by decide) (by decide) ?_
      show Steps p.tables e below (T178.setTop (mkF m 111 #[.val (.int g1), .val (.int g2), .val (.int g3), .val (.int sh), .val (.int cu), .val (.int de), .val (.int r1), .val (.int r2), .val (.int r3), .val (.int (1 : Int32)), .val (.ref b171), .unset, .unset, .unset, .unset, .unset] [])) _
      refine XS.iloadN X178.here hx rfl (hb hby at_111) rfl ?_
      show Steps p.tables e below (T178.setTop (mkF m 112 #[.val (.int g1), .val (.int g2), .val (.int g3), .val (.int sh), .val (.int cu), .val (.int de), .val (.int r1), .val (.int r2), .val (.int r3), .val (.int (1 : Int32)), .val (.ref b171), .unset, .unset, .unset, .unset, .unset] [(.int sh)])) _
      refine XS.iconst X178.here hx rfl (hb hby at_112) ?_
      show Steps p.tables e below (T178.setTop (mkF m 113 #[.val (.int g1), .val (.int g2), .val (.int g3), .val (.int sh), .val (.int cu), .val (.int de), .val (.int r1), .val (.int r2), .val (.int r3), .val (.int (1 : Int32)), .val (.ref b171), .unset, .unset, .unset, .unset, .unset] [(.int (2 : Int32)), (.int sh)])) _
      refine XS.iushr X178.here hx rfl (hb hby at_113) rfl ?_
      show Steps p.tables e below (T178.setTop (mkF m 114 #[.val (.int g1), .val (.int g2), .val (.int g3), .val (.int sh), .val (.int cu), .val (.int de), .val (.int r1), .val (.int r2), .val (.int r3), .val (.int (1 : Int32)), .val (.ref b171), .unset, .unset, .unset, .unset, .unset] [(.int ((sh.toUInt32 >>> ((2 : Int32) &&& 31).toUInt32).toInt32))])) _
      refine XS.iconst X178.here hx rfl (hb hby at_114) ?_
      show Steps p.tables e below (T178.setTop (mkF m 115 #[.val (.int g1), .val (.int g2), .val (.int g3), .val (.int sh), .val (.int cu), .val (.int de), .val (.int r1), .val (.int r2), .val (.int r3), .val (.int (1 : Int32)), .val (.ref b171), .unset, .unset, .unset, .unset, .unset] [(.int (3 : Int32)), (.int ((sh.toUInt32 >>> ((2 : Int32) &&& 31).toUInt32).toInt32))])) _
      refine XS.iand X178.here hx rfl (hb hby at_115) rfl ?_
      show Steps p.tables e below (T178.setTop (mkF m 116 #[.val (.int g1), .val (.int g2), .val (.int g3), .val (.int sh), .val (.int cu), .val (.int de), .val (.int r1), .val (.int r2), .val (.int r3), .val (.int (1 : Int32)), .val (.ref b171), .unset, .unset, .unset, .unset, .unset] [(.int (((sh.toUInt32 >>> ((2 : Int32) &&& 31).toUInt32).toInt32) &&& (3 : Int32)))])) _
      refine castTop (g' := (mkF m 116 #[.val (.int g1), .val (.int g2), .val (.int g3), .val (.int sh), .val (.int cu), .val (.int de), .val (.int r1), .val (.int r2), .val (.int r3), .val (.int (1 : Int32)), .val (.ref b171), .unset, .unset, .unset, .unset, .unset] [(.int md)])) (by rw [hmd]) ?_
      show Steps p.tables e below (T178.setTop (mkF m 116 #[.val (.int g1), .val (.int g2), .val (.int g3), .val (.int sh), .val (.int cu), .val (.int de), .val (.int r1), .val (.int r2), .val (.int r3), .val (.int (1 : Int32)), .val (.ref b171), .unset, .unset, .unset, .unset, .unset] [(.int md)])) _
      refine XS.istore X178.here hx rfl (hb hby at_116) rfl (l' := #[.val (.int g1), .val (.int g2), .val (.int g3), .val (.int sh), .val (.int cu), .val (.int de), .val (.int r1), .val (.int r2), .val (.int r3), .val (.int (1 : Int32)), .val (.ref b171), .val (.int md), .unset, .unset, .unset, .unset]) rfl ?_
      show Steps p.tables e below (T178.setTop (mkF m 118 #[.val (.int g1), .val (.int g2), .val (.int g3), .val (.int sh), .val (.int cu), .val (.int de), .val (.int r1), .val (.int r2), .val (.int r3), .val (.int (1 : Int32)), .val (.ref b171), .val (.int md), .unset, .unset, .unset, .unset] [])) _
      refine XS.iload X178.here hx rfl (hb hby at_118) rfl ?_
      show Steps p.tables e below (T178.setTop (mkF m 120 #[.val (.int g1), .val (.int g2), .val (.int g3), .val (.int sh), .val (.int cu), .val (.int de), .val (.int r1), .val (.int r2), .val (.int r3), .val (.int (1 : Int32)), .val (.ref b171), .val (.int md), .unset, .unset, .unset, .unset] [(.int de)])) _
      refine XS.iconst X178.here hx rfl (hb hby at_120) ?_
      show Steps p.tables e below (T178.setTop (mkF m 121 #[.val (.int g1), .val (.int g2), .val (.int g3), .val (.int sh), .val (.int cu), .val (.int de), .val (.int r1), .val (.int r2), .val (.int r3), .val (.int (1 : Int32)), .val (.ref b171), .val (.int md), .unset, .unset, .unset, .unset] [(.int (3 : Int32)), (.int de)])) _
      refine XS.iand X178.here hx rfl (hb hby at_121) rfl ?_
      show Steps p.tables e below (T178.setTop (mkF m 122 #[.val (.int g1), .val (.int g2), .val (.int g3), .val (.int sh), .val (.int cu), .val (.int de), .val (.int r1), .val (.int r2), .val (.int r3), .val (.int (1 : Int32)), .val (.ref b171), .val (.int md), .unset, .unset, .unset, .unset] [(.int (de &&& (3 : Int32)))])) _
      refine XS.iconst X178.here hx rfl (hb hby at_122) ?_
      show Steps p.tables e below (T178.setTop (mkF m 123 #[.val (.int g1), .val (.int g2), .val (.int g3), .val (.int sh), .val (.int cu), .val (.int de), .val (.int r1), .val (.int r2), .val (.int r3), .val (.int (1 : Int32)), .val (.ref b171), .val (.int md), .unset, .unset, .unset, .unset] [(.int (1 : Int32)), (.int (de &&& (3 : Int32)))])) _
      refine XS.isub X178.here hx rfl (hb hby at_123) rfl ?_
      show Steps p.tables e below (T178.setTop (mkF m 124 #[.val (.int g1), .val (.int g2), .val (.int g3), .val (.int sh), .val (.int cu), .val (.int de), .val (.int r1), .val (.int r2), .val (.int r3), .val (.int (1 : Int32)), .val (.ref b171), .val (.int md), .unset, .unset, .unset, .unset] [(.int ((de &&& (3 : Int32)) - (1 : Int32)))])) _
      refine castTop (g' := (mkF m 124 #[.val (.int g1), .val (.int g2), .val (.int g3), .val (.int sh), .val (.int cu), .val (.int de), .val (.int r1), .val (.int r2), .val (.int r3), .val (.int (1 : Int32)), .val (.ref b171), .val (.int md), .unset, .unset, .unset, .unset] [(.int dd)])) (by rw [hdd]) ?_
      show Steps p.tables e below (T178.setTop (mkF m 124 #[.val (.int g1), .val (.int g2), .val (.int g3), .val (.int sh), .val (.int cu), .val (.int de), .val (.int r1), .val (.int r2), .val (.int r3), .val (.int (1 : Int32)), .val (.ref b171), .val (.int md), .unset, .unset, .unset, .unset] [(.int dd)])) _
      refine XS.istore X178.here hx rfl (hb hby at_124) rfl (l' := #[.val (.int g1), .val (.int g2), .val (.int g3), .val (.int sh), .val (.int cu), .val (.int de), .val (.int r1), .val (.int r2), .val (.int r3), .val (.int (1 : Int32)), .val (.ref b171), .val (.int md), .val (.int dd), .unset, .unset, .unset]) rfl ?_
      exact k)
    obtain ⟨T185, h185, Ls185, cut, X185, e185, N185, Zq185, hkq185, F209, hcut, kq185⟩ : ∃ (T185 : State) (h185 : Heap) (Ls185 : List Loc) (cut : Int32), Stand p l e room_1 (s.setVm s.vm) m #[(.int g1), (.int g2), (.int g3), (.int sh), (.int cu), (.int de)] below meth c T185 Ls185 1 1 ∧ T185.heap = h185 ∧ Fr n0 Ls185 ∧ n0 ≤ h185.size ∧ 0 ≤ h185.size ∧ Arv Z h185 b171 k171 .int (1 : Int32) [(.int r1)] (.int (0 : Int32)) ∧ 1 ≤ cut.toInt ∧ ∀ t, Steps p.tables e below (T185.setTop (mkF m 196 #[.val (.int g1), .val (.int g2), .val (.int g3), .val (.int sh), .val (.int cu), .val (.int de), .val (.int r1), .val (.int r2), .val (.int r3), .val (.int (1 : Int32)), .val (.ref b171), .val (.int md), .val (.int dd), .val (.int cut), .unset, .unset] [])) t → Steps p.tables e below (s₁.setTop (entryFrame m #[(.int g1), (.int g2), (.int g3), (.int sh), (.int cu), (.int de)] maxLocals)) t := by
      have k186 : ∀ t, Steps p.tables e below (T178.setTop (mkF m 128 #[.val (.int g1), .val (.int g2), .val (.int g3), .val (.int sh), .val (.int cu), .val (.int de), .val (.int r1), .val (.int r2), .val (.int r3), .val (.int (1 : Int32)), .val (.ref b171), .val (.int md), .val (.int dd), .unset, .unset, .unset] [(.int md)])) t → Steps p.tables e below (s₁.setTop (entryFrame m #[(.int g1), (.int g2), (.int g3), (.int sh), (.int cu), (.int de)] maxLocals)) t := fun t k => k184 t (by
        show Steps p.tables e below (T178.setTop (mkF m 126 #[.val (.int g1), .val (.int g2), .val (.int g3), .val (.int sh), .val (.int cu), .val (.int de), .val (.int r1), .val (.int r2), .val (.int r3), .val (.int (1 : Int32)), .val (.ref b171), .val (.int md), .val (.int dd), .unset, .unset, .unset] [])) _
        refine XS.iload X178.here hx rfl (hb hby at_126) rfl ?_
        exact k)
      by_cases m0 : md = (0 : Int32)
      · have k187 : ∀ t, Steps p.tables e below (T178.setTop (mkF m 137 #[.val (.int g1), .val (.int g2), .val (.int g3), .val (.int sh), .val (.int cu), .val (.int de), .val (.int r1), .val (.int r2), .val (.int r3), .val (.int (1 : Int32)), .val (.ref b171), .val (.int md), .val (.int dd), .unset, .unset, .unset] [(.int (cu &&& (2147483647 : Int32))), (.int (1 : Int32))])) t → Steps p.tables e below (s₁.setTop (entryFrame m #[(.int g1), (.int g2), (.int g3), (.int sh), (.int cu), (.int de)] maxLocals)) t := fun t k => k186 t (by
          show Steps p.tables e below (T178.setTop (mkF m 128 #[.val (.int g1), .val (.int g2), .val (.int g3), .val (.int sh), .val (.int cu), .val (.int de), .val (.int r1), .val (.int r2), .val (.int r3), .val (.int (1 : Int32)), .val (.ref b171), .val (.int md), .val (.int dd), .unset, .unset, .unset] [(.int md)])) _
          refine XS.ifNo X178.here hx rfl (hb hby at_128) rfl ((if0 _ _).trans (teq m0).2) ?_
          show Steps p.tables e below (T178.setTop (mkF m 131 #[.val (.int g1), .val (.int g2), .val (.int g3), .val (.int sh), .val (.int cu), .val (.int de), .val (.int r1), .val (.int r2), .val (.int r3), .val (.int (1 : Int32)), .val (.ref b171), .val (.int md), .val (.int dd), .unset, .unset, .unset] [])) _
          refine XS.iconst X178.here hx rfl (hb hby at_131) ?_
          show Steps p.tables e below (T178.setTop (mkF m 132 #[.val (.int g1), .val (.int g2), .val (.int g3), .val (.int sh), .val (.int cu), .val (.int de), .val (.int r1), .val (.int r2), .val (.int r3), .val (.int (1 : Int32)), .val (.ref b171), .val (.int md), .val (.int dd), .unset, .unset, .unset] [(.int (1 : Int32))])) _
          refine XS.iload X178.here hx rfl (hb hby at_132) rfl ?_
          show Steps p.tables e below (T178.setTop (mkF m 134 #[.val (.int g1), .val (.int g2), .val (.int g3), .val (.int sh), .val (.int cu), .val (.int de), .val (.int r1), .val (.int r2), .val (.int r3), .val (.int (1 : Int32)), .val (.ref b171), .val (.int md), .val (.int dd), .unset, .unset, .unset] [(.int cu), (.int (1 : Int32))])) _
          refine X178.ldcInt hx hown (mvT hZ (hw _ (List.mem_of_getElem? (i := 2) rfl))) (g := (mkF m 134 #[.val (.int g1), .val (.int g2), .val (.int g3), .val (.int sh), .val (.int cu), .val (.int de), .val (.int r1), .val (.int r2), .val (.int r3), .val (.int (1 : Int32)), .val (.ref b171), .val (.int md), .val (.int dd), .unset, .unset, .unset] [(.int cu), (.int (1 : Int32))])) rfl (hb hby at_134) _ ?_
          show Steps p.tables e below (T178.setTop (mkF m 136 #[.val (.int g1), .val (.int g2), .val (.int g3), .val (.int sh), .val (.int cu), .val (.int de), .val (.int r1), .val (.int r2), .val (.int r3), .val (.int (1 : Int32)), .val (.ref b171), .val (.int md), .val (.int dd), .unset, .unset, .unset] [(.int (2147483647 : Int32)), (.int cu), (.int (1 : Int32))])) _
          refine XS.iand X178.here hx rfl (hb hby at_136) rfl ?_
          exact k)
        obtain ⟨_, _, ⟨T188, L188, k188, n188⟩, -, X188, ⟨Lc188, hQ188, l188, y188, z188⟩, st188⟩ := Jvm.LawKit.callS X178 hx (y := (⟨"java/lang/Math", "max", "(II)I"⟩ : MethodName)) hown (mvT hZ (hw _ (List.mem_of_getElem? (i := 3) rfl))) (mvT hZ (hw _ (List.mem_of_getElem? (i := 4) rfl))) (mvT hZ (hw _ (List.mem_of_getElem? (i := 5) rfl))) (mvT hZ (hw _ (List.mem_of_getElem? (i := 6) rfl))) (by decide) (backOf (W := 0) (rm1 l Z a0 hw [] (1 : Int32) (cu &&& (2147483647 : Int32)) h178 n0 Z180 ) hZ (hw _ (List.mem_of_getElem? (i := 6) rfl)) (hw _ (List.mem_of_getElem? (i := 5) rfl)) (by decide) (by decide)) (g := (mkF m 137 #[.val (.int g1), .val (.int g2), .val (.int g3), .val (.int sh), .val (.int cu), .val (.int de), .val (.int r1), .val (.int r2), .val (.int r3), .val (.int (1 : Int32)), .val (.ref b171), .val (.int md), .val (.int dd), .unset, .unset, .unset] [(.int (cu &&& (2147483647 : Int32))), (.int (1 : Int32))])) rfl (by rw [hml]; rfl) (argsL := [(.int (1 : Int32)), (.int (cu &&& (2147483647 : Int32)))]) (rest := []) (lenOf pd__28II_29I rfl) rfl (by show 2 * 0 + _ ≤ _; exact Nat.le_of_eq rfl) (hb hby at_137) (fun _ _ => ⟨rfl, e178, (by decide : 1 + 0 ≤ _), (by decide : 1 + 0 ≤ _)⟩)
        dsimp only [Pt.U, Pt.locs, Pt.cells, Pt.slots] at X188 l188 y188 z188 st188 hQ188
        subst l188 y188 z188
        obtain ⟨rfl, N188q, e188⟩ := hQ188
        have N189 := Fr.app N181 N188q
        have k190 : ∀ t, Steps p.tables e below (T188.setTop (mkF m 140 #[.val (.int g1), .val (.int g2), .val (.int g3), .val (.int sh), .val (.int cu), .val (.int de), .val (.int r1), .val (.int r2), .val (.int r3), .val (.int (1 : Int32)), .val (.ref b171), .val (.int md), .val (.int dd), .unset, .unset, .unset] [(.int (if (1 : Int32) < (cu &&& (2147483647 : Int32)) then (cu &&& (2147483647 : Int32)) else (1 : Int32)))])) t → Steps p.tables e below (s₁.setTop (entryFrame m #[(.int g1), (.int g2), (.int g3), (.int sh), (.int cu), (.int de)] maxLocals)) t := fun t k => k187 t (st188 t k)
        have k191 : ∀ t, Steps p.tables e below (T188.setTop (mkF m 196 #[.val (.int g1), .val (.int g2), .val (.int g3), .val (.int sh), .val (.int cu), .val (.int de), .val (.int r1), .val (.int r2), .val (.int r3), .val (.int (1 : Int32)), .val (.ref b171), .val (.int md), .val (.int dd), .val (.int (if (1 : Int32) < (cu &&& (2147483647 : Int32)) then (cu &&& (2147483647 : Int32)) else (1 : Int32))), .unset, .unset] [])) t → Steps p.tables e below (s₁.setTop (entryFrame m #[(.int g1), (.int g2), (.int g3), (.int sh), (.int cu), (.int de)] maxLocals)) t := fun t k => k190 t (by
          show Steps p.tables e below (T188.setTop (mkF m 140 #[.val (.int g1), .val (.int g2), .val (.int g3), .val (.int sh), .val (.int cu), .val (.int de), .val (.int r1), .val (.int r2), .val (.int r3), .val (.int (1 : Int32)), .val (.ref b171), .val (.int md), .val (.int dd), .unset, .unset, .unset] [(.int (if (1 : Int32) < (cu &&& (2147483647 : Int32)) then (cu &&& (2147483647 : Int32)) else (1 : Int32)))])) _
          refine XS.istore X188.here hx rfl (hb hby at_140) rfl (l' := #[.val (.int g1), .val (.int g2), .val (.int g3), .val (.int sh), .val (.int cu), .val (.int de), .val (.int r1), .val (.int r2), .val (.int r3), .val (.int (1 : Int32)), .val (.ref b171), .val (.int md), .val (.int dd), .val (.int (if (1 : Int32) < (cu &&& (2147483647 : Int32)) then (cu &&& (2147483647 : Int32)) else (1 : Int32))), .unset, .unset]) rfl ?_
          show Steps p.tables e below (T188.setTop (mkF m 142 #[.val (.int g1), .val (.int g2), .val (.int g3), .val (.int sh), .val (.int cu), .val (.int de), .val (.int r1), .val (.int r2), .val (.int r3), .val (.int (1 : Int32)), .val (.ref b171), .val (.int md), .val (.int dd), .val (.int (if (1 : Int32) < (cu &&& (2147483647 : Int32)) then (cu &&& (2147483647 : Int32)) else (1 : Int32))), .unset, .unset] [])) _
          refine XS.goto X188.here hx rfl (pc0 := 142) (pc' := 196) rfl (hb hby at_142) (by decide) (by decide) ?_
          exact k)
        exact ⟨T188, h178, _, (if (1 : Int32) < (cu &&& (2147483647 : Int32)) then (cu &&& (2147483647 : Int32)) else (1 : Int32)), X188, e188, N189, Z180, hk182, V179, (own_max1 _), k191⟩
      · have k192 : ∀ t, Steps p.tables e below (T178.setTop (mkF m 148 #[.val (.int g1), .val (.int g2), .val (.int g3), .val (.int sh), .val (.int cu), .val (.int de), .val (.int r1), .val (.int r2), .val (.int r3), .val (.int (1 : Int32)), .val (.ref b171), .val (.int md), .val (.int dd), .unset, .unset, .unset] [(.int (1 : Int32)), (.int md)])) t → Steps p.tables e below (s₁.setTop (entryFrame m #[(.int g1), (.int g2), (.int g3), (.int sh), (.int cu), (.int de)] maxLocals)) t := fun t k => k186 t (by
          show Steps p.tables e below (T178.setTop (mkF m 128 #[.val (.int g1), .val (.int g2), .val (.int g3), .val (.int sh), .val (.int cu), .val (.int de), .val (.int r1), .val (.int r2), .val (.int r3), .val (.int (1 : Int32)), .val (.ref b171), .val (.int md), .val (.int dd), .unset, .unset, .unset] [(.int md)])) _
          refine XS.ifYes X178.here hx rfl (pc0 := 128) (pc' := 145) rfl (hb hby at_128) rfl ((if0 _ _).trans (feq m0).2) (by decide) (by decide) ?_
          show Steps p.tables e below (T178.setTop (mkF m 145 #[.val (.int g1), .val (.int g2), .val (.int g3), .val (.int sh), .val (.int cu), .val (.int de), .val (.int r1), .val (.int r2), .val (.int r3), .val (.int (1 : Int32)), .val (.ref b171), .val (.int md), .val (.int dd), .unset, .unset, .unset] [])) _
          refine XS.iload X178.here hx rfl (hb hby at_145) rfl ?_
          show Steps p.tables e below (T178.setTop (mkF m 147 #[.val (.int g1), .val (.int g2), .val (.int g3), .val (.int sh), .val (.int cu), .val (.int de), .val (.int r1), .val (.int r2), .val (.int r3), .val (.int (1 : Int32)), .val (.ref b171), .val (.int md), .val (.int dd), .unset, .unset, .unset] [(.int md)])) _
          refine XS.iconst X178.here hx rfl (hb hby at_147) ?_
          exact k)
        by_cases m1 : md = (1 : Int32)
        · have k193 : ∀ t, Steps p.tables e below (T178.setTop (mkF m 157 #[.val (.int g1), .val (.int g2), .val (.int g3), .val (.int sh), .val (.int cu), .val (.int de), .val (.int r1), .val (.int r2), .val (.int r3), .val (.int (1 : Int32)), .val (.ref b171), .val (.int md), .val (.int dd), .unset, .unset, .unset] [(.int (r1 + dd)), (.int (1 : Int32))])) t → Steps p.tables e below (s₁.setTop (entryFrame m #[(.int g1), (.int g2), (.int g3), (.int sh), (.int cu), (.int de)] maxLocals)) t := fun t k => k192 t (by
            show Steps p.tables e below (T178.setTop (mkF m 148 #[.val (.int g1), .val (.int g2), .val (.int g3), .val (.int sh), .val (.int cu), .val (.int de), .val (.int r1), .val (.int r2), .val (.int r3), .val (.int (1 : Int32)), .val (.ref b171), .val (.int md), .val (.int dd), .unset, .unset, .unset] [(.int (1 : Int32)), (.int md)])) _
            refine XS.icmpNo X178.here hx rfl (hb hby at_148) rfl (teq m1).2 ?_
            show Steps p.tables e below (T178.setTop (mkF m 151 #[.val (.int g1), .val (.int g2), .val (.int g3), .val (.int sh), .val (.int cu), .val (.int de), .val (.int r1), .val (.int r2), .val (.int r3), .val (.int (1 : Int32)), .val (.ref b171), .val (.int md), .val (.int dd), .unset, .unset, .unset] [])) _
            refine XS.iconst X178.here hx rfl (hb hby at_151) ?_
            show Steps p.tables e below (T178.setTop (mkF m 152 #[.val (.int g1), .val (.int g2), .val (.int g3), .val (.int sh), .val (.int cu), .val (.int de), .val (.int r1), .val (.int r2), .val (.int r3), .val (.int (1 : Int32)), .val (.ref b171), .val (.int md), .val (.int dd), .unset, .unset, .unset] [(.int (1 : Int32))])) _
            refine XS.iload X178.here hx rfl (hb hby at_152) rfl ?_
            show Steps p.tables e below (T178.setTop (mkF m 154 #[.val (.int g1), .val (.int g2), .val (.int g3), .val (.int sh), .val (.int cu), .val (.int de), .val (.int r1), .val (.int r2), .val (.int r3), .val (.int (1 : Int32)), .val (.ref b171), .val (.int md), .val (.int dd), .unset, .unset, .unset] [(.int r1), (.int (1 : Int32))])) _
            refine XS.iload X178.here hx rfl (hb hby at_154) rfl ?_
            show Steps p.tables e below (T178.setTop (mkF m 156 #[.val (.int g1), .val (.int g2), .val (.int g3), .val (.int sh), .val (.int cu), .val (.int de), .val (.int r1), .val (.int r2), .val (.int r3), .val (.int (1 : Int32)), .val (.ref b171), .val (.int md), .val (.int dd), .unset, .unset, .unset] [(.int dd), (.int r1), (.int (1 : Int32))])) _
            refine XS.iadd X178.here hx rfl (hb hby at_156) rfl ?_
            exact k)
          obtain ⟨_, _, ⟨T194, L194, k194, n194⟩, -, X194, ⟨Lc194, hQ194, l194, y194, z194⟩, st194⟩ := Jvm.LawKit.callS X178 hx (y := (⟨"java/lang/Math", "max", "(II)I"⟩ : MethodName)) hown (mvT hZ (hw _ (List.mem_of_getElem? (i := 3) rfl))) (mvT hZ (hw _ (List.mem_of_getElem? (i := 4) rfl))) (mvT hZ (hw _ (List.mem_of_getElem? (i := 5) rfl))) (mvT hZ (hw _ (List.mem_of_getElem? (i := 6) rfl))) (by decide) (backOf (W := 0) (rm1 l Z a0 hw [] (1 : Int32) (r1 + dd) h178 n0 Z180 ) hZ (hw _ (List.mem_of_getElem? (i := 6) rfl)) (hw _ (List.mem_of_getElem? (i := 5) rfl)) (by decide) (by decide)) (g := (mkF m 157 #[.val (.int g1), .val (.int g2), .val (.int g3), .val (.int sh), .val (.int cu), .val (.int de), .val (.int r1), .val (.int r2), .val (.int r3), .val (.int (1 : Int32)), .val (.ref b171), .val (.int md), .val (.int dd), .unset, .unset, .unset] [(.int (r1 + dd)), (.int (1 : Int32))])) rfl (by rw [hml]; rfl) (argsL := [(.int (1 : Int32)), (.int (r1 + dd))]) (rest := []) (lenOf pd__28II_29I rfl) rfl (by show 2 * 0 + _ ≤ _; exact Nat.le_of_eq rfl) (hb hby at_157) (fun _ _ => ⟨rfl, e178, (by decide : 1 + 0 ≤ _), (by decide : 1 + 0 ≤ _)⟩)
          dsimp only [Pt.U, Pt.locs, Pt.cells, Pt.slots] at X194 l194 y194 z194 st194 hQ194
          subst l194 y194 z194
          obtain ⟨rfl, N194q, e194⟩ := hQ194
          have N195 := Fr.app N181 N194q
          have k196 : ∀ t, Steps p.tables e below (T194.setTop (mkF m 160 #[.val (.int g1), .val (.int g2), .val (.int g3), .val (.int sh), .val (.int cu), .val (.int de), .val (.int r1), .val (.int r2), .val (.int r3), .val (.int (1 : Int32)), .val (.ref b171), .val (.int md), .val (.int dd), .unset, .unset, .unset] [(.int (if (1 : Int32) < (r1 + dd) then (r1 + dd) else (1 : Int32)))])) t → Steps p.tables e below (s₁.setTop (entryFrame m #[(.int g1), (.int g2), (.int g3), (.int sh), (.int cu), (.int de)] maxLocals)) t := fun t k => k193 t (st194 t k)
          have k197 : ∀ t, Steps p.tables e below (T194.setTop (mkF m 196 #[.val (.int g1), .val (.int g2), .val (.int g3), .val (.int sh), .val (.int cu), .val (.int de), .val (.int r1), .val (.int r2), .val (.int r3), .val (.int (1 : Int32)), .val (.ref b171), .val (.int md), .val (.int dd), .val (.int (if (1 : Int32) < (r1 + dd) then (r1 + dd) else (1 : Int32))), .unset, .unset] [])) t → Steps p.tables e below (s₁.setTop (entryFrame m #[(.int g1), (.int g2), (.int g3), (.int sh), (.int cu), (.int de)] maxLocals)) t := fun t k => k196 t (by
            show Steps p.tables e below (T194.setTop (mkF m 160 #[.val (.int g1), .val (.int g2), .val (.int g3), .val (.int sh), .val (.int cu), .val (.int de), .val (.int r1), .val (.int r2), .val (.int r3), .val (.int (1 : Int32)), .val (.ref b171), .val (.int md), .val (.int dd), .unset, .unset, .unset] [(.int (if (1 : Int32) < (r1 + dd) then (r1 + dd) else (1 : Int32)))])) _
            refine XS.istore X194.here hx rfl (hb hby at_160) rfl (l' := #[.val (.int g1), .val (.int g2), .val (.int g3), .val (.int sh), .val (.int cu), .val (.int de), .val (.int r1), .val (.int r2), .val (.int r3), .val (.int (1 : Int32)), .val (.ref b171), .val (.int md), .val (.int dd), .val (.int (if (1 : Int32) < (r1 + dd) then (r1 + dd) else (1 : Int32))), .unset, .unset]) rfl ?_
            show Steps p.tables e below (T194.setTop (mkF m 162 #[.val (.int g1), .val (.int g2), .val (.int g3), .val (.int sh), .val (.int cu), .val (.int de), .val (.int r1), .val (.int r2), .val (.int r3), .val (.int (1 : Int32)), .val (.ref b171), .val (.int md), .val (.int dd), .val (.int (if (1 : Int32) < (r1 + dd) then (r1 + dd) else (1 : Int32))), .unset, .unset] [])) _
            refine XS.goto X194.here hx rfl (pc0 := 162) (pc' := 196) rfl (hb hby at_162) (by decide) (by decide) ?_
            exact k)
          exact ⟨T194, h178, _, (if (1 : Int32) < (r1 + dd) then (r1 + dd) else (1 : Int32)), X194, e194, N195, Z180, hk182, V179, (own_max1 _), k197⟩
        · have k198 : ∀ t, Steps p.tables e below (T178.setTop (mkF m 168 #[.val (.int g1), .val (.int g2), .val (.int g3), .val (.int sh), .val (.int cu), .val (.int de), .val (.int r1), .val (.int r2), .val (.int r3), .val (.int (1 : Int32)), .val (.ref b171), .val (.int md), .val (.int dd), .unset, .unset, .unset] [(.int (2 : Int32)), (.int md)])) t → Steps p.tables e below (s₁.setTop (entryFrame m #[(.int g1), (.int g2), (.int g3), (.int sh), (.int cu), (.int de)] maxLocals)) t := fun t k => k192 t (by
            show Steps p.tables e below (T178.setTop (mkF m 148 #[.val (.int g1), .val (.int g2), .val (.int g3), .val (.int sh), .val (.int cu), .val (.int de), .val (.int r1), .val (.int r2), .val (.int r3), .val (.int (1 : Int32)), .val (.ref b171), .val (.int md), .val (.int dd), .unset, .unset, .unset] [(.int (1 : Int32)), (.int md)])) _
            refine XS.icmpYes X178.here hx rfl (pc0 := 148) (pc' := 165) rfl (hb hby at_148) rfl (feq m1).2 (by decide) (by decide) ?_
            show Steps p.tables e below (T178.setTop (mkF m 165 #[.val (.int g1), .val (.int g2), .val (.int g3), .val (.int sh), .val (.int cu), .val (.int de), .val (.int r1), .val (.int r2), .val (.int r3), .val (.int (1 : Int32)), .val (.ref b171), .val (.int md), .val (.int dd), .unset, .unset, .unset] [])) _
            refine XS.iload X178.here hx rfl (hb hby at_165) rfl ?_
            show Steps p.tables e below (T178.setTop (mkF m 167 #[.val (.int g1), .val (.int g2), .val (.int g3), .val (.int sh), .val (.int cu), .val (.int de), .val (.int r1), .val (.int r2), .val (.int r3), .val (.int (1 : Int32)), .val (.ref b171), .val (.int md), .val (.int dd), .unset, .unset, .unset] [(.int md)])) _
            refine XS.iconst X178.here hx rfl (hb hby at_167) ?_
            exact k)
          by_cases m2 : md = (2 : Int32)
          · have k199 : ∀ t, Steps p.tables e below (T178.setTop (mkF m 177 #[.val (.int g1), .val (.int g2), .val (.int g3), .val (.int sh), .val (.int cu), .val (.int de), .val (.int r1), .val (.int r2), .val (.int r3), .val (.int (1 : Int32)), .val (.ref b171), .val (.int md), .val (.int dd), .unset, .unset, .unset] [(.int (r2 + dd)), (.int (1 : Int32))])) t → Steps p.tables e below (s₁.setTop (entryFrame m #[(.int g1), (.int g2), (.int g3), (.int sh), (.int cu), (.int de)] maxLocals)) t := fun t k => k198 t (by
              show Steps p.tables e below (T178.setTop (mkF m 168 #[.val (.int g1), .val (.int g2), .val (.int g3), .val (.int sh), .val (.int cu), .val (.int de), .val (.int r1), .val (.int r2), .val (.int r3), .val (.int (1 : Int32)), .val (.ref b171), .val (.int md), .val (.int dd), .unset, .unset, .unset] [(.int (2 : Int32)), (.int md)])) _
              refine XS.icmpNo X178.here hx rfl (hb hby at_168) rfl (teq m2).2 ?_
              show Steps p.tables e below (T178.setTop (mkF m 171 #[.val (.int g1), .val (.int g2), .val (.int g3), .val (.int sh), .val (.int cu), .val (.int de), .val (.int r1), .val (.int r2), .val (.int r3), .val (.int (1 : Int32)), .val (.ref b171), .val (.int md), .val (.int dd), .unset, .unset, .unset] [])) _
              refine XS.iconst X178.here hx rfl (hb hby at_171) ?_
              show Steps p.tables e below (T178.setTop (mkF m 172 #[.val (.int g1), .val (.int g2), .val (.int g3), .val (.int sh), .val (.int cu), .val (.int de), .val (.int r1), .val (.int r2), .val (.int r3), .val (.int (1 : Int32)), .val (.ref b171), .val (.int md), .val (.int dd), .unset, .unset, .unset] [(.int (1 : Int32))])) _
              refine XS.iload X178.here hx rfl (hb hby at_172) rfl ?_
              show Steps p.tables e below (T178.setTop (mkF m 174 #[.val (.int g1), .val (.int g2), .val (.int g3), .val (.int sh), .val (.int cu), .val (.int de), .val (.int r1), .val (.int r2), .val (.int r3), .val (.int (1 : Int32)), .val (.ref b171), .val (.int md), .val (.int dd), .unset, .unset, .unset] [(.int r2), (.int (1 : Int32))])) _
              refine XS.iload X178.here hx rfl (hb hby at_174) rfl ?_
              show Steps p.tables e below (T178.setTop (mkF m 176 #[.val (.int g1), .val (.int g2), .val (.int g3), .val (.int sh), .val (.int cu), .val (.int de), .val (.int r1), .val (.int r2), .val (.int r3), .val (.int (1 : Int32)), .val (.ref b171), .val (.int md), .val (.int dd), .unset, .unset, .unset] [(.int dd), (.int r2), (.int (1 : Int32))])) _
              refine XS.iadd X178.here hx rfl (hb hby at_176) rfl ?_
              exact k)
            obtain ⟨_, _, ⟨T200, L200, k200, n200⟩, -, X200, ⟨Lc200, hQ200, l200, y200, z200⟩, st200⟩ := Jvm.LawKit.callS X178 hx (y := (⟨"java/lang/Math", "max", "(II)I"⟩ : MethodName)) hown (mvT hZ (hw _ (List.mem_of_getElem? (i := 3) rfl))) (mvT hZ (hw _ (List.mem_of_getElem? (i := 4) rfl))) (mvT hZ (hw _ (List.mem_of_getElem? (i := 5) rfl))) (mvT hZ (hw _ (List.mem_of_getElem? (i := 6) rfl))) (by decide) (backOf (W := 0) (rm1 l Z a0 hw [] (1 : Int32) (r2 + dd) h178 n0 Z180 ) hZ (hw _ (List.mem_of_getElem? (i := 6) rfl)) (hw _ (List.mem_of_getElem? (i := 5) rfl)) (by decide) (by decide)) (g := (mkF m 177 #[.val (.int g1), .val (.int g2), .val (.int g3), .val (.int sh), .val (.int cu), .val (.int de), .val (.int r1), .val (.int r2), .val (.int r3), .val (.int (1 : Int32)), .val (.ref b171), .val (.int md), .val (.int dd), .unset, .unset, .unset] [(.int (r2 + dd)), (.int (1 : Int32))])) rfl (by rw [hml]; rfl) (argsL := [(.int (1 : Int32)), (.int (r2 + dd))]) (rest := []) (lenOf pd__28II_29I rfl) rfl (by show 2 * 0 + _ ≤ _; exact Nat.le_of_eq rfl) (hb hby at_177) (fun _ _ => ⟨rfl, e178, (by decide : 1 + 0 ≤ _), (by decide : 1 + 0 ≤ _)⟩)
            dsimp only [Pt.U, Pt.locs, Pt.cells, Pt.slots] at X200 l200 y200 z200 st200 hQ200
            subst l200 y200 z200
            obtain ⟨rfl, N200q, e200⟩ := hQ200
            have N201 := Fr.app N181 N200q
            have k202 : ∀ t, Steps p.tables e below (T200.setTop (mkF m 180 #[.val (.int g1), .val (.int g2), .val (.int g3), .val (.int sh), .val (.int cu), .val (.int de), .val (.int r1), .val (.int r2), .val (.int r3), .val (.int (1 : Int32)), .val (.ref b171), .val (.int md), .val (.int dd), .unset, .unset, .unset] [(.int (if (1 : Int32) < (r2 + dd) then (r2 + dd) else (1 : Int32)))])) t → Steps p.tables e below (s₁.setTop (entryFrame m #[(.int g1), (.int g2), (.int g3), (.int sh), (.int cu), (.int de)] maxLocals)) t := fun t k => k199 t (st200 t k)
            have k203 : ∀ t, Steps p.tables e below (T200.setTop (mkF m 196 #[.val (.int g1), .val (.int g2), .val (.int g3), .val (.int sh), .val (.int cu), .val (.int de), .val (.int r1), .val (.int r2), .val (.int r3), .val (.int (1 : Int32)), .val (.ref b171), .val (.int md), .val (.int dd), .val (.int (if (1 : Int32) < (r2 + dd) then (r2 + dd) else (1 : Int32))), .unset, .unset] [])) t → Steps p.tables e below (s₁.setTop (entryFrame m #[(.int g1), (.int g2), (.int g3), (.int sh), (.int cu), (.int de)] maxLocals)) t := fun t k => k202 t (by
              show Steps p.tables e below (T200.setTop (mkF m 180 #[.val (.int g1), .val (.int g2), .val (.int g3), .val (.int sh), .val (.int cu), .val (.int de), .val (.int r1), .val (.int r2), .val (.int r3), .val (.int (1 : Int32)), .val (.ref b171), .val (.int md), .val (.int dd), .unset, .unset, .unset] [(.int (if (1 : Int32) < (r2 + dd) then (r2 + dd) else (1 : Int32)))])) _
              refine XS.istore X200.here hx rfl (hb hby at_180) rfl (l' := #[.val (.int g1), .val (.int g2), .val (.int g3), .val (.int sh), .val (.int cu), .val (.int de), .val (.int r1), .val (.int r2), .val (.int r3), .val (.int (1 : Int32)), .val (.ref b171), .val (.int md), .val (.int dd), .val (.int (if (1 : Int32) < (r2 + dd) then (r2 + dd) else (1 : Int32))), .unset, .unset]) rfl ?_
              show Steps p.tables e below (T200.setTop (mkF m 182 #[.val (.int g1), .val (.int g2), .val (.int g3), .val (.int sh), .val (.int cu), .val (.int de), .val (.int r1), .val (.int r2), .val (.int r3), .val (.int (1 : Int32)), .val (.ref b171), .val (.int md), .val (.int dd), .val (.int (if (1 : Int32) < (r2 + dd) then (r2 + dd) else (1 : Int32))), .unset, .unset] [])) _
              refine XS.goto X200.here hx rfl (pc0 := 182) (pc' := 196) rfl (hb hby at_182) (by decide) (by decide) ?_
              exact k)
            exact ⟨T200, h178, _, (if (1 : Int32) < (r2 + dd) then (r2 + dd) else (1 : Int32)), X200, e200, N201, Z180, hk182, V179, (own_max1 _), k203⟩
          · have k204 : ∀ t, Steps p.tables e below (T178.setTop (mkF m 191 #[.val (.int g1), .val (.int g2), .val (.int g3), .val (.int sh), .val (.int cu), .val (.int de), .val (.int r1), .val (.int r2), .val (.int r3), .val (.int (1 : Int32)), .val (.ref b171), .val (.int md), .val (.int dd), .unset, .unset, .unset] [(.int (r3 + dd)), (.int (1 : Int32))])) t → Steps p.tables e below (s₁.setTop (entryFrame m #[(.int g1), (.int g2), (.int g3), (.int sh), (.int cu), (.int de)] maxLocals)) t := fun t k => k198 t (by
              show Steps p.tables e below (T178.setTop (mkF m 168 #[.val (.int g1), .val (.int g2), .val (.int g3), .val (.int sh), .val (.int cu), .val (.int de), .val (.int r1), .val (.int r2), .val (.int r3), .val (.int (1 : Int32)), .val (.ref b171), .val (.int md), .val (.int dd), .unset, .unset, .unset] [(.int (2 : Int32)), (.int md)])) _
              refine XS.icmpYes X178.here hx rfl (pc0 := 168) (pc' := 185) rfl (hb hby at_168) rfl (feq m2).2 (by decide) (by decide) ?_
              show Steps p.tables e below (T178.setTop (mkF m 185 #[.val (.int g1), .val (.int g2), .val (.int g3), .val (.int sh), .val (.int cu), .val (.int de), .val (.int r1), .val (.int r2), .val (.int r3), .val (.int (1 : Int32)), .val (.ref b171), .val (.int md), .val (.int dd), .unset, .unset, .unset] [])) _
              refine XS.iconst X178.here hx rfl (hb hby at_185) ?_
              show Steps p.tables e below (T178.setTop (mkF m 186 #[.val (.int g1), .val (.int g2), .val (.int g3), .val (.int sh), .val (.int cu), .val (.int de), .val (.int r1), .val (.int r2), .val (.int r3), .val (.int (1 : Int32)), .val (.ref b171), .val (.int md), .val (.int dd), .unset, .unset, .unset] [(.int (1 : Int32))])) _
              refine XS.iload X178.here hx rfl (hb hby at_186) rfl ?_
              show Steps p.tables e below (T178.setTop (mkF m 188 #[.val (.int g1), .val (.int g2), .val (.int g3), .val (.int sh), .val (.int cu), .val (.int de), .val (.int r1), .val (.int r2), .val (.int r3), .val (.int (1 : Int32)), .val (.ref b171), .val (.int md), .val (.int dd), .unset, .unset, .unset] [(.int r3), (.int (1 : Int32))])) _
              refine XS.iload X178.here hx rfl (hb hby at_188) rfl ?_
              show Steps p.tables e below (T178.setTop (mkF m 190 #[.val (.int g1), .val (.int g2), .val (.int g3), .val (.int sh), .val (.int cu), .val (.int de), .val (.int r1), .val (.int r2), .val (.int r3), .val (.int (1 : Int32)), .val (.ref b171), .val (.int md), .val (.int dd), .unset, .unset, .unset] [(.int dd), (.int r3), (.int (1 : Int32))])) _
              refine XS.iadd X178.here hx rfl (hb hby at_190) rfl ?_
              exact k)
            obtain ⟨_, _, ⟨T205, L205, k205, n205⟩, -, X205, ⟨Lc205, hQ205, l205, y205, z205⟩, st205⟩ := Jvm.LawKit.callS X178 hx (y := (⟨"java/lang/Math", "max", "(II)I"⟩ : MethodName)) hown (mvT hZ (hw _ (List.mem_of_getElem? (i := 3) rfl))) (mvT hZ (hw _ (List.mem_of_getElem? (i := 4) rfl))) (mvT hZ (hw _ (List.mem_of_getElem? (i := 5) rfl))) (mvT hZ (hw _ (List.mem_of_getElem? (i := 6) rfl))) (by decide) (backOf (W := 0) (rm1 l Z a0 hw [] (1 : Int32) (r3 + dd) h178 n0 Z180 ) hZ (hw _ (List.mem_of_getElem? (i := 6) rfl)) (hw _ (List.mem_of_getElem? (i := 5) rfl)) (by decide) (by decide)) (g := (mkF m 191 #[.val (.int g1), .val (.int g2), .val (.int g3), .val (.int sh), .val (.int cu), .val (.int de), .val (.int r1), .val (.int r2), .val (.int r3), .val (.int (1 : Int32)), .val (.ref b171), .val (.int md), .val (.int dd), .unset, .unset, .unset] [(.int (r3 + dd)), (.int (1 : Int32))])) rfl (by rw [hml]; rfl) (argsL := [(.int (1 : Int32)), (.int (r3 + dd))]) (rest := []) (lenOf pd__28II_29I rfl) rfl (by show 2 * 0 + _ ≤ _; exact Nat.le_of_eq rfl) (hb hby at_191) (fun _ _ => ⟨rfl, e178, (by decide : 1 + 0 ≤ _), (by decide : 1 + 0 ≤ _)⟩)
            dsimp only [Pt.U, Pt.locs, Pt.cells, Pt.slots] at X205 l205 y205 z205 st205 hQ205
            subst l205 y205 z205
            obtain ⟨rfl, N205q, e205⟩ := hQ205
            have N206 := Fr.app N181 N205q
            have k207 : ∀ t, Steps p.tables e below (T205.setTop (mkF m 194 #[.val (.int g1), .val (.int g2), .val (.int g3), .val (.int sh), .val (.int cu), .val (.int de), .val (.int r1), .val (.int r2), .val (.int r3), .val (.int (1 : Int32)), .val (.ref b171), .val (.int md), .val (.int dd), .unset, .unset, .unset] [(.int (if (1 : Int32) < (r3 + dd) then (r3 + dd) else (1 : Int32)))])) t → Steps p.tables e below (s₁.setTop (entryFrame m #[(.int g1), (.int g2), (.int g3), (.int sh), (.int cu), (.int de)] maxLocals)) t := fun t k => k204 t (st205 t k)
            have k208 : ∀ t, Steps p.tables e below (T205.setTop (mkF m 196 #[.val (.int g1), .val (.int g2), .val (.int g3), .val (.int sh), .val (.int cu), .val (.int de), .val (.int r1), .val (.int r2), .val (.int r3), .val (.int (1 : Int32)), .val (.ref b171), .val (.int md), .val (.int dd), .val (.int (if (1 : Int32) < (r3 + dd) then (r3 + dd) else (1 : Int32))), .unset, .unset] [])) t → Steps p.tables e below (s₁.setTop (entryFrame m #[(.int g1), (.int g2), (.int g3), (.int sh), (.int cu), (.int de)] maxLocals)) t := fun t k => k207 t (by
              show Steps p.tables e below (T205.setTop (mkF m 194 #[.val (.int g1), .val (.int g2), .val (.int g3), .val (.int sh), .val (.int cu), .val (.int de), .val (.int r1), .val (.int r2), .val (.int r3), .val (.int (1 : Int32)), .val (.ref b171), .val (.int md), .val (.int dd), .unset, .unset, .unset] [(.int (if (1 : Int32) < (r3 + dd) then (r3 + dd) else (1 : Int32)))])) _
              refine XS.istore X205.here hx rfl (hb hby at_194) rfl (l' := #[.val (.int g1), .val (.int g2), .val (.int g3), .val (.int sh), .val (.int cu), .val (.int de), .val (.int r1), .val (.int r2), .val (.int r3), .val (.int (1 : Int32)), .val (.ref b171), .val (.int md), .val (.int dd), .val (.int (if (1 : Int32) < (r3 + dd) then (r3 + dd) else (1 : Int32))), .unset, .unset]) rfl ?_
              exact k)
            exact ⟨T205, h178, _, (if (1 : Int32) < (r3 + dd) then (r3 + dd) else (1 : Int32)), X205, e205, N206, Z180, hk182, V179, (own_max1 _), k208⟩
    have k210 : ∀ t, Steps p.tables e below (T185.setTop (mkF m 209 #[.val (.int g1), .val (.int g2), .val (.int g3), .val (.int sh), .val (.int cu), .val (.int de), .val (.int r1), .val (.int r2), .val (.int r3), .val (.int (1 : Int32)), .val (.ref b171), .val (.int md), .val (.int dd), .val (.int cut), .val (.int (0 : Int32)), .unset] [(.int cut), (.int r1)])) t → Steps p.tables e below (s₁.setTop (entryFrame m #[(.int g1), (.int g2), (.int g3), (.int sh), (.int cu), (.int de)] maxLocals)) t := fun t k => kq185 t (by
      show Steps p.tables e below (T185.setTop (mkF m 196 #[.val (.int g1), .val (.int g2), .val (.int g3), .val (.int sh), .val (.int cu), .val (.int de), .val (.int r1), .val (.int r2), .val (.int r3), .val (.int (1 : Int32)), .val (.ref b171), .val (.int md), .val (.int dd), .val (.int cut), .unset, .unset] [])) _
      refine XS.iconst X185.here hx rfl (hb hby at_196) ?_
      show Steps p.tables e below (T185.setTop (mkF m 197 #[.val (.int g1), .val (.int g2), .val (.int g3), .val (.int sh), .val (.int cu), .val (.int de), .val (.int r1), .val (.int r2), .val (.int r3), .val (.int (1 : Int32)), .val (.ref b171), .val (.int md), .val (.int dd), .val (.int cut), .unset, .unset] [(.int (0 : Int32))])) _
      refine XS.istore X185.here hx rfl (hb hby at_197) rfl (l' := #[.val (.int g1), .val (.int g2), .val (.int g3), .val (.int sh), .val (.int cu), .val (.int de), .val (.int r1), .val (.int r2), .val (.int r3), .val (.int (1 : Int32)), .val (.ref b171), .val (.int md), .val (.int dd), .val (.int cut), .val (.int (0 : Int32)), .unset]) rfl ?_
      show Steps p.tables e below (T185.setTop (mkF m 199 #[.val (.int g1), .val (.int g2), .val (.int g3), .val (.int sh), .val (.int cu), .val (.int de), .val (.int r1), .val (.int r2), .val (.int r3), .val (.int (1 : Int32)), .val (.ref b171), .val (.int md), .val (.int dd), .val (.int cut), .val (.int (0 : Int32)), .unset] [])) _
      refine XS.iload X185.here hx rfl (hb hby at_199) rfl ?_
      show Steps p.tables e below (T185.setTop (mkF m 201 #[.val (.int g1), .val (.int g2), .val (.int g3), .val (.int sh), .val (.int cu), .val (.int de), .val (.int r1), .val (.int r2), .val (.int r3), .val (.int (1 : Int32)), .val (.ref b171), .val (.int md), .val (.int dd), .val (.int cut), .val (.int (0 : Int32)), .unset] [(.int (1 : Int32))])) _
      refine XS.iconst X185.here hx rfl (hb hby at_201) ?_
      show Steps p.tables e below (T185.setTop (mkF m 202 #[.val (.int g1), .val (.int g2), .val (.int g3), .val (.int sh), .val (.int cu), .val (.int de), .val (.int r1), .val (.int r2), .val (.int r3), .val (.int (1 : Int32)), .val (.ref b171), .val (.int md), .val (.int dd), .val (.int cut), .val (.int (0 : Int32)), .unset] [(.int (1 : Int32)), (.int (1 : Int32))])) _
      refine XS.icmpNo X185.here hx rfl (hb hby at_202) rfl (flt (by decide)).1 ?_
      show Steps p.tables e below (T185.setTop (mkF m 205 #[.val (.int g1), .val (.int g2), .val (.int g3), .val (.int sh), .val (.int cu), .val (.int de), .val (.int r1), .val (.int r2), .val (.int r3), .val (.int (1 : Int32)), .val (.ref b171), .val (.int md), .val (.int dd), .val (.int cut), .val (.int (0 : Int32)), .unset] [])) _
      refine XS.iload X185.here hx rfl (hb hby at_205) rfl ?_
      show Steps p.tables e below (T185.setTop (mkF m 207 #[.val (.int g1), .val (.int g2), .val (.int g3), .val (.int sh), .val (.int cu), .val (.int de), .val (.int r1), .val (.int r2), .val (.int r3), .val (.int (1 : Int32)), .val (.ref b171), .val (.int md), .val (.int dd), .val (.int cut), .val (.int (0 : Int32)), .unset] [(.int r1)])) _
      refine XS.iload X185.here hx rfl (hb hby at_207) rfl ?_
      exact k)
    obtain ⟨i212, hi212⟩ : ∃ z : Int32, z = (if cut < r1 then (0 : Int32) else (1 : Int32)) := ⟨_, rfl⟩
    have k213 : ∀ t, Steps p.tables e below (T185.setTop (mkF m 218 #[.val (.int g1), .val (.int g2), .val (.int g3), .val (.int sh), .val (.int cu), .val (.int de), .val (.int r1), .val (.int r2), .val (.int r3), .val (.int (1 : Int32)), .val (.ref b171), .val (.int md), .val (.int dd), .val (.int cut), .val (.int i212), .unset] [])) t → Steps p.tables e below (s₁.setTop (entryFrame m #[(.int g1), (.int g2), (.int g3), (.int sh), (.int cu), (.int de)] maxLocals)) t := fun t k => k210 t (by
      by_cases c211 : cut < r1
      · rw [if_pos c211] at hi212
        show Steps p.tables e below (T185.setTop (mkF m 209 #[.val (.int g1), .val (.int g2), .val (.int g3), .val (.int sh), .val (.int cu), .val (.int de), .val (.int r1), .val (.int r2), .val (.int r3), .val (.int (1 : Int32)), .val (.ref b171), .val (.int md), .val (.int dd), .val (.int cut), .val (.int (0 : Int32)), .unset] [(.int cut), (.int r1)])) _
        refine XS.icmpYes X185.here hx rfl (pc0 := 209) (pc' := 218) rfl (hb hby at_209) rfl (tlt c211).2.2.1 (by decide) (by decide) ?_
        show Steps p.tables e below (T185.setTop (mkF m 218 #[.val (.int g1), .val (.int g2), .val (.int g3), .val (.int sh), .val (.int cu), .val (.int de), .val (.int r1), .val (.int r2), .val (.int r3), .val (.int (1 : Int32)), .val (.ref b171), .val (.int md), .val (.int dd), .val (.int cut), .val (.int (0 : Int32)), .unset] [])) _
        exact castTop (by rw [hi212]) k
      · rw [if_neg c211] at hi212
        show Steps p.tables e below (T185.setTop (mkF m 209 #[.val (.int g1), .val (.int g2), .val (.int g3), .val (.int sh), .val (.int cu), .val (.int de), .val (.int r1), .val (.int r2), .val (.int r3), .val (.int (1 : Int32)), .val (.ref b171), .val (.int md), .val (.int dd), .val (.int cut), .val (.int (0 : Int32)), .unset] [(.int cut), (.int r1)])) _
        refine XS.icmpNo X185.here hx rfl (hb hby at_209) rfl (flt c211).2.2.1 ?_
        show Steps p.tables e below (T185.setTop (mkF m 212 #[.val (.int g1), .val (.int g2), .val (.int g3), .val (.int sh), .val (.int cu), .val (.int de), .val (.int r1), .val (.int r2), .val (.int r3), .val (.int (1 : Int32)), .val (.ref b171), .val (.int md), .val (.int dd), .val (.int cut), .val (.int (0 : Int32)), .unset] [])) _
        refine XS.iload X185.here hx rfl (hb hby at_212) rfl ?_
        show Steps p.tables e below (T185.setTop (mkF m 214 #[.val (.int g1), .val (.int g2), .val (.int g3), .val (.int sh), .val (.int cu), .val (.int de), .val (.int r1), .val (.int r2), .val (.int r3), .val (.int (1 : Int32)), .val (.ref b171), .val (.int md), .val (.int dd), .val (.int cut), .val (.int (0 : Int32)), .unset] [(.int (0 : Int32))])) _
        refine XS.iconst X185.here hx rfl (hb hby at_214) ?_
        show Steps p.tables e below (T185.setTop (mkF m 215 #[.val (.int g1), .val (.int g2), .val (.int g3), .val (.int sh), .val (.int cu), .val (.int de), .val (.int r1), .val (.int r2), .val (.int r3), .val (.int (1 : Int32)), .val (.ref b171), .val (.int md), .val (.int dd), .val (.int cut), .val (.int (0 : Int32)), .unset] [(.int (1 : Int32)), (.int (0 : Int32))])) _
        refine XS.iadd X185.here hx rfl (hb hby at_215) rfl ?_
        show Steps p.tables e below (T185.setTop (mkF m 216 #[.val (.int g1), .val (.int g2), .val (.int g3), .val (.int sh), .val (.int cu), .val (.int de), .val (.int r1), .val (.int r2), .val (.int r3), .val (.int (1 : Int32)), .val (.ref b171), .val (.int md), .val (.int dd), .val (.int cut), .val (.int (0 : Int32)), .unset] [(.int ((0 : Int32) + (1 : Int32)))])) _
        refine castTop (g' := (mkF m 216 #[.val (.int g1), .val (.int g2), .val (.int g3), .val (.int sh), .val (.int cu), .val (.int de), .val (.int r1), .val (.int r2), .val (.int r3), .val (.int (1 : Int32)), .val (.ref b171), .val (.int md), .val (.int dd), .val (.int cut), .val (.int (0 : Int32)), .unset] [(.int (1 : Int32))])) (by rw [show ((0 : Int32) + (1 : Int32)) = (1 : Int32) by decide]) ?_
        show Steps p.tables e below (T185.setTop (mkF m 216 #[.val (.int g1), .val (.int g2), .val (.int g3), .val (.int sh), .val (.int cu), .val (.int de), .val (.int r1), .val (.int r2), .val (.int r3), .val (.int (1 : Int32)), .val (.ref b171), .val (.int md), .val (.int dd), .val (.int cut), .val (.int (0 : Int32)), .unset] [(.int (1 : Int32))])) _
        refine XS.istore X185.here hx rfl (hb hby at_216) rfl (l' := #[.val (.int g1), .val (.int g2), .val (.int g3), .val (.int sh), .val (.int cu), .val (.int de), .val (.int r1), .val (.int r2), .val (.int r3), .val (.int (1 : Int32)), .val (.ref b171), .val (.int md), .val (.int dd), .val (.int cut), .val (.int (1 : Int32)), .unset]) rfl ?_
        show Steps p.tables e below (T185.setTop (mkF m 218 #[.val (.int g1), .val (.int g2), .val (.int g3), .val (.int sh), .val (.int cu), .val (.int de), .val (.int r1), .val (.int r2), .val (.int r3), .val (.int (1 : Int32)), .val (.ref b171), .val (.int md), .val (.int dd), .val (.int cut), .val (.int (1 : Int32)), .unset] [])) _
        exact castTop (by rw [hi212]) k)
    have k214 : ∀ t, Steps p.tables e below (T185.setTop (mkF m 256 #[.val (.int g1), .val (.int g2), .val (.int g3), .val (.int sh), .val (.int cu), .val (.int de), .val (.int r1), .val (.int r2), .val (.int r3), .val (.int (1 : Int32)), .val (.ref b171), .val (.int md), .val (.int dd), .val (.int cut), .val (.int i212), .unset] [])) t → Steps p.tables e below (s₁.setTop (entryFrame m #[(.int g1), (.int g2), (.int g3), (.int sh), (.int cu), (.int de)] maxLocals)) t := fun t k => k213 t (by
      show Steps p.tables e below (T185.setTop (mkF m 218 #[.val (.int g1), .val (.int g2), .val (.int g3), .val (.int sh), .val (.int cu), .val (.int de), .val (.int r1), .val (.int r2), .val (.int r3), .val (.int (1 : Int32)), .val (.ref b171), .val (.int md), .val (.int dd), .val (.int cut), .val (.int i212), .unset] [])) _
      refine XS.iload X185.here hx rfl (hb hby at_218) rfl ?_
      show Steps p.tables e below (T185.setTop (mkF m 220 #[.val (.int g1), .val (.int g2), .val (.int g3), .val (.int sh), .val (.int cu), .val (.int de), .val (.int r1), .val (.int r2), .val (.int r3), .val (.int (1 : Int32)), .val (.ref b171), .val (.int md), .val (.int dd), .val (.int cut), .val (.int i212), .unset] [(.int (1 : Int32))])) _
      refine XS.iconst X185.here hx rfl (hb hby at_220) ?_
      show Steps p.tables e below (T185.setTop (mkF m 221 #[.val (.int g1), .val (.int g2), .val (.int g3), .val (.int sh), .val (.int cu), .val (.int de), .val (.int r1), .val (.int r2), .val (.int r3), .val (.int (1 : Int32)), .val (.ref b171), .val (.int md), .val (.int dd), .val (.int cut), .val (.int i212), .unset] [(.int (2 : Int32)), (.int (1 : Int32))])) _
      refine XS.icmpYes X185.here hx rfl (pc0 := 221) (pc' := 237) rfl (hb hby at_221) rfl (tlt (by decide)).1 (by decide) (by decide) ?_
      show Steps p.tables e below (T185.setTop (mkF m 237 #[.val (.int g1), .val (.int g2), .val (.int g3), .val (.int sh), .val (.int cu), .val (.int de), .val (.int r1), .val (.int r2), .val (.int r3), .val (.int (1 : Int32)), .val (.ref b171), .val (.int md), .val (.int dd), .val (.int cut), .val (.int i212), .unset] [])) _
      refine XS.iload X185.here hx rfl (hb hby at_237) rfl ?_
      show Steps p.tables e below (T185.setTop (mkF m 239 #[.val (.int g1), .val (.int g2), .val (.int g3), .val (.int sh), .val (.int cu), .val (.int de), .val (.int r1), .val (.int r2), .val (.int r3), .val (.int (1 : Int32)), .val (.ref b171), .val (.int md), .val (.int dd), .val (.int cut), .val (.int i212), .unset] [(.int (1 : Int32))])) _
      refine XS.iconst X185.here hx rfl (hb hby at_239) ?_
      show Steps p.tables e below (T185.setTop (mkF m 240 #[.val (.int g1), .val (.int g2), .val (.int g3), .val (.int sh), .val (.int cu), .val (.int de), .val (.int r1), .val (.int r2), .val (.int r3), .val (.int (1 : Int32)), .val (.ref b171), .val (.int md), .val (.int dd), .val (.int cut), .val (.int i212), .unset] [(.int (3 : Int32)), (.int (1 : Int32))])) _
      refine XS.icmpYes X185.here hx rfl (pc0 := 240) (pc' := 256) rfl (hb hby at_240) rfl (tlt (by decide)).1 (by decide) (by decide) ?_
      exact k)
    obtain ⟨T215, h215, X215, e215, E215, A215, D215, -, st215⟩ := newO X185 hx hZ hown (hw _ (List.mem_of_getElem? (i := 7) rfl)) (hw _ (List.mem_of_getElem? (i := 8) rfl)) (hw _ (List.mem_of_getElem? (i := 9) rfl)) e185 (g := (mkF m 256 #[.val (.int g1), .val (.int g2), .val (.int g3), .val (.int sh), .val (.int cu), .val (.int de), .val (.int r1), .val (.int r2), .val (.int r3), .val (.int (1 : Int32)), .val (.ref b171), .val (.int md), .val (.int dd), .val (.int cut), .val (.int i212), .unset] [])) rfl (hb hby at_256) (by decide) (by decide)
    obtain ⟨b215, g215⟩ : ∃ z, z = h185.size := ⟨_, rfl⟩
    rw [← g215] at A215 D215 st215
    have n216 : b171 ≠ b215 := Nat.ne_of_lt (Nat.lt_of_lt_of_le F209.lt (Nat.le_of_eq g215.symm))
    have g217 : n0 ≤ b215 := Nat.le_trans Zq185 (Nat.le_of_eq g215.symm)
    have F218 := F209.ext E215
    have Z219 : n0 ≤ h215.size := Nat.le_trans Zq185 E215.1
    have hk220 : 0 ≤ h215.size := Nat.le_trans hkq185 E215.1
    have F221 : Fld Z h215 b215 "com/example/round2/round2/eval/TopicResult" "topic" "Ljava/lang/String;" .null := D215 (Or.inr (hw _ (List.mem_of_getElem? (i := 25) rfl))) (ty := (.object "java/lang/String")) (by decide)
    have F222 : Fld Z h215 b215 "com/example/round2/round2/eval/TopicResult" "retrieved" "I" (.int (0 : Int32)) := D215 (Or.inr (hw _ (List.mem_of_getElem? (i := 27) rfl))) (ty := .int) (by decide)
    have F223 : Fld Z h215 b215 "com/example/round2/round2/eval/TopicResult" "relevant" "I" (.int (0 : Int32)) := D215 (Or.inr (hw _ (List.mem_of_getElem? (i := 29) rfl))) (ty := .int) (by decide)
    have F224 : Fld Z h215 b215 "com/example/round2/round2/eval/TopicResult" "relevantRanks" "[I" .null := D215 (Or.inr (hw _ (List.mem_of_getElem? (i := 31) rfl))) (ty := (.array .int)) (by decide)
    have k225 : ∀ t, Steps p.tables e below (T215.setTop (mkF m 259 #[.val (.int g1), .val (.int g2), .val (.int g3), .val (.int sh), .val (.int cu), .val (.int de), .val (.int r1), .val (.int r2), .val (.int r3), .val (.int (1 : Int32)), .val (.ref b171), .val (.int md), .val (.int dd), .val (.int cut), .val (.int i212), .unset] [(.ref b215)])) t → Steps p.tables e below (s₁.setTop (entryFrame m #[(.int g1), (.int g2), (.int g3), (.int sh), (.int cu), (.int de)] maxLocals)) t := fun t k => k214 t (st215 t k)
    have k226 : ∀ t, Steps p.tables e below (T215.setTop (mkF m 260 #[.val (.int g1), .val (.int g2), .val (.int g3), .val (.int sh), .val (.int cu), .val (.int de), .val (.int r1), .val (.int r2), .val (.int r3), .val (.int (1 : Int32)), .val (.ref b171), .val (.int md), .val (.int dd), .val (.int cut), .val (.int i212), .unset] [(.ref b215), (.ref b215)])) t → Steps p.tables e below (s₁.setTop (entryFrame m #[(.int g1), (.int g2), (.int g3), (.int sh), (.int cu), (.int de)] maxLocals)) t := fun t k => k225 t (by
      show Steps p.tables e below (T215.setTop (mkF m 259 #[.val (.int g1), .val (.int g2), .val (.int g3), .val (.int sh), .val (.int cu), .val (.int de), .val (.int r1), .val (.int r2), .val (.int r3), .val (.int (1 : Int32)), .val (.ref b171), .val (.int md), .val (.int dd), .val (.int cut), .val (.int i212), .unset] [(.ref b215)])) _
      refine XS.dup X215.here hx rfl (hb hby at_259) rfl rfl ?_
      exact k)
    obtain ⟨b227, T227, h227, kk227, X227, e227, E227, hS227, hk227, hZ227, hown227, st227⟩ := ldcS (s := s) (vm0 := s.vm) X215 hx hZ hown (hw _ (List.mem_of_getElem? (i := 10) rfl)) (own_strAtoms hw) e215 hS0 hk220 (g := (mkF m 260 #[.val (.int g1), .val (.int g2), .val (.int g3), .val (.int sh), .val (.int cu), .val (.int de), .val (.int r1), .val (.int r2), .val (.int r3), .val (.int (1 : Int32)), .val (.ref b171), .val (.int md), .val (.int dd), .val (.int cut), .val (.int i212), .unset] [(.ref b215), (.ref b215)])) rfl (hb hby at_260) (n := 4) (by decide) (by decide) (by decide) (by decide)
    have F228 := F218.ext E227
    have F229 := A215.ext E227
    have F230 := F221.ext E227
    have F231 := F222.ext E227
    have F232 := F223.ext E227
    have F233 := F224.ext E227
    have Z234 : n0 ≤ h227.size := Nat.le_trans Z219 E227.1
    have k235 : ∀ t, Steps p.tables e below (T227.setTop (mkF m 262 #[.val (.int g1), .val (.int g2), .val (.int g3), .val (.int sh), .val (.int cu), .val (.int de), .val (.int r1), .val (.int r2), .val (.int r3), .val (.int (1 : Int32)), .val (.ref b171), .val (.int md), .val (.int dd), .val (.int cut), .val (.int i212), .unset] [(.ref b227), (.ref b215), (.ref b215)])) t → Steps p.tables e below (s₁.setTop (entryFrame m #[(.int g1), (.int g2), (.int g3), (.int sh), (.int cu), (.int de)] maxLocals)) t := fun t k => k226 t (st227 t k)
    have k236 : ∀ t, Steps p.tables e below (T227.setTop (mkF m 268 #[.val (.int g1), .val (.int g2), .val (.int g3), .val (.int sh), .val (.int cu), .val (.int de), .val (.int r1), .val (.int r2), .val (.int r3), .val (.int (1 : Int32)), .val (.ref b171), .val (.int md), .val (.int dd), .val (.int cut), .val (.int i212), .unset] [(.ref b171), (.int (1 : Int32)), (.int r3), (.ref b227), (.ref b215), (.ref b215)])) t → Steps p.tables e below (s₁.setTop (entryFrame m #[(.int g1), (.int g2), (.int g3), (.int sh), (.int cu), (.int de)] maxLocals)) t := fun t k => k235 t (by
      show Steps p.tables e below (T227.setTop (mkF m 262 #[.val (.int g1), .val (.int g2), .val (.int g3), .val (.int sh), .val (.int cu), .val (.int de), .val (.int r1), .val (.int r2), .val (.int r3), .val (.int (1 : Int32)), .val (.ref b171), .val (.int md), .val (.int dd), .val (.int cut), .val (.int i212), .unset] [(.ref b227), (.ref b215), (.ref b215)])) _
      refine XS.iload X227.here hx rfl (hb hby at_262) rfl ?_
      show Steps p.tables e below (T227.setTop (mkF m 264 #[.val (.int g1), .val (.int g2), .val (.int g3), .val (.int sh), .val (.int cu), .val (.int de), .val (.int r1), .val (.int r2), .val (.int r3), .val (.int (1 : Int32)), .val (.ref b171), .val (.int md), .val (.int dd), .val (.int cut), .val (.int i212), .unset] [(.int r3), (.ref b227), (.ref b215), (.ref b215)])) _
      refine XS.iload X227.here hx rfl (hb hby at_264) rfl ?_
      show Steps p.tables e below (T227.setTop (mkF m 266 #[.val (.int g1), .val (.int g2), .val (.int g3), .val (.int sh), .val (.int cu), .val (.int de), .val (.int r1), .val (.int r2), .val (.int r3), .val (.int (1 : Int32)), .val (.ref b171), .val (.int md), .val (.int dd), .val (.int cut), .val (.int i212), .unset] [(.int (1 : Int32)), (.int r3), (.ref b227), (.ref b215), (.ref b215)])) _
      refine XS.aload X227.here hx rfl (hb hby at_266) rfl rfl ?_
      exact k)
    obtain ⟨_, _, ⟨T237, L237, k237, n237⟩, -, X237, ⟨Lc237, hQ237, l237, y237, z237⟩, st237⟩ := X227.specialBack hx (y := (⟨"com/example/round2/round2/eval/TopicResult", "<init>", "(Ljava/lang/String;II[I)V"⟩ : MethodName)) rfl hown227 (mvT hZ227 (hw _ (List.mem_of_getElem? (i := 18) rfl))) (mvT hZ227 (hw _ (List.mem_of_getElem? (i := 19) rfl))) (mvT hZ227 (hw _ (List.mem_of_getElem? (i := 20) rfl))) (by decide) (backOf (W := 1) (rm2 l Z a0 hw [] b215 b227 r3 (1 : Int32) b171 h227 n0 Z234 F230 F231 F232 F233 F229 g217) hZ227 (hw _ (List.mem_of_getElem? (i := 20) rfl)) (hw _ (List.mem_of_getElem? (i := 9) rfl)) (by decide) (by decide)) (g := (mkF m 268 #[.val (.int g1), .val (.int g2), .val (.int g3), .val (.int sh), .val (.int cu), .val (.int de), .val (.int r1), .val (.int r2), .val (.int r3), .val (.int (1 : Int32)), .val (.ref b171), .val (.int md), .val (.int dd), .val (.int cut), .val (.int i212), .unset] [(.ref b171), (.int (1 : Int32)), (.int r3), (.ref b227), (.ref b215), (.ref b215)])) rfl (by rw [hml]; rfl) (Steps.refl _) (a := b215) (argsL := [(.ref b227), (.int r3), (.int (1 : Int32)), (.ref b171)]) (rest := [(.ref b215)]) (lenOf pd__28Ljava_2flang_2fString_3bII_5bI_29V rfl) rfl (by show 2 * 0 + _ ≤ _; exact Nat.le_of_eq rfl) (hb hby at_268) (fun _ _ => ⟨rfl, e227, (by decide : 4 + 0 ≤ _), (by decide : 13 + 0 ≤ _)⟩)
    dsimp only [Pt.U, Pt.locs, Pt.cells, Pt.slots] at X237 l237 y237 z237 st237 hQ237
    subst l237 y237 z237
    obtain ⟨h237, e237⟩ : ∃ h', T237.heap = h' := ⟨_, rfl⟩
    rw [e237] at hQ237
    obtain ⟨rfl, N237q, K237, G237a, G237b, G237c⟩ := hQ237
    have N238 := Fr.app N185 N237q
    have k239 : ∀ t, Steps p.tables e below (T237.setTop (mkF m 271 #[.val (.int g1), .val (.int g2), .val (.int g3), .val (.int sh), .val (.int cu), .val (.int de), .val (.int r1), .val (.int r2), .val (.int r3), .val (.int (1 : Int32)), .val (.ref b171), .val (.int md), .val (.int dd), .val (.int cut), .val (.int i212), .unset] [(.ref b215)])) t → Steps p.tables e below (s₁.setTop (entryFrame m #[(.int g1), (.int g2), (.int g3), (.int sh), (.int cu), (.int de)] maxLocals)) t := fun t k => k236 t (st237.trans k)
    have F240 := F228.keep K237 (ninS n216 nin0)
    have F241 := F229.keep K237
    have Z242 : n0 ≤ h237.size := Nat.le_trans Z234 K237.1
    have hk243 : kk227 ≤ h237.size := Nat.le_trans hk227 K237.1
    have k244 : ∀ t, Steps p.tables e below (T237.setTop (mkF m 277 #[.val (.int g1), .val (.int g2), .val (.int g3), .val (.int sh), .val (.int cu), .val (.int de), .val (.int r1), .val (.int r2), .val (.int r3), .val (.int (1 : Int32)), .val (.ref b171), .val (.int md), .val (.int dd), .val (.int cut), .val (.int i212), .val (.ref b215)] [(.int cut), (.ref b215)])) t → Steps p.tables e below (s₁.setTop (entryFrame m #[(.int g1), (.int g2), (.int g3), (.int sh), (.int cu), (.int de)] maxLocals)) t := fun t k => k239 t (by
      show Steps p.tables e below (T237.setTop (mkF m 271 #[.val (.int g1), .val (.int g2), .val (.int g3), .val (.int sh), .val (.int cu), .val (.int de), .val (.int r1), .val (.int r2), .val (.int r3), .val (.int (1 : Int32)), .val (.ref b171), .val (.int md), .val (.int dd), .val (.int cut), .val (.int i212), .unset] [(.ref b215)])) _
      refine XS.astore X237.here hx rfl (hb hby at_271) rfl rfl (l' := #[.val (.int g1), .val (.int g2), .val (.int g3), .val (.int sh), .val (.int cu), .val (.int de), .val (.int r1), .val (.int r2), .val (.int r3), .val (.int (1 : Int32)), .val (.ref b171), .val (.int md), .val (.int dd), .val (.int cut), .val (.int i212), .val (.ref b215)]) rfl ?_
      show Steps p.tables e below (T237.setTop (mkF m 273 #[.val (.int g1), .val (.int g2), .val (.int g3), .val (.int sh), .val (.int cu), .val (.int de), .val (.int r1), .val (.int r2), .val (.int r3), .val (.int (1 : Int32)), .val (.ref b171), .val (.int md), .val (.int dd), .val (.int cut), .val (.int i212), .val (.ref b215)] [])) _
      refine XS.aload X237.here hx rfl (hb hby at_273) rfl rfl ?_
      show Steps p.tables e below (T237.setTop (mkF m 275 #[.val (.int g1), .val (.int g2), .val (.int g3), .val (.int sh), .val (.int cu), .val (.int de), .val (.int r1), .val (.int r2), .val (.int r3), .val (.int (1 : Int32)), .val (.ref b171), .val (.int md), .val (.int dd), .val (.int cut), .val (.int i212), .val (.ref b215)] [(.ref b215)])) _
      refine XS.iload X237.here hx rfl (hb hby at_275) rfl ?_
      exact k)
    by_cases d0 : cut < r1
    · have hne : cut ≠ 0 := fun q => by rw [q, show (0 : Int32).toInt = 0 by decide] at hcut; omega
      obtain ⟨cq245, kq245, q245a, q245b, q245c⟩ := isOf hZ227 e237 G237a
      obtain ⟨_, _, ⟨T245, L245, k245, n245⟩, -, X245, ⟨Lc245, hQ245, l245, y245, z245⟩, st245⟩ := X237.virtualBack hx (y := (⟨"com/example/round2/round2/eval/TopicResult", "precisionAt", "(I)D"⟩ : MethodName)) (z := (⟨"com/example/round2/round2/eval/TopicResult", "precisionAt", "(I)D"⟩ : MethodName)) hown227 (mvT hZ227 (hw _ (List.mem_of_getElem? (i := 32) rfl))) (mvT hZ227 (hw _ (List.mem_of_getElem? (i := 33) rfl))) (notFace_of_selects (args := #[]) (mvT hZ227 (hw _ (List.mem_of_getElem? (i := 35) rfl)))) (mvT hZ227 (hw _ (List.mem_of_getElem? (i := 35) rfl))) (mvT hZ227 (hw _ (List.mem_of_getElem? (i := 34) rfl))) (by decide) (backOf (W := 0) (prec1_0 l Z a0 hw [] b215 cut b171 k171 r1 h237 n0 Z242 G237c F240 (own_ge1 hcut) (nn_div (no_fin (Jvm.FP.Core.i2d_fin _)) hne) d0) hZ227 (hw _ (List.mem_of_getElem? (i := 36) rfl)) (hw _ (List.mem_of_getElem? (i := 9) rfl)) (by decide) (by decide)) q245a q245c (g := (mkF m 277 #[.val (.int g1), .val (.int g2), .val (.int g3), .val (.int sh), .val (.int cu), .val (.int de), .val (.int r1), .val (.int r2), .val (.int r3), .val (.int (1 : Int32)), .val (.ref b171), .val (.int md), .val (.int dd), .val (.int cut), .val (.int i212), .val (.ref b215)] [(.int cut), (.ref b215)])) rfl (by rw [hml]; rfl) (Steps.refl _) (argsL := [(.int cut)]) (rest := []) (lenOf pd__28I_29D rfl) rfl (by show 2 * 0 + _ ≤ _; exact Nat.le_of_eq rfl) (hb hby at_277) (fun _ _ => ⟨rfl, e237, (by decide : 4 + 0 ≤ _), (by decide : 13 + 0 ≤ _)⟩)
      dsimp only [Pt.U, Pt.locs, Pt.cells, Pt.slots] at X245 l245 y245 z245 st245 hQ245
      subst l245 y245 z245
      obtain ⟨rfl, N245q, e245⟩ := hQ245
      have N246 := Fr.app N238 N245q
      have k247 : ∀ t, Steps p.tables e below (T245.setTop (mkF m 280 #[.val (.int g1), .val (.int g2), .val (.int g3), .val (.int sh), .val (.int cu), .val (.int de), .val (.int r1), .val (.int r2), .val (.int r3), .val (.int (1 : Int32)), .val (.ref b171), .val (.int md), .val (.int dd), .val (.int cut), .val (.int i212), .val (.ref b215)] [(.double (FP.ddiv (FP.i2d (0 : Int32)) (FP.i2d cut)))])) t → Steps p.tables e below (s₁.setTop (entryFrame m #[(.int g1), (.int g2), (.int g3), (.int sh), (.int cu), (.int de)] maxLocals)) t := fun t k => k244 t (st245.trans k)
      have hc : i212 = (0 : Int32) := by rw [hi212, if_pos d0]; first | done | rfl | decide
      obtain ⟨vc, hvc⟩ : ∃ z : UInt64, FP.i2d i212 = z := ⟨_, rfl⟩
      obtain ⟨vk, hvk⟩ : ∃ z : UInt64, FP.i2d cut = z := ⟨_, rfl⟩
      obtain ⟨want, hwant⟩ : ∃ z : UInt64, FP.ddiv vc vk = z := ⟨_, rfl⟩
      have nnw : Jvm.Free.Fl.NoNaN64 (FP.ddiv vc vk) := by rw [← hvc, ← hvk]; exact nn_div (no_fin (Jvm.FP.Core.i2d_fin _)) hne
      have hfin : cmpValue (FP.dcmp (FP.ddiv (FP.i2d (0 : Int32)) (FP.i2d cut)) want) .l = (0 : Int32) := by rw [← hwant, ← hvc, ← hvk, hc]; exact dcmpV_self (nn_div (no_fin (Jvm.FP.Core.i2d_fin _)) hne) .l
      have k248 : ∀ t, Steps p.tables e below (T245.setTop (mkF m 296 #[.val (.int g1), .val (.int g2), .val (.int g3), .val (.int sh), .val (.int cu), .val (.int de), .val (.int r1), .val (.int r2), .val (.int r3), .val (.int (1 : Int32)), .val (.ref b171), .val (.int md), .val (.int dd), .val (.int cut), .val (.int i212), .val (.ref b215)] [(.int (1 : Int32))])) t → Steps p.tables e below (s₁.setTop (entryFrame m #[(.int g1), (.int g2), (.int g3), (.int sh), (.int cu), (.int de)] maxLocals)) t := fun t k => k247 t (by
        show Steps p.tables e below (T245.setTop (mkF m 280 #[.val (.int g1), .val (.int g2), .val (.int g3), .val (.int sh), .val (.int cu), .val (.int de), .val (.int r1), .val (.int r2), .val (.int r3), .val (.int (1 : Int32)), .val (.ref b171), .val (.int md), .val (.int dd), .val (.int cut), .val (.int i212), .val (.ref b215)] [(.double (FP.ddiv (FP.i2d (0 : Int32)) (FP.i2d cut)))])) _
        refine XS.iload X245.here hx rfl (hb hby at_280) rfl ?_
        show Steps p.tables e below (T245.setTop (mkF m 282 #[.val (.int g1), .val (.int g2), .val (.int g3), .val (.int sh), .val (.int cu), .val (.int de), .val (.int r1), .val (.int r2), .val (.int r3), .val (.int (1 : Int32)), .val (.ref b171), .val (.int md), .val (.int dd), .val (.int cut), .val (.int i212), .val (.ref b215)] [(.int i212), (.double (FP.ddiv (FP.i2d (0 : Int32)) (FP.i2d cut)))])) _
        refine XS.i2dS X245.here hx rfl (hb hby at_282) rfl hvc ?_
        show Steps p.tables e below (T245.setTop (mkF m 283 #[.val (.int g1), .val (.int g2), .val (.int g3), .val (.int sh), .val (.int cu), .val (.int de), .val (.int r1), .val (.int r2), .val (.int r3), .val (.int (1 : Int32)), .val (.ref b171), .val (.int md), .val (.int dd), .val (.int cut), .val (.int i212), .val (.ref b215)] [(.double vc), (.double (FP.ddiv (FP.i2d (0 : Int32)) (FP.i2d cut)))])) _
        refine XS.iload X245.here hx rfl (hb hby at_283) rfl ?_
        show Steps p.tables e below (T245.setTop (mkF m 285 #[.val (.int g1), .val (.int g2), .val (.int g3), .val (.int sh), .val (.int cu), .val (.int de), .val (.int r1), .val (.int r2), .val (.int r3), .val (.int (1 : Int32)), .val (.ref b171), .val (.int md), .val (.int dd), .val (.int cut), .val (.int i212), .val (.ref b215)] [(.int cut), (.double vc), (.double (FP.ddiv (FP.i2d (0 : Int32)) (FP.i2d cut)))])) _
        refine XS.i2dS X245.here hx rfl (hb hby at_285) rfl hvk ?_
        show Steps p.tables e below (T245.setTop (mkF m 286 #[.val (.int g1), .val (.int g2), .val (.int g3), .val (.int sh), .val (.int cu), .val (.int de), .val (.int r1), .val (.int r2), .val (.int r3), .val (.int (1 : Int32)), .val (.ref b171), .val (.int md), .val (.int dd), .val (.int cut), .val (.int i212), .val (.ref b215)] [(.double vk), (.double vc), (.double (FP.ddiv (FP.i2d (0 : Int32)) (FP.i2d cut)))])) _
        refine XS.ddivS X245.here hx rfl (hb hby at_286) rfl (nnw) hwant ?_
        show Steps p.tables e below (T245.setTop (mkF m 287 #[.val (.int g1), .val (.int g2), .val (.int g3), .val (.int sh), .val (.int cu), .val (.int de), .val (.int r1), .val (.int r2), .val (.int r3), .val (.int (1 : Int32)), .val (.ref b171), .val (.int md), .val (.int dd), .val (.int cut), .val (.int i212), .val (.ref b215)] [(.double want), (.double (FP.ddiv (FP.i2d (0 : Int32)) (FP.i2d cut)))])) _
        refine XS.dcmpS X245.here hx rfl (hb hby at_287) rfl rfl ?_
        show Steps p.tables e below (T245.setTop (mkF m 288 #[.val (.int g1), .val (.int g2), .val (.int g3), .val (.int sh), .val (.int cu), .val (.int de), .val (.int r1), .val (.int r2), .val (.int r3), .val (.int (1 : Int32)), .val (.ref b171), .val (.int md), .val (.int dd), .val (.int cut), .val (.int i212), .val (.ref b215)] [(.int (cmpValue (FP.dcmp (FP.ddiv (FP.i2d (0 : Int32)) (FP.i2d cut)) want) .l))])) _
        refine XS.ifNo X245.here hx rfl (hb hby at_288) rfl ((if0 _ _).trans (teq hfin).2) ?_
        show Steps p.tables e below (T245.setTop (mkF m 291 #[.val (.int g1), .val (.int g2), .val (.int g3), .val (.int sh), .val (.int cu), .val (.int de), .val (.int r1), .val (.int r2), .val (.int r3), .val (.int (1 : Int32)), .val (.ref b171), .val (.int md), .val (.int dd), .val (.int cut), .val (.int i212), .val (.ref b215)] [])) _
        refine XS.iconst X245.here hx rfl (hb hby at_291) ?_
        show Steps p.tables e below (T245.setTop (mkF m 292 #[.val (.int g1), .val (.int g2), .val (.int g3), .val (.int sh), .val (.int cu), .val (.int de), .val (.int r1), .val (.int r2), .val (.int r3), .val (.int (1 : Int32)), .val (.ref b171), .val (.int md), .val (.int dd), .val (.int cut), .val (.int i212), .val (.ref b215)] [(.int (1 : Int32))])) _
        refine XS.goto X245.here hx rfl (pc0 := 292) (pc' := 296) rfl (hb hby at_292) (by decide) (by decide) ?_
        exact k)
      obtain ⟨fs, hr, hrun, hended, hRE⟩ := Stand.leaveW (s := s) (vm₁ := T227.vm) X245 hS227 (by rw [e245]; exact hk243) (v := some (.int (1 : Int32))) (fun h => by rw [Bd.returns] at h; cases h)
      refine ⟨_, _, k248 _ (retOut X245 hx (t := .boolean) Bd.returns rfl (Or.inl ⟨rfl, Or.inr (Or.inl rfl), _, rfl⟩) (hb hby at_296) hr), hrun, hended, _, _, rfl, ?_, hRE.1, hRE.2.1, hRE.2.2.1, hRE.2.2.2.mono (by decide) (by decide)⟩
      show Q_rm0 Z g1 g2 g3 sh cu de h0 n0 _ T245.heap _
      rw [e245]
      exact ⟨rfl, N246⟩
    · have hne : cut ≠ 0 := fun q => by rw [q, show (0 : Int32).toInt = 0 by decide] at hcut; omega
      obtain ⟨cq249, kq249, q249a, q249b, q249c⟩ := isOf hZ227 e237 G237a
      obtain ⟨_, _, ⟨T249, L249, k249, n249⟩, -, X249, ⟨Lc249, hQ249, l249, y249, z249⟩, st249⟩ := X237.virtualBack hx (y := (⟨"com/example/round2/round2/eval/TopicResult", "precisionAt", "(I)D"⟩ : MethodName)) (z := (⟨"com/example/round2/round2/eval/TopicResult", "precisionAt", "(I)D"⟩ : MethodName)) hown227 (mvT hZ227 (hw _ (List.mem_of_getElem? (i := 32) rfl))) (mvT hZ227 (hw _ (List.mem_of_getElem? (i := 33) rfl))) (notFace_of_selects (args := #[]) (mvT hZ227 (hw _ (List.mem_of_getElem? (i := 35) rfl)))) (mvT hZ227 (hw _ (List.mem_of_getElem? (i := 35) rfl))) (mvT hZ227 (hw _ (List.mem_of_getElem? (i := 34) rfl))) (by decide) (backOf (W := 0) (prec1_1 l Z a0 hw [] b215 cut b171 k171 r1 h237 n0 Z242 G237c F240 (own_ge1 hcut) (nn_div (no_fin (Jvm.FP.Core.i2d_fin _)) hne) d0) hZ227 (hw _ (List.mem_of_getElem? (i := 36) rfl)) (hw _ (List.mem_of_getElem? (i := 9) rfl)) (by decide) (by decide)) q249a q249c (g := (mkF m 277 #[.val (.int g1), .val (.int g2), .val (.int g3), .val (.int sh), .val (.int cu), .val (.int de), .val (.int r1), .val (.int r2), .val (.int r3), .val (.int (1 : Int32)), .val (.ref b171), .val (.int md), .val (.int dd), .val (.int cut), .val (.int i212), .val (.ref b215)] [(.int cut), (.ref b215)])) rfl (by rw [hml]; rfl) (Steps.refl _) (argsL := [(.int cut)]) (rest := []) (lenOf pd__28I_29D rfl) rfl (by show 2 * 0 + _ ≤ _; exact Nat.le_of_eq rfl) (hb hby at_277) (fun _ _ => ⟨rfl, e237, (by decide : 4 + 0 ≤ _), (by decide : 13 + 0 ≤ _)⟩)
      dsimp only [Pt.U, Pt.locs, Pt.cells, Pt.slots] at X249 l249 y249 z249 st249 hQ249
      subst l249 y249 z249
      obtain ⟨rfl, N249q, e249⟩ := hQ249
      have N250 := Fr.app N238 N249q
      have k251 : ∀ t, Steps p.tables e below (T249.setTop (mkF m 280 #[.val (.int g1), .val (.int g2), .val (.int g3), .val (.int sh), .val (.int cu), .val (.int de), .val (.int r1), .val (.int r2), .val (.int r3), .val (.int (1 : Int32)), .val (.ref b171), .val (.int md), .val (.int dd), .val (.int cut), .val (.int i212), .val (.ref b215)] [(.double (FP.ddiv (FP.i2d (1 : Int32)) (FP.i2d cut)))])) t → Steps p.tables e below (s₁.setTop (entryFrame m #[(.int g1), (.int g2), (.int g3), (.int sh), (.int cu), (.int de)] maxLocals)) t := fun t k => k244 t (st249.trans k)
      have hc : i212 = (1 : Int32) := by rw [hi212, if_neg d0]; first | done | rfl | decide
      obtain ⟨vc, hvc⟩ : ∃ z : UInt64, FP.i2d i212 = z := ⟨_, rfl⟩
      obtain ⟨vk, hvk⟩ : ∃ z : UInt64, FP.i2d cut = z := ⟨_, rfl⟩
      obtain ⟨want, hwant⟩ : ∃ z : UInt64, FP.ddiv vc vk = z := ⟨_, rfl⟩
      have nnw : Jvm.Free.Fl.NoNaN64 (FP.ddiv vc vk) := by rw [← hvc, ← hvk]; exact nn_div (no_fin (Jvm.FP.Core.i2d_fin _)) hne
      have hfin : cmpValue (FP.dcmp (FP.ddiv (FP.i2d (1 : Int32)) (FP.i2d cut)) want) .l = (0 : Int32) := by rw [← hwant, ← hvc, ← hvk, hc]; exact dcmpV_self (nn_div (no_fin (Jvm.FP.Core.i2d_fin _)) hne) .l
      have k252 : ∀ t, Steps p.tables e below (T249.setTop (mkF m 296 #[.val (.int g1), .val (.int g2), .val (.int g3), .val (.int sh), .val (.int cu), .val (.int de), .val (.int r1), .val (.int r2), .val (.int r3), .val (.int (1 : Int32)), .val (.ref b171), .val (.int md), .val (.int dd), .val (.int cut), .val (.int i212), .val (.ref b215)] [(.int (1 : Int32))])) t → Steps p.tables e below (s₁.setTop (entryFrame m #[(.int g1), (.int g2), (.int g3), (.int sh), (.int cu), (.int de)] maxLocals)) t := fun t k => k251 t (by
        show Steps p.tables e below (T249.setTop (mkF m 280 #[.val (.int g1), .val (.int g2), .val (.int g3), .val (.int sh), .val (.int cu), .val (.int de), .val (.int r1), .val (.int r2), .val (.int r3), .val (.int (1 : Int32)), .val (.ref b171), .val (.int md), .val (.int dd), .val (.int cut), .val (.int i212), .val (.ref b215)] [(.double (FP.ddiv (FP.i2d (1 : Int32)) (FP.i2d cut)))])) _
        refine XS.iload X249.here hx rfl (hb hby at_280) rfl ?_
        show Steps p.tables e below (T249.setTop (mkF m 282 #[.val (.int g1), .val (.int g2), .val (.int g3), .val (.int sh), .val (.int cu), .val (.int de), .val (.int r1), .val (.int r2), .val (.int r3), .val (.int (1 : Int32)), .val (.ref b171), .val (.int md), .val (.int dd), .val (.int cut), .val (.int i212), .val (.ref b215)] [(.int i212), (.double (FP.ddiv (FP.i2d (1 : Int32)) (FP.i2d cut)))])) _
        refine XS.i2dS X249.here hx rfl (hb hby at_282) rfl hvc ?_
        show Steps p.tables e below (T249.setTop (mkF m 283 #[.val (.int g1), .val (.int g2), .val (.int g3), .val (.int sh), .val (.int cu), .val (.int de), .val (.int r1), .val (.int r2), .val (.int r3), .val (.int (1 : Int32)), .val (.ref b171), .val (.int md), .val (.int dd), .val (.int cut), .val (.int i212), .val (.ref b215)] [(.double vc), (.double (FP.ddiv (FP.i2d (1 : Int32)) (FP.i2d cut)))])) _
        refine XS.iload X249.here hx rfl (hb hby at_283) rfl ?_
        show Steps p.tables e below (T249.setTop (mkF m 285 #[.val (.int g1), .val (.int g2), .val (.int g3), .val (.int sh), .val (.int cu), .val (.int de), .val (.int r1), .val (.int r2), .val (.int r3), .val (.int (1 : Int32)), .val (.ref b171), .val (.int md), .val (.int dd), .val (.int cut), .val (.int i212), .val (.ref b215)] [(.int cut), (.double vc), (.double (FP.ddiv (FP.i2d (1 : Int32)) (FP.i2d cut)))])) _
        refine XS.i2dS X249.here hx rfl (hb hby at_285) rfl hvk ?_
        show Steps p.tables e below (T249.setTop (mkF m 286 #[.val (.int g1), .val (.int g2), .val (.int g3), .val (.int sh), .val (.int cu), .val (.int de), .val (.int r1), .val (.int r2), .val (.int r3), .val (.int (1 : Int32)), .val (.ref b171), .val (.int md), .val (.int dd), .val (.int cut), .val (.int i212), .val (.ref b215)] [(.double vk), (.double vc), (.double (FP.ddiv (FP.i2d (1 : Int32)) (FP.i2d cut)))])) _
        refine XS.ddivS X249.here hx rfl (hb hby at_286) rfl (nnw) hwant ?_
        show Steps p.tables e below (T249.setTop (mkF m 287 #[.val (.int g1), .val (.int g2), .val (.int g3), .val (.int sh), .val (.int cu), .val (.int de), .val (.int r1), .val (.int r2), .val (.int r3), .val (.int (1 : Int32)), .val (.ref b171), .val (.int md), .val (.int dd), .val (.int cut), .val (.int i212), .val (.ref b215)] [(.double want), (.double (FP.ddiv (FP.i2d (1 : Int32)) (FP.i2d cut)))])) _
        refine XS.dcmpS X249.here hx rfl (hb hby at_287) rfl rfl ?_
        show Steps p.tables e below (T249.setTop (mkF m 288 #[.val (.int g1), .val (.int g2), .val (.int g3), .val (.int sh), .val (.int cu), .val (.int de), .val (.int r1), .val (.int r2), .val (.int r3), .val (.int (1 : Int32)), .val (.ref b171), .val (.int md), .val (.int dd), .val (.int cut), .val (.int i212), .val (.ref b215)] [(.int (cmpValue (FP.dcmp (FP.ddiv (FP.i2d (1 : Int32)) (FP.i2d cut)) want) .l))])) _
        refine XS.ifNo X249.here hx rfl (hb hby at_288) rfl ((if0 _ _).trans (teq hfin).2) ?_
        show Steps p.tables e below (T249.setTop (mkF m 291 #[.val (.int g1), .val (.int g2), .val (.int g3), .val (.int sh), .val (.int cu), .val (.int de), .val (.int r1), .val (.int r2), .val (.int r3), .val (.int (1 : Int32)), .val (.ref b171), .val (.int md), .val (.int dd), .val (.int cut), .val (.int i212), .val (.ref b215)] [])) _
        refine XS.iconst X249.here hx rfl (hb hby at_291) ?_
        show Steps p.tables e below (T249.setTop (mkF m 292 #[.val (.int g1), .val (.int g2), .val (.int g3), .val (.int sh), .val (.int cu), .val (.int de), .val (.int r1), .val (.int r2), .val (.int r3), .val (.int (1 : Int32)), .val (.ref b171), .val (.int md), .val (.int dd), .val (.int cut), .val (.int i212), .val (.ref b215)] [(.int (1 : Int32))])) _
        refine XS.goto X249.here hx rfl (pc0 := 292) (pc' := 296) rfl (hb hby at_292) (by decide) (by decide) ?_
        exact k)
      obtain ⟨fs, hr, hrun, hended, hRE⟩ := Stand.leaveW (s := s) (vm₁ := T227.vm) X249 hS227 (by rw [e249]; exact hk243) (v := some (.int (1 : Int32))) (fun h => by rw [Bd.returns] at h; cases h)
      refine ⟨_, _, k252 _ (retOut X249 hx (t := .boolean) Bd.returns rfl (Or.inl ⟨rfl, Or.inr (Or.inl rfl), _, rfl⟩) (hb hby at_296) hr), hrun, hended, _, _, rfl, ?_, hRE.1, hRE.2.1, hRE.2.2.1, hRE.2.2.2.mono (by decide) (by decide)⟩
      show Q_rm0 Z g1 g2 g3 sh cu de h0 n0 _ T249.heap _
      rw [e249]
      exact ⟨rfl, N250⟩
  · have k253 : ∀ t, Steps p.tables e below (s₁.setTop (mkF m 74 #[.val (.int g1), .val (.int g2), .val (.int g3), .val (.int sh), .val (.int cu), .val (.int de), .val (.int r1), .val (.int r2), .val (.int r3), .val (.int (2 : Int32)), .unset, .unset, .unset, .unset, .unset, .unset] [(.int (2 : Int32))])) t → Steps p.tables e below (s₁.setTop (entryFrame m #[(.int g1), (.int g2), (.int g3), (.int sh), (.int cu), (.int de)] maxLocals)) t := fun t k => k101 t (by
      show Steps p.tables e below (s₁.setTop (mkF m 35 #[.val (.int g1), .val (.int g2), .val (.int g3), .val (.int sh), .val (.int cu), .val (.int de), .val (.int r1), .val (.int r2), .val (.int r3), .val (.int (2 : Int32)), .unset, .unset, .unset, .unset, .unset, .unset] [])) _
      refine XS.iload X0.here hx rfl (hb hby at_35) rfl ?_
      show Steps p.tables e below (s₁.setTop (mkF m 37 #[.val (.int g1), .val (.int g2), .val (.int g3), .val (.int sh), .val (.int cu), .val (.int de), .val (.int r1), .val (.int r2), .val (.int r3), .val (.int (2 : Int32)), .unset, .unset, .unset, .unset, .unset, .unset] [(.int (2 : Int32))])) _
      refine XS.ifYes X0.here hx rfl (pc0 := 37) (pc' := 48) rfl (hb hby at_37) rfl ((if0 _ _).trans (feq (by decide)).2) (by decide) (by decide) ?_
      show Steps p.tables e below (s₁.setTop (mkF m 48 #[.val (.int g1), .val (.int g2), .val (.int g3), .val (.int sh), .val (.int cu), .val (.int de), .val (.int r1), .val (.int r2), .val (.int r3), .val (.int (2 : Int32)), .unset, .unset, .unset, .unset, .unset, .unset] [])) _
      refine XS.iload X0.here hx rfl (hb hby at_48) rfl ?_
      show Steps p.tables e below (s₁.setTop (mkF m 50 #[.val (.int g1), .val (.int g2), .val (.int g3), .val (.int sh), .val (.int cu), .val (.int de), .val (.int r1), .val (.int r2), .val (.int r3), .val (.int (2 : Int32)), .unset, .unset, .unset, .unset, .unset, .unset] [(.int (2 : Int32))])) _
      refine XS.iconst X0.here hx rfl (hb hby at_50) ?_
      show Steps p.tables e below (s₁.setTop (mkF m 51 #[.val (.int g1), .val (.int g2), .val (.int g3), .val (.int sh), .val (.int cu), .val (.int de), .val (.int r1), .val (.int r2), .val (.int r3), .val (.int (2 : Int32)), .unset, .unset, .unset, .unset, .unset, .unset] [(.int (1 : Int32)), (.int (2 : Int32))])) _
      refine XS.icmpYes X0.here hx rfl (pc0 := 51) (pc' := 67) rfl (hb hby at_51) rfl (feq (by decide)).2 (by decide) (by decide) ?_
      show Steps p.tables e below (s₁.setTop (mkF m 67 #[.val (.int g1), .val (.int g2), .val (.int g3), .val (.int sh), .val (.int cu), .val (.int de), .val (.int r1), .val (.int r2), .val (.int r3), .val (.int (2 : Int32)), .unset, .unset, .unset, .unset, .unset, .unset] [])) _
      refine XS.iload X0.here hx rfl (hb hby at_67) rfl ?_
      show Steps p.tables e below (s₁.setTop (mkF m 69 #[.val (.int g1), .val (.int g2), .val (.int g3), .val (.int sh), .val (.int cu), .val (.int de), .val (.int r1), .val (.int r2), .val (.int r3), .val (.int (2 : Int32)), .unset, .unset, .unset, .unset, .unset, .unset] [(.int (2 : Int32))])) _
      refine XS.iconst X0.here hx rfl (hb hby at_69) ?_
      show Steps p.tables e below (s₁.setTop (mkF m 70 #[.val (.int g1), .val (.int g2), .val (.int g3), .val (.int sh), .val (.int cu), .val (.int de), .val (.int r1), .val (.int r2), .val (.int r3), .val (.int (2 : Int32)), .unset, .unset, .unset, .unset, .unset, .unset] [(.int (2 : Int32)), (.int (2 : Int32))])) _
      refine XS.icmpNo X0.here hx rfl (hb hby at_70) rfl (teq (by decide)).2 ?_
      show Steps p.tables e below (s₁.setTop (mkF m 73 #[.val (.int g1), .val (.int g2), .val (.int g3), .val (.int sh), .val (.int cu), .val (.int de), .val (.int r1), .val (.int r2), .val (.int r3), .val (.int (2 : Int32)), .unset, .unset, .unset, .unset, .unset, .unset] [])) _
      refine XS.iconst X0.here hx rfl (hb hby at_73) ?_
      exact k)
    obtain ⟨T254, h254, k254, X254, e254, E254, A254, st254⟩ := newP X0 hx hZ (hw _ (List.mem_of_getElem? (i := 1) rfl)) e0 (g := (mkF m 74 #[.val (.int g1), .val (.int g2), .val (.int g3), .val (.int sh), .val (.int cu), .val (.int de), .val (.int r1), .val (.int r2), .val (.int r3), .val (.int (2 : Int32)), .unset, .unset, .unset, .unset, .unset, .unset] [(.int (2 : Int32))])) rfl (hb hby at_74) rfl (by decide) (cap := 2) (by decide) (by decide) (by decide) (by decide)
    obtain ⟨b254, g254⟩ : ∃ z, z = h0.size := ⟨_, rfl⟩
    rw [← g254] at A254 st254
    have g255 : n0 ≤ b254 := Nat.le_trans Z0 (Nat.le_of_eq g254.symm)
    have Z256 : n0 ≤ h254.size := Nat.le_trans Z0 E254.1
    have hk257 : 0 ≤ h254.size := Nat.le_trans (Nat.zero_le _) E254.1
    have V258 : Arv Z h254 b254 k254 .int (2 : Int32) [(.int (0 : Int32)), (.int (0 : Int32))] (.int (0 : Int32)) := (Arv.new A254 (by decide)).pad (pad_rep [] (.int (0 : Int32)) 2)
    have k259 : ∀ t, Steps p.tables e below (T254.setTop (mkF m 76 #[.val (.int g1), .val (.int g2), .val (.int g3), .val (.int sh), .val (.int cu), .val (.int de), .val (.int r1), .val (.int r2), .val (.int r3), .val (.int (2 : Int32)), .unset, .unset, .unset, .unset, .unset, .unset] [(.ref b254)])) t → Steps p.tables e below (s₁.setTop (entryFrame m #[(.int g1), (.int g2), (.int g3), (.int sh), (.int cu), (.int de)] maxLocals)) t := fun t k => k253 t (st254 t k)
    have k260 : ∀ t, Steps p.tables e below (T254.setTop (mkF m 80 #[.val (.int g1), .val (.int g2), .val (.int g3), .val (.int sh), .val (.int cu), .val (.int de), .val (.int r1), .val (.int r2), .val (.int r3), .val (.int (2 : Int32)), .unset, .unset, .unset, .unset, .unset, .unset] [(.int r1), (.int (0 : Int32)), (.ref b254), (.ref b254)])) t → Steps p.tables e below (s₁.setTop (entryFrame m #[(.int g1), (.int g2), (.int g3), (.int sh), (.int cu), (.int de)] maxLocals)) t := fun t k => k259 t (by
      show Steps p.tables e below (T254.setTop (mkF m 76 #[.val (.int g1), .val (.int g2), .val (.int g3), .val (.int sh), .val (.int cu), .val (.int de), .val (.int r1), .val (.int r2), .val (.int r3), .val (.int (2 : Int32)), .unset, .unset, .unset, .unset, .unset, .unset] [(.ref b254)])) _
      refine XS.dup X254.here hx rfl (hb hby at_76) rfl rfl ?_
      show Steps p.tables e below (T254.setTop (mkF m 77 #[.val (.int g1), .val (.int g2), .val (.int g3), .val (.int sh), .val (.int cu), .val (.int de), .val (.int r1), .val (.int r2), .val (.int r3), .val (.int (2 : Int32)), .unset, .unset, .unset, .unset, .unset, .unset] [(.ref b254), (.ref b254)])) _
      refine XS.iconst X254.here hx rfl (hb hby at_77) ?_
      show Steps p.tables e below (T254.setTop (mkF m 78 #[.val (.int g1), .val (.int g2), .val (.int g3), .val (.int sh), .val (.int cu), .val (.int de), .val (.int r1), .val (.int r2), .val (.int r3), .val (.int (2 : Int32)), .unset, .unset, .unset, .unset, .unset, .unset] [(.int (0 : Int32)), (.ref b254), (.ref b254)])) _
      refine XS.iload X254.here hx rfl (hb hby at_78) rfl ?_
      exact k)
    obtain ⟨c261, Ar261, Aq261, As261, An261, Ah261, Ag261⟩ := id V258
    have hin261 : ¬ ((0 : Int32) < 0 ∨ c261.slots.size ≤ ((0 : Int32)).toNatClampNeg) := inb_of As261 ⟨by decide, by decide⟩
    obtain ⟨T261, h261, X261, e261, W261, st261⟩ := stI X254 hx hZ e254 Ar261 (j := (0 : Int32)) hin261 (g := (mkF m 80 #[.val (.int g1), .val (.int g2), .val (.int g3), .val (.int sh), .val (.int cu), .val (.int de), .val (.int r1), .val (.int r2), .val (.int r3), .val (.int (2 : Int32)), .unset, .unset, .unset, .unset, .unset, .unset] [(.int r1), (.int (0 : Int32)), (.ref b254), (.ref b254)])) rfl rfl (hb hby at_80)
    have V262 := Arv.set Ar261 Aq261 As261 An261 Ah261 Ag261 rfl W261 0 rfl (Nat.le_of_ble_eq_true rfl)
    have Z263 : n0 ≤ h261.size := Nat.le_trans Z256 (Nat.le_of_eq W261.size.symm)
    have N264 := Fr.snoc X261 N0 g255
    have hk265 : 0 ≤ h261.size := Nat.le_trans hk257 (Nat.le_of_eq W261.size.symm)
    have k266 : ∀ t, Steps p.tables e below (T261.setTop (mkF m 81 #[.val (.int g1), .val (.int g2), .val (.int g3), .val (.int sh), .val (.int cu), .val (.int de), .val (.int r1), .val (.int r2), .val (.int r3), .val (.int (2 : Int32)), .unset, .unset, .unset, .unset, .unset, .unset] [(.ref b254)])) t → Steps p.tables e below (s₁.setTop (entryFrame m #[(.int g1), (.int g2), (.int g3), (.int sh), (.int cu), (.int de)] maxLocals)) t := fun t k => k260 t (st261 t k)
    have k267 : ∀ t, Steps p.tables e below (T261.setTop (mkF m 85 #[.val (.int g1), .val (.int g2), .val (.int g3), .val (.int sh), .val (.int cu), .val (.int de), .val (.int r1), .val (.int r2), .val (.int r3), .val (.int (2 : Int32)), .unset, .unset, .unset, .unset, .unset, .unset] [(.int r2), (.int (1 : Int32)), (.ref b254), (.ref b254)])) t → Steps p.tables e below (s₁.setTop (entryFrame m #[(.int g1), (.int g2), (.int g3), (.int sh), (.int cu), (.int de)] maxLocals)) t := fun t k => k266 t (by
      show Steps p.tables e below (T261.setTop (mkF m 81 #[.val (.int g1), .val (.int g2), .val (.int g3), .val (.int sh), .val (.int cu), .val (.int de), .val (.int r1), .val (.int r2), .val (.int r3), .val (.int (2 : Int32)), .unset, .unset, .unset, .unset, .unset, .unset] [(.ref b254)])) _
      refine XS.dup X261.here hx rfl (hb hby at_81) rfl rfl ?_
      show Steps p.tables e below (T261.setTop (mkF m 82 #[.val (.int g1), .val (.int g2), .val (.int g3), .val (.int sh), .val (.int cu), .val (.int de), .val (.int r1), .val (.int r2), .val (.int r3), .val (.int (2 : Int32)), .unset, .unset, .unset, .unset, .unset, .unset] [(.ref b254), (.ref b254)])) _
      refine XS.iconst X261.here hx rfl (hb hby at_82) ?_
      show Steps p.tables e below (T261.setTop (mkF m 83 #[.val (.int g1), .val (.int g2), .val (.int g3), .val (.int sh), .val (.int cu), .val (.int de), .val (.int r1), .val (.int r2), .val (.int r3), .val (.int (2 : Int32)), .unset, .unset, .unset, .unset, .unset, .unset] [(.int (1 : Int32)), (.ref b254), (.ref b254)])) _
      refine XS.iload X261.here hx rfl (hb hby at_83) rfl ?_
      exact k)
    obtain ⟨c268, Ar268, Aq268, As268, An268, Ah268, Ag268⟩ := id V262
    have hin268 : ¬ ((1 : Int32) < 0 ∨ c268.slots.size ≤ ((1 : Int32)).toNatClampNeg) := inb_of As268 ⟨by decide, by decide⟩
    obtain ⟨T268, h268, X268, e268, W268, st268⟩ := stI X261 hx hZ e261 Ar268 (j := (1 : Int32)) hin268 (g := (mkF m 85 #[.val (.int g1), .val (.int g2), .val (.int g3), .val (.int sh), .val (.int cu), .val (.int de), .val (.int r1), .val (.int r2), .val (.int r3), .val (.int (2 : Int32)), .unset, .unset, .unset, .unset, .unset, .unset] [(.int r2), (.int (1 : Int32)), (.ref b254), (.ref b254)])) rfl rfl (hb hby at_85)
    have V269 := Arv.set Ar268 Aq268 As268 An268 Ah268 Ag268 rfl W268 1 rfl (Nat.le_of_ble_eq_true rfl)
    have Z270 : n0 ≤ h268.size := Nat.le_trans Z263 (Nat.le_of_eq W268.size.symm)
    have N271 := Fr.snoc X268 N264 g255
    have hk272 : 0 ≤ h268.size := Nat.le_trans hk265 (Nat.le_of_eq W268.size.symm)
    have k273 : ∀ t, Steps p.tables e below (T268.setTop (mkF m 86 #[.val (.int g1), .val (.int g2), .val (.int g3), .val (.int sh), .val (.int cu), .val (.int de), .val (.int r1), .val (.int r2), .val (.int r3), .val (.int (2 : Int32)), .unset, .unset, .unset, .unset, .unset, .unset] [(.ref b254)])) t → Steps p.tables e below (s₁.setTop (entryFrame m #[(.int g1), (.int g2), (.int g3), (.int sh), (.int cu), (.int de)] maxLocals)) t := fun t k => k267 t (st268 t k)
    obtain ⟨md, hmd⟩ : ∃ z : Int32, z = (((sh.toUInt32 >>> ((2 : Int32) &&& 31).toUInt32).toInt32) &&& (3 : Int32)) := ⟨_, rfl⟩
    obtain ⟨dd, hdd⟩ : ∃ z : Int32, z = ((de &&& (3 : Int32)) - (1 : Int32)) := ⟨_, rfl⟩
    have k274 : ∀ t, Steps p.tables e below (T268.setTop (mkF m 126 #[.val (.int g1), .val (.int g2), .val (.int g3), .val (.int sh), .val (.int cu), .val (.int de), .val (.int r1), .val (.int r2), .val (.int r3), .val (.int (2 : Int32)), .val (.ref b254), .val (.int md), .val (.int dd), .unset, .unset, .unset] [])) t → Steps p.tables e below (s₁.setTop (entryFrame m #[(.int g1), (.int g2), (.int g3), (.int sh), (.int cu), (.int de)] maxLocals)) t := fun t k => k273 t (by
      show Steps p.tables e below (T268.setTop (mkF m 86 #[.val (.int g1), .val (.int g2), .val (.int g3), .val (.int sh), .val (.int cu), .val (.int de), .val (.int r1), .val (.int r2), .val (.int r3), .val (.int (2 : Int32)), .unset, .unset, .unset, .unset, .unset, .unset] [(.ref b254)])) _
      refine XS.astore X268.here hx rfl (hb hby at_86) rfl rfl (l' := #[.val (.int g1), .val (.int g2), .val (.int g3), .val (.int sh), .val (.int cu), .val (.int de), .val (.int r1), .val (.int r2), .val (.int r3), .val (.int (2 : Int32)), .val (.ref b254), .unset, .unset, .unset, .unset, .unset]) rfl ?_
      show Steps p.tables e below (T268.setTop (mkF m 88 #[.val (.int g1), .val (.int g2), .val (.int g3), .val (.int sh), .val (.int cu), .val (.int de), .val (.int r1), .val (.int r2), .val (.int r3), .val (.int (2 : Int32)), .val (.ref b254), .unset, .unset, .unset, .unset, .unset] [])) _
      refine XS.goto X268.here hx rfl (pc0 := 88) (pc' := 111) rfl (hb hby at_88) (by decide) (by decide) ?_
      show Steps p.tables e below (T268.setTop (mkF m 111 #[.val (.int g1), .val (.int g2), .val (.int g3), .val (.int sh), .val (.int cu), .val (.int de), .val (.int r1), .val (.int r2), .val (.int r3), .val (.int (2 : Int32)), .val (.ref b254), .unset, .unset, .unset, .unset, .unset] [])) _
      refine XS.iloadN X268.here hx rfl (hb hby at_111) rfl ?_
      show Steps p.tables e below (T268.setTop (mkF m 112 #[.val (.int g1), .val (.int g2), .val (.int g3), .val (.int sh), .val (.int cu), .val (.int de), .val (.int r1), .val (.int r2), .val (.int r3), .val (.int (2 : Int32)), .val (.ref b254), .unset, .unset, .unset, .unset, .unset] [(.int sh)])) _
      refine XS.iconst X268.here hx rfl (hb hby at_112) ?_
      show Steps p.tables e below (T268.setTop (mkF m 113 #[.val (.int g1), .val (.int g2), .val (.int g3), .val (.int sh), .val (.int cu), .val (.int de), .val (.int r1), .val (.int r2), .val (.int r3), .val (.int (2 : Int32)), .val (.ref b254), .unset, .unset, .unset, .unset, .unset] [(.int (2 : Int32)), (.int sh)])) _
      refine XS.iushr X268.here hx rfl (hb hby at_113) rfl ?_
      show Steps p.tables e below (T268.setTop (mkF m 114 #[.val (.int g1), .val (.int g2), .val (.int g3), .val (.int sh), .val (.int cu), .val (.int de), .val (.int r1), .val (.int r2), .val (.int r3), .val (.int (2 : Int32)), .val (.ref b254), .unset, .unset, .unset, .unset, .unset] [(.int ((sh.toUInt32 >>> ((2 : Int32) &&& 31).toUInt32).toInt32))])) _
      refine XS.iconst X268.here hx rfl (hb hby at_114) ?_
      show Steps p.tables e below (T268.setTop (mkF m 115 #[.val (.int g1), .val (.int g2), .val (.int g3), .val (.int sh), .val (.int cu), .val (.int de), .val (.int r1), .val (.int r2), .val (.int r3), .val (.int (2 : Int32)), .val (.ref b254), .unset, .unset, .unset, .unset, .unset] [(.int (3 : Int32)), (.int ((sh.toUInt32 >>> ((2 : Int32) &&& 31).toUInt32).toInt32))])) _
      refine XS.iand X268.here hx rfl (hb hby at_115) rfl ?_
      show Steps p.tables e below (T268.setTop (mkF m 116 #[.val (.int g1), .val (.int g2), .val (.int g3), .val (.int sh), .val (.int cu), .val (.int de), .val (.int r1), .val (.int r2), .val (.int r3), .val (.int (2 : Int32)), .val (.ref b254), .unset, .unset, .unset, .unset, .unset] [(.int (((sh.toUInt32 >>> ((2 : Int32) &&& 31).toUInt32).toInt32) &&& (3 : Int32)))])) _
      refine castTop (g' := (mkF m 116 #[.val (.int g1), .val (.int g2), .val (.int g3), .val (.int sh), .val (.int cu), .val (.int de), .val (.int r1), .val (.int r2), .val (.int r3), .val (.int (2 : Int32)), .val (.ref b254), .unset, .unset, .unset, .unset, .unset] [(.int md)])) (by rw [hmd]) ?_
      show Steps p.tables e below (T268.setTop (mkF m 116 #[.val (.int g1), .val (.int g2), .val (.int g3), .val (.int sh), .val (.int cu), .val (.int de), .val (.int r1), .val (.int r2), .val (.int r3), .val (.int (2 : Int32)), .val (.ref b254), .unset, .unset, .unset, .unset, .unset] [(.int md)])) _
      refine XS.istore X268.here hx rfl (hb hby at_116) rfl (l' := #[.val (.int g1), .val (.int g2), .val (.int g3), .val (.int sh), .val (.int cu), .val (.int de), .val (.int r1), .val (.int r2), .val (.int r3), .val (.int (2 : Int32)), .val (.ref b254), .val (.int md), .unset, .unset, .unset, .unset]) rfl ?_
      show Steps p.tables e below (T268.setTop (mkF m 118 #[.val (.int g1), .val (.int g2), .val (.int g3), .val (.int sh), .val (.int cu), .val (.int de), .val (.int r1), .val (.int r2), .val (.int r3), .val (.int (2 : Int32)), .val (.ref b254), .val (.int md), .unset, .unset, .unset, .unset] [])) _
      refine XS.iload X268.here hx rfl (hb hby at_118) rfl ?_
      show Steps p.tables e below (T268.setTop (mkF m 120 #[.val (.int g1), .val (.int g2), .val (.int g3), .val (.int sh), .val (.int cu), .val (.int de), .val (.int r1), .val (.int r2), .val (.int r3), .val (.int (2 : Int32)), .val (.ref b254), .val (.int md), .unset, .unset, .unset, .unset] [(.int de)])) _
      refine XS.iconst X268.here hx rfl (hb hby at_120) ?_
      show Steps p.tables e below (T268.setTop (mkF m 121 #[.val (.int g1), .val (.int g2), .val (.int g3), .val (.int sh), .val (.int cu), .val (.int de), .val (.int r1), .val (.int r2), .val (.int r3), .val (.int (2 : Int32)), .val (.ref b254), .val (.int md), .unset, .unset, .unset, .unset] [(.int (3 : Int32)), (.int de)])) _
      refine XS.iand X268.here hx rfl (hb hby at_121) rfl ?_
      show Steps p.tables e below (T268.setTop (mkF m 122 #[.val (.int g1), .val (.int g2), .val (.int g3), .val (.int sh), .val (.int cu), .val (.int de), .val (.int r1), .val (.int r2), .val (.int r3), .val (.int (2 : Int32)), .val (.ref b254), .val (.int md), .unset, .unset, .unset, .unset] [(.int (de &&& (3 : Int32)))])) _
      refine XS.iconst X268.here hx rfl (hb hby at_122) ?_
      show Steps p.tables e below (T268.setTop (mkF m 123 #[.val (.int g1), .val (.int g2), .val (.int g3), .val (.int sh), .val (.int cu), .val (.int de), .val (.int r1), .val (.int r2), .val (.int r3), .val (.int (2 : Int32)), .val (.ref b254), .val (.int md), .unset, .unset, .unset, .unset] [(.int (1 : Int32)), (.int (de &&& (3 : Int32)))])) _
      refine XS.isub X268.here hx rfl (hb hby at_123) rfl ?_
      show Steps p.tables e below (T268.setTop (mkF m 124 #[.val (.int g1), .val (.int g2), .val (.int g3), .val (.int sh), .val (.int cu), .val (.int de), .val (.int r1), .val (.int r2), .val (.int r3), .val (.int (2 : Int32)), .val (.ref b254), .val (.int md), .unset, .unset, .unset, .unset] [(.int ((de &&& (3 : Int32)) - (1 : Int32)))])) _
      refine castTop (g' := (mkF m 124 #[.val (.int g1), .val (.int g2), .val (.int g3), .val (.int sh), .val (.int cu), .val (.int de), .val (.int r1), .val (.int r2), .val (.int r3), .val (.int (2 : Int32)), .val (.ref b254), .val (.int md), .unset, .unset, .unset, .unset] [(.int dd)])) (by rw [hdd]) ?_
      show Steps p.tables e below (T268.setTop (mkF m 124 #[.val (.int g1), .val (.int g2), .val (.int g3), .val (.int sh), .val (.int cu), .val (.int de), .val (.int r1), .val (.int r2), .val (.int r3), .val (.int (2 : Int32)), .val (.ref b254), .val (.int md), .unset, .unset, .unset, .unset] [(.int dd)])) _
      refine XS.istore X268.here hx rfl (hb hby at_124) rfl (l' := #[.val (.int g1), .val (.int g2), .val (.int g3), .val (.int sh), .val (.int cu), .val (.int de), .val (.int r1), .val (.int r2), .val (.int r3), .val (.int (2 : Int32)), .val (.ref b254), .val (.int md), .val (.int dd), .unset, .unset, .unset]) rfl ?_
      exact k)
    obtain ⟨T275, h275, Ls275, cut, X275, e275, N275, Zq275, hkq275, F299, hcut, kq275⟩ : ∃ (T275 : State) (h275 : Heap) (Ls275 : List Loc) (cut : Int32), Stand p l e room_1 (s.setVm s.vm) m #[(.int g1), (.int g2), (.int g3), (.int sh), (.int cu), (.int de)] below meth c T275 Ls275 1 2 ∧ T275.heap = h275 ∧ Fr n0 Ls275 ∧ n0 ≤ h275.size ∧ 0 ≤ h275.size ∧ Arv Z h275 b254 k254 .int (2 : Int32) [(.int r1), (.int r2)] (.int (0 : Int32)) ∧ 1 ≤ cut.toInt ∧ ∀ t, Steps p.tables e below (T275.setTop (mkF m 196 #[.val (.int g1), .val (.int g2), .val (.int g3), .val (.int sh), .val (.int cu), .val (.int de), .val (.int r1), .val (.int r2), .val (.int r3), .val (.int (2 : Int32)), .val (.ref b254), .val (.int md), .val (.int dd), .val (.int cut), .unset, .unset] [])) t → Steps p.tables e below (s₁.setTop (entryFrame m #[(.int g1), (.int g2), (.int g3), (.int sh), (.int cu), (.int de)] maxLocals)) t := by
      have k276 : ∀ t, Steps p.tables e below (T268.setTop (mkF m 128 #[.val (.int g1), .val (.int g2), .val (.int g3), .val (.int sh), .val (.int cu), .val (.int de), .val (.int r1), .val (.int r2), .val (.int r3), .val (.int (2 : Int32)), .val (.ref b254), .val (.int md), .val (.int dd), .unset, .unset, .unset] [(.int md)])) t → Steps p.tables e below (s₁.setTop (entryFrame m #[(.int g1), (.int g2), (.int g3), (.int sh), (.int cu), (.int de)] maxLocals)) t := fun t k => k274 t (by
        show Steps p.tables e below (T268.setTop (mkF m 126 #[.val (.int g1), .val (.int g2), .val (.int g3), .val (.int sh), .val (.int cu), .val (.int de), .val (.int r1), .val (.int r2), .val (.int r3), .val (.int (2 : Int32)), .val (.ref b254), .val (.int md), .val (.int dd), .unset, .unset, .unset] [])) _
        refine XS.iload X268.here hx rfl (hb hby at_126) rfl ?_
        exact k)
      by_cases m0 : md = (0 : Int32)
      · have k277 : ∀ t, Steps p.tables e below (T268.setTop (mkF m 137 #[.val (.int g1), .val (.int g2), .val (.int g3), .val (.int sh), .val (.int cu), .val (.int de), .val (.int r1), .val (.int r2), .val (.int r3), .val (.int (2 : Int32)), .val (.ref b254), .val (.int md), .val (.int dd), .unset, .unset, .unset] [(.int (cu &&& (2147483647 : Int32))), (.int (1 : Int32))])) t → Steps p.tables e below (s₁.setTop (entryFrame m #[(.int g1), (.int g2), (.int g3), (.int sh), (.int cu), (.int de)] maxLocals)) t := fun t k => k276 t (by
          show Steps p.tables e below (T268.setTop (mkF m 128 #[.val (.int g1), .val (.int g2), .val (.int g3), .val (.int sh), .val (.int cu), .val (.int de), .val (.int r1), .val (.int r2), .val (.int r3), .val (.int (2 : Int32)), .val (.ref b254), .val (.int md), .val (.int dd), .unset, .unset, .unset] [(.int md)])) _
          refine XS.ifNo X268.here hx rfl (hb hby at_128) rfl ((if0 _ _).trans (teq m0).2) ?_
          show Steps p.tables e below (T268.setTop (mkF m 131 #[.val (.int g1), .val (.int g2), .val (.int g3), .val (.int sh), .val (.int cu), .val (.int de), .val (.int r1), .val (.int r2), .val (.int r3), .val (.int (2 : Int32)), .val (.ref b254), .val (.int md), .val (.int dd), .unset, .unset, .unset] [])) _
          refine XS.iconst X268.here hx rfl (hb hby at_131) ?_
          show Steps p.tables e below (T268.setTop (mkF m 132 #[.val (.int g1), .val (.int g2), .val (.int g3), .val (.int sh), .val (.int cu), .val (.int de), .val (.int r1), .val (.int r2), .val (.int r3), .val (.int (2 : Int32)), .val (.ref b254), .val (.int md), .val (.int dd), .unset, .unset, .unset] [(.int (1 : Int32))])) _
          refine XS.iload X268.here hx rfl (hb hby at_132) rfl ?_
          show Steps p.tables e below (T268.setTop (mkF m 134 #[.val (.int g1), .val (.int g2), .val (.int g3), .val (.int sh), .val (.int cu), .val (.int de), .val (.int r1), .val (.int r2), .val (.int r3), .val (.int (2 : Int32)), .val (.ref b254), .val (.int md), .val (.int dd), .unset, .unset, .unset] [(.int cu), (.int (1 : Int32))])) _
          refine X268.ldcInt hx hown (mvT hZ (hw _ (List.mem_of_getElem? (i := 2) rfl))) (g := (mkF m 134 #[.val (.int g1), .val (.int g2), .val (.int g3), .val (.int sh), .val (.int cu), .val (.int de), .val (.int r1), .val (.int r2), .val (.int r3), .val (.int (2 : Int32)), .val (.ref b254), .val (.int md), .val (.int dd), .unset, .unset, .unset] [(.int cu), (.int (1 : Int32))])) rfl (hb hby at_134) _ ?_
          show Steps p.tables e below (T268.setTop (mkF m 136 #[.val (.int g1), .val (.int g2), .val (.int g3), .val (.int sh), .val (.int cu), .val (.int de), .val (.int r1), .val (.int r2), .val (.int r3), .val (.int (2 : Int32)), .val (.ref b254), .val (.int md), .val (.int dd), .unset, .unset, .unset] [(.int (2147483647 : Int32)), (.int cu), (.int (1 : Int32))])) _
          refine XS.iand X268.here hx rfl (hb hby at_136) rfl ?_
          exact k)
        obtain ⟨_, _, ⟨T278, L278, k278, n278⟩, -, X278, ⟨Lc278, hQ278, l278, y278, z278⟩, st278⟩ := Jvm.LawKit.callS X268 hx (y := (⟨"java/lang/Math", "max", "(II)I"⟩ : MethodName)) hown (mvT hZ (hw _ (List.mem_of_getElem? (i := 3) rfl))) (mvT hZ (hw _ (List.mem_of_getElem? (i := 4) rfl))) (mvT hZ (hw _ (List.mem_of_getElem? (i := 5) rfl))) (mvT hZ (hw _ (List.mem_of_getElem? (i := 6) rfl))) (by decide) (backOf (W := 0) (rm1 l Z a0 hw [] (1 : Int32) (cu &&& (2147483647 : Int32)) h268 n0 Z270 ) hZ (hw _ (List.mem_of_getElem? (i := 6) rfl)) (hw _ (List.mem_of_getElem? (i := 5) rfl)) (by decide) (by decide)) (g := (mkF m 137 #[.val (.int g1), .val (.int g2), .val (.int g3), .val (.int sh), .val (.int cu), .val (.int de), .val (.int r1), .val (.int r2), .val (.int r3), .val (.int (2 : Int32)), .val (.ref b254), .val (.int md), .val (.int dd), .unset, .unset, .unset] [(.int (cu &&& (2147483647 : Int32))), (.int (1 : Int32))])) rfl (by rw [hml]; rfl) (argsL := [(.int (1 : Int32)), (.int (cu &&& (2147483647 : Int32)))]) (rest := []) (lenOf pd__28II_29I rfl) rfl (by show 2 * 0 + _ ≤ _; exact Nat.le_of_eq rfl) (hb hby at_137) (fun _ _ => ⟨rfl, e268, (by decide : 1 + 0 ≤ _), (by decide : 2 + 0 ≤ _)⟩)
        dsimp only [Pt.U, Pt.locs, Pt.cells, Pt.slots] at X278 l278 y278 z278 st278 hQ278
        subst l278 y278 z278
        obtain ⟨rfl, N278q, e278⟩ := hQ278
        have N279 := Fr.app N271 N278q
        have k280 : ∀ t, Steps p.tables e below (T278.setTop (mkF m 140 #[.val (.int g1), .val (.int g2), .val (.int g3), .val (.int sh), .val (.int cu), .val (.int de), .val (.int r1), .val (.int r2), .val (.int r3), .val (.int (2 : Int32)), .val (.ref b254), .val (.int md), .val (.int dd), .unset, .unset, .unset] [(.int (if (1 : Int32) < (cu &&& (2147483647 : Int32)) then (cu &&& (2147483647 : Int32)) else (1 : Int32)))])) t → Steps p.tables e below (s₁.setTop (entryFrame m #[(.int g1), (.int g2), (.int g3), (.int sh), (.int cu), (.int de)] maxLocals)) t := fun t k => k277 t (st278 t k)
        have k281 : ∀ t, Steps p.tables e below (T278.setTop (mkF m 196 #[.val (.int g1), .val (.int g2), .val (.int g3), .val (.int sh), .val (.int cu), .val (.int de), .val (.int r1), .val (.int r2), .val (.int r3), .val (.int (2 : Int32)), .val (.ref b254), .val (.int md), .val (.int dd), .val (.int (if (1 : Int32) < (cu &&& (2147483647 : Int32)) then (cu &&& (2147483647 : Int32)) else (1 : Int32))), .unset, .unset] [])) t → Steps p.tables e below (s₁.setTop (entryFrame m #[(.int g1), (.int g2), (.int g3), (.int sh), (.int cu), (.int de)] maxLocals)) t := fun t k => k280 t (by
          show Steps p.tables e below (T278.setTop (mkF m 140 #[.val (.int g1), .val (.int g2), .val (.int g3), .val (.int sh), .val (.int cu), .val (.int de), .val (.int r1), .val (.int r2), .val (.int r3), .val (.int (2 : Int32)), .val (.ref b254), .val (.int md), .val (.int dd), .unset, .unset, .unset] [(.int (if (1 : Int32) < (cu &&& (2147483647 : Int32)) then (cu &&& (2147483647 : Int32)) else (1 : Int32)))])) _
          refine XS.istore X278.here hx rfl (hb hby at_140) rfl (l' := #[.val (.int g1), .val (.int g2), .val (.int g3), .val (.int sh), .val (.int cu), .val (.int de), .val (.int r1), .val (.int r2), .val (.int r3), .val (.int (2 : Int32)), .val (.ref b254), .val (.int md), .val (.int dd), .val (.int (if (1 : Int32) < (cu &&& (2147483647 : Int32)) then (cu &&& (2147483647 : Int32)) else (1 : Int32))), .unset, .unset]) rfl ?_
          show Steps p.tables e below (T278.setTop (mkF m 142 #[.val (.int g1), .val (.int g2), .val (.int g3), .val (.int sh), .val (.int cu), .val (.int de), .val (.int r1), .val (.int r2), .val (.int r3), .val (.int (2 : Int32)), .val (.ref b254), .val (.int md), .val (.int dd), .val (.int (if (1 : Int32) < (cu &&& (2147483647 : Int32)) then (cu &&& (2147483647 : Int32)) else (1 : Int32))), .unset, .unset] [])) _
          refine XS.goto X278.here hx rfl (pc0 := 142) (pc' := 196) rfl (hb hby at_142) (by decide) (by decide) ?_
          exact k)
        exact ⟨T278, h268, _, (if (1 : Int32) < (cu &&& (2147483647 : Int32)) then (cu &&& (2147483647 : Int32)) else (1 : Int32)), X278, e278, N279, Z270, hk272, V269, (own_max1 _), k281⟩
      · have k282 : ∀ t, Steps p.tables e below (T268.setTop (mkF m 148 #[.val (.int g1), .val (.int g2), .val (.int g3), .val (.int sh), .val (.int cu), .val (.int de), .val (.int r1), .val (.int r2), .val (.int r3), .val (.int (2 : Int32)), .val (.ref b254), .val (.int md), .val (.int dd), .unset, .unset, .unset] [(.int (1 : Int32)), (.int md)])) t → Steps p.tables e below (s₁.setTop (entryFrame m #[(.int g1), (.int g2), (.int g3), (.int sh), (.int cu), (.int de)] maxLocals)) t := fun t k => k276 t (by
          show Steps p.tables e below (T268.setTop (mkF m 128 #[.val (.int g1), .val (.int g2), .val (.int g3), .val (.int sh), .val (.int cu), .val (.int de), .val (.int r1), .val (.int r2), .val (.int r3), .val (.int (2 : Int32)), .val (.ref b254), .val (.int md), .val (.int dd), .unset, .unset, .unset] [(.int md)])) _
          refine XS.ifYes X268.here hx rfl (pc0 := 128) (pc' := 145) rfl (hb hby at_128) rfl ((if0 _ _).trans (feq m0).2) (by decide) (by decide) ?_
          show Steps p.tables e below (T268.setTop (mkF m 145 #[.val (.int g1), .val (.int g2), .val (.int g3), .val (.int sh), .val (.int cu), .val (.int de), .val (.int r1), .val (.int r2), .val (.int r3), .val (.int (2 : Int32)), .val (.ref b254), .val (.int md), .val (.int dd), .unset, .unset, .unset] [])) _
          refine XS.iload X268.here hx rfl (hb hby at_145) rfl ?_
          show Steps p.tables e below (T268.setTop (mkF m 147 #[.val (.int g1), .val (.int g2), .val (.int g3), .val (.int sh), .val (.int cu), .val (.int de), .val (.int r1), .val (.int r2), .val (.int r3), .val (.int (2 : Int32)), .val (.ref b254), .val (.int md), .val (.int dd), .unset, .unset, .unset] [(.int md)])) _
          refine XS.iconst X268.here hx rfl (hb hby at_147) ?_
          exact k)
        by_cases m1 : md = (1 : Int32)
        · have k283 : ∀ t, Steps p.tables e below (T268.setTop (mkF m 157 #[.val (.int g1), .val (.int g2), .val (.int g3), .val (.int sh), .val (.int cu), .val (.int de), .val (.int r1), .val (.int r2), .val (.int r3), .val (.int (2 : Int32)), .val (.ref b254), .val (.int md), .val (.int dd), .unset, .unset, .unset] [(.int (r1 + dd)), (.int (1 : Int32))])) t → Steps p.tables e below (s₁.setTop (entryFrame m #[(.int g1), (.int g2), (.int g3), (.int sh), (.int cu), (.int de)] maxLocals)) t := fun t k => k282 t (by
            show Steps p.tables e below (T268.setTop (mkF m 148 #[.val (.int g1), .val (.int g2), .val (.int g3), .val (.int sh), .val (.int cu), .val (.int de), .val (.int r1), .val (.int r2), .val (.int r3), .val (.int (2 : Int32)), .val (.ref b254), .val (.int md), .val (.int dd), .unset, .unset, .unset] [(.int (1 : Int32)), (.int md)])) _
            refine XS.icmpNo X268.here hx rfl (hb hby at_148) rfl (teq m1).2 ?_
            show Steps p.tables e below (T268.setTop (mkF m 151 #[.val (.int g1), .val (.int g2), .val (.int g3), .val (.int sh), .val (.int cu), .val (.int de), .val (.int r1), .val (.int r2), .val (.int r3), .val (.int (2 : Int32)), .val (.ref b254), .val (.int md), .val (.int dd), .unset, .unset, .unset] [])) _
            refine XS.iconst X268.here hx rfl (hb hby at_151) ?_
            show Steps p.tables e below (T268.setTop (mkF m 152 #[.val (.int g1), .val (.int g2), .val (.int g3), .val (.int sh), .val (.int cu), .val (.int de), .val (.int r1), .val (.int r2), .val (.int r3), .val (.int (2 : Int32)), .val (.ref b254), .val (.int md), .val (.int dd), .unset, .unset, .unset] [(.int (1 : Int32))])) _
            refine XS.iload X268.here hx rfl (hb hby at_152) rfl ?_
            show Steps p.tables e below (T268.setTop (mkF m 154 #[.val (.int g1), .val (.int g2), .val (.int g3), .val (.int sh), .val (.int cu), .val (.int de), .val (.int r1), .val (.int r2), .val (.int r3), .val (.int (2 : Int32)), .val (.ref b254), .val (.int md), .val (.int dd), .unset, .unset, .unset] [(.int r1), (.int (1 : Int32))])) _
            refine XS.iload X268.here hx rfl (hb hby at_154) rfl ?_
            show Steps p.tables e below (T268.setTop (mkF m 156 #[.val (.int g1), .val (.int g2), .val (.int g3), .val (.int sh), .val (.int cu), .val (.int de), .val (.int r1), .val (.int r2), .val (.int r3), .val (.int (2 : Int32)), .val (.ref b254), .val (.int md), .val (.int dd), .unset, .unset, .unset] [(.int dd), (.int r1), (.int (1 : Int32))])) _
            refine XS.iadd X268.here hx rfl (hb hby at_156) rfl ?_
            exact k)
          obtain ⟨_, _, ⟨T284, L284, k284, n284⟩, -, X284, ⟨Lc284, hQ284, l284, y284, z284⟩, st284⟩ := Jvm.LawKit.callS X268 hx (y := (⟨"java/lang/Math", "max", "(II)I"⟩ : MethodName)) hown (mvT hZ (hw _ (List.mem_of_getElem? (i := 3) rfl))) (mvT hZ (hw _ (List.mem_of_getElem? (i := 4) rfl))) (mvT hZ (hw _ (List.mem_of_getElem? (i := 5) rfl))) (mvT hZ (hw _ (List.mem_of_getElem? (i := 6) rfl))) (by decide) (backOf (W := 0) (rm1 l Z a0 hw [] (1 : Int32) (r1 + dd) h268 n0 Z270 ) hZ (hw _ (List.mem_of_getElem? (i := 6) rfl)) (hw _ (List.mem_of_getElem? (i := 5) rfl)) (by decide) (by decide)) (g := (mkF m 157 #[.val (.int g1), .val (.int g2), .val (.int g3), .val (.int sh), .val (.int cu), .val (.int de), .val (.int r1), .val (.int r2), .val (.int r3), .val (.int (2 : Int32)), .val (.ref b254), .val (.int md), .val (.int dd), .unset, .unset, .unset] [(.int (r1 + dd)), (.int (1 : Int32))])) rfl (by rw [hml]; rfl) (argsL := [(.int (1 : Int32)), (.int (r1 + dd))]) (rest := []) (lenOf pd__28II_29I rfl) rfl (by show 2 * 0 + _ ≤ _; exact Nat.le_of_eq rfl) (hb hby at_157) (fun _ _ => ⟨rfl, e268, (by decide : 1 + 0 ≤ _), (by decide : 2 + 0 ≤ _)⟩)
          dsimp only [Pt.U, Pt.locs, Pt.cells, Pt.slots] at X284 l284 y284 z284 st284 hQ284
          subst l284 y284 z284
          obtain ⟨rfl, N284q, e284⟩ := hQ284
          have N285 := Fr.app N271 N284q
          have k286 : ∀ t, Steps p.tables e below (T284.setTop (mkF m 160 #[.val (.int g1), .val (.int g2), .val (.int g3), .val (.int sh), .val (.int cu), .val (.int de), .val (.int r1), .val (.int r2), .val (.int r3), .val (.int (2 : Int32)), .val (.ref b254), .val (.int md), .val (.int dd), .unset, .unset, .unset] [(.int (if (1 : Int32) < (r1 + dd) then (r1 + dd) else (1 : Int32)))])) t → Steps p.tables e below (s₁.setTop (entryFrame m #[(.int g1), (.int g2), (.int g3), (.int sh), (.int cu), (.int de)] maxLocals)) t := fun t k => k283 t (st284 t k)
          have k287 : ∀ t, Steps p.tables e below (T284.setTop (mkF m 196 #[.val (.int g1), .val (.int g2), .val (.int g3), .val (.int sh), .val (.int cu), .val (.int de), .val (.int r1), .val (.int r2), .val (.int r3), .val (.int (2 : Int32)), .val (.ref b254), .val (.int md), .val (.int dd), .val (.int (if (1 : Int32) < (r1 + dd) then (r1 + dd) else (1 : Int32))), .unset, .unset] [])) t → Steps p.tables e below (s₁.setTop (entryFrame m #[(.int g1), (.int g2), (.int g3), (.int sh), (.int cu), (.int de)] maxLocals)) t := fun t k => k286 t (by
            show Steps p.tables e below (T284.setTop (mkF m 160 #[.val (.int g1), .val (.int g2), .val (.int g3), .val (.int sh), .val (.int cu), .val (.int de), .val (.int r1), .val (.int r2), .val (.int r3), .val (.int (2 : Int32)), .val (.ref b254), .val (.int md), .val (.int dd), .unset, .unset, .unset] [(.int (if (1 : Int32) < (r1 + dd) then (r1 + dd) else (1 : Int32)))])) _
            refine XS.istore X284.here hx rfl (hb hby at_160) rfl (l' := #[.val (.int g1), .val (.int g2), .val (.int g3), .val (.int sh), .val (.int cu), .val (.int de), .val (.int r1), .val (.int r2), .val (.int r3), .val (.int (2 : Int32)), .val (.ref b254), .val (.int md), .val (.int dd), .val (.int (if (1 : Int32) < (r1 + dd) then (r1 + dd) else (1 : Int32))), .unset, .unset]) rfl ?_
            show Steps p.tables e below (T284.setTop (mkF m 162 #[.val (.int g1), .val (.int g2), .val (.int g3), .val (.int sh), .val (.int cu), .val (.int de), .val (.int r1), .val (.int r2), .val (.int r3), .val (.int (2 : Int32)), .val (.ref b254), .val (.int md), .val (.int dd), .val (.int (if (1 : Int32) < (r1 + dd) then (r1 + dd) else (1 : Int32))), .unset, .unset] [])) _
            refine XS.goto X284.here hx rfl (pc0 := 162) (pc' := 196) rfl (hb hby at_162) (by decide) (by decide) ?_
            exact k)
          exact ⟨T284, h268, _, (if (1 : Int32) < (r1 + dd) then (r1 + dd) else (1 : Int32)), X284, e284, N285, Z270, hk272, V269, (own_max1 _), k287⟩
        · have k288 : ∀ t, Steps p.tables e below (T268.setTop (mkF m 168 #[.val (.int g1), .val (.int g2), .val (.int g3), .val (.int sh), .val (.int cu), .val (.int de), .val (.int r1), .val (.int r2), .val (.int r3), .val (.int (2 : Int32)), .val (.ref b254), .val (.int md), .val (.int dd), .unset, .unset, .unset] [(.int (2 : Int32)), (.int md)])) t → Steps p.tables e below (s₁.setTop (entryFrame m #[(.int g1), (.int g2), (.int g3), (.int sh), (.int cu), (.int de)] maxLocals)) t := fun t k => k282 t (by
            show Steps p.tables e below (T268.setTop (mkF m 148 #[.val (.int g1), .val (.int g2), .val (.int g3), .val (.int sh), .val (.int cu), .val (.int de), .val (.int r1), .val (.int r2), .val (.int r3), .val (.int (2 : Int32)), .val (.ref b254), .val (.int md), .val (.int dd), .unset, .unset, .unset] [(.int (1 : Int32)), (.int md)])) _
            refine XS.icmpYes X268.here hx rfl (pc0 := 148) (pc' := 165) rfl (hb hby at_148) rfl (feq m1).2 (by decide) (by decide) ?_
            show Steps p.tables e below (T268.setTop (mkF m 165 #[.val (.int g1), .val (.int g2), .val (.int g3), .val (.int sh), .val (.int cu), .val (.int de), .val (.int r1), .val (.int r2), .val (.int r3), .val (.int (2 : Int32)), .val (.ref b254), .val (.int md), .val (.int dd), .unset, .unset, .unset] [])) _
            refine XS.iload X268.here hx rfl (hb hby at_165) rfl ?_
            show Steps p.tables e below (T268.setTop (mkF m 167 #[.val (.int g1), .val (.int g2), .val (.int g3), .val (.int sh), .val (.int cu), .val (.int de), .val (.int r1), .val (.int r2), .val (.int r3), .val (.int (2 : Int32)), .val (.ref b254), .val (.int md), .val (.int dd), .unset, .unset, .unset] [(.int md)])) _
            refine XS.iconst X268.here hx rfl (hb hby at_167) ?_
            exact k)
          by_cases m2 : md = (2 : Int32)
          · have k289 : ∀ t, Steps p.tables e below (T268.setTop (mkF m 177 #[.val (.int g1), .val (.int g2), .val (.int g3), .val (.int sh), .val (.int cu), .val (.int de), .val (.int r1), .val (.int r2), .val (.int r3), .val (.int (2 : Int32)), .val (.ref b254), .val (.int md), .val (.int dd), .unset, .unset, .unset] [(.int (r2 + dd)), (.int (1 : Int32))])) t → Steps p.tables e below (s₁.setTop (entryFrame m #[(.int g1), (.int g2), (.int g3), (.int sh), (.int cu), (.int de)] maxLocals)) t := fun t k => k288 t (by
              show Steps p.tables e below (T268.setTop (mkF m 168 #[.val (.int g1), .val (.int g2), .val (.int g3), .val (.int sh), .val (.int cu), .val (.int de), .val (.int r1), .val (.int r2), .val (.int r3), .val (.int (2 : Int32)), .val (.ref b254), .val (.int md), .val (.int dd), .unset, .unset, .unset] [(.int (2 : Int32)), (.int md)])) _
              refine XS.icmpNo X268.here hx rfl (hb hby at_168) rfl (teq m2).2 ?_
              show Steps p.tables e below (T268.setTop (mkF m 171 #[.val (.int g1), .val (.int g2), .val (.int g3), .val (.int sh), .val (.int cu), .val (.int de), .val (.int r1), .val (.int r2), .val (.int r3), .val (.int (2 : Int32)), .val (.ref b254), .val (.int md), .val (.int dd), .unset, .unset, .unset] [])) _
              refine XS.iconst X268.here hx rfl (hb hby at_171) ?_
              show Steps p.tables e below (T268.setTop (mkF m 172 #[.val (.int g1), .val (.int g2), .val (.int g3), .val (.int sh), .val (.int cu), .val (.int de), .val (.int r1), .val (.int r2), .val (.int r3), .val (.int (2 : Int32)), .val (.ref b254), .val (.int md), .val (.int dd), .unset, .unset, .unset] [(.int (1 : Int32))])) _
              refine XS.iload X268.here hx rfl (hb hby at_172) rfl ?_
              show Steps p.tables e below (T268.setTop (mkF m 174 #[.val (.int g1), .val (.int g2), .val (.int g3), .val (.int sh), .val (.int cu), .val (.int de), .val (.int r1), .val (.int r2), .val (.int r3), .val (.int (2 : Int32)), .val (.ref b254), .val (.int md), .val (.int dd), .unset, .unset, .unset] [(.int r2), (.int (1 : Int32))])) _
              refine XS.iload X268.here hx rfl (hb hby at_174) rfl ?_
              show Steps p.tables e below (T268.setTop (mkF m 176 #[.val (.int g1), .val (.int g2), .val (.int g3), .val (.int sh), .val (.int cu), .val (.int de), .val (.int r1), .val (.int r2), .val (.int r3), .val (.int (2 : Int32)), .val (.ref b254), .val (.int md), .val (.int dd), .unset, .unset, .unset] [(.int dd), (.int r2), (.int (1 : Int32))])) _
              refine XS.iadd X268.here hx rfl (hb hby at_176) rfl ?_
              exact k)
            obtain ⟨_, _, ⟨T290, L290, k290, n290⟩, -, X290, ⟨Lc290, hQ290, l290, y290, z290⟩, st290⟩ := Jvm.LawKit.callS X268 hx (y := (⟨"java/lang/Math", "max", "(II)I"⟩ : MethodName)) hown (mvT hZ (hw _ (List.mem_of_getElem? (i := 3) rfl))) (mvT hZ (hw _ (List.mem_of_getElem? (i := 4) rfl))) (mvT hZ (hw _ (List.mem_of_getElem? (i := 5) rfl))) (mvT hZ (hw _ (List.mem_of_getElem? (i := 6) rfl))) (by decide) (backOf (W := 0) (rm1 l Z a0 hw [] (1 : Int32) (r2 + dd) h268 n0 Z270 ) hZ (hw _ (List.mem_of_getElem? (i := 6) rfl)) (hw _ (List.mem_of_getElem? (i := 5) rfl)) (by decide) (by decide)) (g := (mkF m 177 #[.val (.int g1), .val (.int g2), .val (.int g3), .val (.int sh), .val (.int cu), .val (.int de), .val (.int r1), .val (.int r2), .val (.int r3), .val (.int (2 : Int32)), .val (.ref b254), .val (.int md), .val (.int dd), .unset, .unset, .unset] [(.int (r2 + dd)), (.int (1 : Int32))])) rfl (by rw [hml]; rfl) (argsL := [(.int (1 : Int32)), (.int (r2 + dd))]) (rest := []) (lenOf pd__28II_29I rfl) rfl (by show 2 * 0 + _ ≤ _; exact Nat.le_of_eq rfl) (hb hby at_177) (fun _ _ => ⟨rfl, e268, (by decide : 1 + 0 ≤ _), (by decide : 2 + 0 ≤ _)⟩)
            dsimp only [Pt.U, Pt.locs, Pt.cells, Pt.slots] at X290 l290 y290 z290 st290 hQ290
            subst l290 y290 z290
            obtain ⟨rfl, N290q, e290⟩ := hQ290
            have N291 := Fr.app N271 N290q
            have k292 : ∀ t, Steps p.tables e below (T290.setTop (mkF m 180 #[.val (.int g1), .val (.int g2), .val (.int g3), .val (.int sh), .val (.int cu), .val (.int de), .val (.int r1), .val (.int r2), .val (.int r3), .val (.int (2 : Int32)), .val (.ref b254), .val (.int md), .val (.int dd), .unset, .unset, .unset] [(.int (if (1 : Int32) < (r2 + dd) then (r2 + dd) else (1 : Int32)))])) t → Steps p.tables e below (s₁.setTop (entryFrame m #[(.int g1), (.int g2), (.int g3), (.int sh), (.int cu), (.int de)] maxLocals)) t := fun t k => k289 t (st290 t k)
            have k293 : ∀ t, Steps p.tables e below (T290.setTop (mkF m 196 #[.val (.int g1), .val (.int g2), .val (.int g3), .val (.int sh), .val (.int cu), .val (.int de), .val (.int r1), .val (.int r2), .val (.int r3), .val (.int (2 : Int32)), .val (.ref b254), .val (.int md), .val (.int dd), .val (.int (if (1 : Int32) < (r2 + dd) then (r2 + dd) else (1 : Int32))), .unset, .unset] [])) t → Steps p.tables e below (s₁.setTop (entryFrame m #[(.int g1), (.int g2), (.int g3), (.int sh), (.int cu), (.int de)] maxLocals)) t := fun t k => k292 t (by
              show Steps p.tables e below (T290.setTop (mkF m 180 #[.val (.int g1), .val (.int g2), .val (.int g3), .val (.int sh), .val (.int cu), .val (.int de), .val (.int r1), .val (.int r2), .val (.int r3), .val (.int (2 : Int32)), .val (.ref b254), .val (.int md), .val (.int dd), .unset, .unset, .unset] [(.int (if (1 : Int32) < (r2 + dd) then (r2 + dd) else (1 : Int32)))])) _
              refine XS.istore X290.here hx rfl (hb hby at_180) rfl (l' := #[.val (.int g1), .val (.int g2), .val (.int g3), .val (.int sh), .val (.int cu), .val (.int de), .val (.int r1), .val (.int r2), .val (.int r3), .val (.int (2 : Int32)), .val (.ref b254), .val (.int md), .val (.int dd), .val (.int (if (1 : Int32) < (r2 + dd) then (r2 + dd) else (1 : Int32))), .unset, .unset]) rfl ?_
              show Steps p.tables e below (T290.setTop (mkF m 182 #[.val (.int g1), .val (.int g2), .val (.int g3), .val (.int sh), .val (.int cu), .val (.int de), .val (.int r1), .val (.int r2), .val (.int r3), .val (.int (2 : Int32)), .val (.ref b254), .val (.int md), .val (.int dd), .val (.int (if (1 : Int32) < (r2 + dd) then (r2 + dd) else (1 : Int32))), .unset, .unset] [])) _
              refine XS.goto X290.here hx rfl (pc0 := 182) (pc' := 196) rfl (hb hby at_182) (by decide) (by decide) ?_
              exact k)
            exact ⟨T290, h268, _, (if (1 : Int32) < (r2 + dd) then (r2 + dd) else (1 : Int32)), X290, e290, N291, Z270, hk272, V269, (own_max1 _), k293⟩
          · have k294 : ∀ t, Steps p.tables e below (T268.setTop (mkF m 191 #[.val (.int g1), .val (.int g2), .val (.int g3), .val (.int sh), .val (.int cu), .val (.int de), .val (.int r1), .val (.int r2), .val (.int r3), .val (.int (2 : Int32)), .val (.ref b254), .val (.int md), .val (.int dd), .unset, .unset, .unset] [(.int (r3 + dd)), (.int (1 : Int32))])) t → Steps p.tables e below (s₁.setTop (entryFrame m #[(.int g1), (.int g2), (.int g3), (.int sh), (.int cu), (.int de)] maxLocals)) t := fun t k => k288 t (by
              show Steps p.tables e below (T268.setTop (mkF m 168 #[.val (.int g1), .val (.int g2), .val (.int g3), .val (.int sh), .val (.int cu), .val (.int de), .val (.int r1), .val (.int r2), .val (.int r3), .val (.int (2 : Int32)), .val (.ref b254), .val (.int md), .val (.int dd), .unset, .unset, .unset] [(.int (2 : Int32)), (.int md)])) _
              refine XS.icmpYes X268.here hx rfl (pc0 := 168) (pc' := 185) rfl (hb hby at_168) rfl (feq m2).2 (by decide) (by decide) ?_
              show Steps p.tables e below (T268.setTop (mkF m 185 #[.val (.int g1), .val (.int g2), .val (.int g3), .val (.int sh), .val (.int cu), .val (.int de), .val (.int r1), .val (.int r2), .val (.int r3), .val (.int (2 : Int32)), .val (.ref b254), .val (.int md), .val (.int dd), .unset, .unset, .unset] [])) _
              refine XS.iconst X268.here hx rfl (hb hby at_185) ?_
              show Steps p.tables e below (T268.setTop (mkF m 186 #[.val (.int g1), .val (.int g2), .val (.int g3), .val (.int sh), .val (.int cu), .val (.int de), .val (.int r1), .val (.int r2), .val (.int r3), .val (.int (2 : Int32)), .val (.ref b254), .val (.int md), .val (.int dd), .unset, .unset, .unset] [(.int (1 : Int32))])) _
              refine XS.iload X268.here hx rfl (hb hby at_186) rfl ?_
              show Steps p.tables e below (T268.setTop (mkF m 188 #[.val (.int g1), .val (.int g2), .val (.int g3), .val (.int sh), .val (.int cu), .val (.int de), .val (.int r1), .val (.int r2), .val (.int r3), .val (.int (2 : Int32)), .val (.ref b254), .val (.int md), .val (.int dd), .unset, .unset, .unset] [(.int r3), (.int (1 : Int32))])) _
              refine XS.iload X268.here hx rfl (hb hby at_188) rfl ?_
              show Steps p.tables e below (T268.setTop (mkF m 190 #[.val (.int g1), .val (.int g2), .val (.int g3), .val (.int sh), .val (.int cu), .val (.int de), .val (.int r1), .val (.int r2), .val (.int r3), .val (.int (2 : Int32)), .val (.ref b254), .val (.int md), .val (.int dd), .unset, .unset, .unset] [(.int dd), (.int r3), (.int (1 : Int32))])) _
              refine XS.iadd X268.here hx rfl (hb hby at_190) rfl ?_
              exact k)
            obtain ⟨_, _, ⟨T295, L295, k295, n295⟩, -, X295, ⟨Lc295, hQ295, l295, y295, z295⟩, st295⟩ := Jvm.LawKit.callS X268 hx (y := (⟨"java/lang/Math", "max", "(II)I"⟩ : MethodName)) hown (mvT hZ (hw _ (List.mem_of_getElem? (i := 3) rfl))) (mvT hZ (hw _ (List.mem_of_getElem? (i := 4) rfl))) (mvT hZ (hw _ (List.mem_of_getElem? (i := 5) rfl))) (mvT hZ (hw _ (List.mem_of_getElem? (i := 6) rfl))) (by decide) (backOf (W := 0) (rm1 l Z a0 hw [] (1 : Int32) (r3 + dd) h268 n0 Z270 ) hZ (hw _ (List.mem_of_getElem? (i := 6) rfl)) (hw _ (List.mem_of_getElem? (i := 5) rfl)) (by decide) (by decide)) (g := (mkF m 191 #[.val (.int g1), .val (.int g2), .val (.int g3), .val (.int sh), .val (.int cu), .val (.int de), .val (.int r1), .val (.int r2), .val (.int r3), .val (.int (2 : Int32)), .val (.ref b254), .val (.int md), .val (.int dd), .unset, .unset, .unset] [(.int (r3 + dd)), (.int (1 : Int32))])) rfl (by rw [hml]; rfl) (argsL := [(.int (1 : Int32)), (.int (r3 + dd))]) (rest := []) (lenOf pd__28II_29I rfl) rfl (by show 2 * 0 + _ ≤ _; exact Nat.le_of_eq rfl) (hb hby at_191) (fun _ _ => ⟨rfl, e268, (by decide : 1 + 0 ≤ _), (by decide : 2 + 0 ≤ _)⟩)
            dsimp only [Pt.U, Pt.locs, Pt.cells, Pt.slots] at X295 l295 y295 z295 st295 hQ295
            subst l295 y295 z295
            obtain ⟨rfl, N295q, e295⟩ := hQ295
            have N296 := Fr.app N271 N295q
            have k297 : ∀ t, Steps p.tables e below (T295.setTop (mkF m 194 #[.val (.int g1), .val (.int g2), .val (.int g3), .val (.int sh), .val (.int cu), .val (.int de), .val (.int r1), .val (.int r2), .val (.int r3), .val (.int (2 : Int32)), .val (.ref b254), .val (.int md), .val (.int dd), .unset, .unset, .unset] [(.int (if (1 : Int32) < (r3 + dd) then (r3 + dd) else (1 : Int32)))])) t → Steps p.tables e below (s₁.setTop (entryFrame m #[(.int g1), (.int g2), (.int g3), (.int sh), (.int cu), (.int de)] maxLocals)) t := fun t k => k294 t (st295 t k)
            have k298 : ∀ t, Steps p.tables e below (T295.setTop (mkF m 196 #[.val (.int g1), .val (.int g2), .val (.int g3), .val (.int sh), .val (.int cu), .val (.int de), .val (.int r1), .val (.int r2), .val (.int r3), .val (.int (2 : Int32)), .val (.ref b254), .val (.int md), .val (.int dd), .val (.int (if (1 : Int32) < (r3 + dd) then (r3 + dd) else (1 : Int32))), .unset, .unset] [])) t → Steps p.tables e below (s₁.setTop (entryFrame m #[(.int g1), (.int g2), (.int g3), (.int sh), (.int cu), (.int de)] maxLocals)) t := fun t k => k297 t (by
              show Steps p.tables e below (T295.setTop (mkF m 194 #[.val (.int g1), .val (.int g2), .val (.int g3), .val (.int sh), .val (.int cu), .val (.int de), .val (.int r1), .val (.int r2), .val (.int r3), .val (.int (2 : Int32)), .val (.ref b254), .val (.int md), .val (.int dd), .unset, .unset, .unset] [(.int (if (1 : Int32) < (r3 + dd) then (r3 + dd) else (1 : Int32)))])) _
              refine XS.istore X295.here hx rfl (hb hby at_194) rfl (l' := #[.val (.int g1), .val (.int g2), .val (.int g3), .val (.int sh), .val (.int cu), .val (.int de), .val (.int r1), .val (.int r2), .val (.int r3), .val (.int (2 : Int32)), .val (.ref b254), .val (.int md), .val (.int dd), .val (.int (if (1 : Int32) < (r3 + dd) then (r3 + dd) else (1 : Int32))), .unset, .unset]) rfl ?_
              exact k)
            exact ⟨T295, h268, _, (if (1 : Int32) < (r3 + dd) then (r3 + dd) else (1 : Int32)), X295, e295, N296, Z270, hk272, V269, (own_max1 _), k298⟩
    have k300 : ∀ t, Steps p.tables e below (T275.setTop (mkF m 209 #[.val (.int g1), .val (.int g2), .val (.int g3), .val (.int sh), .val (.int cu), .val (.int de), .val (.int r1), .val (.int r2), .val (.int r3), .val (.int (2 : Int32)), .val (.ref b254), .val (.int md), .val (.int dd), .val (.int cut), .val (.int (0 : Int32)), .unset] [(.int cut), (.int r1)])) t → Steps p.tables e below (s₁.setTop (entryFrame m #[(.int g1), (.int g2), (.int g3), (.int sh), (.int cu), (.int de)] maxLocals)) t := fun t k => kq275 t (by
      show Steps p.tables e below (T275.setTop (mkF m 196 #[.val (.int g1), .val (.int g2), .val (.int g3), .val (.int sh), .val (.int cu), .val (.int de), .val (.int r1), .val (.int r2), .val (.int r3), .val (.int (2 : Int32)), .val (.ref b254), .val (.int md), .val (.int dd), .val (.int cut), .unset, .unset] [])) _
      refine XS.iconst X275.here hx rfl (hb hby at_196) ?_
      show Steps p.tables e below (T275.setTop (mkF m 197 #[.val (.int g1), .val (.int g2), .val (.int g3), .val (.int sh), .val (.int cu), .val (.int de), .val (.int r1), .val (.int r2), .val (.int r3), .val (.int (2 : Int32)), .val (.ref b254), .val (.int md), .val (.int dd), .val (.int cut), .unset, .unset] [(.int (0 : Int32))])) _
      refine XS.istore X275.here hx rfl (hb hby at_197) rfl (l' := #[.val (.int g1), .val (.int g2), .val (.int g3), .val (.int sh), .val (.int cu), .val (.int de), .val (.int r1), .val (.int r2), .val (.int r3), .val (.int (2 : Int32)), .val (.ref b254), .val (.int md), .val (.int dd), .val (.int cut), .val (.int (0 : Int32)), .unset]) rfl ?_
      show Steps p.tables e below (T275.setTop (mkF m 199 #[.val (.int g1), .val (.int g2), .val (.int g3), .val (.int sh), .val (.int cu), .val (.int de), .val (.int r1), .val (.int r2), .val (.int r3), .val (.int (2 : Int32)), .val (.ref b254), .val (.int md), .val (.int dd), .val (.int cut), .val (.int (0 : Int32)), .unset] [])) _
      refine XS.iload X275.here hx rfl (hb hby at_199) rfl ?_
      show Steps p.tables e below (T275.setTop (mkF m 201 #[.val (.int g1), .val (.int g2), .val (.int g3), .val (.int sh), .val (.int cu), .val (.int de), .val (.int r1), .val (.int r2), .val (.int r3), .val (.int (2 : Int32)), .val (.ref b254), .val (.int md), .val (.int dd), .val (.int cut), .val (.int (0 : Int32)), .unset] [(.int (2 : Int32))])) _
      refine XS.iconst X275.here hx rfl (hb hby at_201) ?_
      show Steps p.tables e below (T275.setTop (mkF m 202 #[.val (.int g1), .val (.int g2), .val (.int g3), .val (.int sh), .val (.int cu), .val (.int de), .val (.int r1), .val (.int r2), .val (.int r3), .val (.int (2 : Int32)), .val (.ref b254), .val (.int md), .val (.int dd), .val (.int cut), .val (.int (0 : Int32)), .unset] [(.int (1 : Int32)), (.int (2 : Int32))])) _
      refine XS.icmpNo X275.here hx rfl (hb hby at_202) rfl (flt (by decide)).1 ?_
      show Steps p.tables e below (T275.setTop (mkF m 205 #[.val (.int g1), .val (.int g2), .val (.int g3), .val (.int sh), .val (.int cu), .val (.int de), .val (.int r1), .val (.int r2), .val (.int r3), .val (.int (2 : Int32)), .val (.ref b254), .val (.int md), .val (.int dd), .val (.int cut), .val (.int (0 : Int32)), .unset] [])) _
      refine XS.iload X275.here hx rfl (hb hby at_205) rfl ?_
      show Steps p.tables e below (T275.setTop (mkF m 207 #[.val (.int g1), .val (.int g2), .val (.int g3), .val (.int sh), .val (.int cu), .val (.int de), .val (.int r1), .val (.int r2), .val (.int r3), .val (.int (2 : Int32)), .val (.ref b254), .val (.int md), .val (.int dd), .val (.int cut), .val (.int (0 : Int32)), .unset] [(.int r1)])) _
      refine XS.iload X275.here hx rfl (hb hby at_207) rfl ?_
      exact k)
    obtain ⟨i302, hi302⟩ : ∃ z : Int32, z = (if cut < r1 then (0 : Int32) else (1 : Int32)) := ⟨_, rfl⟩
    have k303 : ∀ t, Steps p.tables e below (T275.setTop (mkF m 218 #[.val (.int g1), .val (.int g2), .val (.int g3), .val (.int sh), .val (.int cu), .val (.int de), .val (.int r1), .val (.int r2), .val (.int r3), .val (.int (2 : Int32)), .val (.ref b254), .val (.int md), .val (.int dd), .val (.int cut), .val (.int i302), .unset] [])) t → Steps p.tables e below (s₁.setTop (entryFrame m #[(.int g1), (.int g2), (.int g3), (.int sh), (.int cu), (.int de)] maxLocals)) t := fun t k => k300 t (by
      by_cases c301 : cut < r1
      · rw [if_pos c301] at hi302
        show Steps p.tables e below (T275.setTop (mkF m 209 #[.val (.int g1), .val (.int g2), .val (.int g3), .val (.int sh), .val (.int cu), .val (.int de), .val (.int r1), .val (.int r2), .val (.int r3), .val (.int (2 : Int32)), .val (.ref b254), .val (.int md), .val (.int dd), .val (.int cut), .val (.int (0 : Int32)), .unset] [(.int cut), (.int r1)])) _
        refine XS.icmpYes X275.here hx rfl (pc0 := 209) (pc' := 218) rfl (hb hby at_209) rfl (tlt c301).2.2.1 (by decide) (by decide) ?_
        show Steps p.tables e below (T275.setTop (mkF m 218 #[.val (.int g1), .val (.int g2), .val (.int g3), .val (.int sh), .val (.int cu), .val (.int de), .val (.int r1), .val (.int r2), .val (.int r3), .val (.int (2 : Int32)), .val (.ref b254), .val (.int md), .val (.int dd), .val (.int cut), .val (.int (0 : Int32)), .unset] [])) _
        exact castTop (by rw [hi302]) k
      · rw [if_neg c301] at hi302
        show Steps p.tables e below (T275.setTop (mkF m 209 #[.val (.int g1), .val (.int g2), .val (.int g3), .val (.int sh), .val (.int cu), .val (.int de), .val (.int r1), .val (.int r2), .val (.int r3), .val (.int (2 : Int32)), .val (.ref b254), .val (.int md), .val (.int dd), .val (.int cut), .val (.int (0 : Int32)), .unset] [(.int cut), (.int r1)])) _
        refine XS.icmpNo X275.here hx rfl (hb hby at_209) rfl (flt c301).2.2.1 ?_
        show Steps p.tables e below (T275.setTop (mkF m 212 #[.val (.int g1), .val (.int g2), .val (.int g3), .val (.int sh), .val (.int cu), .val (.int de), .val (.int r1), .val (.int r2), .val (.int r3), .val (.int (2 : Int32)), .val (.ref b254), .val (.int md), .val (.int dd), .val (.int cut), .val (.int (0 : Int32)), .unset] [])) _
        refine XS.iload X275.here hx rfl (hb hby at_212) rfl ?_
        show Steps p.tables e below (T275.setTop (mkF m 214 #[.val (.int g1), .val (.int g2), .val (.int g3), .val (.int sh), .val (.int cu), .val (.int de), .val (.int r1), .val (.int r2), .val (.int r3), .val (.int (2 : Int32)), .val (.ref b254), .val (.int md), .val (.int dd), .val (.int cut), .val (.int (0 : Int32)), .unset] [(.int (0 : Int32))])) _
        refine XS.iconst X275.here hx rfl (hb hby at_214) ?_
        show Steps p.tables e below (T275.setTop (mkF m 215 #[.val (.int g1), .val (.int g2), .val (.int g3), .val (.int sh), .val (.int cu), .val (.int de), .val (.int r1), .val (.int r2), .val (.int r3), .val (.int (2 : Int32)), .val (.ref b254), .val (.int md), .val (.int dd), .val (.int cut), .val (.int (0 : Int32)), .unset] [(.int (1 : Int32)), (.int (0 : Int32))])) _
        refine XS.iadd X275.here hx rfl (hb hby at_215) rfl ?_
        show Steps p.tables e below (T275.setTop (mkF m 216 #[.val (.int g1), .val (.int g2), .val (.int g3), .val (.int sh), .val (.int cu), .val (.int de), .val (.int r1), .val (.int r2), .val (.int r3), .val (.int (2 : Int32)), .val (.ref b254), .val (.int md), .val (.int dd), .val (.int cut), .val (.int (0 : Int32)), .unset] [(.int ((0 : Int32) + (1 : Int32)))])) _
        refine castTop (g' := (mkF m 216 #[.val (.int g1), .val (.int g2), .val (.int g3), .val (.int sh), .val (.int cu), .val (.int de), .val (.int r1), .val (.int r2), .val (.int r3), .val (.int (2 : Int32)), .val (.ref b254), .val (.int md), .val (.int dd), .val (.int cut), .val (.int (0 : Int32)), .unset] [(.int (1 : Int32))])) (by rw [show ((0 : Int32) + (1 : Int32)) = (1 : Int32) by decide]) ?_
        show Steps p.tables e below (T275.setTop (mkF m 216 #[.val (.int g1), .val (.int g2), .val (.int g3), .val (.int sh), .val (.int cu), .val (.int de), .val (.int r1), .val (.int r2), .val (.int r3), .val (.int (2 : Int32)), .val (.ref b254), .val (.int md), .val (.int dd), .val (.int cut), .val (.int (0 : Int32)), .unset] [(.int (1 : Int32))])) _
        refine XS.istore X275.here hx rfl (hb hby at_216) rfl (l' := #[.val (.int g1), .val (.int g2), .val (.int g3), .val (.int sh), .val (.int cu), .val (.int de), .val (.int r1), .val (.int r2), .val (.int r3), .val (.int (2 : Int32)), .val (.ref b254), .val (.int md), .val (.int dd), .val (.int cut), .val (.int (1 : Int32)), .unset]) rfl ?_
        show Steps p.tables e below (T275.setTop (mkF m 218 #[.val (.int g1), .val (.int g2), .val (.int g3), .val (.int sh), .val (.int cu), .val (.int de), .val (.int r1), .val (.int r2), .val (.int r3), .val (.int (2 : Int32)), .val (.ref b254), .val (.int md), .val (.int dd), .val (.int cut), .val (.int (1 : Int32)), .unset] [])) _
        exact castTop (by rw [hi302]) k)
    have k304 : ∀ t, Steps p.tables e below (T275.setTop (mkF m 228 #[.val (.int g1), .val (.int g2), .val (.int g3), .val (.int sh), .val (.int cu), .val (.int de), .val (.int r1), .val (.int r2), .val (.int r3), .val (.int (2 : Int32)), .val (.ref b254), .val (.int md), .val (.int dd), .val (.int cut), .val (.int i302), .unset] [(.int cut), (.int r2)])) t → Steps p.tables e below (s₁.setTop (entryFrame m #[(.int g1), (.int g2), (.int g3), (.int sh), (.int cu), (.int de)] maxLocals)) t := fun t k => k303 t (by
      show Steps p.tables e below (T275.setTop (mkF m 218 #[.val (.int g1), .val (.int g2), .val (.int g3), .val (.int sh), .val (.int cu), .val (.int de), .val (.int r1), .val (.int r2), .val (.int r3), .val (.int (2 : Int32)), .val (.ref b254), .val (.int md), .val (.int dd), .val (.int cut), .val (.int i302), .unset] [])) _
      refine XS.iload X275.here hx rfl (hb hby at_218) rfl ?_
      show Steps p.tables e below (T275.setTop (mkF m 220 #[.val (.int g1), .val (.int g2), .val (.int g3), .val (.int sh), .val (.int cu), .val (.int de), .val (.int r1), .val (.int r2), .val (.int r3), .val (.int (2 : Int32)), .val (.ref b254), .val (.int md), .val (.int dd), .val (.int cut), .val (.int i302), .unset] [(.int (2 : Int32))])) _
      refine XS.iconst X275.here hx rfl (hb hby at_220) ?_
      show Steps p.tables e below (T275.setTop (mkF m 221 #[.val (.int g1), .val (.int g2), .val (.int g3), .val (.int sh), .val (.int cu), .val (.int de), .val (.int r1), .val (.int r2), .val (.int r3), .val (.int (2 : Int32)), .val (.ref b254), .val (.int md), .val (.int dd), .val (.int cut), .val (.int i302), .unset] [(.int (2 : Int32)), (.int (2 : Int32))])) _
      refine XS.icmpNo X275.here hx rfl (hb hby at_221) rfl (flt (by decide)).1 ?_
      show Steps p.tables e below (T275.setTop (mkF m 224 #[.val (.int g1), .val (.int g2), .val (.int g3), .val (.int sh), .val (.int cu), .val (.int de), .val (.int r1), .val (.int r2), .val (.int r3), .val (.int (2 : Int32)), .val (.ref b254), .val (.int md), .val (.int dd), .val (.int cut), .val (.int i302), .unset] [])) _
      refine XS.iload X275.here hx rfl (hb hby at_224) rfl ?_
      show Steps p.tables e below (T275.setTop (mkF m 226 #[.val (.int g1), .val (.int g2), .val (.int g3), .val (.int sh), .val (.int cu), .val (.int de), .val (.int r1), .val (.int r2), .val (.int r3), .val (.int (2 : Int32)), .val (.ref b254), .val (.int md), .val (.int dd), .val (.int cut), .val (.int i302), .unset] [(.int r2)])) _
      refine XS.iload X275.here hx rfl (hb hby at_226) rfl ?_
      exact k)
    obtain ⟨i306, hi306⟩ : ∃ z : Int32, z = (if cut < r2 then i302 else (i302 + (1 : Int32))) := ⟨_, rfl⟩
    have k307 : ∀ t, Steps p.tables e below (T275.setTop (mkF m 237 #[.val (.int g1), .val (.int g2), .val (.int g3), .val (.int sh), .val (.int cu), .val (.int de), .val (.int r1), .val (.int r2), .val (.int r3), .val (.int (2 : Int32)), .val (.ref b254), .val (.int md), .val (.int dd), .val (.int cut), .val (.int i306), .unset] [])) t → Steps p.tables e below (s₁.setTop (entryFrame m #[(.int g1), (.int g2), (.int g3), (.int sh), (.int cu), (.int de)] maxLocals)) t := fun t k => k304 t (by
      by_cases c305 : cut < r2
      · rw [if_pos c305] at hi306
        show Steps p.tables e below (T275.setTop (mkF m 228 #[.val (.int g1), .val (.int g2), .val (.int g3), .val (.int sh), .val (.int cu), .val (.int de), .val (.int r1), .val (.int r2), .val (.int r3), .val (.int (2 : Int32)), .val (.ref b254), .val (.int md), .val (.int dd), .val (.int cut), .val (.int i302), .unset] [(.int cut), (.int r2)])) _
        refine XS.icmpYes X275.here hx rfl (pc0 := 228) (pc' := 237) rfl (hb hby at_228) rfl (tlt c305).2.2.1 (by decide) (by decide) ?_
        show Steps p.tables e below (T275.setTop (mkF m 237 #[.val (.int g1), .val (.int g2), .val (.int g3), .val (.int sh), .val (.int cu), .val (.int de), .val (.int r1), .val (.int r2), .val (.int r3), .val (.int (2 : Int32)), .val (.ref b254), .val (.int md), .val (.int dd), .val (.int cut), .val (.int i302), .unset] [])) _
        exact castTop (by rw [hi306]) k
      · rw [if_neg c305] at hi306
        show Steps p.tables e below (T275.setTop (mkF m 228 #[.val (.int g1), .val (.int g2), .val (.int g3), .val (.int sh), .val (.int cu), .val (.int de), .val (.int r1), .val (.int r2), .val (.int r3), .val (.int (2 : Int32)), .val (.ref b254), .val (.int md), .val (.int dd), .val (.int cut), .val (.int i302), .unset] [(.int cut), (.int r2)])) _
        refine XS.icmpNo X275.here hx rfl (hb hby at_228) rfl (flt c305).2.2.1 ?_
        show Steps p.tables e below (T275.setTop (mkF m 231 #[.val (.int g1), .val (.int g2), .val (.int g3), .val (.int sh), .val (.int cu), .val (.int de), .val (.int r1), .val (.int r2), .val (.int r3), .val (.int (2 : Int32)), .val (.ref b254), .val (.int md), .val (.int dd), .val (.int cut), .val (.int i302), .unset] [])) _
        refine XS.iload X275.here hx rfl (hb hby at_231) rfl ?_
        show Steps p.tables e below (T275.setTop (mkF m 233 #[.val (.int g1), .val (.int g2), .val (.int g3), .val (.int sh), .val (.int cu), .val (.int de), .val (.int r1), .val (.int r2), .val (.int r3), .val (.int (2 : Int32)), .val (.ref b254), .val (.int md), .val (.int dd), .val (.int cut), .val (.int i302), .unset] [(.int i302)])) _
        refine XS.iconst X275.here hx rfl (hb hby at_233) ?_
        show Steps p.tables e below (T275.setTop (mkF m 234 #[.val (.int g1), .val (.int g2), .val (.int g3), .val (.int sh), .val (.int cu), .val (.int de), .val (.int r1), .val (.int r2), .val (.int r3), .val (.int (2 : Int32)), .val (.ref b254), .val (.int md), .val (.int dd), .val (.int cut), .val (.int i302), .unset] [(.int (1 : Int32)), (.int i302)])) _
        refine XS.iadd X275.here hx rfl (hb hby at_234) rfl ?_
        show Steps p.tables e below (T275.setTop (mkF m 235 #[.val (.int g1), .val (.int g2), .val (.int g3), .val (.int sh), .val (.int cu), .val (.int de), .val (.int r1), .val (.int r2), .val (.int r3), .val (.int (2 : Int32)), .val (.ref b254), .val (.int md), .val (.int dd), .val (.int cut), .val (.int i302), .unset] [(.int (i302 + (1 : Int32)))])) _
        refine XS.istore X275.here hx rfl (hb hby at_235) rfl (l' := #[.val (.int g1), .val (.int g2), .val (.int g3), .val (.int sh), .val (.int cu), .val (.int de), .val (.int r1), .val (.int r2), .val (.int r3), .val (.int (2 : Int32)), .val (.ref b254), .val (.int md), .val (.int dd), .val (.int cut), .val (.int (i302 + (1 : Int32))), .unset]) rfl ?_
        show Steps p.tables e below (T275.setTop (mkF m 237 #[.val (.int g1), .val (.int g2), .val (.int g3), .val (.int sh), .val (.int cu), .val (.int de), .val (.int r1), .val (.int r2), .val (.int r3), .val (.int (2 : Int32)), .val (.ref b254), .val (.int md), .val (.int dd), .val (.int cut), .val (.int (i302 + (1 : Int32))), .unset] [])) _
        exact castTop (by rw [hi306]) k)
    have k308 : ∀ t, Steps p.tables e below (T275.setTop (mkF m 256 #[.val (.int g1), .val (.int g2), .val (.int g3), .val (.int sh), .val (.int cu), .val (.int de), .val (.int r1), .val (.int r2), .val (.int r3), .val (.int (2 : Int32)), .val (.ref b254), .val (.int md), .val (.int dd), .val (.int cut), .val (.int i306), .unset] [])) t → Steps p.tables e below (s₁.setTop (entryFrame m #[(.int g1), (.int g2), (.int g3), (.int sh), (.int cu), (.int de)] maxLocals)) t := fun t k => k307 t (by
      show Steps p.tables e below (T275.setTop (mkF m 237 #[.val (.int g1), .val (.int g2), .val (.int g3), .val (.int sh), .val (.int cu), .val (.int de), .val (.int r1), .val (.int r2), .val (.int r3), .val (.int (2 : Int32)), .val (.ref b254), .val (.int md), .val (.int dd), .val (.int cut), .val (.int i306), .unset] [])) _
      refine XS.iload X275.here hx rfl (hb hby at_237) rfl ?_
      show Steps p.tables e below (T275.setTop (mkF m 239 #[.val (.int g1), .val (.int g2), .val (.int g3), .val (.int sh), .val (.int cu), .val (.int de), .val (.int r1), .val (.int r2), .val (.int r3), .val (.int (2 : Int32)), .val (.ref b254), .val (.int md), .val (.int dd), .val (.int cut), .val (.int i306), .unset] [(.int (2 : Int32))])) _
      refine XS.iconst X275.here hx rfl (hb hby at_239) ?_
      show Steps p.tables e below (T275.setTop (mkF m 240 #[.val (.int g1), .val (.int g2), .val (.int g3), .val (.int sh), .val (.int cu), .val (.int de), .val (.int r1), .val (.int r2), .val (.int r3), .val (.int (2 : Int32)), .val (.ref b254), .val (.int md), .val (.int dd), .val (.int cut), .val (.int i306), .unset] [(.int (3 : Int32)), (.int (2 : Int32))])) _
      refine XS.icmpYes X275.here hx rfl (pc0 := 240) (pc' := 256) rfl (hb hby at_240) rfl (tlt (by decide)).1 (by decide) (by decide) ?_
      exact k)
    obtain ⟨T309, h309, X309, e309, E309, A309, D309, -, st309⟩ := newO X275 hx hZ hown (hw _ (List.mem_of_getElem? (i := 7) rfl)) (hw _ (List.mem_of_getElem? (i := 8) rfl)) (hw _ (List.mem_of_getElem? (i := 9) rfl)) e275 (g := (mkF m 256 #[.val (.int g1), .val (.int g2), .val (.int g3), .val (.int sh), .val (.int cu), .val (.int de), .val (.int r1), .val (.int r2), .val (.int r3), .val (.int (2 : Int32)), .val (.ref b254), .val (.int md), .val (.int dd), .val (.int cut), .val (.int i306), .unset] [])) rfl (hb hby at_256) (by decide) (by decide)
    obtain ⟨b309, g309⟩ : ∃ z, z = h275.size := ⟨_, rfl⟩
    rw [← g309] at A309 D309 st309
    have n310 : b254 ≠ b309 := Nat.ne_of_lt (Nat.lt_of_lt_of_le F299.lt (Nat.le_of_eq g309.symm))
    have g311 : n0 ≤ b309 := Nat.le_trans Zq275 (Nat.le_of_eq g309.symm)
    have F312 := F299.ext E309
    have Z313 : n0 ≤ h309.size := Nat.le_trans Zq275 E309.1
    have hk314 : 0 ≤ h309.size := Nat.le_trans hkq275 E309.1
    have F315 : Fld Z h309 b309 "com/example/round2/round2/eval/TopicResult" "topic" "Ljava/lang/String;" .null := D309 (Or.inr (hw _ (List.mem_of_getElem? (i := 25) rfl))) (ty := (.object "java/lang/String")) (by decide)
    have F316 : Fld Z h309 b309 "com/example/round2/round2/eval/TopicResult" "retrieved" "I" (.int (0 : Int32)) := D309 (Or.inr (hw _ (List.mem_of_getElem? (i := 27) rfl))) (ty := .int) (by decide)
    have F317 : Fld Z h309 b309 "com/example/round2/round2/eval/TopicResult" "relevant" "I" (.int (0 : Int32)) := D309 (Or.inr (hw _ (List.mem_of_getElem? (i := 29) rfl))) (ty := .int) (by decide)
    have F318 : Fld Z h309 b309 "com/example/round2/round2/eval/TopicResult" "relevantRanks" "[I" .null := D309 (Or.inr (hw _ (List.mem_of_getElem? (i := 31) rfl))) (ty := (.array .int)) (by decide)
    have k319 : ∀ t, Steps p.tables e below (T309.setTop (mkF m 259 #[.val (.int g1), .val (.int g2), .val (.int g3), .val (.int sh), .val (.int cu), .val (.int de), .val (.int r1), .val (.int r2), .val (.int r3), .val (.int (2 : Int32)), .val (.ref b254), .val (.int md), .val (.int dd), .val (.int cut), .val (.int i306), .unset] [(.ref b309)])) t → Steps p.tables e below (s₁.setTop (entryFrame m #[(.int g1), (.int g2), (.int g3), (.int sh), (.int cu), (.int de)] maxLocals)) t := fun t k => k308 t (st309 t k)
    have k320 : ∀ t, Steps p.tables e below (T309.setTop (mkF m 260 #[.val (.int g1), .val (.int g2), .val (.int g3), .val (.int sh), .val (.int cu), .val (.int de), .val (.int r1), .val (.int r2), .val (.int r3), .val (.int (2 : Int32)), .val (.ref b254), .val (.int md), .val (.int dd), .val (.int cut), .val (.int i306), .unset] [(.ref b309), (.ref b309)])) t → Steps p.tables e below (s₁.setTop (entryFrame m #[(.int g1), (.int g2), (.int g3), (.int sh), (.int cu), (.int de)] maxLocals)) t := fun t k => k319 t (by
      show Steps p.tables e below (T309.setTop (mkF m 259 #[.val (.int g1), .val (.int g2), .val (.int g3), .val (.int sh), .val (.int cu), .val (.int de), .val (.int r1), .val (.int r2), .val (.int r3), .val (.int (2 : Int32)), .val (.ref b254), .val (.int md), .val (.int dd), .val (.int cut), .val (.int i306), .unset] [(.ref b309)])) _
      refine XS.dup X309.here hx rfl (hb hby at_259) rfl rfl ?_
      exact k)
    obtain ⟨b321, T321, h321, kk321, X321, e321, E321, hS321, hk321, hZ321, hown321, st321⟩ := ldcS (s := s) (vm0 := s.vm) X309 hx hZ hown (hw _ (List.mem_of_getElem? (i := 10) rfl)) (own_strAtoms hw) e309 hS0 hk314 (g := (mkF m 260 #[.val (.int g1), .val (.int g2), .val (.int g3), .val (.int sh), .val (.int cu), .val (.int de), .val (.int r1), .val (.int r2), .val (.int r3), .val (.int (2 : Int32)), .val (.ref b254), .val (.int md), .val (.int dd), .val (.int cut), .val (.int i306), .unset] [(.ref b309), (.ref b309)])) rfl (hb hby at_260) (n := 4) (by decide) (by decide) (by decide) (by decide)
    have F322 := F312.ext E321
    have F323 := A309.ext E321
    have F324 := F315.ext E321
    have F325 := F316.ext E321
    have F326 := F317.ext E321
    have F327 := F318.ext E321
    have Z328 : n0 ≤ h321.size := Nat.le_trans Z313 E321.1
    have k329 : ∀ t, Steps p.tables e below (T321.setTop (mkF m 262 #[.val (.int g1), .val (.int g2), .val (.int g3), .val (.int sh), .val (.int cu), .val (.int de), .val (.int r1), .val (.int r2), .val (.int r3), .val (.int (2 : Int32)), .val (.ref b254), .val (.int md), .val (.int dd), .val (.int cut), .val (.int i306), .unset] [(.ref b321), (.ref b309), (.ref b309)])) t → Steps p.tables e below (s₁.setTop (entryFrame m #[(.int g1), (.int g2), (.int g3), (.int sh), (.int cu), (.int de)] maxLocals)) t := fun t k => k320 t (st321 t k)
    have k330 : ∀ t, Steps p.tables e below (T321.setTop (mkF m 268 #[.val (.int g1), .val (.int g2), .val (.int g3), .val (.int sh), .val (.int cu), .val (.int de), .val (.int r1), .val (.int r2), .val (.int r3), .val (.int (2 : Int32)), .val (.ref b254), .val (.int md), .val (.int dd), .val (.int cut), .val (.int i306), .unset] [(.ref b254), (.int (2 : Int32)), (.int r3), (.ref b321), (.ref b309), (.ref b309)])) t → Steps p.tables e below (s₁.setTop (entryFrame m #[(.int g1), (.int g2), (.int g3), (.int sh), (.int cu), (.int de)] maxLocals)) t := fun t k => k329 t (by
      show Steps p.tables e below (T321.setTop (mkF m 262 #[.val (.int g1), .val (.int g2), .val (.int g3), .val (.int sh), .val (.int cu), .val (.int de), .val (.int r1), .val (.int r2), .val (.int r3), .val (.int (2 : Int32)), .val (.ref b254), .val (.int md), .val (.int dd), .val (.int cut), .val (.int i306), .unset] [(.ref b321), (.ref b309), (.ref b309)])) _
      refine XS.iload X321.here hx rfl (hb hby at_262) rfl ?_
      show Steps p.tables e below (T321.setTop (mkF m 264 #[.val (.int g1), .val (.int g2), .val (.int g3), .val (.int sh), .val (.int cu), .val (.int de), .val (.int r1), .val (.int r2), .val (.int r3), .val (.int (2 : Int32)), .val (.ref b254), .val (.int md), .val (.int dd), .val (.int cut), .val (.int i306), .unset] [(.int r3), (.ref b321), (.ref b309), (.ref b309)])) _
      refine XS.iload X321.here hx rfl (hb hby at_264) rfl ?_
      show Steps p.tables e below (T321.setTop (mkF m 266 #[.val (.int g1), .val (.int g2), .val (.int g3), .val (.int sh), .val (.int cu), .val (.int de), .val (.int r1), .val (.int r2), .val (.int r3), .val (.int (2 : Int32)), .val (.ref b254), .val (.int md), .val (.int dd), .val (.int cut), .val (.int i306), .unset] [(.int (2 : Int32)), (.int r3), (.ref b321), (.ref b309), (.ref b309)])) _
      refine XS.aload X321.here hx rfl (hb hby at_266) rfl rfl ?_
      exact k)
    obtain ⟨_, _, ⟨T331, L331, k331, n331⟩, -, X331, ⟨Lc331, hQ331, l331, y331, z331⟩, st331⟩ := X321.specialBack hx (y := (⟨"com/example/round2/round2/eval/TopicResult", "<init>", "(Ljava/lang/String;II[I)V"⟩ : MethodName)) rfl hown321 (mvT hZ321 (hw _ (List.mem_of_getElem? (i := 18) rfl))) (mvT hZ321 (hw _ (List.mem_of_getElem? (i := 19) rfl))) (mvT hZ321 (hw _ (List.mem_of_getElem? (i := 20) rfl))) (by decide) (backOf (W := 1) (rm2 l Z a0 hw [] b309 b321 r3 (2 : Int32) b254 h321 n0 Z328 F324 F325 F326 F327 F323 g311) hZ321 (hw _ (List.mem_of_getElem? (i := 20) rfl)) (hw _ (List.mem_of_getElem? (i := 9) rfl)) (by decide) (by decide)) (g := (mkF m 268 #[.val (.int g1), .val (.int g2), .val (.int g3), .val (.int sh), .val (.int cu), .val (.int de), .val (.int r1), .val (.int r2), .val (.int r3), .val (.int (2 : Int32)), .val (.ref b254), .val (.int md), .val (.int dd), .val (.int cut), .val (.int i306), .unset] [(.ref b254), (.int (2 : Int32)), (.int r3), (.ref b321), (.ref b309), (.ref b309)])) rfl (by rw [hml]; rfl) (Steps.refl _) (a := b309) (argsL := [(.ref b321), (.int r3), (.int (2 : Int32)), (.ref b254)]) (rest := [(.ref b309)]) (lenOf pd__28Ljava_2flang_2fString_3bII_5bI_29V rfl) rfl (by show 2 * 0 + _ ≤ _; exact Nat.le_of_eq rfl) (hb hby at_268) (fun _ _ => ⟨rfl, e321, (by decide : 4 + 0 ≤ _), (by decide : 14 + 0 ≤ _)⟩)
    dsimp only [Pt.U, Pt.locs, Pt.cells, Pt.slots] at X331 l331 y331 z331 st331 hQ331
    subst l331 y331 z331
    obtain ⟨h331, e331⟩ : ∃ h', T331.heap = h' := ⟨_, rfl⟩
    rw [e331] at hQ331
    obtain ⟨rfl, N331q, K331, G331a, G331b, G331c⟩ := hQ331
    have N332 := Fr.app N275 N331q
    have k333 : ∀ t, Steps p.tables e below (T331.setTop (mkF m 271 #[.val (.int g1), .val (.int g2), .val (.int g3), .val (.int sh), .val (.int cu), .val (.int de), .val (.int r1), .val (.int r2), .val (.int r3), .val (.int (2 : Int32)), .val (.ref b254), .val (.int md), .val (.int dd), .val (.int cut), .val (.int i306), .unset] [(.ref b309)])) t → Steps p.tables e below (s₁.setTop (entryFrame m #[(.int g1), (.int g2), (.int g3), (.int sh), (.int cu), (.int de)] maxLocals)) t := fun t k => k330 t (st331.trans k)
    have F334 := F322.keep K331 (ninS n310 nin0)
    have F335 := F323.keep K331
    have Z336 : n0 ≤ h331.size := Nat.le_trans Z328 K331.1
    have hk337 : kk321 ≤ h331.size := Nat.le_trans hk321 K331.1
    have k338 : ∀ t, Steps p.tables e below (T331.setTop (mkF m 277 #[.val (.int g1), .val (.int g2), .val (.int g3), .val (.int sh), .val (.int cu), .val (.int de), .val (.int r1), .val (.int r2), .val (.int r3), .val (.int (2 : Int32)), .val (.ref b254), .val (.int md), .val (.int dd), .val (.int cut), .val (.int i306), .val (.ref b309)] [(.int cut), (.ref b309)])) t → Steps p.tables e below (s₁.setTop (entryFrame m #[(.int g1), (.int g2), (.int g3), (.int sh), (.int cu), (.int de)] maxLocals)) t := fun t k => k333 t (by
      show Steps p.tables e below (T331.setTop (mkF m 271 #[.val (.int g1), .val (.int g2), .val (.int g3), .val (.int sh), .val (.int cu), .val (.int de), .val (.int r1), .val (.int r2), .val (.int r3), .val (.int (2 : Int32)), .val (.ref b254), .val (.int md), .val (.int dd), .val (.int cut), .val (.int i306), .unset] [(.ref b309)])) _
      refine XS.astore X331.here hx rfl (hb hby at_271) rfl rfl (l' := #[.val (.int g1), .val (.int g2), .val (.int g3), .val (.int sh), .val (.int cu), .val (.int de), .val (.int r1), .val (.int r2), .val (.int r3), .val (.int (2 : Int32)), .val (.ref b254), .val (.int md), .val (.int dd), .val (.int cut), .val (.int i306), .val (.ref b309)]) rfl ?_
      show Steps p.tables e below (T331.setTop (mkF m 273 #[.val (.int g1), .val (.int g2), .val (.int g3), .val (.int sh), .val (.int cu), .val (.int de), .val (.int r1), .val (.int r2), .val (.int r3), .val (.int (2 : Int32)), .val (.ref b254), .val (.int md), .val (.int dd), .val (.int cut), .val (.int i306), .val (.ref b309)] [])) _
      refine XS.aload X331.here hx rfl (hb hby at_273) rfl rfl ?_
      show Steps p.tables e below (T331.setTop (mkF m 275 #[.val (.int g1), .val (.int g2), .val (.int g3), .val (.int sh), .val (.int cu), .val (.int de), .val (.int r1), .val (.int r2), .val (.int r3), .val (.int (2 : Int32)), .val (.ref b254), .val (.int md), .val (.int dd), .val (.int cut), .val (.int i306), .val (.ref b309)] [(.ref b309)])) _
      refine XS.iload X331.here hx rfl (hb hby at_275) rfl ?_
      exact k)
    by_cases d0 : cut < r1
    · have d1 : cut < r2 := Int32.lt_iff_toInt_lt.mpr (by have := Int32.lt_iff_toInt_lt.mp d0; omega)
      have hne : cut ≠ 0 := fun q => by rw [q, show (0 : Int32).toInt = 0 by decide] at hcut; omega
      obtain ⟨cq339, kq339, q339a, q339b, q339c⟩ := isOf hZ321 e331 G331a
      obtain ⟨_, _, ⟨T339, L339, k339, n339⟩, -, X339, ⟨Lc339, hQ339, l339, y339, z339⟩, st339⟩ := X331.virtualBack hx (y := (⟨"com/example/round2/round2/eval/TopicResult", "precisionAt", "(I)D"⟩ : MethodName)) (z := (⟨"com/example/round2/round2/eval/TopicResult", "precisionAt", "(I)D"⟩ : MethodName)) hown321 (mvT hZ321 (hw _ (List.mem_of_getElem? (i := 32) rfl))) (mvT hZ321 (hw _ (List.mem_of_getElem? (i := 33) rfl))) (notFace_of_selects (args := #[]) (mvT hZ321 (hw _ (List.mem_of_getElem? (i := 35) rfl)))) (mvT hZ321 (hw _ (List.mem_of_getElem? (i := 35) rfl))) (mvT hZ321 (hw _ (List.mem_of_getElem? (i := 34) rfl))) (by decide) (backOf (W := 0) (prec2_0 l Z a0 hw [] b309 cut b254 k254 r1 r2 h331 n0 Z336 G331c F334 (own_ge1 hcut) (nn_div (no_fin (Jvm.FP.Core.i2d_fin _)) hne) d0) hZ321 (hw _ (List.mem_of_getElem? (i := 36) rfl)) (hw _ (List.mem_of_getElem? (i := 9) rfl)) (by decide) (by decide)) q339a q339c (g := (mkF m 277 #[.val (.int g1), .val (.int g2), .val (.int g3), .val (.int sh), .val (.int cu), .val (.int de), .val (.int r1), .val (.int r2), .val (.int r3), .val (.int (2 : Int32)), .val (.ref b254), .val (.int md), .val (.int dd), .val (.int cut), .val (.int i306), .val (.ref b309)] [(.int cut), (.ref b309)])) rfl (by rw [hml]; rfl) (Steps.refl _) (argsL := [(.int cut)]) (rest := []) (lenOf pd__28I_29D rfl) rfl (by show 2 * 0 + _ ≤ _; exact Nat.le_of_eq rfl) (hb hby at_277) (fun _ _ => ⟨rfl, e331, (by decide : 4 + 0 ≤ _), (by decide : 14 + 0 ≤ _)⟩)
      dsimp only [Pt.U, Pt.locs, Pt.cells, Pt.slots] at X339 l339 y339 z339 st339 hQ339
      subst l339 y339 z339
      obtain ⟨rfl, N339q, e339⟩ := hQ339
      have N340 := Fr.app N332 N339q
      have k341 : ∀ t, Steps p.tables e below (T339.setTop (mkF m 280 #[.val (.int g1), .val (.int g2), .val (.int g3), .val (.int sh), .val (.int cu), .val (.int de), .val (.int r1), .val (.int r2), .val (.int r3), .val (.int (2 : Int32)), .val (.ref b254), .val (.int md), .val (.int dd), .val (.int cut), .val (.int i306), .val (.ref b309)] [(.double (FP.ddiv (FP.i2d (0 : Int32)) (FP.i2d cut)))])) t → Steps p.tables e below (s₁.setTop (entryFrame m #[(.int g1), (.int g2), (.int g3), (.int sh), (.int cu), (.int de)] maxLocals)) t := fun t k => k338 t (st339.trans k)
      have hc : i306 = (0 : Int32) := by rw [hi306, if_pos d1, hi302, if_pos d0]; first | done | rfl | decide
      obtain ⟨vc, hvc⟩ : ∃ z : UInt64, FP.i2d i306 = z := ⟨_, rfl⟩
      obtain ⟨vk, hvk⟩ : ∃ z : UInt64, FP.i2d cut = z := ⟨_, rfl⟩
      obtain ⟨want, hwant⟩ : ∃ z : UInt64, FP.ddiv vc vk = z := ⟨_, rfl⟩
      have nnw : Jvm.Free.Fl.NoNaN64 (FP.ddiv vc vk) := by rw [← hvc, ← hvk]; exact nn_div (no_fin (Jvm.FP.Core.i2d_fin _)) hne
      have hfin : cmpValue (FP.dcmp (FP.ddiv (FP.i2d (0 : Int32)) (FP.i2d cut)) want) .l = (0 : Int32) := by rw [← hwant, ← hvc, ← hvk, hc]; exact dcmpV_self (nn_div (no_fin (Jvm.FP.Core.i2d_fin _)) hne) .l
      have k342 : ∀ t, Steps p.tables e below (T339.setTop (mkF m 296 #[.val (.int g1), .val (.int g2), .val (.int g3), .val (.int sh), .val (.int cu), .val (.int de), .val (.int r1), .val (.int r2), .val (.int r3), .val (.int (2 : Int32)), .val (.ref b254), .val (.int md), .val (.int dd), .val (.int cut), .val (.int i306), .val (.ref b309)] [(.int (1 : Int32))])) t → Steps p.tables e below (s₁.setTop (entryFrame m #[(.int g1), (.int g2), (.int g3), (.int sh), (.int cu), (.int de)] maxLocals)) t := fun t k => k341 t (by
        show Steps p.tables e below (T339.setTop (mkF m 280 #[.val (.int g1), .val (.int g2), .val (.int g3), .val (.int sh), .val (.int cu), .val (.int de), .val (.int r1), .val (.int r2), .val (.int r3), .val (.int (2 : Int32)), .val (.ref b254), .val (.int md), .val (.int dd), .val (.int cut), .val (.int i306), .val (.ref b309)] [(.double (FP.ddiv (FP.i2d (0 : Int32)) (FP.i2d cut)))])) _
        refine XS.iload X339.here hx rfl (hb hby at_280) rfl ?_
        show Steps p.tables e below (T339.setTop (mkF m 282 #[.val (.int g1), .val (.int g2), .val (.int g3), .val (.int sh), .val (.int cu), .val (.int de), .val (.int r1), .val (.int r2), .val (.int r3), .val (.int (2 : Int32)), .val (.ref b254), .val (.int md), .val (.int dd), .val (.int cut), .val (.int i306), .val (.ref b309)] [(.int i306), (.double (FP.ddiv (FP.i2d (0 : Int32)) (FP.i2d cut)))])) _
        refine XS.i2dS X339.here hx rfl (hb hby at_282) rfl hvc ?_
        show Steps p.tables e below (T339.setTop (mkF m 283 #[.val (.int g1), .val (.int g2), .val (.int g3), .val (.int sh), .val (.int cu), .val (.int de), .val (.int r1), .val (.int r2), .val (.int r3), .val (.int (2 : Int32)), .val (.ref b254), .val (.int md), .val (.int dd), .val (.int cut), .val (.int i306), .val (.ref b309)] [(.double vc), (.double (FP.ddiv (FP.i2d (0 : Int32)) (FP.i2d cut)))])) _
        refine XS.iload X339.here hx rfl (hb hby at_283) rfl ?_
        show Steps p.tables e below (T339.setTop (mkF m 285 #[.val (.int g1), .val (.int g2), .val (.int g3), .val (.int sh), .val (.int cu), .val (.int de), .val (.int r1), .val (.int r2), .val (.int r3), .val (.int (2 : Int32)), .val (.ref b254), .val (.int md), .val (.int dd), .val (.int cut), .val (.int i306), .val (.ref b309)] [(.int cut), (.double vc), (.double (FP.ddiv (FP.i2d (0 : Int32)) (FP.i2d cut)))])) _
        refine XS.i2dS X339.here hx rfl (hb hby at_285) rfl hvk ?_
        show Steps p.tables e below (T339.setTop (mkF m 286 #[.val (.int g1), .val (.int g2), .val (.int g3), .val (.int sh), .val (.int cu), .val (.int de), .val (.int r1), .val (.int r2), .val (.int r3), .val (.int (2 : Int32)), .val (.ref b254), .val (.int md), .val (.int dd), .val (.int cut), .val (.int i306), .val (.ref b309)] [(.double vk), (.double vc), (.double (FP.ddiv (FP.i2d (0 : Int32)) (FP.i2d cut)))])) _
        refine XS.ddivS X339.here hx rfl (hb hby at_286) rfl (nnw) hwant ?_
        show Steps p.tables e below (T339.setTop (mkF m 287 #[.val (.int g1), .val (.int g2), .val (.int g3), .val (.int sh), .val (.int cu), .val (.int de), .val (.int r1), .val (.int r2), .val (.int r3), .val (.int (2 : Int32)), .val (.ref b254), .val (.int md), .val (.int dd), .val (.int cut), .val (.int i306), .val (.ref b309)] [(.double want), (.double (FP.ddiv (FP.i2d (0 : Int32)) (FP.i2d cut)))])) _
        refine XS.dcmpS X339.here hx rfl (hb hby at_287) rfl rfl ?_
        show Steps p.tables e below (T339.setTop (mkF m 288 #[.val (.int g1), .val (.int g2), .val (.int g3), .val (.int sh), .val (.int cu), .val (.int de), .val (.int r1), .val (.int r2), .val (.int r3), .val (.int (2 : Int32)), .val (.ref b254), .val (.int md), .val (.int dd), .val (.int cut), .val (.int i306), .val (.ref b309)] [(.int (cmpValue (FP.dcmp (FP.ddiv (FP.i2d (0 : Int32)) (FP.i2d cut)) want) .l))])) _
        refine XS.ifNo X339.here hx rfl (hb hby at_288) rfl ((if0 _ _).trans (teq hfin).2) ?_
        show Steps p.tables e below (T339.setTop (mkF m 291 #[.val (.int g1), .val (.int g2), .val (.int g3), .val (.int sh), .val (.int cu), .val (.int de), .val (.int r1), .val (.int r2), .val (.int r3), .val (.int (2 : Int32)), .val (.ref b254), .val (.int md), .val (.int dd), .val (.int cut), .val (.int i306), .val (.ref b309)] [])) _
        refine XS.iconst X339.here hx rfl (hb hby at_291) ?_
        show Steps p.tables e below (T339.setTop (mkF m 292 #[.val (.int g1), .val (.int g2), .val (.int g3), .val (.int sh), .val (.int cu), .val (.int de), .val (.int r1), .val (.int r2), .val (.int r3), .val (.int (2 : Int32)), .val (.ref b254), .val (.int md), .val (.int dd), .val (.int cut), .val (.int i306), .val (.ref b309)] [(.int (1 : Int32))])) _
        refine XS.goto X339.here hx rfl (pc0 := 292) (pc' := 296) rfl (hb hby at_292) (by decide) (by decide) ?_
        exact k)
      obtain ⟨fs, hr, hrun, hended, hRE⟩ := Stand.leaveW (s := s) (vm₁ := T321.vm) X339 hS321 (by rw [e339]; exact hk337) (v := some (.int (1 : Int32))) (fun h => by rw [Bd.returns] at h; cases h)
      refine ⟨_, _, k342 _ (retOut X339 hx (t := .boolean) Bd.returns rfl (Or.inl ⟨rfl, Or.inr (Or.inl rfl), _, rfl⟩) (hb hby at_296) hr), hrun, hended, _, _, rfl, ?_, hRE.1, hRE.2.1, hRE.2.2.1, hRE.2.2.2.mono (by decide) (by decide)⟩
      show Q_rm0 Z g1 g2 g3 sh cu de h0 n0 _ T339.heap _
      rw [e339]
      exact ⟨rfl, N340⟩
    · by_cases d1 : cut < r2
      · have hne : cut ≠ 0 := fun q => by rw [q, show (0 : Int32).toInt = 0 by decide] at hcut; omega
        obtain ⟨cq343, kq343, q343a, q343b, q343c⟩ := isOf hZ321 e331 G331a
        obtain ⟨_, _, ⟨T343, L343, k343, n343⟩, -, X343, ⟨Lc343, hQ343, l343, y343, z343⟩, st343⟩ := X331.virtualBack hx (y := (⟨"com/example/round2/round2/eval/TopicResult", "precisionAt", "(I)D"⟩ : MethodName)) (z := (⟨"com/example/round2/round2/eval/TopicResult", "precisionAt", "(I)D"⟩ : MethodName)) hown321 (mvT hZ321 (hw _ (List.mem_of_getElem? (i := 32) rfl))) (mvT hZ321 (hw _ (List.mem_of_getElem? (i := 33) rfl))) (notFace_of_selects (args := #[]) (mvT hZ321 (hw _ (List.mem_of_getElem? (i := 35) rfl)))) (mvT hZ321 (hw _ (List.mem_of_getElem? (i := 35) rfl))) (mvT hZ321 (hw _ (List.mem_of_getElem? (i := 34) rfl))) (by decide) (backOf (W := 0) (prec2_1 l Z a0 hw [] b309 cut b254 k254 r1 r2 h331 n0 Z336 G331c F334 (own_ge1 hcut) (nn_div (no_fin (Jvm.FP.Core.i2d_fin _)) hne) d0 d1) hZ321 (hw _ (List.mem_of_getElem? (i := 36) rfl)) (hw _ (List.mem_of_getElem? (i := 9) rfl)) (by decide) (by decide)) q343a q343c (g := (mkF m 277 #[.val (.int g1), .val (.int g2), .val (.int g3), .val (.int sh), .val (.int cu), .val (.int de), .val (.int r1), .val (.int r2), .val (.int r3), .val (.int (2 : Int32)), .val (.ref b254), .val (.int md), .val (.int dd), .val (.int cut), .val (.int i306), .val (.ref b309)] [(.int cut), (.ref b309)])) rfl (by rw [hml]; rfl) (Steps.refl _) (argsL := [(.int cut)]) (rest := []) (lenOf pd__28I_29D rfl) rfl (by show 2 * 0 + _ ≤ _; exact Nat.le_of_eq rfl) (hb hby at_277) (fun _ _ => ⟨rfl, e331, (by decide : 4 + 0 ≤ _), (by decide : 14 + 0 ≤ _)⟩)
        dsimp only [Pt.U, Pt.locs, Pt.cells, Pt.slots] at X343 l343 y343 z343 st343 hQ343
        subst l343 y343 z343
        obtain ⟨rfl, N343q, e343⟩ := hQ343
        have N344 := Fr.app N332 N343q
        have k345 : ∀ t, Steps p.tables e below (T343.setTop (mkF m 280 #[.val (.int g1), .val (.int g2), .val (.int g3), .val (.int sh), .val (.int cu), .val (.int de), .val (.int r1), .val (.int r2), .val (.int r3), .val (.int (2 : Int32)), .val (.ref b254), .val (.int md), .val (.int dd), .val (.int cut), .val (.int i306), .val (.ref b309)] [(.double (FP.ddiv (FP.i2d (1 : Int32)) (FP.i2d cut)))])) t → Steps p.tables e below (s₁.setTop (entryFrame m #[(.int g1), (.int g2), (.int g3), (.int sh), (.int cu), (.int de)] maxLocals)) t := fun t k => k338 t (st343.trans k)
        have hc : i306 = (1 : Int32) := by rw [hi306, if_pos d1, hi302, if_neg d0]; first | done | rfl | decide
        obtain ⟨vc, hvc⟩ : ∃ z : UInt64, FP.i2d i306 = z := ⟨_, rfl⟩
        obtain ⟨vk, hvk⟩ : ∃ z : UInt64, FP.i2d cut = z := ⟨_, rfl⟩
        obtain ⟨want, hwant⟩ : ∃ z : UInt64, FP.ddiv vc vk = z := ⟨_, rfl⟩
        have nnw : Jvm.Free.Fl.NoNaN64 (FP.ddiv vc vk) := by rw [← hvc, ← hvk]; exact nn_div (no_fin (Jvm.FP.Core.i2d_fin _)) hne
        have hfin : cmpValue (FP.dcmp (FP.ddiv (FP.i2d (1 : Int32)) (FP.i2d cut)) want) .l = (0 : Int32) := by rw [← hwant, ← hvc, ← hvk, hc]; exact dcmpV_self (nn_div (no_fin (Jvm.FP.Core.i2d_fin _)) hne) .l
        have k346 : ∀ t, Steps p.tables e below (T343.setTop (mkF m 296 #[.val (.int g1), .val (.int g2), .val (.int g3), .val (.int sh), .val (.int cu), .val (.int de), .val (.int r1), .val (.int r2), .val (.int r3), .val (.int (2 : Int32)), .val (.ref b254), .val (.int md), .val (.int dd), .val (.int cut), .val (.int i306), .val (.ref b309)] [(.int (1 : Int32))])) t → Steps p.tables e below (s₁.setTop (entryFrame m #[(.int g1), (.int g2), (.int g3), (.int sh), (.int cu), (.int de)] maxLocals)) t := fun t k => k345 t (by
          show Steps p.tables e below (T343.setTop (mkF m 280 #[.val (.int g1), .val (.int g2), .val (.int g3), .val (.int sh), .val (.int cu), .val (.int de), .val (.int r1), .val (.int r2), .val (.int r3), .val (.int (2 : Int32)), .val (.ref b254), .val (.int md), .val (.int dd), .val (.int cut), .val (.int i306), .val (.ref b309)] [(.double (FP.ddiv (FP.i2d (1 : Int32)) (FP.i2d cut)))])) _
          refine XS.iload X343.here hx rfl (hb hby at_280) rfl ?_
          show Steps p.tables e below (T343.setTop (mkF m 282 #[.val (.int g1), .val (.int g2), .val (.int g3), .val (.int sh), .val (.int cu), .val (.int de), .val (.int r1), .val (.int r2), .val (.int r3), .val (.int (2 : Int32)), .val (.ref b254), .val (.int md), .val (.int dd), .val (.int cut), .val (.int i306), .val (.ref b309)] [(.int i306), (.double (FP.ddiv (FP.i2d (1 : Int32)) (FP.i2d cut)))])) _
          refine XS.i2dS X343.here hx rfl (hb hby at_282) rfl hvc ?_
          show Steps p.tables e below (T343.setTop (mkF m 283 #[.val (.int g1), .val (.int g2), .val (.int g3), .val (.int sh), .val (.int cu), .val (.int de), .val (.int r1), .val (.int r2), .val (.int r3), .val (.int (2 : Int32)), .val (.ref b254), .val (.int md), .val (.int dd), .val (.int cut), .val (.int i306), .val (.ref b309)] [(.double vc), (.double (FP.ddiv (FP.i2d (1 : Int32)) (FP.i2d cut)))])) _
          refine XS.iload X343.here hx rfl (hb hby at_283) rfl ?_
          show Steps p.tables e below (T343.setTop (mkF m 285 #[.val (.int g1), .val (.int g2), .val (.int g3), .val (.int sh), .val (.int cu), .val (.int de), .val (.int r1), .val (.int r2), .val (.int r3), .val (.int (2 : Int32)), .val (.ref b254), .val (.int md), .val (.int dd), .val (.int cut), .val (.int i306), .val (.ref b309)] [(.int cut), (.double vc), (.double (FP.ddiv (FP.i2d (1 : Int32)) (FP.i2d cut)))])) _
          refine XS.i2dS X343.here hx rfl (hb hby at_285) rfl hvk ?_
          show Steps p.tables e below (T343.setTop (mkF m 286 #[.val (.int g1), .val (.int g2), .val (.int g3), .val (.int sh), .val (.int cu), .val (.int de), .val (.int r1), .val (.int r2), .val (.int r3), .val (.int (2 : Int32)), .val (.ref b254), .val (.int md), .val (.int dd), .val (.int cut), .val (.int i306), .val (.ref b309)] [(.double vk), (.double vc), (.double (FP.ddiv (FP.i2d (1 : Int32)) (FP.i2d cut)))])) _
          refine XS.ddivS X343.here hx rfl (hb hby at_286) rfl (nnw) hwant ?_
          show Steps p.tables e below (T343.setTop (mkF m 287 #[.val (.int g1), .val (.int g2), .val (.int g3), .val (.int sh), .val (.int cu), .val (.int de), .val (.int r1), .val (.int r2), .val (.int r3), .val (.int (2 : Int32)), .val (.ref b254), .val (.int md), .val (.int dd), .val (.int cut), .val (.int i306), .val (.ref b309)] [(.double want), (.double (FP.ddiv (FP.i2d (1 : Int32)) (FP.i2d cut)))])) _
          refine XS.dcmpS X343.here hx rfl (hb hby at_287) rfl rfl ?_
          show Steps p.tables e below (T343.setTop (mkF m 288 #[.val (.int g1), .val (.int g2), .val (.int g3), .val (.int sh), .val (.int cu), .val (.int de), .val (.int r1), .val (.int r2), .val (.int r3), .val (.int (2 : Int32)), .val (.ref b254), .val (.int md), .val (.int dd), .val (.int cut), .val (.int i306), .val (.ref b309)] [(.int (cmpValue (FP.dcmp (FP.ddiv (FP.i2d (1 : Int32)) (FP.i2d cut)) want) .l))])) _
          refine XS.ifNo X343.here hx rfl (hb hby at_288) rfl ((if0 _ _).trans (teq hfin).2) ?_
          show Steps p.tables e below (T343.setTop (mkF m 291 #[.val (.int g1), .val (.int g2), .val (.int g3), .val (.int sh), .val (.int cu), .val (.int de), .val (.int r1), .val (.int r2), .val (.int r3), .val (.int (2 : Int32)), .val (.ref b254), .val (.int md), .val (.int dd), .val (.int cut), .val (.int i306), .val (.ref b309)] [])) _
          refine XS.iconst X343.here hx rfl (hb hby at_291) ?_
          show Steps p.tables e below (T343.setTop (mkF m 292 #[.val (.int g1), .val (.int g2), .val (.int g3), .val (.int sh), .val (.int cu), .val (.int de), .val (.int r1), .val (.int r2), .val (.int r3), .val (.int (2 : Int32)), .val (.ref b254), .val (.int md), .val (.int dd), .val (.int cut), .val (.int i306), .val (.ref b309)] [(.int (1 : Int32))])) _
          refine XS.goto X343.here hx rfl (pc0 := 292) (pc' := 296) rfl (hb hby at_292) (by decide) (by decide) ?_
          exact k)
        obtain ⟨fs, hr, hrun, hended, hRE⟩ := Stand.leaveW (s := s) (vm₁ := T321.vm) X343 hS321 (by rw [e343]; exact hk337) (v := some (.int (1 : Int32))) (fun h => by rw [Bd.returns] at h; cases h)
        refine ⟨_, _, k346 _ (retOut X343 hx (t := .boolean) Bd.returns rfl (Or.inl ⟨rfl, Or.inr (Or.inl rfl), _, rfl⟩) (hb hby at_296) hr), hrun, hended, _, _, rfl, ?_, hRE.1, hRE.2.1, hRE.2.2.1, hRE.2.2.2.mono (by decide) (by decide)⟩
        show Q_rm0 Z g1 g2 g3 sh cu de h0 n0 _ T343.heap _
        rw [e343]
        exact ⟨rfl, N344⟩
      · have hne : cut ≠ 0 := fun q => by rw [q, show (0 : Int32).toInt = 0 by decide] at hcut; omega
        obtain ⟨cq347, kq347, q347a, q347b, q347c⟩ := isOf hZ321 e331 G331a
        obtain ⟨_, _, ⟨T347, L347, k347, n347⟩, -, X347, ⟨Lc347, hQ347, l347, y347, z347⟩, st347⟩ := X331.virtualBack hx (y := (⟨"com/example/round2/round2/eval/TopicResult", "precisionAt", "(I)D"⟩ : MethodName)) (z := (⟨"com/example/round2/round2/eval/TopicResult", "precisionAt", "(I)D"⟩ : MethodName)) hown321 (mvT hZ321 (hw _ (List.mem_of_getElem? (i := 32) rfl))) (mvT hZ321 (hw _ (List.mem_of_getElem? (i := 33) rfl))) (notFace_of_selects (args := #[]) (mvT hZ321 (hw _ (List.mem_of_getElem? (i := 35) rfl)))) (mvT hZ321 (hw _ (List.mem_of_getElem? (i := 35) rfl))) (mvT hZ321 (hw _ (List.mem_of_getElem? (i := 34) rfl))) (by decide) (backOf (W := 0) (prec2_2 l Z a0 hw [] b309 cut b254 k254 r1 r2 h331 n0 Z336 G331c F334 (own_ge1 hcut) (nn_div (no_fin (Jvm.FP.Core.i2d_fin _)) hne) d0 d1) hZ321 (hw _ (List.mem_of_getElem? (i := 36) rfl)) (hw _ (List.mem_of_getElem? (i := 9) rfl)) (by decide) (by decide)) q347a q347c (g := (mkF m 277 #[.val (.int g1), .val (.int g2), .val (.int g3), .val (.int sh), .val (.int cu), .val (.int de), .val (.int r1), .val (.int r2), .val (.int r3), .val (.int (2 : Int32)), .val (.ref b254), .val (.int md), .val (.int dd), .val (.int cut), .val (.int i306), .val (.ref b309)] [(.int cut), (.ref b309)])) rfl (by rw [hml]; rfl) (Steps.refl _) (argsL := [(.int cut)]) (rest := []) (lenOf pd__28I_29D rfl) rfl (by show 2 * 0 + _ ≤ _; exact Nat.le_of_eq rfl) (hb hby at_277) (fun _ _ => ⟨rfl, e331, (by decide : 4 + 0 ≤ _), (by decide : 14 + 0 ≤ _)⟩)
        dsimp only [Pt.U, Pt.locs, Pt.cells, Pt.slots] at X347 l347 y347 z347 st347 hQ347
        subst l347 y347 z347
        obtain ⟨rfl, N347q, e347⟩ := hQ347
        have N348 := Fr.app N332 N347q
        have k349 : ∀ t, Steps p.tables e below (T347.setTop (mkF m 280 #[.val (.int g1), .val (.int g2), .val (.int g3), .val (.int sh), .val (.int cu), .val (.int de), .val (.int r1), .val (.int r2), .val (.int r3), .val (.int (2 : Int32)), .val (.ref b254), .val (.int md), .val (.int dd), .val (.int cut), .val (.int i306), .val (.ref b309)] [(.double (FP.ddiv (FP.i2d (2 : Int32)) (FP.i2d cut)))])) t → Steps p.tables e below (s₁.setTop (entryFrame m #[(.int g1), (.int g2), (.int g3), (.int sh), (.int cu), (.int de)] maxLocals)) t := fun t k => k338 t (st347.trans k)
        have hc : i306 = (2 : Int32) := by rw [hi306, if_neg d1, hi302, if_neg d0]; first | done | rfl | decide
        obtain ⟨vc, hvc⟩ : ∃ z : UInt64, FP.i2d i306 = z := ⟨_, rfl⟩
        obtain ⟨vk, hvk⟩ : ∃ z : UInt64, FP.i2d cut = z := ⟨_, rfl⟩
        obtain ⟨want, hwant⟩ : ∃ z : UInt64, FP.ddiv vc vk = z := ⟨_, rfl⟩
        have nnw : Jvm.Free.Fl.NoNaN64 (FP.ddiv vc vk) := by rw [← hvc, ← hvk]; exact nn_div (no_fin (Jvm.FP.Core.i2d_fin _)) hne
        have hfin : cmpValue (FP.dcmp (FP.ddiv (FP.i2d (2 : Int32)) (FP.i2d cut)) want) .l = (0 : Int32) := by rw [← hwant, ← hvc, ← hvk, hc]; exact dcmpV_self (nn_div (no_fin (Jvm.FP.Core.i2d_fin _)) hne) .l
        have k350 : ∀ t, Steps p.tables e below (T347.setTop (mkF m 296 #[.val (.int g1), .val (.int g2), .val (.int g3), .val (.int sh), .val (.int cu), .val (.int de), .val (.int r1), .val (.int r2), .val (.int r3), .val (.int (2 : Int32)), .val (.ref b254), .val (.int md), .val (.int dd), .val (.int cut), .val (.int i306), .val (.ref b309)] [(.int (1 : Int32))])) t → Steps p.tables e below (s₁.setTop (entryFrame m #[(.int g1), (.int g2), (.int g3), (.int sh), (.int cu), (.int de)] maxLocals)) t := fun t k => k349 t (by
          show Steps p.tables e below (T347.setTop (mkF m 280 #[.val (.int g1), .val (.int g2), .val (.int g3), .val (.int sh), .val (.int cu), .val (.int de), .val (.int r1), .val (.int r2), .val (.int r3), .val (.int (2 : Int32)), .val (.ref b254), .val (.int md), .val (.int dd), .val (.int cut), .val (.int i306), .val (.ref b309)] [(.double (FP.ddiv (FP.i2d (2 : Int32)) (FP.i2d cut)))])) _
          refine XS.iload X347.here hx rfl (hb hby at_280) rfl ?_
          show Steps p.tables e below (T347.setTop (mkF m 282 #[.val (.int g1), .val (.int g2), .val (.int g3), .val (.int sh), .val (.int cu), .val (.int de), .val (.int r1), .val (.int r2), .val (.int r3), .val (.int (2 : Int32)), .val (.ref b254), .val (.int md), .val (.int dd), .val (.int cut), .val (.int i306), .val (.ref b309)] [(.int i306), (.double (FP.ddiv (FP.i2d (2 : Int32)) (FP.i2d cut)))])) _
          refine XS.i2dS X347.here hx rfl (hb hby at_282) rfl hvc ?_
          show Steps p.tables e below (T347.setTop (mkF m 283 #[.val (.int g1), .val (.int g2), .val (.int g3), .val (.int sh), .val (.int cu), .val (.int de), .val (.int r1), .val (.int r2), .val (.int r3), .val (.int (2 : Int32)), .val (.ref b254), .val (.int md), .val (.int dd), .val (.int cut), .val (.int i306), .val (.ref b309)] [(.double vc), (.double (FP.ddiv (FP.i2d (2 : Int32)) (FP.i2d cut)))])) _
          refine XS.iload X347.here hx rfl (hb hby at_283) rfl ?_
          show Steps p.tables e below (T347.setTop (mkF m 285 #[.val (.int g1), .val (.int g2), .val (.int g3), .val (.int sh), .val (.int cu), .val (.int de), .val (.int r1), .val (.int r2), .val (.int r3), .val (.int (2 : Int32)), .val (.ref b254), .val (.int md), .val (.int dd), .val (.int cut), .val (.int i306), .val (.ref b309)] [(.int cut), (.double vc), (.double (FP.ddiv (FP.i2d (2 : Int32)) (FP.i2d cut)))])) _
          refine XS.i2dS X347.here hx rfl (hb hby at_285) rfl hvk ?_
          show Steps p.tables e below (T347.setTop (mkF m 286 #[.val (.int g1), .val (.int g2), .val (.int g3), .val (.int sh), .val (.int cu), .val (.int de), .val (.int r1), .val (.int r2), .val (.int r3), .val (.int (2 : Int32)), .val (.ref b254), .val (.int md), .val (.int dd), .val (.int cut), .val (.int i306), .val (.ref b309)] [(.double vk), (.double vc), (.double (FP.ddiv (FP.i2d (2 : Int32)) (FP.i2d cut)))])) _
          refine XS.ddivS X347.here hx rfl (hb hby at_286) rfl (nnw) hwant ?_
          show Steps p.tables e below (T347.setTop (mkF m 287 #[.val (.int g1), .val (.int g2), .val (.int g3), .val (.int sh), .val (.int cu), .val (.int de), .val (.int r1), .val (.int r2), .val (.int r3), .val (.int (2 : Int32)), .val (.ref b254), .val (.int md), .val (.int dd), .val (.int cut), .val (.int i306), .val (.ref b309)] [(.double want), (.double (FP.ddiv (FP.i2d (2 : Int32)) (FP.i2d cut)))])) _
          refine XS.dcmpS X347.here hx rfl (hb hby at_287) rfl rfl ?_
          show Steps p.tables e below (T347.setTop (mkF m 288 #[.val (.int g1), .val (.int g2), .val (.int g3), .val (.int sh), .val (.int cu), .val (.int de), .val (.int r1), .val (.int r2), .val (.int r3), .val (.int (2 : Int32)), .val (.ref b254), .val (.int md), .val (.int dd), .val (.int cut), .val (.int i306), .val (.ref b309)] [(.int (cmpValue (FP.dcmp (FP.ddiv (FP.i2d (2 : Int32)) (FP.i2d cut)) want) .l))])) _
          refine XS.ifNo X347.here hx rfl (hb hby at_288) rfl ((if0 _ _).trans (teq hfin).2) ?_
          show Steps p.tables e below (T347.setTop (mkF m 291 #[.val (.int g1), .val (.int g2), .val (.int g3), .val (.int sh), .val (.int cu), .val (.int de), .val (.int r1), .val (.int r2), .val (.int r3), .val (.int (2 : Int32)), .val (.ref b254), .val (.int md), .val (.int dd), .val (.int cut), .val (.int i306), .val (.ref b309)] [])) _
          refine XS.iconst X347.here hx rfl (hb hby at_291) ?_
          show Steps p.tables e below (T347.setTop (mkF m 292 #[.val (.int g1), .val (.int g2), .val (.int g3), .val (.int sh), .val (.int cu), .val (.int de), .val (.int r1), .val (.int r2), .val (.int r3), .val (.int (2 : Int32)), .val (.ref b254), .val (.int md), .val (.int dd), .val (.int cut), .val (.int i306), .val (.ref b309)] [(.int (1 : Int32))])) _
          refine XS.goto X347.here hx rfl (pc0 := 292) (pc' := 296) rfl (hb hby at_292) (by decide) (by decide) ?_
          exact k)
        obtain ⟨fs, hr, hrun, hended, hRE⟩ := Stand.leaveW (s := s) (vm₁ := T321.vm) X347 hS321 (by rw [e347]; exact hk337) (v := some (.int (1 : Int32))) (fun h => by rw [Bd.returns] at h; cases h)
        refine ⟨_, _, k350 _ (retOut X347 hx (t := .boolean) Bd.returns rfl (Or.inl ⟨rfl, Or.inr (Or.inl rfl), _, rfl⟩) (hb hby at_296) hr), hrun, hended, _, _, rfl, ?_, hRE.1, hRE.2.1, hRE.2.2.1, hRE.2.2.2.mono (by decide) (by decide)⟩
        show Q_rm0 Z g1 g2 g3 sh cu de h0 n0 _ T347.heap _
        rw [e347]
        exact ⟨rfl, N348⟩
  · have k351 : ∀ t, Steps p.tables e below (s₁.setTop (mkF m 92 #[.val (.int g1), .val (.int g2), .val (.int g3), .val (.int sh), .val (.int cu), .val (.int de), .val (.int r1), .val (.int r2), .val (.int r3), .val (.int (3 : Int32)), .unset, .unset, .unset, .unset, .unset, .unset] [(.int (3 : Int32))])) t → Steps p.tables e below (s₁.setTop (entryFrame m #[(.int g1), (.int g2), (.int g3), (.int sh), (.int cu), (.int de)] maxLocals)) t := fun t k => k101 t (by
      show Steps p.tables e below (s₁.setTop (mkF m 35 #[.val (.int g1), .val (.int g2), .val (.int g3), .val (.int sh), .val (.int cu), .val (.int de), .val (.int r1), .val (.int r2), .val (.int r3), .val (.int (3 : Int32)), .unset, .unset, .unset, .unset, .unset, .unset] [])) _
      refine XS.iload X0.here hx rfl (hb hby at_35) rfl ?_
      show Steps p.tables e below (s₁.setTop (mkF m 37 #[.val (.int g1), .val (.int g2), .val (.int g3), .val (.int sh), .val (.int cu), .val (.int de), .val (.int r1), .val (.int r2), .val (.int r3), .val (.int (3 : Int32)), .unset, .unset, .unset, .unset, .unset, .unset] [(.int (3 : Int32))])) _
      refine XS.ifYes X0.here hx rfl (pc0 := 37) (pc' := 48) rfl (hb hby at_37) rfl ((if0 _ _).trans (feq (by decide)).2) (by decide) (by decide) ?_
      show Steps p.tables e below (s₁.setTop (mkF m 48 #[.val (.int g1), .val (.int g2), .val (.int g3), .val (.int sh), .val (.int cu), .val (.int de), .val (.int r1), .val (.int r2), .val (.int r3), .val (.int (3 : Int32)), .unset, .unset, .unset, .unset, .unset, .unset] [])) _
      refine XS.iload X0.here hx rfl (hb hby at_48) rfl ?_
      show Steps p.tables e below (s₁.setTop (mkF m 50 #[.val (.int g1), .val (.int g2), .val (.int g3), .val (.int sh), .val (.int cu), .val (.int de), .val (.int r1), .val (.int r2), .val (.int r3), .val (.int (3 : Int32)), .unset, .unset, .unset, .unset, .unset, .unset] [(.int (3 : Int32))])) _
      refine XS.iconst X0.here hx rfl (hb hby at_50) ?_
      show Steps p.tables e below (s₁.setTop (mkF m 51 #[.val (.int g1), .val (.int g2), .val (.int g3), .val (.int sh), .val (.int cu), .val (.int de), .val (.int r1), .val (.int r2), .val (.int r3), .val (.int (3 : Int32)), .unset, .unset, .unset, .unset, .unset, .unset] [(.int (1 : Int32)), (.int (3 : Int32))])) _
      refine XS.icmpYes X0.here hx rfl (pc0 := 51) (pc' := 67) rfl (hb hby at_51) rfl (feq (by decide)).2 (by decide) (by decide) ?_
      show Steps p.tables e below (s₁.setTop (mkF m 67 #[.val (.int g1), .val (.int g2), .val (.int g3), .val (.int sh), .val (.int cu), .val (.int de), .val (.int r1), .val (.int r2), .val (.int r3), .val (.int (3 : Int32)), .unset, .unset, .unset, .unset, .unset, .unset] [])) _
      refine XS.iload X0.here hx rfl (hb hby at_67) rfl ?_
      show Steps p.tables e below (s₁.setTop (mkF m 69 #[.val (.int g1), .val (.int g2), .val (.int g3), .val (.int sh), .val (.int cu), .val (.int de), .val (.int r1), .val (.int r2), .val (.int r3), .val (.int (3 : Int32)), .unset, .unset, .unset, .unset, .unset, .unset] [(.int (3 : Int32))])) _
      refine XS.iconst X0.here hx rfl (hb hby at_69) ?_
      show Steps p.tables e below (s₁.setTop (mkF m 70 #[.val (.int g1), .val (.int g2), .val (.int g3), .val (.int sh), .val (.int cu), .val (.int de), .val (.int r1), .val (.int r2), .val (.int r3), .val (.int (3 : Int32)), .unset, .unset, .unset, .unset, .unset, .unset] [(.int (2 : Int32)), (.int (3 : Int32))])) _
      refine XS.icmpYes X0.here hx rfl (pc0 := 70) (pc' := 91) rfl (hb hby at_70) rfl (feq (by decide)).2 (by decide) (by decide) ?_
      show Steps p.tables e below (s₁.setTop (mkF m 91 #[.val (.int g1), .val (.int g2), .val (.int g3), .val (.int sh), .val (.int cu), .val (.int de), .val (.int r1), .val (.int r2), .val (.int r3), .val (.int (3 : Int32)), .unset, .unset, .unset, .unset, .unset, .unset] [])) _
      refine XS.iconst X0.here hx rfl (hb hby at_91) ?_
      exact k)
    obtain ⟨T352, h352, k352, X352, e352, E352, A352, st352⟩ := newP X0 hx hZ (hw _ (List.mem_of_getElem? (i := 1) rfl)) e0 (g := (mkF m 92 #[.val (.int g1), .val (.int g2), .val (.int g3), .val (.int sh), .val (.int cu), .val (.int de), .val (.int r1), .val (.int r2), .val (.int r3), .val (.int (3 : Int32)), .unset, .unset, .unset, .unset, .unset, .unset] [(.int (3 : Int32))])) rfl (hb hby at_92) rfl (by decide) (cap := 3) (by decide) (by decide) (by decide) (by decide)
    obtain ⟨b352, g352⟩ : ∃ z, z = h0.size := ⟨_, rfl⟩
    rw [← g352] at A352 st352
    have g353 : n0 ≤ b352 := Nat.le_trans Z0 (Nat.le_of_eq g352.symm)
    have Z354 : n0 ≤ h352.size := Nat.le_trans Z0 E352.1
    have hk355 : 0 ≤ h352.size := Nat.le_trans (Nat.zero_le _) E352.1
    have V356 : Arv Z h352 b352 k352 .int (3 : Int32) [(.int (0 : Int32)), (.int (0 : Int32)), (.int (0 : Int32))] (.int (0 : Int32)) := (Arv.new A352 (by decide)).pad (pad_rep [] (.int (0 : Int32)) 3)
    have k357 : ∀ t, Steps p.tables e below (T352.setTop (mkF m 94 #[.val (.int g1), .val (.int g2), .val (.int g3), .val (.int sh), .val (.int cu), .val (.int de), .val (.int r1), .val (.int r2), .val (.int r3), .val (.int (3 : Int32)), .unset, .unset, .unset, .unset, .unset, .unset] [(.ref b352)])) t → Steps p.tables e below (s₁.setTop (entryFrame m #[(.int g1), (.int g2), (.int g3), (.int sh), (.int cu), (.int de)] maxLocals)) t := fun t k => k351 t (st352 t k)
    have k358 : ∀ t, Steps p.tables e below (T352.setTop (mkF m 98 #[.val (.int g1), .val (.int g2), .val (.int g3), .val (.int sh), .val (.int cu), .val (.int de), .val (.int r1), .val (.int r2), .val (.int r3), .val (.int (3 : Int32)), .unset, .unset, .unset, .unset, .unset, .unset] [(.int r1), (.int (0 : Int32)), (.ref b352), (.ref b352)])) t → Steps p.tables e below (s₁.setTop (entryFrame m #[(.int g1), (.int g2), (.int g3), (.int sh), (.int cu), (.int de)] maxLocals)) t := fun t k => k357 t (by
      show Steps p.tables e below (T352.setTop (mkF m 94 #[.val (.int g1), .val (.int g2), .val (.int g3), .val (.int sh), .val (.int cu), .val (.int de), .val (.int r1), .val (.int r2), .val (.int r3), .val (.int (3 : Int32)), .unset, .unset, .unset, .unset, .unset, .unset] [(.ref b352)])) _
      refine XS.dup X352.here hx rfl (hb hby at_94) rfl rfl ?_
      show Steps p.tables e below (T352.setTop (mkF m 95 #[.val (.int g1), .val (.int g2), .val (.int g3), .val (.int sh), .val (.int cu), .val (.int de), .val (.int r1), .val (.int r2), .val (.int r3), .val (.int (3 : Int32)), .unset, .unset, .unset, .unset, .unset, .unset] [(.ref b352), (.ref b352)])) _
      refine XS.iconst X352.here hx rfl (hb hby at_95) ?_
      show Steps p.tables e below (T352.setTop (mkF m 96 #[.val (.int g1), .val (.int g2), .val (.int g3), .val (.int sh), .val (.int cu), .val (.int de), .val (.int r1), .val (.int r2), .val (.int r3), .val (.int (3 : Int32)), .unset, .unset, .unset, .unset, .unset, .unset] [(.int (0 : Int32)), (.ref b352), (.ref b352)])) _
      refine XS.iload X352.here hx rfl (hb hby at_96) rfl ?_
      exact k)
    obtain ⟨c359, Ar359, Aq359, As359, An359, Ah359, Ag359⟩ := id V356
    have hin359 : ¬ ((0 : Int32) < 0 ∨ c359.slots.size ≤ ((0 : Int32)).toNatClampNeg) := inb_of As359 ⟨by decide, by decide⟩
    obtain ⟨T359, h359, X359, e359, W359, st359⟩ := stI X352 hx hZ e352 Ar359 (j := (0 : Int32)) hin359 (g := (mkF m 98 #[.val (.int g1), .val (.int g2), .val (.int g3), .val (.int sh), .val (.int cu), .val (.int de), .val (.int r1), .val (.int r2), .val (.int r3), .val (.int (3 : Int32)), .unset, .unset, .unset, .unset, .unset, .unset] [(.int r1), (.int (0 : Int32)), (.ref b352), (.ref b352)])) rfl rfl (hb hby at_98)
    have V360 := Arv.set Ar359 Aq359 As359 An359 Ah359 Ag359 rfl W359 0 rfl (Nat.le_of_ble_eq_true rfl)
    have Z361 : n0 ≤ h359.size := Nat.le_trans Z354 (Nat.le_of_eq W359.size.symm)
    have N362 := Fr.snoc X359 N0 g353
    have hk363 : 0 ≤ h359.size := Nat.le_trans hk355 (Nat.le_of_eq W359.size.symm)
    have k364 : ∀ t, Steps p.tables e below (T359.setTop (mkF m 99 #[.val (.int g1), .val (.int g2), .val (.int g3), .val (.int sh), .val (.int cu), .val (.int de), .val (.int r1), .val (.int r2), .val (.int r3), .val (.int (3 : Int32)), .unset, .unset, .unset, .unset, .unset, .unset] [(.ref b352)])) t → Steps p.tables e below (s₁.setTop (entryFrame m #[(.int g1), (.int g2), (.int g3), (.int sh), (.int cu), (.int de)] maxLocals)) t := fun t k => k358 t (st359 t k)
    have k365 : ∀ t, Steps p.tables e below (T359.setTop (mkF m 103 #[.val (.int g1), .val (.int g2), .val (.int g3), .val (.int sh), .val (.int cu), .val (.int de), .val (.int r1), .val (.int r2), .val (.int r3), .val (.int (3 : Int32)), .unset, .unset, .unset, .unset, .unset, .unset] [(.int r2), (.int (1 : Int32)), (.ref b352), (.ref b352)])) t → Steps p.tables e below (s₁.setTop (entryFrame m #[(.int g1), (.int g2), (.int g3), (.int sh), (.int cu), (.int de)] maxLocals)) t := fun t k => k364 t (by
      show Steps p.tables e below (T359.setTop (mkF m 99 #[.val (.int g1), .val (.int g2), .val (.int g3), .val (.int sh), .val (.int cu), .val (.int de), .val (.int r1), .val (.int r2), .val (.int r3), .val (.int (3 : Int32)), .unset, .unset, .unset, .unset, .unset, .unset] [(.ref b352)])) _
      refine XS.dup X359.here hx rfl (hb hby at_99) rfl rfl ?_
      show Steps p.tables e below (T359.setTop (mkF m 100 #[.val (.int g1), .val (.int g2), .val (.int g3), .val (.int sh), .val (.int cu), .val (.int de), .val (.int r1), .val (.int r2), .val (.int r3), .val (.int (3 : Int32)), .unset, .unset, .unset, .unset, .unset, .unset] [(.ref b352), (.ref b352)])) _
      refine XS.iconst X359.here hx rfl (hb hby at_100) ?_
      show Steps p.tables e below (T359.setTop (mkF m 101 #[.val (.int g1), .val (.int g2), .val (.int g3), .val (.int sh), .val (.int cu), .val (.int de), .val (.int r1), .val (.int r2), .val (.int r3), .val (.int (3 : Int32)), .unset, .unset, .unset, .unset, .unset, .unset] [(.int (1 : Int32)), (.ref b352), (.ref b352)])) _
      refine XS.iload X359.here hx rfl (hb hby at_101) rfl ?_
      exact k)
    obtain ⟨c366, Ar366, Aq366, As366, An366, Ah366, Ag366⟩ := id V360
    have hin366 : ¬ ((1 : Int32) < 0 ∨ c366.slots.size ≤ ((1 : Int32)).toNatClampNeg) := inb_of As366 ⟨by decide, by decide⟩
    obtain ⟨T366, h366, X366, e366, W366, st366⟩ := stI X359 hx hZ e359 Ar366 (j := (1 : Int32)) hin366 (g := (mkF m 103 #[.val (.int g1), .val (.int g2), .val (.int g3), .val (.int sh), .val (.int cu), .val (.int de), .val (.int r1), .val (.int r2), .val (.int r3), .val (.int (3 : Int32)), .unset, .unset, .unset, .unset, .unset, .unset] [(.int r2), (.int (1 : Int32)), (.ref b352), (.ref b352)])) rfl rfl (hb hby at_103)
    have V367 := Arv.set Ar366 Aq366 As366 An366 Ah366 Ag366 rfl W366 1 rfl (Nat.le_of_ble_eq_true rfl)
    have Z368 : n0 ≤ h366.size := Nat.le_trans Z361 (Nat.le_of_eq W366.size.symm)
    have N369 := Fr.snoc X366 N362 g353
    have hk370 : 0 ≤ h366.size := Nat.le_trans hk363 (Nat.le_of_eq W366.size.symm)
    have k371 : ∀ t, Steps p.tables e below (T366.setTop (mkF m 104 #[.val (.int g1), .val (.int g2), .val (.int g3), .val (.int sh), .val (.int cu), .val (.int de), .val (.int r1), .val (.int r2), .val (.int r3), .val (.int (3 : Int32)), .unset, .unset, .unset, .unset, .unset, .unset] [(.ref b352)])) t → Steps p.tables e below (s₁.setTop (entryFrame m #[(.int g1), (.int g2), (.int g3), (.int sh), (.int cu), (.int de)] maxLocals)) t := fun t k => k365 t (st366 t k)
    have k372 : ∀ t, Steps p.tables e below (T366.setTop (mkF m 108 #[.val (.int g1), .val (.int g2), .val (.int g3), .val (.int sh), .val (.int cu), .val (.int de), .val (.int r1), .val (.int r2), .val (.int r3), .val (.int (3 : Int32)), .unset, .unset, .unset, .unset, .unset, .unset] [(.int r3), (.int (2 : Int32)), (.ref b352), (.ref b352)])) t → Steps p.tables e below (s₁.setTop (entryFrame m #[(.int g1), (.int g2), (.int g3), (.int sh), (.int cu), (.int de)] maxLocals)) t := fun t k => k371 t (by
      show Steps p.tables e below (T366.setTop (mkF m 104 #[.val (.int g1), .val (.int g2), .val (.int g3), .val (.int sh), .val (.int cu), .val (.int de), .val (.int r1), .val (.int r2), .val (.int r3), .val (.int (3 : Int32)), .unset, .unset, .unset, .unset, .unset, .unset] [(.ref b352)])) _
      refine XS.dup X366.here hx rfl (hb hby at_104) rfl rfl ?_
      show Steps p.tables e below (T366.setTop (mkF m 105 #[.val (.int g1), .val (.int g2), .val (.int g3), .val (.int sh), .val (.int cu), .val (.int de), .val (.int r1), .val (.int r2), .val (.int r3), .val (.int (3 : Int32)), .unset, .unset, .unset, .unset, .unset, .unset] [(.ref b352), (.ref b352)])) _
      refine XS.iconst X366.here hx rfl (hb hby at_105) ?_
      show Steps p.tables e below (T366.setTop (mkF m 106 #[.val (.int g1), .val (.int g2), .val (.int g3), .val (.int sh), .val (.int cu), .val (.int de), .val (.int r1), .val (.int r2), .val (.int r3), .val (.int (3 : Int32)), .unset, .unset, .unset, .unset, .unset, .unset] [(.int (2 : Int32)), (.ref b352), (.ref b352)])) _
      refine XS.iload X366.here hx rfl (hb hby at_106) rfl ?_
      exact k)
    obtain ⟨c373, Ar373, Aq373, As373, An373, Ah373, Ag373⟩ := id V367
    have hin373 : ¬ ((2 : Int32) < 0 ∨ c373.slots.size ≤ ((2 : Int32)).toNatClampNeg) := inb_of As373 ⟨by decide, by decide⟩
    obtain ⟨T373, h373, X373, e373, W373, st373⟩ := stI X366 hx hZ e366 Ar373 (j := (2 : Int32)) hin373 (g := (mkF m 108 #[.val (.int g1), .val (.int g2), .val (.int g3), .val (.int sh), .val (.int cu), .val (.int de), .val (.int r1), .val (.int r2), .val (.int r3), .val (.int (3 : Int32)), .unset, .unset, .unset, .unset, .unset, .unset] [(.int r3), (.int (2 : Int32)), (.ref b352), (.ref b352)])) rfl rfl (hb hby at_108)
    have V374 := Arv.set Ar373 Aq373 As373 An373 Ah373 Ag373 rfl W373 2 rfl (Nat.le_of_ble_eq_true rfl)
    have Z375 : n0 ≤ h373.size := Nat.le_trans Z368 (Nat.le_of_eq W373.size.symm)
    have N376 := Fr.snoc X373 N369 g353
    have hk377 : 0 ≤ h373.size := Nat.le_trans hk370 (Nat.le_of_eq W373.size.symm)
    have k378 : ∀ t, Steps p.tables e below (T373.setTop (mkF m 109 #[.val (.int g1), .val (.int g2), .val (.int g3), .val (.int sh), .val (.int cu), .val (.int de), .val (.int r1), .val (.int r2), .val (.int r3), .val (.int (3 : Int32)), .unset, .unset, .unset, .unset, .unset, .unset] [(.ref b352)])) t → Steps p.tables e below (s₁.setTop (entryFrame m #[(.int g1), (.int g2), (.int g3), (.int sh), (.int cu), (.int de)] maxLocals)) t := fun t k => k372 t (st373 t k)
    obtain ⟨md, hmd⟩ : ∃ z : Int32, z = (((sh.toUInt32 >>> ((2 : Int32) &&& 31).toUInt32).toInt32) &&& (3 : Int32)) := ⟨_, rfl⟩
    obtain ⟨dd, hdd⟩ : ∃ z : Int32, z = ((de &&& (3 : Int32)) - (1 : Int32)) := ⟨_, rfl⟩
    have k379 : ∀ t, Steps p.tables e below (T373.setTop (mkF m 126 #[.val (.int g1), .val (.int g2), .val (.int g3), .val (.int sh), .val (.int cu), .val (.int de), .val (.int r1), .val (.int r2), .val (.int r3), .val (.int (3 : Int32)), .val (.ref b352), .val (.int md), .val (.int dd), .unset, .unset, .unset] [])) t → Steps p.tables e below (s₁.setTop (entryFrame m #[(.int g1), (.int g2), (.int g3), (.int sh), (.int cu), (.int de)] maxLocals)) t := fun t k => k378 t (by
      show Steps p.tables e below (T373.setTop (mkF m 109 #[.val (.int g1), .val (.int g2), .val (.int g3), .val (.int sh), .val (.int cu), .val (.int de), .val (.int r1), .val (.int r2), .val (.int r3), .val (.int (3 : Int32)), .unset, .unset, .unset, .unset, .unset, .unset] [(.ref b352)])) _
      refine XS.astore X373.here hx rfl (hb hby at_109) rfl rfl (l' := #[.val (.int g1), .val (.int g2), .val (.int g3), .val (.int sh), .val (.int cu), .val (.int de), .val (.int r1), .val (.int r2), .val (.int r3), .val (.int (3 : Int32)), .val (.ref b352), .unset, .unset, .unset, .unset, .unset]) rfl ?_
      show Steps p.tables e below (T373.setTop (mkF m 111 #[.val (.int g1), .val (.int g2), .val (.int g3), .val (.int sh), .val (.int cu), .val (.int de), .val (.int r1), .val (.int r2), .val (.int r3), .val (.int (3 : Int32)), .val (.ref b352), .unset, .unset, .unset, .unset, .unset] [])) _
      refine XS.iloadN X373.here hx rfl (hb hby at_111) rfl ?_
      show Steps p.tables e below (T373.setTop (mkF m 112 #[.val (.int g1), .val (.int g2), .val (.int g3), .val (.int sh), .val (.int cu), .val (.int de), .val (.int r1), .val (.int r2), .val (.int r3), .val (.int (3 : Int32)), .val (.ref b352), .unset, .unset, .unset, .unset, .unset] [(.int sh)])) _
      refine XS.iconst X373.here hx rfl (hb hby at_112) ?_
      show Steps p.tables e below (T373.setTop (mkF m 113 #[.val (.int g1), .val (.int g2), .val (.int g3), .val (.int sh), .val (.int cu), .val (.int de), .val (.int r1), .val (.int r2), .val (.int r3), .val (.int (3 : Int32)), .val (.ref b352), .unset, .unset, .unset, .unset, .unset] [(.int (2 : Int32)), (.int sh)])) _
      refine XS.iushr X373.here hx rfl (hb hby at_113) rfl ?_
      show Steps p.tables e below (T373.setTop (mkF m 114 #[.val (.int g1), .val (.int g2), .val (.int g3), .val (.int sh), .val (.int cu), .val (.int de), .val (.int r1), .val (.int r2), .val (.int r3), .val (.int (3 : Int32)), .val (.ref b352), .unset, .unset, .unset, .unset, .unset] [(.int ((sh.toUInt32 >>> ((2 : Int32) &&& 31).toUInt32).toInt32))])) _
      refine XS.iconst X373.here hx rfl (hb hby at_114) ?_
      show Steps p.tables e below (T373.setTop (mkF m 115 #[.val (.int g1), .val (.int g2), .val (.int g3), .val (.int sh), .val (.int cu), .val (.int de), .val (.int r1), .val (.int r2), .val (.int r3), .val (.int (3 : Int32)), .val (.ref b352), .unset, .unset, .unset, .unset, .unset] [(.int (3 : Int32)), (.int ((sh.toUInt32 >>> ((2 : Int32) &&& 31).toUInt32).toInt32))])) _
      refine XS.iand X373.here hx rfl (hb hby at_115) rfl ?_
      show Steps p.tables e below (T373.setTop (mkF m 116 #[.val (.int g1), .val (.int g2), .val (.int g3), .val (.int sh), .val (.int cu), .val (.int de), .val (.int r1), .val (.int r2), .val (.int r3), .val (.int (3 : Int32)), .val (.ref b352), .unset, .unset, .unset, .unset, .unset] [(.int (((sh.toUInt32 >>> ((2 : Int32) &&& 31).toUInt32).toInt32) &&& (3 : Int32)))])) _
      refine castTop (g' := (mkF m 116 #[.val (.int g1), .val (.int g2), .val (.int g3), .val (.int sh), .val (.int cu), .val (.int de), .val (.int r1), .val (.int r2), .val (.int r3), .val (.int (3 : Int32)), .val (.ref b352), .unset, .unset, .unset, .unset, .unset] [(.int md)])) (by rw [hmd]) ?_
      show Steps p.tables e below (T373.setTop (mkF m 116 #[.val (.int g1), .val (.int g2), .val (.int g3), .val (.int sh), .val (.int cu), .val (.int de), .val (.int r1), .val (.int r2), .val (.int r3), .val (.int (3 : Int32)), .val (.ref b352), .unset, .unset, .unset, .unset, .unset] [(.int md)])) _
      refine XS.istore X373.here hx rfl (hb hby at_116) rfl (l' := #[.val (.int g1), .val (.int g2), .val (.int g3), .val (.int sh), .val (.int cu), .val (.int de), .val (.int r1), .val (.int r2), .val (.int r3), .val (.int (3 : Int32)), .val (.ref b352), .val (.int md), .unset, .unset, .unset, .unset]) rfl ?_
      show Steps p.tables e below (T373.setTop (mkF m 118 #[.val (.int g1), .val (.int g2), .val (.int g3), .val (.int sh), .val (.int cu), .val (.int de), .val (.int r1), .val (.int r2), .val (.int r3), .val (.int (3 : Int32)), .val (.ref b352), .val (.int md), .unset, .unset, .unset, .unset] [])) _
      refine XS.iload X373.here hx rfl (hb hby at_118) rfl ?_
      show Steps p.tables e below (T373.setTop (mkF m 120 #[.val (.int g1), .val (.int g2), .val (.int g3), .val (.int sh), .val (.int cu), .val (.int de), .val (.int r1), .val (.int r2), .val (.int r3), .val (.int (3 : Int32)), .val (.ref b352), .val (.int md), .unset, .unset, .unset, .unset] [(.int de)])) _
      refine XS.iconst X373.here hx rfl (hb hby at_120) ?_
      show Steps p.tables e below (T373.setTop (mkF m 121 #[.val (.int g1), .val (.int g2), .val (.int g3), .val (.int sh), .val (.int cu), .val (.int de), .val (.int r1), .val (.int r2), .val (.int r3), .val (.int (3 : Int32)), .val (.ref b352), .val (.int md), .unset, .unset, .unset, .unset] [(.int (3 : Int32)), (.int de)])) _
      refine XS.iand X373.here hx rfl (hb hby at_121) rfl ?_
      show Steps p.tables e below (T373.setTop (mkF m 122 #[.val (.int g1), .val (.int g2), .val (.int g3), .val (.int sh), .val (.int cu), .val (.int de), .val (.int r1), .val (.int r2), .val (.int r3), .val (.int (3 : Int32)), .val (.ref b352), .val (.int md), .unset, .unset, .unset, .unset] [(.int (de &&& (3 : Int32)))])) _
      refine XS.iconst X373.here hx rfl (hb hby at_122) ?_
      show Steps p.tables e below (T373.setTop (mkF m 123 #[.val (.int g1), .val (.int g2), .val (.int g3), .val (.int sh), .val (.int cu), .val (.int de), .val (.int r1), .val (.int r2), .val (.int r3), .val (.int (3 : Int32)), .val (.ref b352), .val (.int md), .unset, .unset, .unset, .unset] [(.int (1 : Int32)), (.int (de &&& (3 : Int32)))])) _
      refine XS.isub X373.here hx rfl (hb hby at_123) rfl ?_
      show Steps p.tables e below (T373.setTop (mkF m 124 #[.val (.int g1), .val (.int g2), .val (.int g3), .val (.int sh), .val (.int cu), .val (.int de), .val (.int r1), .val (.int r2), .val (.int r3), .val (.int (3 : Int32)), .val (.ref b352), .val (.int md), .unset, .unset, .unset, .unset] [(.int ((de &&& (3 : Int32)) - (1 : Int32)))])) _
      refine castTop (g' := (mkF m 124 #[.val (.int g1), .val (.int g2), .val (.int g3), .val (.int sh), .val (.int cu), .val (.int de), .val (.int r1), .val (.int r2), .val (.int r3), .val (.int (3 : Int32)), .val (.ref b352), .val (.int md), .unset, .unset, .unset, .unset] [(.int dd)])) (by rw [hdd]) ?_
      show Steps p.tables e below (T373.setTop (mkF m 124 #[.val (.int g1), .val (.int g2), .val (.int g3), .val (.int sh), .val (.int cu), .val (.int de), .val (.int r1), .val (.int r2), .val (.int r3), .val (.int (3 : Int32)), .val (.ref b352), .val (.int md), .unset, .unset, .unset, .unset] [(.int dd)])) _
      refine XS.istore X373.here hx rfl (hb hby at_124) rfl (l' := #[.val (.int g1), .val (.int g2), .val (.int g3), .val (.int sh), .val (.int cu), .val (.int de), .val (.int r1), .val (.int r2), .val (.int r3), .val (.int (3 : Int32)), .val (.ref b352), .val (.int md), .val (.int dd), .unset, .unset, .unset]) rfl ?_
      exact k)
    obtain ⟨T380, h380, Ls380, cut, X380, e380, N380, Zq380, hkq380, F404, hcut, kq380⟩ : ∃ (T380 : State) (h380 : Heap) (Ls380 : List Loc) (cut : Int32), Stand p l e room_1 (s.setVm s.vm) m #[(.int g1), (.int g2), (.int g3), (.int sh), (.int cu), (.int de)] below meth c T380 Ls380 1 3 ∧ T380.heap = h380 ∧ Fr n0 Ls380 ∧ n0 ≤ h380.size ∧ 0 ≤ h380.size ∧ Arv Z h380 b352 k352 .int (3 : Int32) [(.int r1), (.int r2), (.int r3)] (.int (0 : Int32)) ∧ 1 ≤ cut.toInt ∧ ∀ t, Steps p.tables e below (T380.setTop (mkF m 196 #[.val (.int g1), .val (.int g2), .val (.int g3), .val (.int sh), .val (.int cu), .val (.int de), .val (.int r1), .val (.int r2), .val (.int r3), .val (.int (3 : Int32)), .val (.ref b352), .val (.int md), .val (.int dd), .val (.int cut), .unset, .unset] [])) t → Steps p.tables e below (s₁.setTop (entryFrame m #[(.int g1), (.int g2), (.int g3), (.int sh), (.int cu), (.int de)] maxLocals)) t := by
      have k381 : ∀ t, Steps p.tables e below (T373.setTop (mkF m 128 #[.val (.int g1), .val (.int g2), .val (.int g3), .val (.int sh), .val (.int cu), .val (.int de), .val (.int r1), .val (.int r2), .val (.int r3), .val (.int (3 : Int32)), .val (.ref b352), .val (.int md), .val (.int dd), .unset, .unset, .unset] [(.int md)])) t → Steps p.tables e below (s₁.setTop (entryFrame m #[(.int g1), (.int g2), (.int g3), (.int sh), (.int cu), (.int de)] maxLocals)) t := fun t k => k379 t (by
        show Steps p.tables e below (T373.setTop (mkF m 126 #[.val (.int g1), .val (.int g2), .val (.int g3), .val (.int sh), .val (.int cu), .val (.int de), .val (.int r1), .val (.int r2), .val (.int r3), .val (.int (3 : Int32)), .val (.ref b352), .val (.int md), .val (.int dd), .unset, .unset, .unset] [])) _
        refine XS.iload X373.here hx rfl (hb hby at_126) rfl ?_
        exact k)
      by_cases m0 : md = (0 : Int32)
      · have k382 : ∀ t, Steps p.tables e below (T373.setTop (mkF m 137 #[.val (.int g1), .val (.int g2), .val (.int g3), .val (.int sh), .val (.int cu), .val (.int de), .val (.int r1), .val (.int r2), .val (.int r3), .val (.int (3 : Int32)), .val (.ref b352), .val (.int md), .val (.int dd), .unset, .unset, .unset] [(.int (cu &&& (2147483647 : Int32))), (.int (1 : Int32))])) t → Steps p.tables e below (s₁.setTop (entryFrame m #[(.int g1), (.int g2), (.int g3), (.int sh), (.int cu), (.int de)] maxLocals)) t := fun t k => k381 t (by
          show Steps p.tables e below (T373.setTop (mkF m 128 #[.val (.int g1), .val (.int g2), .val (.int g3), .val (.int sh), .val (.int cu), .val (.int de), .val (.int r1), .val (.int r2), .val (.int r3), .val (.int (3 : Int32)), .val (.ref b352), .val (.int md), .val (.int dd), .unset, .unset, .unset] [(.int md)])) _
          refine XS.ifNo X373.here hx rfl (hb hby at_128) rfl ((if0 _ _).trans (teq m0).2) ?_
          show Steps p.tables e below (T373.setTop (mkF m 131 #[.val (.int g1), .val (.int g2), .val (.int g3), .val (.int sh), .val (.int cu), .val (.int de), .val (.int r1), .val (.int r2), .val (.int r3), .val (.int (3 : Int32)), .val (.ref b352), .val (.int md), .val (.int dd), .unset, .unset, .unset] [])) _
          refine XS.iconst X373.here hx rfl (hb hby at_131) ?_
          show Steps p.tables e below (T373.setTop (mkF m 132 #[.val (.int g1), .val (.int g2), .val (.int g3), .val (.int sh), .val (.int cu), .val (.int de), .val (.int r1), .val (.int r2), .val (.int r3), .val (.int (3 : Int32)), .val (.ref b352), .val (.int md), .val (.int dd), .unset, .unset, .unset] [(.int (1 : Int32))])) _
          refine XS.iload X373.here hx rfl (hb hby at_132) rfl ?_
          show Steps p.tables e below (T373.setTop (mkF m 134 #[.val (.int g1), .val (.int g2), .val (.int g3), .val (.int sh), .val (.int cu), .val (.int de), .val (.int r1), .val (.int r2), .val (.int r3), .val (.int (3 : Int32)), .val (.ref b352), .val (.int md), .val (.int dd), .unset, .unset, .unset] [(.int cu), (.int (1 : Int32))])) _
          refine X373.ldcInt hx hown (mvT hZ (hw _ (List.mem_of_getElem? (i := 2) rfl))) (g := (mkF m 134 #[.val (.int g1), .val (.int g2), .val (.int g3), .val (.int sh), .val (.int cu), .val (.int de), .val (.int r1), .val (.int r2), .val (.int r3), .val (.int (3 : Int32)), .val (.ref b352), .val (.int md), .val (.int dd), .unset, .unset, .unset] [(.int cu), (.int (1 : Int32))])) rfl (hb hby at_134) _ ?_
          show Steps p.tables e below (T373.setTop (mkF m 136 #[.val (.int g1), .val (.int g2), .val (.int g3), .val (.int sh), .val (.int cu), .val (.int de), .val (.int r1), .val (.int r2), .val (.int r3), .val (.int (3 : Int32)), .val (.ref b352), .val (.int md), .val (.int dd), .unset, .unset, .unset] [(.int (2147483647 : Int32)), (.int cu), (.int (1 : Int32))])) _
          refine XS.iand X373.here hx rfl (hb hby at_136) rfl ?_
          exact k)
        obtain ⟨_, _, ⟨T383, L383, k383, n383⟩, -, X383, ⟨Lc383, hQ383, l383, y383, z383⟩, st383⟩ := Jvm.LawKit.callS X373 hx (y := (⟨"java/lang/Math", "max", "(II)I"⟩ : MethodName)) hown (mvT hZ (hw _ (List.mem_of_getElem? (i := 3) rfl))) (mvT hZ (hw _ (List.mem_of_getElem? (i := 4) rfl))) (mvT hZ (hw _ (List.mem_of_getElem? (i := 5) rfl))) (mvT hZ (hw _ (List.mem_of_getElem? (i := 6) rfl))) (by decide) (backOf (W := 0) (rm1 l Z a0 hw [] (1 : Int32) (cu &&& (2147483647 : Int32)) h373 n0 Z375 ) hZ (hw _ (List.mem_of_getElem? (i := 6) rfl)) (hw _ (List.mem_of_getElem? (i := 5) rfl)) (by decide) (by decide)) (g := (mkF m 137 #[.val (.int g1), .val (.int g2), .val (.int g3), .val (.int sh), .val (.int cu), .val (.int de), .val (.int r1), .val (.int r2), .val (.int r3), .val (.int (3 : Int32)), .val (.ref b352), .val (.int md), .val (.int dd), .unset, .unset, .unset] [(.int (cu &&& (2147483647 : Int32))), (.int (1 : Int32))])) rfl (by rw [hml]; rfl) (argsL := [(.int (1 : Int32)), (.int (cu &&& (2147483647 : Int32)))]) (rest := []) (lenOf pd__28II_29I rfl) rfl (by show 2 * 0 + _ ≤ _; exact Nat.le_of_eq rfl) (hb hby at_137) (fun _ _ => ⟨rfl, e373, (by decide : 1 + 0 ≤ _), (by decide : 3 + 0 ≤ _)⟩)
        dsimp only [Pt.U, Pt.locs, Pt.cells, Pt.slots] at X383 l383 y383 z383 st383 hQ383
        subst l383 y383 z383
        obtain ⟨rfl, N383q, e383⟩ := hQ383
        have N384 := Fr.app N376 N383q
        have k385 : ∀ t, Steps p.tables e below (T383.setTop (mkF m 140 #[.val (.int g1), .val (.int g2), .val (.int g3), .val (.int sh), .val (.int cu), .val (.int de), .val (.int r1), .val (.int r2), .val (.int r3), .val (.int (3 : Int32)), .val (.ref b352), .val (.int md), .val (.int dd), .unset, .unset, .unset] [(.int (if (1 : Int32) < (cu &&& (2147483647 : Int32)) then (cu &&& (2147483647 : Int32)) else (1 : Int32)))])) t → Steps p.tables e below (s₁.setTop (entryFrame m #[(.int g1), (.int g2), (.int g3), (.int sh), (.int cu), (.int de)] maxLocals)) t := fun t k => k382 t (st383 t k)
        have k386 : ∀ t, Steps p.tables e below (T383.setTop (mkF m 196 #[.val (.int g1), .val (.int g2), .val (.int g3), .val (.int sh), .val (.int cu), .val (.int de), .val (.int r1), .val (.int r2), .val (.int r3), .val (.int (3 : Int32)), .val (.ref b352), .val (.int md), .val (.int dd), .val (.int (if (1 : Int32) < (cu &&& (2147483647 : Int32)) then (cu &&& (2147483647 : Int32)) else (1 : Int32))), .unset, .unset] [])) t → Steps p.tables e below (s₁.setTop (entryFrame m #[(.int g1), (.int g2), (.int g3), (.int sh), (.int cu), (.int de)] maxLocals)) t := fun t k => k385 t (by
          show Steps p.tables e below (T383.setTop (mkF m 140 #[.val (.int g1), .val (.int g2), .val (.int g3), .val (.int sh), .val (.int cu), .val (.int de), .val (.int r1), .val (.int r2), .val (.int r3), .val (.int (3 : Int32)), .val (.ref b352), .val (.int md), .val (.int dd), .unset, .unset, .unset] [(.int (if (1 : Int32) < (cu &&& (2147483647 : Int32)) then (cu &&& (2147483647 : Int32)) else (1 : Int32)))])) _
          refine XS.istore X383.here hx rfl (hb hby at_140) rfl (l' := #[.val (.int g1), .val (.int g2), .val (.int g3), .val (.int sh), .val (.int cu), .val (.int de), .val (.int r1), .val (.int r2), .val (.int r3), .val (.int (3 : Int32)), .val (.ref b352), .val (.int md), .val (.int dd), .val (.int (if (1 : Int32) < (cu &&& (2147483647 : Int32)) then (cu &&& (2147483647 : Int32)) else (1 : Int32))), .unset, .unset]) rfl ?_
          show Steps p.tables e below (T383.setTop (mkF m 142 #[.val (.int g1), .val (.int g2), .val (.int g3), .val (.int sh), .val (.int cu), .val (.int de), .val (.int r1), .val (.int r2), .val (.int r3), .val (.int (3 : Int32)), .val (.ref b352), .val (.int md), .val (.int dd), .val (.int (if (1 : Int32) < (cu &&& (2147483647 : Int32)) then (cu &&& (2147483647 : Int32)) else (1 : Int32))), .unset, .unset] [])) _
          refine XS.goto X383.here hx rfl (pc0 := 142) (pc' := 196) rfl (hb hby at_142) (by decide) (by decide) ?_
          exact k)
        exact ⟨T383, h373, _, (if (1 : Int32) < (cu &&& (2147483647 : Int32)) then (cu &&& (2147483647 : Int32)) else (1 : Int32)), X383, e383, N384, Z375, hk377, V374, (own_max1 _), k386⟩
      · have k387 : ∀ t, Steps p.tables e below (T373.setTop (mkF m 148 #[.val (.int g1), .val (.int g2), .val (.int g3), .val (.int sh), .val (.int cu), .val (.int de), .val (.int r1), .val (.int r2), .val (.int r3), .val (.int (3 : Int32)), .val (.ref b352), .val (.int md), .val (.int dd), .unset, .unset, .unset] [(.int (1 : Int32)), (.int md)])) t → Steps p.tables e below (s₁.setTop (entryFrame m #[(.int g1), (.int g2), (.int g3), (.int sh), (.int cu), (.int de)] maxLocals)) t := fun t k => k381 t (by
          show Steps p.tables e below (T373.setTop (mkF m 128 #[.val (.int g1), .val (.int g2), .val (.int g3), .val (.int sh), .val (.int cu), .val (.int de), .val (.int r1), .val (.int r2), .val (.int r3), .val (.int (3 : Int32)), .val (.ref b352), .val (.int md), .val (.int dd), .unset, .unset, .unset] [(.int md)])) _
          refine XS.ifYes X373.here hx rfl (pc0 := 128) (pc' := 145) rfl (hb hby at_128) rfl ((if0 _ _).trans (feq m0).2) (by decide) (by decide) ?_
          show Steps p.tables e below (T373.setTop (mkF m 145 #[.val (.int g1), .val (.int g2), .val (.int g3), .val (.int sh), .val (.int cu), .val (.int de), .val (.int r1), .val (.int r2), .val (.int r3), .val (.int (3 : Int32)), .val (.ref b352), .val (.int md), .val (.int dd), .unset, .unset, .unset] [])) _
          refine XS.iload X373.here hx rfl (hb hby at_145) rfl ?_
          show Steps p.tables e below (T373.setTop (mkF m 147 #[.val (.int g1), .val (.int g2), .val (.int g3), .val (.int sh), .val (.int cu), .val (.int de), .val (.int r1), .val (.int r2), .val (.int r3), .val (.int (3 : Int32)), .val (.ref b352), .val (.int md), .val (.int dd), .unset, .unset, .unset] [(.int md)])) _
          refine XS.iconst X373.here hx rfl (hb hby at_147) ?_
          exact k)
        by_cases m1 : md = (1 : Int32)
        · have k388 : ∀ t, Steps p.tables e below (T373.setTop (mkF m 157 #[.val (.int g1), .val (.int g2), .val (.int g3), .val (.int sh), .val (.int cu), .val (.int de), .val (.int r1), .val (.int r2), .val (.int r3), .val (.int (3 : Int32)), .val (.ref b352), .val (.int md), .val (.int dd), .unset, .unset, .unset] [(.int (r1 + dd)), (.int (1 : Int32))])) t → Steps p.tables e below (s₁.setTop (entryFrame m #[(.int g1), (.int g2), (.int g3), (.int sh), (.int cu), (.int de)] maxLocals)) t := fun t k => k387 t (by
            show Steps p.tables e below (T373.setTop (mkF m 148 #[.val (.int g1), .val (.int g2), .val (.int g3), .val (.int sh), .val (.int cu), .val (.int de), .val (.int r1), .val (.int r2), .val (.int r3), .val (.int (3 : Int32)), .val (.ref b352), .val (.int md), .val (.int dd), .unset, .unset, .unset] [(.int (1 : Int32)), (.int md)])) _
            refine XS.icmpNo X373.here hx rfl (hb hby at_148) rfl (teq m1).2 ?_
            show Steps p.tables e below (T373.setTop (mkF m 151 #[.val (.int g1), .val (.int g2), .val (.int g3), .val (.int sh), .val (.int cu), .val (.int de), .val (.int r1), .val (.int r2), .val (.int r3), .val (.int (3 : Int32)), .val (.ref b352), .val (.int md), .val (.int dd), .unset, .unset, .unset] [])) _
            refine XS.iconst X373.here hx rfl (hb hby at_151) ?_
            show Steps p.tables e below (T373.setTop (mkF m 152 #[.val (.int g1), .val (.int g2), .val (.int g3), .val (.int sh), .val (.int cu), .val (.int de), .val (.int r1), .val (.int r2), .val (.int r3), .val (.int (3 : Int32)), .val (.ref b352), .val (.int md), .val (.int dd), .unset, .unset, .unset] [(.int (1 : Int32))])) _
            refine XS.iload X373.here hx rfl (hb hby at_152) rfl ?_
            show Steps p.tables e below (T373.setTop (mkF m 154 #[.val (.int g1), .val (.int g2), .val (.int g3), .val (.int sh), .val (.int cu), .val (.int de), .val (.int r1), .val (.int r2), .val (.int r3), .val (.int (3 : Int32)), .val (.ref b352), .val (.int md), .val (.int dd), .unset, .unset, .unset] [(.int r1), (.int (1 : Int32))])) _
            refine XS.iload X373.here hx rfl (hb hby at_154) rfl ?_
            show Steps p.tables e below (T373.setTop (mkF m 156 #[.val (.int g1), .val (.int g2), .val (.int g3), .val (.int sh), .val (.int cu), .val (.int de), .val (.int r1), .val (.int r2), .val (.int r3), .val (.int (3 : Int32)), .val (.ref b352), .val (.int md), .val (.int dd), .unset, .unset, .unset] [(.int dd), (.int r1), (.int (1 : Int32))])) _
            refine XS.iadd X373.here hx rfl (hb hby at_156) rfl ?_
            exact k)
          obtain ⟨_, _, ⟨T389, L389, k389, n389⟩, -, X389, ⟨Lc389, hQ389, l389, y389, z389⟩, st389⟩ := Jvm.LawKit.callS X373 hx (y := (⟨"java/lang/Math", "max", "(II)I"⟩ : MethodName)) hown (mvT hZ (hw _ (List.mem_of_getElem? (i := 3) rfl))) (mvT hZ (hw _ (List.mem_of_getElem? (i := 4) rfl))) (mvT hZ (hw _ (List.mem_of_getElem? (i := 5) rfl))) (mvT hZ (hw _ (List.mem_of_getElem? (i := 6) rfl))) (by decide) (backOf (W := 0) (rm1 l Z a0 hw [] (1 : Int32) (r1 + dd) h373 n0 Z375 ) hZ (hw _ (List.mem_of_getElem? (i := 6) rfl)) (hw _ (List.mem_of_getElem? (i := 5) rfl)) (by decide) (by decide)) (g := (mkF m 157 #[.val (.int g1), .val (.int g2), .val (.int g3), .val (.int sh), .val (.int cu), .val (.int de), .val (.int r1), .val (.int r2), .val (.int r3), .val (.int (3 : Int32)), .val (.ref b352), .val (.int md), .val (.int dd), .unset, .unset, .unset] [(.int (r1 + dd)), (.int (1 : Int32))])) rfl (by rw [hml]; rfl) (argsL := [(.int (1 : Int32)), (.int (r1 + dd))]) (rest := []) (lenOf pd__28II_29I rfl) rfl (by show 2 * 0 + _ ≤ _; exact Nat.le_of_eq rfl) (hb hby at_157) (fun _ _ => ⟨rfl, e373, (by decide : 1 + 0 ≤ _), (by decide : 3 + 0 ≤ _)⟩)
          dsimp only [Pt.U, Pt.locs, Pt.cells, Pt.slots] at X389 l389 y389 z389 st389 hQ389
          subst l389 y389 z389
          obtain ⟨rfl, N389q, e389⟩ := hQ389
          have N390 := Fr.app N376 N389q
          have k391 : ∀ t, Steps p.tables e below (T389.setTop (mkF m 160 #[.val (.int g1), .val (.int g2), .val (.int g3), .val (.int sh), .val (.int cu), .val (.int de), .val (.int r1), .val (.int r2), .val (.int r3), .val (.int (3 : Int32)), .val (.ref b352), .val (.int md), .val (.int dd), .unset, .unset, .unset] [(.int (if (1 : Int32) < (r1 + dd) then (r1 + dd) else (1 : Int32)))])) t → Steps p.tables e below (s₁.setTop (entryFrame m #[(.int g1), (.int g2), (.int g3), (.int sh), (.int cu), (.int de)] maxLocals)) t := fun t k => k388 t (st389 t k)
          have k392 : ∀ t, Steps p.tables e below (T389.setTop (mkF m 196 #[.val (.int g1), .val (.int g2), .val (.int g3), .val (.int sh), .val (.int cu), .val (.int de), .val (.int r1), .val (.int r2), .val (.int r3), .val (.int (3 : Int32)), .val (.ref b352), .val (.int md), .val (.int dd), .val (.int (if (1 : Int32) < (r1 + dd) then (r1 + dd) else (1 : Int32))), .unset, .unset] [])) t → Steps p.tables e below (s₁.setTop (entryFrame m #[(.int g1), (.int g2), (.int g3), (.int sh), (.int cu), (.int de)] maxLocals)) t := fun t k => k391 t (by
            show Steps p.tables e below (T389.setTop (mkF m 160 #[.val (.int g1), .val (.int g2), .val (.int g3), .val (.int sh), .val (.int cu), .val (.int de), .val (.int r1), .val (.int r2), .val (.int r3), .val (.int (3 : Int32)), .val (.ref b352), .val (.int md), .val (.int dd), .unset, .unset, .unset] [(.int (if (1 : Int32) < (r1 + dd) then (r1 + dd) else (1 : Int32)))])) _
            refine XS.istore X389.here hx rfl (hb hby at_160) rfl (l' := #[.val (.int g1), .val (.int g2), .val (.int g3), .val (.int sh), .val (.int cu), .val (.int de), .val (.int r1), .val (.int r2), .val (.int r3), .val (.int (3 : Int32)), .val (.ref b352), .val (.int md), .val (.int dd), .val (.int (if (1 : Int32) < (r1 + dd) then (r1 + dd) else (1 : Int32))), .unset, .unset]) rfl ?_
            show Steps p.tables e below (T389.setTop (mkF m 162 #[.val (.int g1), .val (.int g2), .val (.int g3), .val (.int sh), .val (.int cu), .val (.int de), .val (.int r1), .val (.int r2), .val (.int r3), .val (.int (3 : Int32)), .val (.ref b352), .val (.int md), .val (.int dd), .val (.int (if (1 : Int32) < (r1 + dd) then (r1 + dd) else (1 : Int32))), .unset, .unset] [])) _
            refine XS.goto X389.here hx rfl (pc0 := 162) (pc' := 196) rfl (hb hby at_162) (by decide) (by decide) ?_
            exact k)
          exact ⟨T389, h373, _, (if (1 : Int32) < (r1 + dd) then (r1 + dd) else (1 : Int32)), X389, e389, N390, Z375, hk377, V374, (own_max1 _), k392⟩
        · have k393 : ∀ t, Steps p.tables e below (T373.setTop (mkF m 168 #[.val (.int g1), .val (.int g2), .val (.int g3), .val (.int sh), .val (.int cu), .val (.int de), .val (.int r1), .val (.int r2), .val (.int r3), .val (.int (3 : Int32)), .val (.ref b352), .val (.int md), .val (.int dd), .unset, .unset, .unset] [(.int (2 : Int32)), (.int md)])) t → Steps p.tables e below (s₁.setTop (entryFrame m #[(.int g1), (.int g2), (.int g3), (.int sh), (.int cu), (.int de)] maxLocals)) t := fun t k => k387 t (by
            show Steps p.tables e below (T373.setTop (mkF m 148 #[.val (.int g1), .val (.int g2), .val (.int g3), .val (.int sh), .val (.int cu), .val (.int de), .val (.int r1), .val (.int r2), .val (.int r3), .val (.int (3 : Int32)), .val (.ref b352), .val (.int md), .val (.int dd), .unset, .unset, .unset] [(.int (1 : Int32)), (.int md)])) _
            refine XS.icmpYes X373.here hx rfl (pc0 := 148) (pc' := 165) rfl (hb hby at_148) rfl (feq m1).2 (by decide) (by decide) ?_
            show Steps p.tables e below (T373.setTop (mkF m 165 #[.val (.int g1), .val (.int g2), .val (.int g3), .val (.int sh), .val (.int cu), .val (.int de), .val (.int r1), .val (.int r2), .val (.int r3), .val (.int (3 : Int32)), .val (.ref b352), .val (.int md), .val (.int dd), .unset, .unset, .unset] [])) _
            refine XS.iload X373.here hx rfl (hb hby at_165) rfl ?_
            show Steps p.tables e below (T373.setTop (mkF m 167 #[.val (.int g1), .val (.int g2), .val (.int g3), .val (.int sh), .val (.int cu), .val (.int de), .val (.int r1), .val (.int r2), .val (.int r3), .val (.int (3 : Int32)), .val (.ref b352), .val (.int md), .val (.int dd), .unset, .unset, .unset] [(.int md)])) _
            refine XS.iconst X373.here hx rfl (hb hby at_167) ?_
            exact k)
          by_cases m2 : md = (2 : Int32)
          · have k394 : ∀ t, Steps p.tables e below (T373.setTop (mkF m 177 #[.val (.int g1), .val (.int g2), .val (.int g3), .val (.int sh), .val (.int cu), .val (.int de), .val (.int r1), .val (.int r2), .val (.int r3), .val (.int (3 : Int32)), .val (.ref b352), .val (.int md), .val (.int dd), .unset, .unset, .unset] [(.int (r2 + dd)), (.int (1 : Int32))])) t → Steps p.tables e below (s₁.setTop (entryFrame m #[(.int g1), (.int g2), (.int g3), (.int sh), (.int cu), (.int de)] maxLocals)) t := fun t k => k393 t (by
              show Steps p.tables e below (T373.setTop (mkF m 168 #[.val (.int g1), .val (.int g2), .val (.int g3), .val (.int sh), .val (.int cu), .val (.int de), .val (.int r1), .val (.int r2), .val (.int r3), .val (.int (3 : Int32)), .val (.ref b352), .val (.int md), .val (.int dd), .unset, .unset, .unset] [(.int (2 : Int32)), (.int md)])) _
              refine XS.icmpNo X373.here hx rfl (hb hby at_168) rfl (teq m2).2 ?_
              show Steps p.tables e below (T373.setTop (mkF m 171 #[.val (.int g1), .val (.int g2), .val (.int g3), .val (.int sh), .val (.int cu), .val (.int de), .val (.int r1), .val (.int r2), .val (.int r3), .val (.int (3 : Int32)), .val (.ref b352), .val (.int md), .val (.int dd), .unset, .unset, .unset] [])) _
              refine XS.iconst X373.here hx rfl (hb hby at_171) ?_
              show Steps p.tables e below (T373.setTop (mkF m 172 #[.val (.int g1), .val (.int g2), .val (.int g3), .val (.int sh), .val (.int cu), .val (.int de), .val (.int r1), .val (.int r2), .val (.int r3), .val (.int (3 : Int32)), .val (.ref b352), .val (.int md), .val (.int dd), .unset, .unset, .unset] [(.int (1 : Int32))])) _
              refine XS.iload X373.here hx rfl (hb hby at_172) rfl ?_
              show Steps p.tables e below (T373.setTop (mkF m 174 #[.val (.int g1), .val (.int g2), .val (.int g3), .val (.int sh), .val (.int cu), .val (.int de), .val (.int r1), .val (.int r2), .val (.int r3), .val (.int (3 : Int32)), .val (.ref b352), .val (.int md), .val (.int dd), .unset, .unset, .unset] [(.int r2), (.int (1 : Int32))])) _
              refine XS.iload X373.here hx rfl (hb hby at_174) rfl ?_
              show Steps p.tables e below (T373.setTop (mkF m 176 #[.val (.int g1), .val (.int g2), .val (.int g3), .val (.int sh), .val (.int cu), .val (.int de), .val (.int r1), .val (.int r2), .val (.int r3), .val (.int (3 : Int32)), .val (.ref b352), .val (.int md), .val (.int dd), .unset, .unset, .unset] [(.int dd), (.int r2), (.int (1 : Int32))])) _
              refine XS.iadd X373.here hx rfl (hb hby at_176) rfl ?_
              exact k)
            obtain ⟨_, _, ⟨T395, L395, k395, n395⟩, -, X395, ⟨Lc395, hQ395, l395, y395, z395⟩, st395⟩ := Jvm.LawKit.callS X373 hx (y := (⟨"java/lang/Math", "max", "(II)I"⟩ : MethodName)) hown (mvT hZ (hw _ (List.mem_of_getElem? (i := 3) rfl))) (mvT hZ (hw _ (List.mem_of_getElem? (i := 4) rfl))) (mvT hZ (hw _ (List.mem_of_getElem? (i := 5) rfl))) (mvT hZ (hw _ (List.mem_of_getElem? (i := 6) rfl))) (by decide) (backOf (W := 0) (rm1 l Z a0 hw [] (1 : Int32) (r2 + dd) h373 n0 Z375 ) hZ (hw _ (List.mem_of_getElem? (i := 6) rfl)) (hw _ (List.mem_of_getElem? (i := 5) rfl)) (by decide) (by decide)) (g := (mkF m 177 #[.val (.int g1), .val (.int g2), .val (.int g3), .val (.int sh), .val (.int cu), .val (.int de), .val (.int r1), .val (.int r2), .val (.int r3), .val (.int (3 : Int32)), .val (.ref b352), .val (.int md), .val (.int dd), .unset, .unset, .unset] [(.int (r2 + dd)), (.int (1 : Int32))])) rfl (by rw [hml]; rfl) (argsL := [(.int (1 : Int32)), (.int (r2 + dd))]) (rest := []) (lenOf pd__28II_29I rfl) rfl (by show 2 * 0 + _ ≤ _; exact Nat.le_of_eq rfl) (hb hby at_177) (fun _ _ => ⟨rfl, e373, (by decide : 1 + 0 ≤ _), (by decide : 3 + 0 ≤ _)⟩)
            dsimp only [Pt.U, Pt.locs, Pt.cells, Pt.slots] at X395 l395 y395 z395 st395 hQ395
            subst l395 y395 z395
            obtain ⟨rfl, N395q, e395⟩ := hQ395
            have N396 := Fr.app N376 N395q
            have k397 : ∀ t, Steps p.tables e below (T395.setTop (mkF m 180 #[.val (.int g1), .val (.int g2), .val (.int g3), .val (.int sh), .val (.int cu), .val (.int de), .val (.int r1), .val (.int r2), .val (.int r3), .val (.int (3 : Int32)), .val (.ref b352), .val (.int md), .val (.int dd), .unset, .unset, .unset] [(.int (if (1 : Int32) < (r2 + dd) then (r2 + dd) else (1 : Int32)))])) t → Steps p.tables e below (s₁.setTop (entryFrame m #[(.int g1), (.int g2), (.int g3), (.int sh), (.int cu), (.int de)] maxLocals)) t := fun t k => k394 t (st395 t k)
            have k398 : ∀ t, Steps p.tables e below (T395.setTop (mkF m 196 #[.val (.int g1), .val (.int g2), .val (.int g3), .val (.int sh), .val (.int cu), .val (.int de), .val (.int r1), .val (.int r2), .val (.int r3), .val (.int (3 : Int32)), .val (.ref b352), .val (.int md), .val (.int dd), .val (.int (if (1 : Int32) < (r2 + dd) then (r2 + dd) else (1 : Int32))), .unset, .unset] [])) t → Steps p.tables e below (s₁.setTop (entryFrame m #[(.int g1), (.int g2), (.int g3), (.int sh), (.int cu), (.int de)] maxLocals)) t := fun t k => k397 t (by
              show Steps p.tables e below (T395.setTop (mkF m 180 #[.val (.int g1), .val (.int g2), .val (.int g3), .val (.int sh), .val (.int cu), .val (.int de), .val (.int r1), .val (.int r2), .val (.int r3), .val (.int (3 : Int32)), .val (.ref b352), .val (.int md), .val (.int dd), .unset, .unset, .unset] [(.int (if (1 : Int32) < (r2 + dd) then (r2 + dd) else (1 : Int32)))])) _
              refine XS.istore X395.here hx rfl (hb hby at_180) rfl (l' := #[.val (.int g1), .val (.int g2), .val (.int g3), .val (.int sh), .val (.int cu), .val (.int de), .val (.int r1), .val (.int r2), .val (.int r3), .val (.int (3 : Int32)), .val (.ref b352), .val (.int md), .val (.int dd), .val (.int (if (1 : Int32) < (r2 + dd) then (r2 + dd) else (1 : Int32))), .unset, .unset]) rfl ?_
              show Steps p.tables e below (T395.setTop (mkF m 182 #[.val (.int g1), .val (.int g2), .val (.int g3), .val (.int sh), .val (.int cu), .val (.int de), .val (.int r1), .val (.int r2), .val (.int r3), .val (.int (3 : Int32)), .val (.ref b352), .val (.int md), .val (.int dd), .val (.int (if (1 : Int32) < (r2 + dd) then (r2 + dd) else (1 : Int32))), .unset, .unset] [])) _
              refine XS.goto X395.here hx rfl (pc0 := 182) (pc' := 196) rfl (hb hby at_182) (by decide) (by decide) ?_
              exact k)
            exact ⟨T395, h373, _, (if (1 : Int32) < (r2 + dd) then (r2 + dd) else (1 : Int32)), X395, e395, N396, Z375, hk377, V374, (own_max1 _), k398⟩
          · have k399 : ∀ t, Steps p.tables e below (T373.setTop (mkF m 191 #[.val (.int g1), .val (.int g2), .val (.int g3), .val (.int sh), .val (.int cu), .val (.int de), .val (.int r1), .val (.int r2), .val (.int r3), .val (.int (3 : Int32)), .val (.ref b352), .val (.int md), .val (.int dd), .unset, .unset, .unset] [(.int (r3 + dd)), (.int (1 : Int32))])) t → Steps p.tables e below (s₁.setTop (entryFrame m #[(.int g1), (.int g2), (.int g3), (.int sh), (.int cu), (.int de)] maxLocals)) t := fun t k => k393 t (by
              show Steps p.tables e below (T373.setTop (mkF m 168 #[.val (.int g1), .val (.int g2), .val (.int g3), .val (.int sh), .val (.int cu), .val (.int de), .val (.int r1), .val (.int r2), .val (.int r3), .val (.int (3 : Int32)), .val (.ref b352), .val (.int md), .val (.int dd), .unset, .unset, .unset] [(.int (2 : Int32)), (.int md)])) _
              refine XS.icmpYes X373.here hx rfl (pc0 := 168) (pc' := 185) rfl (hb hby at_168) rfl (feq m2).2 (by decide) (by decide) ?_
              show Steps p.tables e below (T373.setTop (mkF m 185 #[.val (.int g1), .val (.int g2), .val (.int g3), .val (.int sh), .val (.int cu), .val (.int de), .val (.int r1), .val (.int r2), .val (.int r3), .val (.int (3 : Int32)), .val (.ref b352), .val (.int md), .val (.int dd), .unset, .unset, .unset] [])) _
              refine XS.iconst X373.here hx rfl (hb hby at_185) ?_
              show Steps p.tables e below (T373.setTop (mkF m 186 #[.val (.int g1), .val (.int g2), .val (.int g3), .val (.int sh), .val (.int cu), .val (.int de), .val (.int r1), .val (.int r2), .val (.int r3), .val (.int (3 : Int32)), .val (.ref b352), .val (.int md), .val (.int dd), .unset, .unset, .unset] [(.int (1 : Int32))])) _
              refine XS.iload X373.here hx rfl (hb hby at_186) rfl ?_
              show Steps p.tables e below (T373.setTop (mkF m 188 #[.val (.int g1), .val (.int g2), .val (.int g3), .val (.int sh), .val (.int cu), .val (.int de), .val (.int r1), .val (.int r2), .val (.int r3), .val (.int (3 : Int32)), .val (.ref b352), .val (.int md), .val (.int dd), .unset, .unset, .unset] [(.int r3), (.int (1 : Int32))])) _
              refine XS.iload X373.here hx rfl (hb hby at_188) rfl ?_
              show Steps p.tables e below (T373.setTop (mkF m 190 #[.val (.int g1), .val (.int g2), .val (.int g3), .val (.int sh), .val (.int cu), .val (.int de), .val (.int r1), .val (.int r2), .val (.int r3), .val (.int (3 : Int32)), .val (.ref b352), .val (.int md), .val (.int dd), .unset, .unset, .unset] [(.int dd), (.int r3), (.int (1 : Int32))])) _
              refine XS.iadd X373.here hx rfl (hb hby at_190) rfl ?_
              exact k)
            obtain ⟨_, _, ⟨T400, L400, k400, n400⟩, -, X400, ⟨Lc400, hQ400, l400, y400, z400⟩, st400⟩ := Jvm.LawKit.callS X373 hx (y := (⟨"java/lang/Math", "max", "(II)I"⟩ : MethodName)) hown (mvT hZ (hw _ (List.mem_of_getElem? (i := 3) rfl))) (mvT hZ (hw _ (List.mem_of_getElem? (i := 4) rfl))) (mvT hZ (hw _ (List.mem_of_getElem? (i := 5) rfl))) (mvT hZ (hw _ (List.mem_of_getElem? (i := 6) rfl))) (by decide) (backOf (W := 0) (rm1 l Z a0 hw [] (1 : Int32) (r3 + dd) h373 n0 Z375 ) hZ (hw _ (List.mem_of_getElem? (i := 6) rfl)) (hw _ (List.mem_of_getElem? (i := 5) rfl)) (by decide) (by decide)) (g := (mkF m 191 #[.val (.int g1), .val (.int g2), .val (.int g3), .val (.int sh), .val (.int cu), .val (.int de), .val (.int r1), .val (.int r2), .val (.int r3), .val (.int (3 : Int32)), .val (.ref b352), .val (.int md), .val (.int dd), .unset, .unset, .unset] [(.int (r3 + dd)), (.int (1 : Int32))])) rfl (by rw [hml]; rfl) (argsL := [(.int (1 : Int32)), (.int (r3 + dd))]) (rest := []) (lenOf pd__28II_29I rfl) rfl (by show 2 * 0 + _ ≤ _; exact Nat.le_of_eq rfl) (hb hby at_191) (fun _ _ => ⟨rfl, e373, (by decide : 1 + 0 ≤ _), (by decide : 3 + 0 ≤ _)⟩)
            dsimp only [Pt.U, Pt.locs, Pt.cells, Pt.slots] at X400 l400 y400 z400 st400 hQ400
            subst l400 y400 z400
            obtain ⟨rfl, N400q, e400⟩ := hQ400
            have N401 := Fr.app N376 N400q
            have k402 : ∀ t, Steps p.tables e below (T400.setTop (mkF m 194 #[.val (.int g1), .val (.int g2), .val (.int g3), .val (.int sh), .val (.int cu), .val (.int de), .val (.int r1), .val (.int r2), .val (.int r3), .val (.int (3 : Int32)), .val (.ref b352), .val (.int md), .val (.int dd), .unset, .unset, .unset] [(.int (if (1 : Int32) < (r3 + dd) then (r3 + dd) else (1 : Int32)))])) t → Steps p.tables e below (s₁.setTop (entryFrame m #[(.int g1), (.int g2), (.int g3), (.int sh), (.int cu), (.int de)] maxLocals)) t := fun t k => k399 t (st400 t k)
            have k403 : ∀ t, Steps p.tables e below (T400.setTop (mkF m 196 #[.val (.int g1), .val (.int g2), .val (.int g3), .val (.int sh), .val (.int cu), .val (.int de), .val (.int r1), .val (.int r2), .val (.int r3), .val (.int (3 : Int32)), .val (.ref b352), .val (.int md), .val (.int dd), .val (.int (if (1 : Int32) < (r3 + dd) then (r3 + dd) else (1 : Int32))), .unset, .unset] [])) t → Steps p.tables e below (s₁.setTop (entryFrame m #[(.int g1), (.int g2), (.int g3), (.int sh), (.int cu), (.int de)] maxLocals)) t := fun t k => k402 t (by
              show Steps p.tables e below (T400.setTop (mkF m 194 #[.val (.int g1), .val (.int g2), .val (.int g3), .val (.int sh), .val (.int cu), .val (.int de), .val (.int r1), .val (.int r2), .val (.int r3), .val (.int (3 : Int32)), .val (.ref b352), .val (.int md), .val (.int dd), .unset, .unset, .unset] [(.int (if (1 : Int32) < (r3 + dd) then (r3 + dd) else (1 : Int32)))])) _
              refine XS.istore X400.here hx rfl (hb hby at_194) rfl (l' := #[.val (.int g1), .val (.int g2), .val (.int g3), .val (.int sh), .val (.int cu), .val (.int de), .val (.int r1), .val (.int r2), .val (.int r3), .val (.int (3 : Int32)), .val (.ref b352), .val (.int md), .val (.int dd), .val (.int (if (1 : Int32) < (r3 + dd) then (r3 + dd) else (1 : Int32))), .unset, .unset]) rfl ?_
              exact k)
            exact ⟨T400, h373, _, (if (1 : Int32) < (r3 + dd) then (r3 + dd) else (1 : Int32)), X400, e400, N401, Z375, hk377, V374, (own_max1 _), k403⟩
    have k405 : ∀ t, Steps p.tables e below (T380.setTop (mkF m 209 #[.val (.int g1), .val (.int g2), .val (.int g3), .val (.int sh), .val (.int cu), .val (.int de), .val (.int r1), .val (.int r2), .val (.int r3), .val (.int (3 : Int32)), .val (.ref b352), .val (.int md), .val (.int dd), .val (.int cut), .val (.int (0 : Int32)), .unset] [(.int cut), (.int r1)])) t → Steps p.tables e below (s₁.setTop (entryFrame m #[(.int g1), (.int g2), (.int g3), (.int sh), (.int cu), (.int de)] maxLocals)) t := fun t k => kq380 t (by
      show Steps p.tables e below (T380.setTop (mkF m 196 #[.val (.int g1), .val (.int g2), .val (.int g3), .val (.int sh), .val (.int cu), .val (.int de), .val (.int r1), .val (.int r2), .val (.int r3), .val (.int (3 : Int32)), .val (.ref b352), .val (.int md), .val (.int dd), .val (.int cut), .unset, .unset] [])) _
      refine XS.iconst X380.here hx rfl (hb hby at_196) ?_
      show Steps p.tables e below (T380.setTop (mkF m 197 #[.val (.int g1), .val (.int g2), .val (.int g3), .val (.int sh), .val (.int cu), .val (.int de), .val (.int r1), .val (.int r2), .val (.int r3), .val (.int (3 : Int32)), .val (.ref b352), .val (.int md), .val (.int dd), .val (.int cut), .unset, .unset] [(.int (0 : Int32))])) _
      refine XS.istore X380.here hx rfl (hb hby at_197) rfl (l' := #[.val (.int g1), .val (.int g2), .val (.int g3), .val (.int sh), .val (.int cu), .val (.int de), .val (.int r1), .val (.int r2), .val (.int r3), .val (.int (3 : Int32)), .val (.ref b352), .val (.int md), .val (.int dd), .val (.int cut), .val (.int (0 : Int32)), .unset]) rfl ?_
      show Steps p.tables e below (T380.setTop (mkF m 199 #[.val (.int g1), .val (.int g2), .val (.int g3), .val (.int sh), .val (.int cu), .val (.int de), .val (.int r1), .val (.int r2), .val (.int r3), .val (.int (3 : Int32)), .val (.ref b352), .val (.int md), .val (.int dd), .val (.int cut), .val (.int (0 : Int32)), .unset] [])) _
      refine XS.iload X380.here hx rfl (hb hby at_199) rfl ?_
      show Steps p.tables e below (T380.setTop (mkF m 201 #[.val (.int g1), .val (.int g2), .val (.int g3), .val (.int sh), .val (.int cu), .val (.int de), .val (.int r1), .val (.int r2), .val (.int r3), .val (.int (3 : Int32)), .val (.ref b352), .val (.int md), .val (.int dd), .val (.int cut), .val (.int (0 : Int32)), .unset] [(.int (3 : Int32))])) _
      refine XS.iconst X380.here hx rfl (hb hby at_201) ?_
      show Steps p.tables e below (T380.setTop (mkF m 202 #[.val (.int g1), .val (.int g2), .val (.int g3), .val (.int sh), .val (.int cu), .val (.int de), .val (.int r1), .val (.int r2), .val (.int r3), .val (.int (3 : Int32)), .val (.ref b352), .val (.int md), .val (.int dd), .val (.int cut), .val (.int (0 : Int32)), .unset] [(.int (1 : Int32)), (.int (3 : Int32))])) _
      refine XS.icmpNo X380.here hx rfl (hb hby at_202) rfl (flt (by decide)).1 ?_
      show Steps p.tables e below (T380.setTop (mkF m 205 #[.val (.int g1), .val (.int g2), .val (.int g3), .val (.int sh), .val (.int cu), .val (.int de), .val (.int r1), .val (.int r2), .val (.int r3), .val (.int (3 : Int32)), .val (.ref b352), .val (.int md), .val (.int dd), .val (.int cut), .val (.int (0 : Int32)), .unset] [])) _
      refine XS.iload X380.here hx rfl (hb hby at_205) rfl ?_
      show Steps p.tables e below (T380.setTop (mkF m 207 #[.val (.int g1), .val (.int g2), .val (.int g3), .val (.int sh), .val (.int cu), .val (.int de), .val (.int r1), .val (.int r2), .val (.int r3), .val (.int (3 : Int32)), .val (.ref b352), .val (.int md), .val (.int dd), .val (.int cut), .val (.int (0 : Int32)), .unset] [(.int r1)])) _
      refine XS.iload X380.here hx rfl (hb hby at_207) rfl ?_
      exact k)
    obtain ⟨i407, hi407⟩ : ∃ z : Int32, z = (if cut < r1 then (0 : Int32) else (1 : Int32)) := ⟨_, rfl⟩
    have k408 : ∀ t, Steps p.tables e below (T380.setTop (mkF m 218 #[.val (.int g1), .val (.int g2), .val (.int g3), .val (.int sh), .val (.int cu), .val (.int de), .val (.int r1), .val (.int r2), .val (.int r3), .val (.int (3 : Int32)), .val (.ref b352), .val (.int md), .val (.int dd), .val (.int cut), .val (.int i407), .unset] [])) t → Steps p.tables e below (s₁.setTop (entryFrame m #[(.int g1), (.int g2), (.int g3), (.int sh), (.int cu), (.int de)] maxLocals)) t := fun t k => k405 t (by
      by_cases c406 : cut < r1
      · rw [if_pos c406] at hi407
        show Steps p.tables e below (T380.setTop (mkF m 209 #[.val (.int g1), .val (.int g2), .val (.int g3), .val (.int sh), .val (.int cu), .val (.int de), .val (.int r1), .val (.int r2), .val (.int r3), .val (.int (3 : Int32)), .val (.ref b352), .val (.int md), .val (.int dd), .val (.int cut), .val (.int (0 : Int32)), .unset] [(.int cut), (.int r1)])) _
        refine XS.icmpYes X380.here hx rfl (pc0 := 209) (pc' := 218) rfl (hb hby at_209) rfl (tlt c406).2.2.1 (by decide) (by decide) ?_
        show Steps p.tables e below (T380.setTop (mkF m 218 #[.val (.int g1), .val (.int g2), .val (.int g3), .val (.int sh), .val (.int cu), .val (.int de), .val (.int r1), .val (.int r2), .val (.int r3), .val (.int (3 : Int32)), .val (.ref b352), .val (.int md), .val (.int dd), .val (.int cut), .val (.int (0 : Int32)), .unset] [])) _
        exact castTop (by rw [hi407]) k
      · rw [if_neg c406] at hi407
        show Steps p.tables e below (T380.setTop (mkF m 209 #[.val (.int g1), .val (.int g2), .val (.int g3), .val (.int sh), .val (.int cu), .val (.int de), .val (.int r1), .val (.int r2), .val (.int r3), .val (.int (3 : Int32)), .val (.ref b352), .val (.int md), .val (.int dd), .val (.int cut), .val (.int (0 : Int32)), .unset] [(.int cut), (.int r1)])) _
        refine XS.icmpNo X380.here hx rfl (hb hby at_209) rfl (flt c406).2.2.1 ?_
        show Steps p.tables e below (T380.setTop (mkF m 212 #[.val (.int g1), .val (.int g2), .val (.int g3), .val (.int sh), .val (.int cu), .val (.int de), .val (.int r1), .val (.int r2), .val (.int r3), .val (.int (3 : Int32)), .val (.ref b352), .val (.int md), .val (.int dd), .val (.int cut), .val (.int (0 : Int32)), .unset] [])) _
        refine XS.iload X380.here hx rfl (hb hby at_212) rfl ?_
        show Steps p.tables e below (T380.setTop (mkF m 214 #[.val (.int g1), .val (.int g2), .val (.int g3), .val (.int sh), .val (.int cu), .val (.int de), .val (.int r1), .val (.int r2), .val (.int r3), .val (.int (3 : Int32)), .val (.ref b352), .val (.int md), .val (.int dd), .val (.int cut), .val (.int (0 : Int32)), .unset] [(.int (0 : Int32))])) _
        refine XS.iconst X380.here hx rfl (hb hby at_214) ?_
        show Steps p.tables e below (T380.setTop (mkF m 215 #[.val (.int g1), .val (.int g2), .val (.int g3), .val (.int sh), .val (.int cu), .val (.int de), .val (.int r1), .val (.int r2), .val (.int r3), .val (.int (3 : Int32)), .val (.ref b352), .val (.int md), .val (.int dd), .val (.int cut), .val (.int (0 : Int32)), .unset] [(.int (1 : Int32)), (.int (0 : Int32))])) _
        refine XS.iadd X380.here hx rfl (hb hby at_215) rfl ?_
        show Steps p.tables e below (T380.setTop (mkF m 216 #[.val (.int g1), .val (.int g2), .val (.int g3), .val (.int sh), .val (.int cu), .val (.int de), .val (.int r1), .val (.int r2), .val (.int r3), .val (.int (3 : Int32)), .val (.ref b352), .val (.int md), .val (.int dd), .val (.int cut), .val (.int (0 : Int32)), .unset] [(.int ((0 : Int32) + (1 : Int32)))])) _
        refine castTop (g' := (mkF m 216 #[.val (.int g1), .val (.int g2), .val (.int g3), .val (.int sh), .val (.int cu), .val (.int de), .val (.int r1), .val (.int r2), .val (.int r3), .val (.int (3 : Int32)), .val (.ref b352), .val (.int md), .val (.int dd), .val (.int cut), .val (.int (0 : Int32)), .unset] [(.int (1 : Int32))])) (by rw [show ((0 : Int32) + (1 : Int32)) = (1 : Int32) by decide]) ?_
        show Steps p.tables e below (T380.setTop (mkF m 216 #[.val (.int g1), .val (.int g2), .val (.int g3), .val (.int sh), .val (.int cu), .val (.int de), .val (.int r1), .val (.int r2), .val (.int r3), .val (.int (3 : Int32)), .val (.ref b352), .val (.int md), .val (.int dd), .val (.int cut), .val (.int (0 : Int32)), .unset] [(.int (1 : Int32))])) _
        refine XS.istore X380.here hx rfl (hb hby at_216) rfl (l' := #[.val (.int g1), .val (.int g2), .val (.int g3), .val (.int sh), .val (.int cu), .val (.int de), .val (.int r1), .val (.int r2), .val (.int r3), .val (.int (3 : Int32)), .val (.ref b352), .val (.int md), .val (.int dd), .val (.int cut), .val (.int (1 : Int32)), .unset]) rfl ?_
        show Steps p.tables e below (T380.setTop (mkF m 218 #[.val (.int g1), .val (.int g2), .val (.int g3), .val (.int sh), .val (.int cu), .val (.int de), .val (.int r1), .val (.int r2), .val (.int r3), .val (.int (3 : Int32)), .val (.ref b352), .val (.int md), .val (.int dd), .val (.int cut), .val (.int (1 : Int32)), .unset] [])) _
        exact castTop (by rw [hi407]) k)
    have k409 : ∀ t, Steps p.tables e below (T380.setTop (mkF m 228 #[.val (.int g1), .val (.int g2), .val (.int g3), .val (.int sh), .val (.int cu), .val (.int de), .val (.int r1), .val (.int r2), .val (.int r3), .val (.int (3 : Int32)), .val (.ref b352), .val (.int md), .val (.int dd), .val (.int cut), .val (.int i407), .unset] [(.int cut), (.int r2)])) t → Steps p.tables e below (s₁.setTop (entryFrame m #[(.int g1), (.int g2), (.int g3), (.int sh), (.int cu), (.int de)] maxLocals)) t := fun t k => k408 t (by
      show Steps p.tables e below (T380.setTop (mkF m 218 #[.val (.int g1), .val (.int g2), .val (.int g3), .val (.int sh), .val (.int cu), .val (.int de), .val (.int r1), .val (.int r2), .val (.int r3), .val (.int (3 : Int32)), .val (.ref b352), .val (.int md), .val (.int dd), .val (.int cut), .val (.int i407), .unset] [])) _
      refine XS.iload X380.here hx rfl (hb hby at_218) rfl ?_
      show Steps p.tables e below (T380.setTop (mkF m 220 #[.val (.int g1), .val (.int g2), .val (.int g3), .val (.int sh), .val (.int cu), .val (.int de), .val (.int r1), .val (.int r2), .val (.int r3), .val (.int (3 : Int32)), .val (.ref b352), .val (.int md), .val (.int dd), .val (.int cut), .val (.int i407), .unset] [(.int (3 : Int32))])) _
      refine XS.iconst X380.here hx rfl (hb hby at_220) ?_
      show Steps p.tables e below (T380.setTop (mkF m 221 #[.val (.int g1), .val (.int g2), .val (.int g3), .val (.int sh), .val (.int cu), .val (.int de), .val (.int r1), .val (.int r2), .val (.int r3), .val (.int (3 : Int32)), .val (.ref b352), .val (.int md), .val (.int dd), .val (.int cut), .val (.int i407), .unset] [(.int (2 : Int32)), (.int (3 : Int32))])) _
      refine XS.icmpNo X380.here hx rfl (hb hby at_221) rfl (flt (by decide)).1 ?_
      show Steps p.tables e below (T380.setTop (mkF m 224 #[.val (.int g1), .val (.int g2), .val (.int g3), .val (.int sh), .val (.int cu), .val (.int de), .val (.int r1), .val (.int r2), .val (.int r3), .val (.int (3 : Int32)), .val (.ref b352), .val (.int md), .val (.int dd), .val (.int cut), .val (.int i407), .unset] [])) _
      refine XS.iload X380.here hx rfl (hb hby at_224) rfl ?_
      show Steps p.tables e below (T380.setTop (mkF m 226 #[.val (.int g1), .val (.int g2), .val (.int g3), .val (.int sh), .val (.int cu), .val (.int de), .val (.int r1), .val (.int r2), .val (.int r3), .val (.int (3 : Int32)), .val (.ref b352), .val (.int md), .val (.int dd), .val (.int cut), .val (.int i407), .unset] [(.int r2)])) _
      refine XS.iload X380.here hx rfl (hb hby at_226) rfl ?_
      exact k)
    obtain ⟨i411, hi411⟩ : ∃ z : Int32, z = (if cut < r2 then i407 else (i407 + (1 : Int32))) := ⟨_, rfl⟩
    have k412 : ∀ t, Steps p.tables e below (T380.setTop (mkF m 237 #[.val (.int g1), .val (.int g2), .val (.int g3), .val (.int sh), .val (.int cu), .val (.int de), .val (.int r1), .val (.int r2), .val (.int r3), .val (.int (3 : Int32)), .val (.ref b352), .val (.int md), .val (.int dd), .val (.int cut), .val (.int i411), .unset] [])) t → Steps p.tables e below (s₁.setTop (entryFrame m #[(.int g1), (.int g2), (.int g3), (.int sh), (.int cu), (.int de)] maxLocals)) t := fun t k => k409 t (by
      by_cases c410 : cut < r2
      · rw [if_pos c410] at hi411
        show Steps p.tables e below (T380.setTop (mkF m 228 #[.val (.int g1), .val (.int g2), .val (.int g3), .val (.int sh), .val (.int cu), .val (.int de), .val (.int r1), .val (.int r2), .val (.int r3), .val (.int (3 : Int32)), .val (.ref b352), .val (.int md), .val (.int dd), .val (.int cut), .val (.int i407), .unset] [(.int cut), (.int r2)])) _
        refine XS.icmpYes X380.here hx rfl (pc0 := 228) (pc' := 237) rfl (hb hby at_228) rfl (tlt c410).2.2.1 (by decide) (by decide) ?_
        show Steps p.tables e below (T380.setTop (mkF m 237 #[.val (.int g1), .val (.int g2), .val (.int g3), .val (.int sh), .val (.int cu), .val (.int de), .val (.int r1), .val (.int r2), .val (.int r3), .val (.int (3 : Int32)), .val (.ref b352), .val (.int md), .val (.int dd), .val (.int cut), .val (.int i407), .unset] [])) _
        exact castTop (by rw [hi411]) k
      · rw [if_neg c410] at hi411
        show Steps p.tables e below (T380.setTop (mkF m 228 #[.val (.int g1), .val (.int g2), .val (.int g3), .val (.int sh), .val (.int cu), .val (.int de), .val (.int r1), .val (.int r2), .val (.int r3), .val (.int (3 : Int32)), .val (.ref b352), .val (.int md), .val (.int dd), .val (.int cut), .val (.int i407), .unset] [(.int cut), (.int r2)])) _
        refine XS.icmpNo X380.here hx rfl (hb hby at_228) rfl (flt c410).2.2.1 ?_
        show Steps p.tables e below (T380.setTop (mkF m 231 #[.val (.int g1), .val (.int g2), .val (.int g3), .val (.int sh), .val (.int cu), .val (.int de), .val (.int r1), .val (.int r2), .val (.int r3), .val (.int (3 : Int32)), .val (.ref b352), .val (.int md), .val (.int dd), .val (.int cut), .val (.int i407), .unset] [])) _
        refine XS.iload X380.here hx rfl (hb hby at_231) rfl ?_
        show Steps p.tables e below (T380.setTop (mkF m 233 #[.val (.int g1), .val (.int g2), .val (.int g3), .val (.int sh), .val (.int cu), .val (.int de), .val (.int r1), .val (.int r2), .val (.int r3), .val (.int (3 : Int32)), .val (.ref b352), .val (.int md), .val (.int dd), .val (.int cut), .val (.int i407), .unset] [(.int i407)])) _
        refine XS.iconst X380.here hx rfl (hb hby at_233) ?_
        show Steps p.tables e below (T380.setTop (mkF m 234 #[.val (.int g1), .val (.int g2), .val (.int g3), .val (.int sh), .val (.int cu), .val (.int de), .val (.int r1), .val (.int r2), .val (.int r3), .val (.int (3 : Int32)), .val (.ref b352), .val (.int md), .val (.int dd), .val (.int cut), .val (.int i407), .unset] [(.int (1 : Int32)), (.int i407)])) _
        refine XS.iadd X380.here hx rfl (hb hby at_234) rfl ?_
        show Steps p.tables e below (T380.setTop (mkF m 235 #[.val (.int g1), .val (.int g2), .val (.int g3), .val (.int sh), .val (.int cu), .val (.int de), .val (.int r1), .val (.int r2), .val (.int r3), .val (.int (3 : Int32)), .val (.ref b352), .val (.int md), .val (.int dd), .val (.int cut), .val (.int i407), .unset] [(.int (i407 + (1 : Int32)))])) _
        refine XS.istore X380.here hx rfl (hb hby at_235) rfl (l' := #[.val (.int g1), .val (.int g2), .val (.int g3), .val (.int sh), .val (.int cu), .val (.int de), .val (.int r1), .val (.int r2), .val (.int r3), .val (.int (3 : Int32)), .val (.ref b352), .val (.int md), .val (.int dd), .val (.int cut), .val (.int (i407 + (1 : Int32))), .unset]) rfl ?_
        show Steps p.tables e below (T380.setTop (mkF m 237 #[.val (.int g1), .val (.int g2), .val (.int g3), .val (.int sh), .val (.int cu), .val (.int de), .val (.int r1), .val (.int r2), .val (.int r3), .val (.int (3 : Int32)), .val (.ref b352), .val (.int md), .val (.int dd), .val (.int cut), .val (.int (i407 + (1 : Int32))), .unset] [])) _
        exact castTop (by rw [hi411]) k)
    have k413 : ∀ t, Steps p.tables e below (T380.setTop (mkF m 247 #[.val (.int g1), .val (.int g2), .val (.int g3), .val (.int sh), .val (.int cu), .val (.int de), .val (.int r1), .val (.int r2), .val (.int r3), .val (.int (3 : Int32)), .val (.ref b352), .val (.int md), .val (.int dd), .val (.int cut), .val (.int i411), .unset] [(.int cut), (.int r3)])) t → Steps p.tables e below (s₁.setTop (entryFrame m #[(.int g1), (.int g2), (.int g3), (.int sh), (.int cu), (.int de)] maxLocals)) t := fun t k => k412 t (by
      show Steps p.tables e below (T380.setTop (mkF m 237 #[.val (.int g1), .val (.int g2), .val (.int g3), .val (.int sh), .val (.int cu), .val (.int de), .val (.int r1), .val (.int r2), .val (.int r3), .val (.int (3 : Int32)), .val (.ref b352), .val (.int md), .val (.int dd), .val (.int cut), .val (.int i411), .unset] [])) _
      refine XS.iload X380.here hx rfl (hb hby at_237) rfl ?_
      show Steps p.tables e below (T380.setTop (mkF m 239 #[.val (.int g1), .val (.int g2), .val (.int g3), .val (.int sh), .val (.int cu), .val (.int de), .val (.int r1), .val (.int r2), .val (.int r3), .val (.int (3 : Int32)), .val (.ref b352), .val (.int md), .val (.int dd), .val (.int cut), .val (.int i411), .unset] [(.int (3 : Int32))])) _
      refine XS.iconst X380.here hx rfl (hb hby at_239) ?_
      show Steps p.tables e below (T380.setTop (mkF m 240 #[.val (.int g1), .val (.int g2), .val (.int g3), .val (.int sh), .val (.int cu), .val (.int de), .val (.int r1), .val (.int r2), .val (.int r3), .val (.int (3 : Int32)), .val (.ref b352), .val (.int md), .val (.int dd), .val (.int cut), .val (.int i411), .unset] [(.int (3 : Int32)), (.int (3 : Int32))])) _
      refine XS.icmpNo X380.here hx rfl (hb hby at_240) rfl (flt (by decide)).1 ?_
      show Steps p.tables e below (T380.setTop (mkF m 243 #[.val (.int g1), .val (.int g2), .val (.int g3), .val (.int sh), .val (.int cu), .val (.int de), .val (.int r1), .val (.int r2), .val (.int r3), .val (.int (3 : Int32)), .val (.ref b352), .val (.int md), .val (.int dd), .val (.int cut), .val (.int i411), .unset] [])) _
      refine XS.iload X380.here hx rfl (hb hby at_243) rfl ?_
      show Steps p.tables e below (T380.setTop (mkF m 245 #[.val (.int g1), .val (.int g2), .val (.int g3), .val (.int sh), .val (.int cu), .val (.int de), .val (.int r1), .val (.int r2), .val (.int r3), .val (.int (3 : Int32)), .val (.ref b352), .val (.int md), .val (.int dd), .val (.int cut), .val (.int i411), .unset] [(.int r3)])) _
      refine XS.iload X380.here hx rfl (hb hby at_245) rfl ?_
      exact k)
    obtain ⟨i415, hi415⟩ : ∃ z : Int32, z = (if cut < r3 then i411 else (i411 + (1 : Int32))) := ⟨_, rfl⟩
    have k416 : ∀ t, Steps p.tables e below (T380.setTop (mkF m 256 #[.val (.int g1), .val (.int g2), .val (.int g3), .val (.int sh), .val (.int cu), .val (.int de), .val (.int r1), .val (.int r2), .val (.int r3), .val (.int (3 : Int32)), .val (.ref b352), .val (.int md), .val (.int dd), .val (.int cut), .val (.int i415), .unset] [])) t → Steps p.tables e below (s₁.setTop (entryFrame m #[(.int g1), (.int g2), (.int g3), (.int sh), (.int cu), (.int de)] maxLocals)) t := fun t k => k413 t (by
      by_cases c414 : cut < r3
      · rw [if_pos c414] at hi415
        show Steps p.tables e below (T380.setTop (mkF m 247 #[.val (.int g1), .val (.int g2), .val (.int g3), .val (.int sh), .val (.int cu), .val (.int de), .val (.int r1), .val (.int r2), .val (.int r3), .val (.int (3 : Int32)), .val (.ref b352), .val (.int md), .val (.int dd), .val (.int cut), .val (.int i411), .unset] [(.int cut), (.int r3)])) _
        refine XS.icmpYes X380.here hx rfl (pc0 := 247) (pc' := 256) rfl (hb hby at_247) rfl (tlt c414).2.2.1 (by decide) (by decide) ?_
        show Steps p.tables e below (T380.setTop (mkF m 256 #[.val (.int g1), .val (.int g2), .val (.int g3), .val (.int sh), .val (.int cu), .val (.int de), .val (.int r1), .val (.int r2), .val (.int r3), .val (.int (3 : Int32)), .val (.ref b352), .val (.int md), .val (.int dd), .val (.int cut), .val (.int i411), .unset] [])) _
        exact castTop (by rw [hi415]) k
      · rw [if_neg c414] at hi415
        show Steps p.tables e below (T380.setTop (mkF m 247 #[.val (.int g1), .val (.int g2), .val (.int g3), .val (.int sh), .val (.int cu), .val (.int de), .val (.int r1), .val (.int r2), .val (.int r3), .val (.int (3 : Int32)), .val (.ref b352), .val (.int md), .val (.int dd), .val (.int cut), .val (.int i411), .unset] [(.int cut), (.int r3)])) _
        refine XS.icmpNo X380.here hx rfl (hb hby at_247) rfl (flt c414).2.2.1 ?_
        show Steps p.tables e below (T380.setTop (mkF m 250 #[.val (.int g1), .val (.int g2), .val (.int g3), .val (.int sh), .val (.int cu), .val (.int de), .val (.int r1), .val (.int r2), .val (.int r3), .val (.int (3 : Int32)), .val (.ref b352), .val (.int md), .val (.int dd), .val (.int cut), .val (.int i411), .unset] [])) _
        refine XS.iload X380.here hx rfl (hb hby at_250) rfl ?_
        show Steps p.tables e below (T380.setTop (mkF m 252 #[.val (.int g1), .val (.int g2), .val (.int g3), .val (.int sh), .val (.int cu), .val (.int de), .val (.int r1), .val (.int r2), .val (.int r3), .val (.int (3 : Int32)), .val (.ref b352), .val (.int md), .val (.int dd), .val (.int cut), .val (.int i411), .unset] [(.int i411)])) _
        refine XS.iconst X380.here hx rfl (hb hby at_252) ?_
        show Steps p.tables e below (T380.setTop (mkF m 253 #[.val (.int g1), .val (.int g2), .val (.int g3), .val (.int sh), .val (.int cu), .val (.int de), .val (.int r1), .val (.int r2), .val (.int r3), .val (.int (3 : Int32)), .val (.ref b352), .val (.int md), .val (.int dd), .val (.int cut), .val (.int i411), .unset] [(.int (1 : Int32)), (.int i411)])) _
        refine XS.iadd X380.here hx rfl (hb hby at_253) rfl ?_
        show Steps p.tables e below (T380.setTop (mkF m 254 #[.val (.int g1), .val (.int g2), .val (.int g3), .val (.int sh), .val (.int cu), .val (.int de), .val (.int r1), .val (.int r2), .val (.int r3), .val (.int (3 : Int32)), .val (.ref b352), .val (.int md), .val (.int dd), .val (.int cut), .val (.int i411), .unset] [(.int (i411 + (1 : Int32)))])) _
        refine XS.istore X380.here hx rfl (hb hby at_254) rfl (l' := #[.val (.int g1), .val (.int g2), .val (.int g3), .val (.int sh), .val (.int cu), .val (.int de), .val (.int r1), .val (.int r2), .val (.int r3), .val (.int (3 : Int32)), .val (.ref b352), .val (.int md), .val (.int dd), .val (.int cut), .val (.int (i411 + (1 : Int32))), .unset]) rfl ?_
        show Steps p.tables e below (T380.setTop (mkF m 256 #[.val (.int g1), .val (.int g2), .val (.int g3), .val (.int sh), .val (.int cu), .val (.int de), .val (.int r1), .val (.int r2), .val (.int r3), .val (.int (3 : Int32)), .val (.ref b352), .val (.int md), .val (.int dd), .val (.int cut), .val (.int (i411 + (1 : Int32))), .unset] [])) _
        exact castTop (by rw [hi415]) k)
    obtain ⟨T417, h417, X417, e417, E417, A417, D417, -, st417⟩ := newO X380 hx hZ hown (hw _ (List.mem_of_getElem? (i := 7) rfl)) (hw _ (List.mem_of_getElem? (i := 8) rfl)) (hw _ (List.mem_of_getElem? (i := 9) rfl)) e380 (g := (mkF m 256 #[.val (.int g1), .val (.int g2), .val (.int g3), .val (.int sh), .val (.int cu), .val (.int de), .val (.int r1), .val (.int r2), .val (.int r3), .val (.int (3 : Int32)), .val (.ref b352), .val (.int md), .val (.int dd), .val (.int cut), .val (.int i415), .unset] [])) rfl (hb hby at_256) (by decide) (by decide)
    obtain ⟨b417, g417⟩ : ∃ z, z = h380.size := ⟨_, rfl⟩
    rw [← g417] at A417 D417 st417
    have n418 : b352 ≠ b417 := Nat.ne_of_lt (Nat.lt_of_lt_of_le F404.lt (Nat.le_of_eq g417.symm))
    have g419 : n0 ≤ b417 := Nat.le_trans Zq380 (Nat.le_of_eq g417.symm)
    have F420 := F404.ext E417
    have Z421 : n0 ≤ h417.size := Nat.le_trans Zq380 E417.1
    have hk422 : 0 ≤ h417.size := Nat.le_trans hkq380 E417.1
    have F423 : Fld Z h417 b417 "com/example/round2/round2/eval/TopicResult" "topic" "Ljava/lang/String;" .null := D417 (Or.inr (hw _ (List.mem_of_getElem? (i := 25) rfl))) (ty := (.object "java/lang/String")) (by decide)
    have F424 : Fld Z h417 b417 "com/example/round2/round2/eval/TopicResult" "retrieved" "I" (.int (0 : Int32)) := D417 (Or.inr (hw _ (List.mem_of_getElem? (i := 27) rfl))) (ty := .int) (by decide)
    have F425 : Fld Z h417 b417 "com/example/round2/round2/eval/TopicResult" "relevant" "I" (.int (0 : Int32)) := D417 (Or.inr (hw _ (List.mem_of_getElem? (i := 29) rfl))) (ty := .int) (by decide)
    have F426 : Fld Z h417 b417 "com/example/round2/round2/eval/TopicResult" "relevantRanks" "[I" .null := D417 (Or.inr (hw _ (List.mem_of_getElem? (i := 31) rfl))) (ty := (.array .int)) (by decide)
    have k427 : ∀ t, Steps p.tables e below (T417.setTop (mkF m 259 #[.val (.int g1), .val (.int g2), .val (.int g3), .val (.int sh), .val (.int cu), .val (.int de), .val (.int r1), .val (.int r2), .val (.int r3), .val (.int (3 : Int32)), .val (.ref b352), .val (.int md), .val (.int dd), .val (.int cut), .val (.int i415), .unset] [(.ref b417)])) t → Steps p.tables e below (s₁.setTop (entryFrame m #[(.int g1), (.int g2), (.int g3), (.int sh), (.int cu), (.int de)] maxLocals)) t := fun t k => k416 t (st417 t k)
    have k428 : ∀ t, Steps p.tables e below (T417.setTop (mkF m 260 #[.val (.int g1), .val (.int g2), .val (.int g3), .val (.int sh), .val (.int cu), .val (.int de), .val (.int r1), .val (.int r2), .val (.int r3), .val (.int (3 : Int32)), .val (.ref b352), .val (.int md), .val (.int dd), .val (.int cut), .val (.int i415), .unset] [(.ref b417), (.ref b417)])) t → Steps p.tables e below (s₁.setTop (entryFrame m #[(.int g1), (.int g2), (.int g3), (.int sh), (.int cu), (.int de)] maxLocals)) t := fun t k => k427 t (by
      show Steps p.tables e below (T417.setTop (mkF m 259 #[.val (.int g1), .val (.int g2), .val (.int g3), .val (.int sh), .val (.int cu), .val (.int de), .val (.int r1), .val (.int r2), .val (.int r3), .val (.int (3 : Int32)), .val (.ref b352), .val (.int md), .val (.int dd), .val (.int cut), .val (.int i415), .unset] [(.ref b417)])) _
      refine XS.dup X417.here hx rfl (hb hby at_259) rfl rfl ?_
      exact k)
    obtain ⟨b429, T429, h429, kk429, X429, e429, E429, hS429, hk429, hZ429, hown429, st429⟩ := ldcS (s := s) (vm0 := s.vm) X417 hx hZ hown (hw _ (List.mem_of_getElem? (i := 10) rfl)) (own_strAtoms hw) e417 hS0 hk422 (g := (mkF m 260 #[.val (.int g1), .val (.int g2), .val (.int g3), .val (.int sh), .val (.int cu), .val (.int de), .val (.int r1), .val (.int r2), .val (.int r3), .val (.int (3 : Int32)), .val (.ref b352), .val (.int md), .val (.int dd), .val (.int cut), .val (.int i415), .unset] [(.ref b417), (.ref b417)])) rfl (hb hby at_260) (n := 4) (by decide) (by decide) (by decide) (by decide)
    have F430 := F420.ext E429
    have F431 := A417.ext E429
    have F432 := F423.ext E429
    have F433 := F424.ext E429
    have F434 := F425.ext E429
    have F435 := F426.ext E429
    have Z436 : n0 ≤ h429.size := Nat.le_trans Z421 E429.1
    have k437 : ∀ t, Steps p.tables e below (T429.setTop (mkF m 262 #[.val (.int g1), .val (.int g2), .val (.int g3), .val (.int sh), .val (.int cu), .val (.int de), .val (.int r1), .val (.int r2), .val (.int r3), .val (.int (3 : Int32)), .val (.ref b352), .val (.int md), .val (.int dd), .val (.int cut), .val (.int i415), .unset] [(.ref b429), (.ref b417), (.ref b417)])) t → Steps p.tables e below (s₁.setTop (entryFrame m #[(.int g1), (.int g2), (.int g3), (.int sh), (.int cu), (.int de)] maxLocals)) t := fun t k => k428 t (st429 t k)
    have k438 : ∀ t, Steps p.tables e below (T429.setTop (mkF m 268 #[.val (.int g1), .val (.int g2), .val (.int g3), .val (.int sh), .val (.int cu), .val (.int de), .val (.int r1), .val (.int r2), .val (.int r3), .val (.int (3 : Int32)), .val (.ref b352), .val (.int md), .val (.int dd), .val (.int cut), .val (.int i415), .unset] [(.ref b352), (.int (3 : Int32)), (.int r3), (.ref b429), (.ref b417), (.ref b417)])) t → Steps p.tables e below (s₁.setTop (entryFrame m #[(.int g1), (.int g2), (.int g3), (.int sh), (.int cu), (.int de)] maxLocals)) t := fun t k => k437 t (by
      show Steps p.tables e below (T429.setTop (mkF m 262 #[.val (.int g1), .val (.int g2), .val (.int g3), .val (.int sh), .val (.int cu), .val (.int de), .val (.int r1), .val (.int r2), .val (.int r3), .val (.int (3 : Int32)), .val (.ref b352), .val (.int md), .val (.int dd), .val (.int cut), .val (.int i415), .unset] [(.ref b429), (.ref b417), (.ref b417)])) _
      refine XS.iload X429.here hx rfl (hb hby at_262) rfl ?_
      show Steps p.tables e below (T429.setTop (mkF m 264 #[.val (.int g1), .val (.int g2), .val (.int g3), .val (.int sh), .val (.int cu), .val (.int de), .val (.int r1), .val (.int r2), .val (.int r3), .val (.int (3 : Int32)), .val (.ref b352), .val (.int md), .val (.int dd), .val (.int cut), .val (.int i415), .unset] [(.int r3), (.ref b429), (.ref b417), (.ref b417)])) _
      refine XS.iload X429.here hx rfl (hb hby at_264) rfl ?_
      show Steps p.tables e below (T429.setTop (mkF m 266 #[.val (.int g1), .val (.int g2), .val (.int g3), .val (.int sh), .val (.int cu), .val (.int de), .val (.int r1), .val (.int r2), .val (.int r3), .val (.int (3 : Int32)), .val (.ref b352), .val (.int md), .val (.int dd), .val (.int cut), .val (.int i415), .unset] [(.int (3 : Int32)), (.int r3), (.ref b429), (.ref b417), (.ref b417)])) _
      refine XS.aload X429.here hx rfl (hb hby at_266) rfl rfl ?_
      exact k)
    obtain ⟨_, _, ⟨T439, L439, k439, n439⟩, -, X439, ⟨Lc439, hQ439, l439, y439, z439⟩, st439⟩ := X429.specialBack hx (y := (⟨"com/example/round2/round2/eval/TopicResult", "<init>", "(Ljava/lang/String;II[I)V"⟩ : MethodName)) rfl hown429 (mvT hZ429 (hw _ (List.mem_of_getElem? (i := 18) rfl))) (mvT hZ429 (hw _ (List.mem_of_getElem? (i := 19) rfl))) (mvT hZ429 (hw _ (List.mem_of_getElem? (i := 20) rfl))) (by decide) (backOf (W := 1) (rm2 l Z a0 hw [] b417 b429 r3 (3 : Int32) b352 h429 n0 Z436 F432 F433 F434 F435 F431 g419) hZ429 (hw _ (List.mem_of_getElem? (i := 20) rfl)) (hw _ (List.mem_of_getElem? (i := 9) rfl)) (by decide) (by decide)) (g := (mkF m 268 #[.val (.int g1), .val (.int g2), .val (.int g3), .val (.int sh), .val (.int cu), .val (.int de), .val (.int r1), .val (.int r2), .val (.int r3), .val (.int (3 : Int32)), .val (.ref b352), .val (.int md), .val (.int dd), .val (.int cut), .val (.int i415), .unset] [(.ref b352), (.int (3 : Int32)), (.int r3), (.ref b429), (.ref b417), (.ref b417)])) rfl (by rw [hml]; rfl) (Steps.refl _) (a := b417) (argsL := [(.ref b429), (.int r3), (.int (3 : Int32)), (.ref b352)]) (rest := [(.ref b417)]) (lenOf pd__28Ljava_2flang_2fString_3bII_5bI_29V rfl) rfl (by show 2 * 0 + _ ≤ _; exact Nat.le_of_eq rfl) (hb hby at_268) (fun _ _ => ⟨rfl, e429, (by decide : 4 + 0 ≤ _), (by decide : 15 + 0 ≤ _)⟩)
    dsimp only [Pt.U, Pt.locs, Pt.cells, Pt.slots] at X439 l439 y439 z439 st439 hQ439
    subst l439 y439 z439
    obtain ⟨h439, e439⟩ : ∃ h', T439.heap = h' := ⟨_, rfl⟩
    rw [e439] at hQ439
    obtain ⟨rfl, N439q, K439, G439a, G439b, G439c⟩ := hQ439
    have N440 := Fr.app N380 N439q
    have k441 : ∀ t, Steps p.tables e below (T439.setTop (mkF m 271 #[.val (.int g1), .val (.int g2), .val (.int g3), .val (.int sh), .val (.int cu), .val (.int de), .val (.int r1), .val (.int r2), .val (.int r3), .val (.int (3 : Int32)), .val (.ref b352), .val (.int md), .val (.int dd), .val (.int cut), .val (.int i415), .unset] [(.ref b417)])) t → Steps p.tables e below (s₁.setTop (entryFrame m #[(.int g1), (.int g2), (.int g3), (.int sh), (.int cu), (.int de)] maxLocals)) t := fun t k => k438 t (st439.trans k)
    have F442 := F430.keep K439 (ninS n418 nin0)
    have F443 := F431.keep K439
    have Z444 : n0 ≤ h439.size := Nat.le_trans Z436 K439.1
    have hk445 : kk429 ≤ h439.size := Nat.le_trans hk429 K439.1
    have k446 : ∀ t, Steps p.tables e below (T439.setTop (mkF m 277 #[.val (.int g1), .val (.int g2), .val (.int g3), .val (.int sh), .val (.int cu), .val (.int de), .val (.int r1), .val (.int r2), .val (.int r3), .val (.int (3 : Int32)), .val (.ref b352), .val (.int md), .val (.int dd), .val (.int cut), .val (.int i415), .val (.ref b417)] [(.int cut), (.ref b417)])) t → Steps p.tables e below (s₁.setTop (entryFrame m #[(.int g1), (.int g2), (.int g3), (.int sh), (.int cu), (.int de)] maxLocals)) t := fun t k => k441 t (by
      show Steps p.tables e below (T439.setTop (mkF m 271 #[.val (.int g1), .val (.int g2), .val (.int g3), .val (.int sh), .val (.int cu), .val (.int de), .val (.int r1), .val (.int r2), .val (.int r3), .val (.int (3 : Int32)), .val (.ref b352), .val (.int md), .val (.int dd), .val (.int cut), .val (.int i415), .unset] [(.ref b417)])) _
      refine XS.astore X439.here hx rfl (hb hby at_271) rfl rfl (l' := #[.val (.int g1), .val (.int g2), .val (.int g3), .val (.int sh), .val (.int cu), .val (.int de), .val (.int r1), .val (.int r2), .val (.int r3), .val (.int (3 : Int32)), .val (.ref b352), .val (.int md), .val (.int dd), .val (.int cut), .val (.int i415), .val (.ref b417)]) rfl ?_
      show Steps p.tables e below (T439.setTop (mkF m 273 #[.val (.int g1), .val (.int g2), .val (.int g3), .val (.int sh), .val (.int cu), .val (.int de), .val (.int r1), .val (.int r2), .val (.int r3), .val (.int (3 : Int32)), .val (.ref b352), .val (.int md), .val (.int dd), .val (.int cut), .val (.int i415), .val (.ref b417)] [])) _
      refine XS.aload X439.here hx rfl (hb hby at_273) rfl rfl ?_
      show Steps p.tables e below (T439.setTop (mkF m 275 #[.val (.int g1), .val (.int g2), .val (.int g3), .val (.int sh), .val (.int cu), .val (.int de), .val (.int r1), .val (.int r2), .val (.int r3), .val (.int (3 : Int32)), .val (.ref b352), .val (.int md), .val (.int dd), .val (.int cut), .val (.int i415), .val (.ref b417)] [(.ref b417)])) _
      refine XS.iload X439.here hx rfl (hb hby at_275) rfl ?_
      exact k)
    by_cases d0 : cut < r1
    · have d1 : cut < r2 := Int32.lt_iff_toInt_lt.mpr (by have := Int32.lt_iff_toInt_lt.mp d0; omega)
      have d2 : cut < r3 := Int32.lt_iff_toInt_lt.mpr (by have := Int32.lt_iff_toInt_lt.mp d1; omega)
      have hne : cut ≠ 0 := fun q => by rw [q, show (0 : Int32).toInt = 0 by decide] at hcut; omega
      obtain ⟨cq447, kq447, q447a, q447b, q447c⟩ := isOf hZ429 e439 G439a
      obtain ⟨_, _, ⟨T447, L447, k447, n447⟩, -, X447, ⟨Lc447, hQ447, l447, y447, z447⟩, st447⟩ := X439.virtualBack hx (y := (⟨"com/example/round2/round2/eval/TopicResult", "precisionAt", "(I)D"⟩ : MethodName)) (z := (⟨"com/example/round2/round2/eval/TopicResult", "precisionAt", "(I)D"⟩ : MethodName)) hown429 (mvT hZ429 (hw _ (List.mem_of_getElem? (i := 32) rfl))) (mvT hZ429 (hw _ (List.mem_of_getElem? (i := 33) rfl))) (notFace_of_selects (args := #[]) (mvT hZ429 (hw _ (List.mem_of_getElem? (i := 35) rfl)))) (mvT hZ429 (hw _ (List.mem_of_getElem? (i := 35) rfl))) (mvT hZ429 (hw _ (List.mem_of_getElem? (i := 34) rfl))) (by decide) (backOf (W := 0) (prec3_0 l Z a0 hw [] b417 cut b352 k352 r1 r2 r3 h439 n0 Z444 G439c F442 (own_ge1 hcut) (nn_div (no_fin (Jvm.FP.Core.i2d_fin _)) hne) d0) hZ429 (hw _ (List.mem_of_getElem? (i := 36) rfl)) (hw _ (List.mem_of_getElem? (i := 9) rfl)) (by decide) (by decide)) q447a q447c (g := (mkF m 277 #[.val (.int g1), .val (.int g2), .val (.int g3), .val (.int sh), .val (.int cu), .val (.int de), .val (.int r1), .val (.int r2), .val (.int r3), .val (.int (3 : Int32)), .val (.ref b352), .val (.int md), .val (.int dd), .val (.int cut), .val (.int i415), .val (.ref b417)] [(.int cut), (.ref b417)])) rfl (by rw [hml]; rfl) (Steps.refl _) (argsL := [(.int cut)]) (rest := []) (lenOf pd__28I_29D rfl) rfl (by show 2 * 0 + _ ≤ _; exact Nat.le_of_eq rfl) (hb hby at_277) (fun _ _ => ⟨rfl, e439, (by decide : 4 + 0 ≤ _), (by decide : 15 + 0 ≤ _)⟩)
      dsimp only [Pt.U, Pt.locs, Pt.cells, Pt.slots] at X447 l447 y447 z447 st447 hQ447
      subst l447 y447 z447
      obtain ⟨rfl, N447q, e447⟩ := hQ447
      have N448 := Fr.app N440 N447q
      have k449 : ∀ t, Steps p.tables e below (T447.setTop (mkF m 280 #[.val (.int g1), .val (.int g2), .val (.int g3), .val (.int sh), .val (.int cu), .val (.int de), .val (.int r1), .val (.int r2), .val (.int r3), .val (.int (3 : Int32)), .val (.ref b352), .val (.int md), .val (.int dd), .val (.int cut), .val (.int i415), .val (.ref b417)] [(.double (FP.ddiv (FP.i2d (0 : Int32)) (FP.i2d cut)))])) t → Steps p.tables e below (s₁.setTop (entryFrame m #[(.int g1), (.int g2), (.int g3), (.int sh), (.int cu), (.int de)] maxLocals)) t := fun t k => k446 t (st447.trans k)
      have hc : i415 = (0 : Int32) := by rw [hi415, if_pos d2, hi411, if_pos d1, hi407, if_pos d0]; first | done | rfl | decide
      obtain ⟨vc, hvc⟩ : ∃ z : UInt64, FP.i2d i415 = z := ⟨_, rfl⟩
      obtain ⟨vk, hvk⟩ : ∃ z : UInt64, FP.i2d cut = z := ⟨_, rfl⟩
      obtain ⟨want, hwant⟩ : ∃ z : UInt64, FP.ddiv vc vk = z := ⟨_, rfl⟩
      have nnw : Jvm.Free.Fl.NoNaN64 (FP.ddiv vc vk) := by rw [← hvc, ← hvk]; exact nn_div (no_fin (Jvm.FP.Core.i2d_fin _)) hne
      have hfin : cmpValue (FP.dcmp (FP.ddiv (FP.i2d (0 : Int32)) (FP.i2d cut)) want) .l = (0 : Int32) := by rw [← hwant, ← hvc, ← hvk, hc]; exact dcmpV_self (nn_div (no_fin (Jvm.FP.Core.i2d_fin _)) hne) .l
      have k450 : ∀ t, Steps p.tables e below (T447.setTop (mkF m 296 #[.val (.int g1), .val (.int g2), .val (.int g3), .val (.int sh), .val (.int cu), .val (.int de), .val (.int r1), .val (.int r2), .val (.int r3), .val (.int (3 : Int32)), .val (.ref b352), .val (.int md), .val (.int dd), .val (.int cut), .val (.int i415), .val (.ref b417)] [(.int (1 : Int32))])) t → Steps p.tables e below (s₁.setTop (entryFrame m #[(.int g1), (.int g2), (.int g3), (.int sh), (.int cu), (.int de)] maxLocals)) t := fun t k => k449 t (by
        show Steps p.tables e below (T447.setTop (mkF m 280 #[.val (.int g1), .val (.int g2), .val (.int g3), .val (.int sh), .val (.int cu), .val (.int de), .val (.int r1), .val (.int r2), .val (.int r3), .val (.int (3 : Int32)), .val (.ref b352), .val (.int md), .val (.int dd), .val (.int cut), .val (.int i415), .val (.ref b417)] [(.double (FP.ddiv (FP.i2d (0 : Int32)) (FP.i2d cut)))])) _
        refine XS.iload X447.here hx rfl (hb hby at_280) rfl ?_
        show Steps p.tables e below (T447.setTop (mkF m 282 #[.val (.int g1), .val (.int g2), .val (.int g3), .val (.int sh), .val (.int cu), .val (.int de), .val (.int r1), .val (.int r2), .val (.int r3), .val (.int (3 : Int32)), .val (.ref b352), .val (.int md), .val (.int dd), .val (.int cut), .val (.int i415), .val (.ref b417)] [(.int i415), (.double (FP.ddiv (FP.i2d (0 : Int32)) (FP.i2d cut)))])) _
        refine XS.i2dS X447.here hx rfl (hb hby at_282) rfl hvc ?_
        show Steps p.tables e below (T447.setTop (mkF m 283 #[.val (.int g1), .val (.int g2), .val (.int g3), .val (.int sh), .val (.int cu), .val (.int de), .val (.int r1), .val (.int r2), .val (.int r3), .val (.int (3 : Int32)), .val (.ref b352), .val (.int md), .val (.int dd), .val (.int cut), .val (.int i415), .val (.ref b417)] [(.double vc), (.double (FP.ddiv (FP.i2d (0 : Int32)) (FP.i2d cut)))])) _
        refine XS.iload X447.here hx rfl (hb hby at_283) rfl ?_
        show Steps p.tables e below (T447.setTop (mkF m 285 #[.val (.int g1), .val (.int g2), .val (.int g3), .val (.int sh), .val (.int cu), .val (.int de), .val (.int r1), .val (.int r2), .val (.int r3), .val (.int (3 : Int32)), .val (.ref b352), .val (.int md), .val (.int dd), .val (.int cut), .val (.int i415), .val (.ref b417)] [(.int cut), (.double vc), (.double (FP.ddiv (FP.i2d (0 : Int32)) (FP.i2d cut)))])) _
        refine XS.i2dS X447.here hx rfl (hb hby at_285) rfl hvk ?_
        show Steps p.tables e below (T447.setTop (mkF m 286 #[.val (.int g1), .val (.int g2), .val (.int g3), .val (.int sh), .val (.int cu), .val (.int de), .val (.int r1), .val (.int r2), .val (.int r3), .val (.int (3 : Int32)), .val (.ref b352), .val (.int md), .val (.int dd), .val (.int cut), .val (.int i415), .val (.ref b417)] [(.double vk), (.double vc), (.double (FP.ddiv (FP.i2d (0 : Int32)) (FP.i2d cut)))])) _
        refine XS.ddivS X447.here hx rfl (hb hby at_286) rfl (nnw) hwant ?_
        show Steps p.tables e below (T447.setTop (mkF m 287 #[.val (.int g1), .val (.int g2), .val (.int g3), .val (.int sh), .val (.int cu), .val (.int de), .val (.int r1), .val (.int r2), .val (.int r3), .val (.int (3 : Int32)), .val (.ref b352), .val (.int md), .val (.int dd), .val (.int cut), .val (.int i415), .val (.ref b417)] [(.double want), (.double (FP.ddiv (FP.i2d (0 : Int32)) (FP.i2d cut)))])) _
        refine XS.dcmpS X447.here hx rfl (hb hby at_287) rfl rfl ?_
        show Steps p.tables e below (T447.setTop (mkF m 288 #[.val (.int g1), .val (.int g2), .val (.int g3), .val (.int sh), .val (.int cu), .val (.int de), .val (.int r1), .val (.int r2), .val (.int r3), .val (.int (3 : Int32)), .val (.ref b352), .val (.int md), .val (.int dd), .val (.int cut), .val (.int i415), .val (.ref b417)] [(.int (cmpValue (FP.dcmp (FP.ddiv (FP.i2d (0 : Int32)) (FP.i2d cut)) want) .l))])) _
        refine XS.ifNo X447.here hx rfl (hb hby at_288) rfl ((if0 _ _).trans (teq hfin).2) ?_
        show Steps p.tables e below (T447.setTop (mkF m 291 #[.val (.int g1), .val (.int g2), .val (.int g3), .val (.int sh), .val (.int cu), .val (.int de), .val (.int r1), .val (.int r2), .val (.int r3), .val (.int (3 : Int32)), .val (.ref b352), .val (.int md), .val (.int dd), .val (.int cut), .val (.int i415), .val (.ref b417)] [])) _
        refine XS.iconst X447.here hx rfl (hb hby at_291) ?_
        show Steps p.tables e below (T447.setTop (mkF m 292 #[.val (.int g1), .val (.int g2), .val (.int g3), .val (.int sh), .val (.int cu), .val (.int de), .val (.int r1), .val (.int r2), .val (.int r3), .val (.int (3 : Int32)), .val (.ref b352), .val (.int md), .val (.int dd), .val (.int cut), .val (.int i415), .val (.ref b417)] [(.int (1 : Int32))])) _
        refine XS.goto X447.here hx rfl (pc0 := 292) (pc' := 296) rfl (hb hby at_292) (by decide) (by decide) ?_
        exact k)
      obtain ⟨fs, hr, hrun, hended, hRE⟩ := Stand.leaveW (s := s) (vm₁ := T429.vm) X447 hS429 (by rw [e447]; exact hk445) (v := some (.int (1 : Int32))) (fun h => by rw [Bd.returns] at h; cases h)
      refine ⟨_, _, k450 _ (retOut X447 hx (t := .boolean) Bd.returns rfl (Or.inl ⟨rfl, Or.inr (Or.inl rfl), _, rfl⟩) (hb hby at_296) hr), hrun, hended, _, _, rfl, ?_, hRE.1, hRE.2.1, hRE.2.2.1, hRE.2.2.2.mono (by decide) (by decide)⟩
      show Q_rm0 Z g1 g2 g3 sh cu de h0 n0 _ T447.heap _
      rw [e447]
      exact ⟨rfl, N448⟩
    · by_cases d1 : cut < r2
      · have d2 : cut < r3 := Int32.lt_iff_toInt_lt.mpr (by have := Int32.lt_iff_toInt_lt.mp d1; omega)
        have hne : cut ≠ 0 := fun q => by rw [q, show (0 : Int32).toInt = 0 by decide] at hcut; omega
        obtain ⟨cq451, kq451, q451a, q451b, q451c⟩ := isOf hZ429 e439 G439a
        obtain ⟨_, _, ⟨T451, L451, k451, n451⟩, -, X451, ⟨Lc451, hQ451, l451, y451, z451⟩, st451⟩ := X439.virtualBack hx (y := (⟨"com/example/round2/round2/eval/TopicResult", "precisionAt", "(I)D"⟩ : MethodName)) (z := (⟨"com/example/round2/round2/eval/TopicResult", "precisionAt", "(I)D"⟩ : MethodName)) hown429 (mvT hZ429 (hw _ (List.mem_of_getElem? (i := 32) rfl))) (mvT hZ429 (hw _ (List.mem_of_getElem? (i := 33) rfl))) (notFace_of_selects (args := #[]) (mvT hZ429 (hw _ (List.mem_of_getElem? (i := 35) rfl)))) (mvT hZ429 (hw _ (List.mem_of_getElem? (i := 35) rfl))) (mvT hZ429 (hw _ (List.mem_of_getElem? (i := 34) rfl))) (by decide) (backOf (W := 0) (prec3_1 l Z a0 hw [] b417 cut b352 k352 r1 r2 r3 h439 n0 Z444 G439c F442 (own_ge1 hcut) (nn_div (no_fin (Jvm.FP.Core.i2d_fin _)) hne) d0 d1) hZ429 (hw _ (List.mem_of_getElem? (i := 36) rfl)) (hw _ (List.mem_of_getElem? (i := 9) rfl)) (by decide) (by decide)) q451a q451c (g := (mkF m 277 #[.val (.int g1), .val (.int g2), .val (.int g3), .val (.int sh), .val (.int cu), .val (.int de), .val (.int r1), .val (.int r2), .val (.int r3), .val (.int (3 : Int32)), .val (.ref b352), .val (.int md), .val (.int dd), .val (.int cut), .val (.int i415), .val (.ref b417)] [(.int cut), (.ref b417)])) rfl (by rw [hml]; rfl) (Steps.refl _) (argsL := [(.int cut)]) (rest := []) (lenOf pd__28I_29D rfl) rfl (by show 2 * 0 + _ ≤ _; exact Nat.le_of_eq rfl) (hb hby at_277) (fun _ _ => ⟨rfl, e439, (by decide : 4 + 0 ≤ _), (by decide : 15 + 0 ≤ _)⟩)
        dsimp only [Pt.U, Pt.locs, Pt.cells, Pt.slots] at X451 l451 y451 z451 st451 hQ451
        subst l451 y451 z451
        obtain ⟨rfl, N451q, e451⟩ := hQ451
        have N452 := Fr.app N440 N451q
        have k453 : ∀ t, Steps p.tables e below (T451.setTop (mkF m 280 #[.val (.int g1), .val (.int g2), .val (.int g3), .val (.int sh), .val (.int cu), .val (.int de), .val (.int r1), .val (.int r2), .val (.int r3), .val (.int (3 : Int32)), .val (.ref b352), .val (.int md), .val (.int dd), .val (.int cut), .val (.int i415), .val (.ref b417)] [(.double (FP.ddiv (FP.i2d (1 : Int32)) (FP.i2d cut)))])) t → Steps p.tables e below (s₁.setTop (entryFrame m #[(.int g1), (.int g2), (.int g3), (.int sh), (.int cu), (.int de)] maxLocals)) t := fun t k => k446 t (st451.trans k)
        have hc : i415 = (1 : Int32) := by rw [hi415, if_pos d2, hi411, if_pos d1, hi407, if_neg d0]; first | done | rfl | decide
        obtain ⟨vc, hvc⟩ : ∃ z : UInt64, FP.i2d i415 = z := ⟨_, rfl⟩
        obtain ⟨vk, hvk⟩ : ∃ z : UInt64, FP.i2d cut = z := ⟨_, rfl⟩
        obtain ⟨want, hwant⟩ : ∃ z : UInt64, FP.ddiv vc vk = z := ⟨_, rfl⟩
        have nnw : Jvm.Free.Fl.NoNaN64 (FP.ddiv vc vk) := by rw [← hvc, ← hvk]; exact nn_div (no_fin (Jvm.FP.Core.i2d_fin _)) hne
        have hfin : cmpValue (FP.dcmp (FP.ddiv (FP.i2d (1 : Int32)) (FP.i2d cut)) want) .l = (0 : Int32) := by rw [← hwant, ← hvc, ← hvk, hc]; exact dcmpV_self (nn_div (no_fin (Jvm.FP.Core.i2d_fin _)) hne) .l
        have k454 : ∀ t, Steps p.tables e below (T451.setTop (mkF m 296 #[.val (.int g1), .val (.int g2), .val (.int g3), .val (.int sh), .val (.int cu), .val (.int de), .val (.int r1), .val (.int r2), .val (.int r3), .val (.int (3 : Int32)), .val (.ref b352), .val (.int md), .val (.int dd), .val (.int cut), .val (.int i415), .val (.ref b417)] [(.int (1 : Int32))])) t → Steps p.tables e below (s₁.setTop (entryFrame m #[(.int g1), (.int g2), (.int g3), (.int sh), (.int cu), (.int de)] maxLocals)) t := fun t k => k453 t (by
          show Steps p.tables e below (T451.setTop (mkF m 280 #[.val (.int g1), .val (.int g2), .val (.int g3), .val (.int sh), .val (.int cu), .val (.int de), .val (.int r1), .val (.int r2), .val (.int r3), .val (.int (3 : Int32)), .val (.ref b352), .val (.int md), .val (.int dd), .val (.int cut), .val (.int i415), .val (.ref b417)] [(.double (FP.ddiv (FP.i2d (1 : Int32)) (FP.i2d cut)))])) _
          refine XS.iload X451.here hx rfl (hb hby at_280) rfl ?_
          show Steps p.tables e below (T451.setTop (mkF m 282 #[.val (.int g1), .val (.int g2), .val (.int g3), .val (.int sh), .val (.int cu), .val (.int de), .val (.int r1), .val (.int r2), .val (.int r3), .val (.int (3 : Int32)), .val (.ref b352), .val (.int md), .val (.int dd), .val (.int cut), .val (.int i415), .val (.ref b417)] [(.int i415), (.double (FP.ddiv (FP.i2d (1 : Int32)) (FP.i2d cut)))])) _
          refine XS.i2dS X451.here hx rfl (hb hby at_282) rfl hvc ?_
          show Steps p.tables e below (T451.setTop (mkF m 283 #[.val (.int g1), .val (.int g2), .val (.int g3), .val (.int sh), .val (.int cu), .val (.int de), .val (.int r1), .val (.int r2), .val (.int r3), .val (.int (3 : Int32)), .val (.ref b352), .val (.int md), .val (.int dd), .val (.int cut), .val (.int i415), .val (.ref b417)] [(.double vc), (.double (FP.ddiv (FP.i2d (1 : Int32)) (FP.i2d cut)))])) _
          refine XS.iload X451.here hx rfl (hb hby at_283) rfl ?_
          show Steps p.tables e below (T451.setTop (mkF m 285 #[.val (.int g1), .val (.int g2), .val (.int g3), .val (.int sh), .val (.int cu), .val (.int de), .val (.int r1), .val (.int r2), .val (.int r3), .val (.int (3 : Int32)), .val (.ref b352), .val (.int md), .val (.int dd), .val (.int cut), .val (.int i415), .val (.ref b417)] [(.int cut), (.double vc), (.double (FP.ddiv (FP.i2d (1 : Int32)) (FP.i2d cut)))])) _
          refine XS.i2dS X451.here hx rfl (hb hby at_285) rfl hvk ?_
          show Steps p.tables e below (T451.setTop (mkF m 286 #[.val (.int g1), .val (.int g2), .val (.int g3), .val (.int sh), .val (.int cu), .val (.int de), .val (.int r1), .val (.int r2), .val (.int r3), .val (.int (3 : Int32)), .val (.ref b352), .val (.int md), .val (.int dd), .val (.int cut), .val (.int i415), .val (.ref b417)] [(.double vk), (.double vc), (.double (FP.ddiv (FP.i2d (1 : Int32)) (FP.i2d cut)))])) _
          refine XS.ddivS X451.here hx rfl (hb hby at_286) rfl (nnw) hwant ?_
          show Steps p.tables e below (T451.setTop (mkF m 287 #[.val (.int g1), .val (.int g2), .val (.int g3), .val (.int sh), .val (.int cu), .val (.int de), .val (.int r1), .val (.int r2), .val (.int r3), .val (.int (3 : Int32)), .val (.ref b352), .val (.int md), .val (.int dd), .val (.int cut), .val (.int i415), .val (.ref b417)] [(.double want), (.double (FP.ddiv (FP.i2d (1 : Int32)) (FP.i2d cut)))])) _
          refine XS.dcmpS X451.here hx rfl (hb hby at_287) rfl rfl ?_
          show Steps p.tables e below (T451.setTop (mkF m 288 #[.val (.int g1), .val (.int g2), .val (.int g3), .val (.int sh), .val (.int cu), .val (.int de), .val (.int r1), .val (.int r2), .val (.int r3), .val (.int (3 : Int32)), .val (.ref b352), .val (.int md), .val (.int dd), .val (.int cut), .val (.int i415), .val (.ref b417)] [(.int (cmpValue (FP.dcmp (FP.ddiv (FP.i2d (1 : Int32)) (FP.i2d cut)) want) .l))])) _
          refine XS.ifNo X451.here hx rfl (hb hby at_288) rfl ((if0 _ _).trans (teq hfin).2) ?_
          show Steps p.tables e below (T451.setTop (mkF m 291 #[.val (.int g1), .val (.int g2), .val (.int g3), .val (.int sh), .val (.int cu), .val (.int de), .val (.int r1), .val (.int r2), .val (.int r3), .val (.int (3 : Int32)), .val (.ref b352), .val (.int md), .val (.int dd), .val (.int cut), .val (.int i415), .val (.ref b417)] [])) _
          refine XS.iconst X451.here hx rfl (hb hby at_291) ?_
          show Steps p.tables e below (T451.setTop (mkF m 292 #[.val (.int g1), .val (.int g2), .val (.int g3), .val (.int sh), .val (.int cu), .val (.int de), .val (.int r1), .val (.int r2), .val (.int r3), .val (.int (3 : Int32)), .val (.ref b352), .val (.int md), .val (.int dd), .val (.int cut), .val (.int i415), .val (.ref b417)] [(.int (1 : Int32))])) _
          refine XS.goto X451.here hx rfl (pc0 := 292) (pc' := 296) rfl (hb hby at_292) (by decide) (by decide) ?_
          exact k)
        obtain ⟨fs, hr, hrun, hended, hRE⟩ := Stand.leaveW (s := s) (vm₁ := T429.vm) X451 hS429 (by rw [e451]; exact hk445) (v := some (.int (1 : Int32))) (fun h => by rw [Bd.returns] at h; cases h)
        refine ⟨_, _, k454 _ (retOut X451 hx (t := .boolean) Bd.returns rfl (Or.inl ⟨rfl, Or.inr (Or.inl rfl), _, rfl⟩) (hb hby at_296) hr), hrun, hended, _, _, rfl, ?_, hRE.1, hRE.2.1, hRE.2.2.1, hRE.2.2.2.mono (by decide) (by decide)⟩
        show Q_rm0 Z g1 g2 g3 sh cu de h0 n0 _ T451.heap _
        rw [e451]
        exact ⟨rfl, N452⟩
      · by_cases d2 : cut < r3
        · have hne : cut ≠ 0 := fun q => by rw [q, show (0 : Int32).toInt = 0 by decide] at hcut; omega
          obtain ⟨cq455, kq455, q455a, q455b, q455c⟩ := isOf hZ429 e439 G439a
          obtain ⟨_, _, ⟨T455, L455, k455, n455⟩, -, X455, ⟨Lc455, hQ455, l455, y455, z455⟩, st455⟩ := X439.virtualBack hx (y := (⟨"com/example/round2/round2/eval/TopicResult", "precisionAt", "(I)D"⟩ : MethodName)) (z := (⟨"com/example/round2/round2/eval/TopicResult", "precisionAt", "(I)D"⟩ : MethodName)) hown429 (mvT hZ429 (hw _ (List.mem_of_getElem? (i := 32) rfl))) (mvT hZ429 (hw _ (List.mem_of_getElem? (i := 33) rfl))) (notFace_of_selects (args := #[]) (mvT hZ429 (hw _ (List.mem_of_getElem? (i := 35) rfl)))) (mvT hZ429 (hw _ (List.mem_of_getElem? (i := 35) rfl))) (mvT hZ429 (hw _ (List.mem_of_getElem? (i := 34) rfl))) (by decide) (backOf (W := 0) (prec3_2 l Z a0 hw [] b417 cut b352 k352 r1 r2 r3 h439 n0 Z444 G439c F442 (own_ge1 hcut) (nn_div (no_fin (Jvm.FP.Core.i2d_fin _)) hne) d0 d1 d2) hZ429 (hw _ (List.mem_of_getElem? (i := 36) rfl)) (hw _ (List.mem_of_getElem? (i := 9) rfl)) (by decide) (by decide)) q455a q455c (g := (mkF m 277 #[.val (.int g1), .val (.int g2), .val (.int g3), .val (.int sh), .val (.int cu), .val (.int de), .val (.int r1), .val (.int r2), .val (.int r3), .val (.int (3 : Int32)), .val (.ref b352), .val (.int md), .val (.int dd), .val (.int cut), .val (.int i415), .val (.ref b417)] [(.int cut), (.ref b417)])) rfl (by rw [hml]; rfl) (Steps.refl _) (argsL := [(.int cut)]) (rest := []) (lenOf pd__28I_29D rfl) rfl (by show 2 * 0 + _ ≤ _; exact Nat.le_of_eq rfl) (hb hby at_277) (fun _ _ => ⟨rfl, e439, (by decide : 4 + 0 ≤ _), (by decide : 15 + 0 ≤ _)⟩)
          dsimp only [Pt.U, Pt.locs, Pt.cells, Pt.slots] at X455 l455 y455 z455 st455 hQ455
          subst l455 y455 z455
          obtain ⟨rfl, N455q, e455⟩ := hQ455
          have N456 := Fr.app N440 N455q
          have k457 : ∀ t, Steps p.tables e below (T455.setTop (mkF m 280 #[.val (.int g1), .val (.int g2), .val (.int g3), .val (.int sh), .val (.int cu), .val (.int de), .val (.int r1), .val (.int r2), .val (.int r3), .val (.int (3 : Int32)), .val (.ref b352), .val (.int md), .val (.int dd), .val (.int cut), .val (.int i415), .val (.ref b417)] [(.double (FP.ddiv (FP.i2d (2 : Int32)) (FP.i2d cut)))])) t → Steps p.tables e below (s₁.setTop (entryFrame m #[(.int g1), (.int g2), (.int g3), (.int sh), (.int cu), (.int de)] maxLocals)) t := fun t k => k446 t (st455.trans k)
          have hc : i415 = (2 : Int32) := by rw [hi415, if_pos d2, hi411, if_neg d1, hi407, if_neg d0]; first | done | rfl | decide
          obtain ⟨vc, hvc⟩ : ∃ z : UInt64, FP.i2d i415 = z := ⟨_, rfl⟩
          obtain ⟨vk, hvk⟩ : ∃ z : UInt64, FP.i2d cut = z := ⟨_, rfl⟩
          obtain ⟨want, hwant⟩ : ∃ z : UInt64, FP.ddiv vc vk = z := ⟨_, rfl⟩
          have nnw : Jvm.Free.Fl.NoNaN64 (FP.ddiv vc vk) := by rw [← hvc, ← hvk]; exact nn_div (no_fin (Jvm.FP.Core.i2d_fin _)) hne
          have hfin : cmpValue (FP.dcmp (FP.ddiv (FP.i2d (2 : Int32)) (FP.i2d cut)) want) .l = (0 : Int32) := by rw [← hwant, ← hvc, ← hvk, hc]; exact dcmpV_self (nn_div (no_fin (Jvm.FP.Core.i2d_fin _)) hne) .l
          have k458 : ∀ t, Steps p.tables e below (T455.setTop (mkF m 296 #[.val (.int g1), .val (.int g2), .val (.int g3), .val (.int sh), .val (.int cu), .val (.int de), .val (.int r1), .val (.int r2), .val (.int r3), .val (.int (3 : Int32)), .val (.ref b352), .val (.int md), .val (.int dd), .val (.int cut), .val (.int i415), .val (.ref b417)] [(.int (1 : Int32))])) t → Steps p.tables e below (s₁.setTop (entryFrame m #[(.int g1), (.int g2), (.int g3), (.int sh), (.int cu), (.int de)] maxLocals)) t := fun t k => k457 t (by
            show Steps p.tables e below (T455.setTop (mkF m 280 #[.val (.int g1), .val (.int g2), .val (.int g3), .val (.int sh), .val (.int cu), .val (.int de), .val (.int r1), .val (.int r2), .val (.int r3), .val (.int (3 : Int32)), .val (.ref b352), .val (.int md), .val (.int dd), .val (.int cut), .val (.int i415), .val (.ref b417)] [(.double (FP.ddiv (FP.i2d (2 : Int32)) (FP.i2d cut)))])) _
            refine XS.iload X455.here hx rfl (hb hby at_280) rfl ?_
            show Steps p.tables e below (T455.setTop (mkF m 282 #[.val (.int g1), .val (.int g2), .val (.int g3), .val (.int sh), .val (.int cu), .val (.int de), .val (.int r1), .val (.int r2), .val (.int r3), .val (.int (3 : Int32)), .val (.ref b352), .val (.int md), .val (.int dd), .val (.int cut), .val (.int i415), .val (.ref b417)] [(.int i415), (.double (FP.ddiv (FP.i2d (2 : Int32)) (FP.i2d cut)))])) _
            refine XS.i2dS X455.here hx rfl (hb hby at_282) rfl hvc ?_
            show Steps p.tables e below (T455.setTop (mkF m 283 #[.val (.int g1), .val (.int g2), .val (.int g3), .val (.int sh), .val (.int cu), .val (.int de), .val (.int r1), .val (.int r2), .val (.int r3), .val (.int (3 : Int32)), .val (.ref b352), .val (.int md), .val (.int dd), .val (.int cut), .val (.int i415), .val (.ref b417)] [(.double vc), (.double (FP.ddiv (FP.i2d (2 : Int32)) (FP.i2d cut)))])) _
            refine XS.iload X455.here hx rfl (hb hby at_283) rfl ?_
            show Steps p.tables e below (T455.setTop (mkF m 285 #[.val (.int g1), .val (.int g2), .val (.int g3), .val (.int sh), .val (.int cu), .val (.int de), .val (.int r1), .val (.int r2), .val (.int r3), .val (.int (3 : Int32)), .val (.ref b352), .val (.int md), .val (.int dd), .val (.int cut), .val (.int i415), .val (.ref b417)] [(.int cut), (.double vc), (.double (FP.ddiv (FP.i2d (2 : Int32)) (FP.i2d cut)))])) _
            refine XS.i2dS X455.here hx rfl (hb hby at_285) rfl hvk ?_
            show Steps p.tables e below (T455.setTop (mkF m 286 #[.val (.int g1), .val (.int g2), .val (.int g3), .val (.int sh), .val (.int cu), .val (.int de), .val (.int r1), .val (.int r2), .val (.int r3), .val (.int (3 : Int32)), .val (.ref b352), .val (.int md), .val (.int dd), .val (.int cut), .val (.int i415), .val (.ref b417)] [(.double vk), (.double vc), (.double (FP.ddiv (FP.i2d (2 : Int32)) (FP.i2d cut)))])) _
            refine XS.ddivS X455.here hx rfl (hb hby at_286) rfl (nnw) hwant ?_
            show Steps p.tables e below (T455.setTop (mkF m 287 #[.val (.int g1), .val (.int g2), .val (.int g3), .val (.int sh), .val (.int cu), .val (.int de), .val (.int r1), .val (.int r2), .val (.int r3), .val (.int (3 : Int32)), .val (.ref b352), .val (.int md), .val (.int dd), .val (.int cut), .val (.int i415), .val (.ref b417)] [(.double want), (.double (FP.ddiv (FP.i2d (2 : Int32)) (FP.i2d cut)))])) _
            refine XS.dcmpS X455.here hx rfl (hb hby at_287) rfl rfl ?_
            show Steps p.tables e below (T455.setTop (mkF m 288 #[.val (.int g1), .val (.int g2), .val (.int g3), .val (.int sh), .val (.int cu), .val (.int de), .val (.int r1), .val (.int r2), .val (.int r3), .val (.int (3 : Int32)), .val (.ref b352), .val (.int md), .val (.int dd), .val (.int cut), .val (.int i415), .val (.ref b417)] [(.int (cmpValue (FP.dcmp (FP.ddiv (FP.i2d (2 : Int32)) (FP.i2d cut)) want) .l))])) _
            refine XS.ifNo X455.here hx rfl (hb hby at_288) rfl ((if0 _ _).trans (teq hfin).2) ?_
            show Steps p.tables e below (T455.setTop (mkF m 291 #[.val (.int g1), .val (.int g2), .val (.int g3), .val (.int sh), .val (.int cu), .val (.int de), .val (.int r1), .val (.int r2), .val (.int r3), .val (.int (3 : Int32)), .val (.ref b352), .val (.int md), .val (.int dd), .val (.int cut), .val (.int i415), .val (.ref b417)] [])) _
            refine XS.iconst X455.here hx rfl (hb hby at_291) ?_
            show Steps p.tables e below (T455.setTop (mkF m 292 #[.val (.int g1), .val (.int g2), .val (.int g3), .val (.int sh), .val (.int cu), .val (.int de), .val (.int r1), .val (.int r2), .val (.int r3), .val (.int (3 : Int32)), .val (.ref b352), .val (.int md), .val (.int dd), .val (.int cut), .val (.int i415), .val (.ref b417)] [(.int (1 : Int32))])) _
            refine XS.goto X455.here hx rfl (pc0 := 292) (pc' := 296) rfl (hb hby at_292) (by decide) (by decide) ?_
            exact k)
          obtain ⟨fs, hr, hrun, hended, hRE⟩ := Stand.leaveW (s := s) (vm₁ := T429.vm) X455 hS429 (by rw [e455]; exact hk445) (v := some (.int (1 : Int32))) (fun h => by rw [Bd.returns] at h; cases h)
          refine ⟨_, _, k458 _ (retOut X455 hx (t := .boolean) Bd.returns rfl (Or.inl ⟨rfl, Or.inr (Or.inl rfl), _, rfl⟩) (hb hby at_296) hr), hrun, hended, _, _, rfl, ?_, hRE.1, hRE.2.1, hRE.2.2.1, hRE.2.2.2.mono (by decide) (by decide)⟩
          show Q_rm0 Z g1 g2 g3 sh cu de h0 n0 _ T455.heap _
          rw [e455]
          exact ⟨rfl, N456⟩
        · have hne : cut ≠ 0 := fun q => by rw [q, show (0 : Int32).toInt = 0 by decide] at hcut; omega
          obtain ⟨cq459, kq459, q459a, q459b, q459c⟩ := isOf hZ429 e439 G439a
          obtain ⟨_, _, ⟨T459, L459, k459, n459⟩, -, X459, ⟨Lc459, hQ459, l459, y459, z459⟩, st459⟩ := X439.virtualBack hx (y := (⟨"com/example/round2/round2/eval/TopicResult", "precisionAt", "(I)D"⟩ : MethodName)) (z := (⟨"com/example/round2/round2/eval/TopicResult", "precisionAt", "(I)D"⟩ : MethodName)) hown429 (mvT hZ429 (hw _ (List.mem_of_getElem? (i := 32) rfl))) (mvT hZ429 (hw _ (List.mem_of_getElem? (i := 33) rfl))) (notFace_of_selects (args := #[]) (mvT hZ429 (hw _ (List.mem_of_getElem? (i := 35) rfl)))) (mvT hZ429 (hw _ (List.mem_of_getElem? (i := 35) rfl))) (mvT hZ429 (hw _ (List.mem_of_getElem? (i := 34) rfl))) (by decide) (backOf (W := 0) (prec3_3 l Z a0 hw [] b417 cut b352 k352 r1 r2 r3 h439 n0 Z444 G439c F442 (own_ge1 hcut) (nn_div (no_fin (Jvm.FP.Core.i2d_fin _)) hne) d0 d1 d2) hZ429 (hw _ (List.mem_of_getElem? (i := 36) rfl)) (hw _ (List.mem_of_getElem? (i := 9) rfl)) (by decide) (by decide)) q459a q459c (g := (mkF m 277 #[.val (.int g1), .val (.int g2), .val (.int g3), .val (.int sh), .val (.int cu), .val (.int de), .val (.int r1), .val (.int r2), .val (.int r3), .val (.int (3 : Int32)), .val (.ref b352), .val (.int md), .val (.int dd), .val (.int cut), .val (.int i415), .val (.ref b417)] [(.int cut), (.ref b417)])) rfl (by rw [hml]; rfl) (Steps.refl _) (argsL := [(.int cut)]) (rest := []) (lenOf pd__28I_29D rfl) rfl (by show 2 * 0 + _ ≤ _; exact Nat.le_of_eq rfl) (hb hby at_277) (fun _ _ => ⟨rfl, e439, (by decide : 4 + 0 ≤ _), (by decide : 15 + 0 ≤ _)⟩)
          dsimp only [Pt.U, Pt.locs, Pt.cells, Pt.slots] at X459 l459 y459 z459 st459 hQ459
          subst l459 y459 z459
          obtain ⟨rfl, N459q, e459⟩ := hQ459
          have N460 := Fr.app N440 N459q
          have k461 : ∀ t, Steps p.tables e below (T459.setTop (mkF m 280 #[.val (.int g1), .val (.int g2), .val (.int g3), .val (.int sh), .val (.int cu), .val (.int de), .val (.int r1), .val (.int r2), .val (.int r3), .val (.int (3 : Int32)), .val (.ref b352), .val (.int md), .val (.int dd), .val (.int cut), .val (.int i415), .val (.ref b417)] [(.double (FP.ddiv (FP.i2d (3 : Int32)) (FP.i2d cut)))])) t → Steps p.tables e below (s₁.setTop (entryFrame m #[(.int g1), (.int g2), (.int g3), (.int sh), (.int cu), (.int de)] maxLocals)) t := fun t k => k446 t (st459.trans k)
          have hc : i415 = (3 : Int32) := by rw [hi415, if_neg d2, hi411, if_neg d1, hi407, if_neg d0]; first | done | rfl | decide
          obtain ⟨vc, hvc⟩ : ∃ z : UInt64, FP.i2d i415 = z := ⟨_, rfl⟩
          obtain ⟨vk, hvk⟩ : ∃ z : UInt64, FP.i2d cut = z := ⟨_, rfl⟩
          obtain ⟨want, hwant⟩ : ∃ z : UInt64, FP.ddiv vc vk = z := ⟨_, rfl⟩
          have nnw : Jvm.Free.Fl.NoNaN64 (FP.ddiv vc vk) := by rw [← hvc, ← hvk]; exact nn_div (no_fin (Jvm.FP.Core.i2d_fin _)) hne
          have hfin : cmpValue (FP.dcmp (FP.ddiv (FP.i2d (3 : Int32)) (FP.i2d cut)) want) .l = (0 : Int32) := by rw [← hwant, ← hvc, ← hvk, hc]; exact dcmpV_self (nn_div (no_fin (Jvm.FP.Core.i2d_fin _)) hne) .l
          have k462 : ∀ t, Steps p.tables e below (T459.setTop (mkF m 296 #[.val (.int g1), .val (.int g2), .val (.int g3), .val (.int sh), .val (.int cu), .val (.int de), .val (.int r1), .val (.int r2), .val (.int r3), .val (.int (3 : Int32)), .val (.ref b352), .val (.int md), .val (.int dd), .val (.int cut), .val (.int i415), .val (.ref b417)] [(.int (1 : Int32))])) t → Steps p.tables e below (s₁.setTop (entryFrame m #[(.int g1), (.int g2), (.int g3), (.int sh), (.int cu), (.int de)] maxLocals)) t := fun t k => k461 t (by
            show Steps p.tables e below (T459.setTop (mkF m 280 #[.val (.int g1), .val (.int g2), .val (.int g3), .val (.int sh), .val (.int cu), .val (.int de), .val (.int r1), .val (.int r2), .val (.int r3), .val (.int (3 : Int32)), .val (.ref b352), .val (.int md), .val (.int dd), .val (.int cut), .val (.int i415), .val (.ref b417)] [(.double (FP.ddiv (FP.i2d (3 : Int32)) (FP.i2d cut)))])) _
            refine XS.iload X459.here hx rfl (hb hby at_280) rfl ?_
            show Steps p.tables e below (T459.setTop (mkF m 282 #[.val (.int g1), .val (.int g2), .val (.int g3), .val (.int sh), .val (.int cu), .val (.int de), .val (.int r1), .val (.int r2), .val (.int r3), .val (.int (3 : Int32)), .val (.ref b352), .val (.int md), .val (.int dd), .val (.int cut), .val (.int i415), .val (.ref b417)] [(.int i415), (.double (FP.ddiv (FP.i2d (3 : Int32)) (FP.i2d cut)))])) _
            refine XS.i2dS X459.here hx rfl (hb hby at_282) rfl hvc ?_
            show Steps p.tables e below (T459.setTop (mkF m 283 #[.val (.int g1), .val (.int g2), .val (.int g3), .val (.int sh), .val (.int cu), .val (.int de), .val (.int r1), .val (.int r2), .val (.int r3), .val (.int (3 : Int32)), .val (.ref b352), .val (.int md), .val (.int dd), .val (.int cut), .val (.int i415), .val (.ref b417)] [(.double vc), (.double (FP.ddiv (FP.i2d (3 : Int32)) (FP.i2d cut)))])) _
            refine XS.iload X459.here hx rfl (hb hby at_283) rfl ?_
            show Steps p.tables e below (T459.setTop (mkF m 285 #[.val (.int g1), .val (.int g2), .val (.int g3), .val (.int sh), .val (.int cu), .val (.int de), .val (.int r1), .val (.int r2), .val (.int r3), .val (.int (3 : Int32)), .val (.ref b352), .val (.int md), .val (.int dd), .val (.int cut), .val (.int i415), .val (.ref b417)] [(.int cut), (.double vc), (.double (FP.ddiv (FP.i2d (3 : Int32)) (FP.i2d cut)))])) _
            refine XS.i2dS X459.here hx rfl (hb hby at_285) rfl hvk ?_
            show Steps p.tables e below (T459.setTop (mkF m 286 #[.val (.int g1), .val (.int g2), .val (.int g3), .val (.int sh), .val (.int cu), .val (.int de), .val (.int r1), .val (.int r2), .val (.int r3), .val (.int (3 : Int32)), .val (.ref b352), .val (.int md), .val (.int dd), .val (.int cut), .val (.int i415), .val (.ref b417)] [(.double vk), (.double vc), (.double (FP.ddiv (FP.i2d (3 : Int32)) (FP.i2d cut)))])) _
            refine XS.ddivS X459.here hx rfl (hb hby at_286) rfl (nnw) hwant ?_
            show Steps p.tables e below (T459.setTop (mkF m 287 #[.val (.int g1), .val (.int g2), .val (.int g3), .val (.int sh), .val (.int cu), .val (.int de), .val (.int r1), .val (.int r2), .val (.int r3), .val (.int (3 : Int32)), .val (.ref b352), .val (.int md), .val (.int dd), .val (.int cut), .val (.int i415), .val (.ref b417)] [(.double want), (.double (FP.ddiv (FP.i2d (3 : Int32)) (FP.i2d cut)))])) _
            refine XS.dcmpS X459.here hx rfl (hb hby at_287) rfl rfl ?_
            show Steps p.tables e below (T459.setTop (mkF m 288 #[.val (.int g1), .val (.int g2), .val (.int g3), .val (.int sh), .val (.int cu), .val (.int de), .val (.int r1), .val (.int r2), .val (.int r3), .val (.int (3 : Int32)), .val (.ref b352), .val (.int md), .val (.int dd), .val (.int cut), .val (.int i415), .val (.ref b417)] [(.int (cmpValue (FP.dcmp (FP.ddiv (FP.i2d (3 : Int32)) (FP.i2d cut)) want) .l))])) _
            refine XS.ifNo X459.here hx rfl (hb hby at_288) rfl ((if0 _ _).trans (teq hfin).2) ?_
            show Steps p.tables e below (T459.setTop (mkF m 291 #[.val (.int g1), .val (.int g2), .val (.int g3), .val (.int sh), .val (.int cu), .val (.int de), .val (.int r1), .val (.int r2), .val (.int r3), .val (.int (3 : Int32)), .val (.ref b352), .val (.int md), .val (.int dd), .val (.int cut), .val (.int i415), .val (.ref b417)] [])) _
            refine XS.iconst X459.here hx rfl (hb hby at_291) ?_
            show Steps p.tables e below (T459.setTop (mkF m 292 #[.val (.int g1), .val (.int g2), .val (.int g3), .val (.int sh), .val (.int cu), .val (.int de), .val (.int r1), .val (.int r2), .val (.int r3), .val (.int (3 : Int32)), .val (.ref b352), .val (.int md), .val (.int dd), .val (.int cut), .val (.int i415), .val (.ref b417)] [(.int (1 : Int32))])) _
            refine XS.goto X459.here hx rfl (pc0 := 292) (pc' := 296) rfl (hb hby at_292) (by decide) (by decide) ?_
            exact k)
          obtain ⟨fs, hr, hrun, hended, hRE⟩ := Stand.leaveW (s := s) (vm₁ := T429.vm) X459 hS429 (by rw [e459]; exact hk445) (v := some (.int (1 : Int32))) (fun h => by rw [Bd.returns] at h; cases h)
          refine ⟨_, _, k462 _ (retOut X459 hx (t := .boolean) Bd.returns rfl (Or.inl ⟨rfl, Or.inr (Or.inl rfl), _, rfl⟩) (hb hby at_296) hr), hrun, hended, _, _, rfl, ?_, hRE.1, hRE.2.1, hRE.2.2.1, hRE.2.2.2.mono (by decide) (by decide)⟩
          show Q_rm0 Z g1 g2 g3 sh cu de h0 n0 _ T459.heap _
          rw [e459]
          exact ⟨rfl, N460⟩
set_option maxRecDepth 65536 in
set_option maxHeartbeats 40000000 in
theorem comes_1 {Post : Tables → Env → Array Value → State → Outcome → State → Prop} (hpost : ∀ tb e args s v u, (limb_1_1.after args s (.returned v) u = true ∧ limb_1_2.after args s (.returned v) u = true ∧ True) → ReturnedEndW s (.returned v) u (Jvm.fieldLocs frame_1_writes args s ++ Jvm.arrayLocs frame_1_arrays args s ++ Jvm.staticLocs frame_1_statics s) 16 1152 → Post tb e args s (.returned v) u) :
    ArmFor flags0 classFile x code maxLocals ret World_1 tables_1 room_1 Calls_1 rest_1 Pre_1 Post := by
  intro l hfl _ _ p e ha hc hk s m args below hf hA hF happ hP
  obtain ⟨hcalls, hrest, hpre⟩ := hP
  obtain ⟨-, -, -, hnamed, -, -, -, hat⟩ := (Spec.applies_iff hf).mp happ
  obtain ⟨hg, hn⟩ := and_e (Cond.before_iff.mp (show (Jvm.Cond.and given_1 narrow_1).before args s = true from hpre))
  obtain ⟨g1, g2⟩ := and_e hg
  obtain ⟨g3, g4⟩ := and_e g2
  obtain ⟨g5, g6⟩ := and_e g4
  obtain ⟨g7, g8⟩ := and_e g6
  obtain ⟨g9, g10⟩ := and_e g8
  obtain ⟨g11, g12⟩ := and_e g10
  obtain ⟨w0, w1, w2, w3, w4, w5, rfl⟩ : ∃ w0 w1 w2 w3 w4 w5 : Value, args = #[w0, w1, w2, w3, w4, w5] := by
    have hs : args.size = 6 := by simpa [Cond.value, given_1] using g1
    obtain ⟨L⟩ := args
    match L, hs with
    | [w0, w1, w2, w3, w4, w5], _ => exact ⟨w0, w1, w2, w3, w4, w5, rfl⟩
  have hw := fun d (hd : d ∈ tables_1) => atoms_spec (ws := Jvm.Cond.code x code maxLocals ret :: tables_1) hat d (List.mem_cons_of_mem _ hd)
  obtain ⟨i0, ei0⟩ := is_v g3
  obtain rfl : w0 = (.int i0) := Option.some.inj ei0
  obtain ⟨i1, ei1⟩ := is_v g5
  obtain rfl : w1 = (.int i1) := Option.some.inj ei1
  obtain ⟨i2, ei2⟩ := is_v g7
  obtain rfl : w2 = (.int i2) := Option.some.inj ei2
  obtain ⟨i3, ei3⟩ := is_v g9
  obtain rfl : w3 = (.int i3) := Option.some.inj ei3
  obtain ⟨i4, ei4⟩ := is_v g11
  obtain rfl : w4 = (.int i4) := Option.some.inj ei4
  obtain ⟨i5, ei5⟩ := is_v g12
  obtain rfl : w5 = (.int i5) := Option.some.inj ei5
  obtain ⟨n, o, h1, h2, h3, _, L, rfl, ⟨rfl, N⟩, hq⟩ := rm0 l s _ hw tables_1 i0 i1 i2 i3 i4 i5 s.heap s.heap.size (Nat.le_refl _) p e ha hc hk s m _ below hf ((Spec.applies_iff_loose hf).mp happ).1 ⟨rfl, State.Warmed39.refl s, rfl⟩ trivial
  refine ⟨n, _, h1, h2, h3, hpost _ _ _ _ _ _ ⟨Cond.after_iff.mpr rfl, Cond.after_iff.mpr (eq_i res_at (Term.int_eval (1)) rfl), trivial⟩ ⟨hq.1, hq.2.1, hq.2.2.1, (hq.2.2.2.sift fun y hy => Or.inr (N y hy)).mono (by decide) (by decide)⟩⟩
theorem main_1_1 : Claimed_1_1 := comes_1 fun _ _ _ _ _ _ h hF => ⟨h.1, hF⟩
theorem main_1_2 : Claimed_1_2 := comes_1 fun _ _ _ _ _ _ h hF => ⟨h.2.1, hF⟩
end Jvm.Pilot.@@N@@
namespace Jvm.Pilot.@@N@@
open Jvm Jvm.ClassFile Sem Op Lib Jvm.Free Jvm.Stand Jvm.Pilot.@@N@@.Jvm.D
/-! MADE BY PROGRAM (witnessworld.py) out of the Statement's table words and the real class files: 15 classes; the members and pool entries that the words name. The judged class is class 1, her method 1. -/
namespace start1
open Jvm.ClassFile
def u (s : String) : CpInfo := .utf8 (stringToUtf16 s)
/-- a pool by its gaps: so many unusable entries, then the entry; so many at the end -/
def gap : Nat → List CpInfo → List CpInfo
  | 0, r => r
  | n + 1, r => .unusable :: gap n r
def poolList (es : List (Nat × CpInfo)) (last : Nat) : List CpInfo := es.foldr (fun e r => gap e.1 (e.2 :: r)) (gap last [])
def pool (es : List (Nat × CpInfo)) (last : Nat) : Array CpInfo := ⟨poolList es last⟩
def fileOf (pool : Array CpInfo) (this : Nat) (attrs : Array Attribute := #[]) (ms : Array MethodInfo := #[]) (fl : Nat := 33) (sup : Nat := 0) (ifs : Array Nat := #[]) (fds : Array FieldInfo := #[]) : ClassFile where
  minorVersion := 0
  majorVersion := 65
  constantPool := pool
  accessFlags := fl
  thisClass := this
  superClass := sup
  interfaces := ifs
  fields := fds
  methods := ms
  attributes := attrs
def plain (name : String) (sup : Option ClassId) : Class where
  name := name
  kind := .ordinary
  loader := none
  accessFlags := 33
  super := sup
  interfaces := #[]
  cf := none
  fields := #[]
  methods := #[]
  instanceTypes := #[]
  staticTypes := #[]
  resolved := #[]
  callSites := []
  init := .initialized
  statics := none
  mirror := none

def pool0 : Array CpInfo := pool [(5, u "<init>"), (0, u "()V"), (1, .class_ 10), (1, u "java/lang/Object")] 113

def k0c0 : Code := { maxStack := 0, maxLocals := 1, code := object_method_1_code, exceptionTable := #[], attributes := #[] }
def k0m0 : Method := { name := "<init>", desc := "()V", sig := { parameters := [], returnType := none }, accessFlags := 1, code := some k0c0 }
/-- java/lang/Object -/
def k0 : Class := { plain "java/lang/Object" none with
  accessFlags := 33
  interfaces := #[]
  cf := some (fileOf pool0 8 #[] #[{ accessFlags := 1, nameIndex := 5, descriptorIndex := 6, attributes := #[] }] 33 0 #[] #[])
  fields := #[]
  methods := #[k0m0]
  instanceTypes := #[]
  staticTypes := #[]
  resolved := Array.replicate 124 none
  statics := none }

def pool1 : Array CpInfo := pool [(2, .class_ 4), (1, u "java/lang/Object"), (0, u "<init>"), (0, u "()V"), (0, .integer 536870911), (0, .integer 2147483647), (0, .methodref 10 11), (0, .class_ 12), (0, .nameAndType 13 14), (0, u "java/lang/Math"), (0, u "max"), (0, u "(II)I"), (0, .class_ 16), (0, u "com/example/round2/round2/eval/TopicResult"), (0, .string 18), (0, u "t"), (0, .methodref 15 20), (0, .nameAndType 5 21), (0, u "(Ljava/lang/String;II[I)V"), (0, .methodref 15 23), (0, .nameAndType 24 25), (0, u "precisionAt"), (0, u "(I)D"), (0, .class_ 27), (0, u "com/example/round2/round2/eval/TopicResultPrecisionAtPinLaw"), (2, u "law"), (0, u "(IIIIII)Z")] 5

def k1m0 : Method := { name := "<init>", desc := "()V", sig := { parameters := [], returnType := none }, accessFlags := 1, code := none }
def k1c1 : Code := { maxStack := 6, maxLocals := 16, code := code, exceptionTable := #[], attributes := #[] }
def k1m1 : Method := { name := "law", desc := "(IIIIII)Z", sig := { parameters := [.int, .int, .int, .int, .int, .int], returnType := some .boolean }, accessFlags := 9, code := some k1c1 }
/-- com/example/round2/round2/eval/TopicResultPrecisionAtPinLaw -/
def k1 : Class := { plain "com/example/round2/round2/eval/TopicResultPrecisionAtPinLaw" (some 0) with
  accessFlags := 49
  interfaces := #[]
  cf := some (fileOf pool1 26 #[] #[{ accessFlags := 1, nameIndex := 5, descriptorIndex := 6, attributes := #[] }, { accessFlags := 9, nameIndex := 30, descriptorIndex := 31, attributes := #[] }] 49 2 #[] #[])
  fields := #[]
  methods := #[k1m0, k1m1]
  instanceTypes := #[]
  staticTypes := #[]
  resolved := Array.replicate 37 none
  statics := none }

def pool2 : Array CpInfo := pool [(1, .class_ 2), (0, u "java/lang/Math"), (1, .class_ 6), (1, u "java/lang/Object"), (0, u "<init>"), (0, u "()V"), (89, .class_ 100), (1, u "java/lang/Math$RandomNumberGeneratorHolder"), (71, u "negativeZeroFloatBits"), (0, u "J"), (2, u "negativeZeroDoubleBits"), (21, u "max"), (46, u "$assertionsDisabled"), (0, u "Z"), (88, u "(II)I"), (2, u "twoToTheDoubleScaleDown"), (0, u "D"), (4, u "twoToTheDoubleScaleUp"), (9, u "E"), (3, u "PI"), (2, u "TAU"), (2, u "DEGREES_TO_RADIANS"), (0, u "RADIANS_TO_DEGREES")] 94

def k2m0 : Method := { name := "<init>", desc := "()V", sig := { parameters := [], returnType := none }, accessFlags := 2, code := none }
def k2c1 : Code := { maxStack := 2, maxLocals := 2, code := jdk_29_method_65_code, exceptionTable := #[], attributes := #[] }
def k2m1 : Method := { name := "max", desc := "(II)I", sig := { parameters := [.int, .int], returnType := some .int }, accessFlags := 9, code := some k2c1 }
/-- java/lang/Math -/
def k2 : Class := { plain "java/lang/Math" (some 0) with
  accessFlags := 49
  interfaces := #[]
  cf := some (fileOf pool2 1 #[.nestMembers #[98]] #[{ accessFlags := 2, nameIndex := 7, descriptorIndex := 8, attributes := #[] }, { accessFlags := 9, nameIndex := 198, descriptorIndex := 335, attributes := #[] }] 49 4 #[] #[{ accessFlags := 25, nameIndex := 354, descriptorIndex := 339, attributes := #[] }, { accessFlags := 25, nameIndex := 358, descriptorIndex := 339, attributes := #[] }, { accessFlags := 25, nameIndex := 361, descriptorIndex := 339, attributes := #[] }, { accessFlags := 26, nameIndex := 364, descriptorIndex := 339, attributes := #[] }, { accessFlags := 26, nameIndex := 365, descriptorIndex := 339, attributes := #[] }, { accessFlags := 26, nameIndex := 172, descriptorIndex := 173, attributes := #[] }, { accessFlags := 26, nameIndex := 176, descriptorIndex := 173, attributes := #[] }, { accessFlags := 8, nameIndex := 344, descriptorIndex := 339, attributes := #[] }, { accessFlags := 8, nameIndex := 338, descriptorIndex := 339, attributes := #[] }, { accessFlags := 4120, nameIndex := 245, descriptorIndex := 246, attributes := #[] }])
  fields := #[{ name := "E", type := .double, accessFlags := 25, slot := 0, constantValue := 0 }, { name := "PI", type := .double, accessFlags := 25, slot := 1, constantValue := 0 }, { name := "TAU", type := .double, accessFlags := 25, slot := 2, constantValue := 0 }, { name := "DEGREES_TO_RADIANS", type := .double, accessFlags := 26, slot := 3, constantValue := 0 }, { name := "RADIANS_TO_DEGREES", type := .double, accessFlags := 26, slot := 4, constantValue := 0 }, { name := "negativeZeroFloatBits", type := .long, accessFlags := 26, slot := 5, constantValue := 0 }, { name := "negativeZeroDoubleBits", type := .long, accessFlags := 26, slot := 6, constantValue := 0 }, { name := "twoToTheDoubleScaleUp", type := .double, accessFlags := 8, slot := 7, constantValue := 0 }, { name := "twoToTheDoubleScaleDown", type := .double, accessFlags := 8, slot := 8, constantValue := 0 }, { name := "$assertionsDisabled", type := .boolean, accessFlags := 4120, slot := 9, constantValue := 0 }]
  methods := #[k2m0, k2m1]
  instanceTypes := #[]
  staticTypes := #[.double, .double, .double, .double, .double, .long, .long, .double, .double, .boolean]
  resolved := Array.replicate 460 none
  statics := none }

def pool3 : Array CpInfo := pool [(1, .methodref 2 3), (0, .class_ 4), (0, .nameAndType 5 6), (0, u "java/lang/Object"), (0, u "<init>"), (0, u "()V"), (0, .fieldref 8 9), (0, .class_ 10), (0, .nameAndType 11 12), (0, u "com/example/round2/round2/eval/TopicResult"), (0, u "topic"), (0, u "Ljava/lang/String;"), (0, .fieldref 8 14), (0, .nameAndType 15 16), (0, u "retrieved"), (0, u "I"), (0, .fieldref 8 18), (0, .nameAndType 19 16), (0, u "relevant"), (0, .fieldref 8 21), (0, .nameAndType 22 23), (0, u "relevantRanks"), (0, u "[I"), (9, u "(Ljava/lang/String;II[I)V"), (12, u "precisionAt"), (0, u "(I)D")] 17

def k3c0 : Code := { maxStack := 2, maxLocals := 5, code := prog_10_method_1_code, exceptionTable := #[], attributes := #[] }
def k3m0 : Method := { name := "<init>", desc := "(Ljava/lang/String;II[I)V", sig := { parameters := [(.object "java/lang/String"), .int, .int, (.array .int)], returnType := none }, accessFlags := 0, code := some k3c0 }
def k3c1 : Code := { maxStack := 4, maxLocals := 3, code := prog_10_method_8_code, exceptionTable := #[], attributes := #[] }
def k3m1 : Method := { name := "precisionAt", desc := "(I)D", sig := { parameters := [.int], returnType := some .double }, accessFlags := 1, code := some k3c1 }
/-- com/example/round2/round2/eval/TopicResult -/
def k3 : Class := { plain "com/example/round2/round2/eval/TopicResult" (some 0) with
  accessFlags := 49
  interfaces := #[]
  cf := some (fileOf pool3 8 #[] #[{ accessFlags := 0, nameIndex := 5, descriptorIndex := 33, attributes := #[] }, { accessFlags := 1, nameIndex := 46, descriptorIndex := 47, attributes := #[] }] 49 2 #[] #[{ accessFlags := 18, nameIndex := 11, descriptorIndex := 12, attributes := #[] }, { accessFlags := 18, nameIndex := 15, descriptorIndex := 16, attributes := #[] }, { accessFlags := 18, nameIndex := 19, descriptorIndex := 16, attributes := #[] }, { accessFlags := 18, nameIndex := 22, descriptorIndex := 23, attributes := #[] }])
  fields := #[{ name := "topic", type := (.object "java/lang/String"), accessFlags := 18, slot := 0, constantValue := 0 }, { name := "retrieved", type := .int, accessFlags := 18, slot := 1, constantValue := 0 }, { name := "relevant", type := .int, accessFlags := 18, slot := 2, constantValue := 0 }, { name := "relevantRanks", type := (.array .int), accessFlags := 18, slot := 3, constantValue := 0 }]
  methods := #[k3m0, k3m1]
  instanceTypes := #[(.object "java/lang/String"), .int, .int, (.array .int)]
  staticTypes := #[]
  resolved := Array.replicate 65 none
  statics := none }

def pool4 : Array CpInfo := pool [(1, .class_ 2), (0, u "java/io/Serializable"), (0, .class_ 4), (0, u "java/lang/Object")] 2

/-- java/io/Serializable -/
def k4 : Class := { plain "java/io/Serializable" (some 0) with
  accessFlags := 1537
  interfaces := #[]
  cf := some (fileOf pool4 1 #[] #[] 1537 3 #[] #[])
  fields := #[]
  methods := #[]
  instanceTypes := #[]
  staticTypes := #[]
  resolved := Array.replicate 7 none
  statics := none }

def pool5 : Array CpInfo := pool [(1, .class_ 2), (0, u "java/lang/Comparable"), (0, .class_ 4), (0, u "java/lang/Object")] 7

/-- java/lang/Comparable -/
def k5 : Class := { plain "java/lang/Comparable" (some 0) with
  accessFlags := 1537
  interfaces := #[]
  cf := some (fileOf pool5 1 #[] #[] 1537 3 #[] #[])
  fields := #[]
  methods := #[]
  instanceTypes := #[]
  staticTypes := #[]
  resolved := Array.replicate 12 none
  statics := none }

def pool6 : Array CpInfo := pool [(2, .class_ 4), (1, u "java/lang/CharSequence"), (42, .class_ 48), (0, u "java/lang/CharSequence$1CodePointIterator"), (10, .class_ 60), (0, u "java/lang/CharSequence$1CharIterator"), (5, .class_ 67), (0, u "java/lang/Object")] 63

/-- java/lang/CharSequence -/
def k6 : Class := { plain "java/lang/CharSequence" (some 0) with
  accessFlags := 1537
  interfaces := #[]
  cf := some (fileOf pool6 2 #[.nestMembers #[47, 59]] #[] 1537 66 #[] #[])
  fields := #[]
  methods := #[]
  instanceTypes := #[]
  staticTypes := #[]
  resolved := Array.replicate 131 none
  statics := none }

def pool7 : Array CpInfo := pool [(1, .class_ 2), (0, u "java/lang/constant/Constable"), (0, .class_ 4), (0, u "java/lang/Object")] 6

/-- java/lang/constant/Constable -/
def k7 : Class := { plain "java/lang/constant/Constable" (some 0) with
  accessFlags := 1537
  interfaces := #[]
  cf := some (fileOf pool7 1 #[] #[] 1537 3 #[] #[])
  fields := #[]
  methods := #[]
  instanceTypes := #[]
  staticTypes := #[]
  resolved := Array.replicate 11 none
  statics := none }

def pool8 : Array CpInfo := pool [(1, .class_ 2), (0, u "java/lang/constant/ConstantDesc"), (0, .class_ 4), (0, u "java/lang/Object")] 32

/-- java/lang/constant/ConstantDesc -/
def k8 : Class := { plain "java/lang/constant/ConstantDesc" (some 0) with
  accessFlags := 1537
  interfaces := #[]
  cf := some (fileOf pool8 1 #[] #[] 1537 3 #[] #[])
  fields := #[]
  methods := #[]
  instanceTypes := #[]
  staticTypes := #[]
  resolved := Array.replicate 37 none
  statics := none }

def pool9 : Array CpInfo := pool [(2, .class_ 4), (1, u "java/lang/Object"), (0, u "<init>"), (0, u "()V"), (3, .class_ 12), (1, u "java/lang/String"), (0, u "value"), (0, u "[B"), (2, u "coder"), (0, u "B"), (2, u "hash"), (0, u "I"), (2, u "hashIsZero"), (0, u "Z"), (13, u "COMPACT_STRINGS"), (534, .class_ 576), (0, u "java/lang/CharSequence"), (22, u "CASE_INSENSITIVE_ORDER"), (0, u "Ljava/util/Comparator;"), (500, u "serialPersistentFields"), (0, u "[Ljava/io/ObjectStreamField;"), (0, .class_ 1104), (0, u "java/lang/String$CaseInsensitiveComparator"), (1, .class_ 1107), (0, u "java/io/Serializable"), (0, .class_ 1109), (0, u "java/lang/Comparable"), (0, .class_ 1111), (0, u "java/lang/constant/Constable"), (0, .class_ 1113), (0, u "java/lang/constant/ConstantDesc"), (2, u "serialVersionUID"), (0, u "J"), (3, u "REPL"), (0, u "C"), (2, u "LATIN1"), (1, u "UTF16")] 323

def k9m0 : Method := { name := "<init>", desc := "()V", sig := { parameters := [], returnType := none }, accessFlags := 1, code := none }
/-- java/lang/String -/
def k9 : Class := { plain "java/lang/String" (some 0) with
  accessFlags := 49
  interfaces := #[4, 5, 6, 7, 8]
  cf := some (fileOf pool9 10 #[.nestMembers #[1103]] #[{ accessFlags := 1, nameIndex := 5, descriptorIndex := 6, attributes := #[] }] 49 2 #[1106, 1108, 575, 1110, 1112] #[{ accessFlags := 18, nameIndex := 13, descriptorIndex := 14, attributes := #[] }, { accessFlags := 18, nameIndex := 17, descriptorIndex := 18, attributes := #[] }, { accessFlags := 2, nameIndex := 21, descriptorIndex := 22, attributes := #[] }, { accessFlags := 2, nameIndex := 25, descriptorIndex := 26, attributes := #[] }, { accessFlags := 26, nameIndex := 1116, descriptorIndex := 1117, attributes := #[] }, { accessFlags := 24, nameIndex := 40, descriptorIndex := 26, attributes := #[] }, { accessFlags := 26, nameIndex := 1101, descriptorIndex := 1102, attributes := #[] }, { accessFlags := 26, nameIndex := 1121, descriptorIndex := 1122, attributes := #[] }, { accessFlags := 25, nameIndex := 599, descriptorIndex := 600, attributes := #[] }, { accessFlags := 24, nameIndex := 1125, descriptorIndex := 18, attributes := #[] }, { accessFlags := 24, nameIndex := 1127, descriptorIndex := 18, attributes := #[] }])
  fields := #[{ name := "value", type := (.array .byte), accessFlags := 18, slot := 0, constantValue := 0 }, { name := "coder", type := .byte, accessFlags := 18, slot := 1, constantValue := 0 }, { name := "hash", type := .int, accessFlags := 2, slot := 2, constantValue := 0 }, { name := "hashIsZero", type := .boolean, accessFlags := 2, slot := 3, constantValue := 0 }, { name := "serialVersionUID", type := .long, accessFlags := 26, slot := 0, constantValue := 0 }, { name := "COMPACT_STRINGS", type := .boolean, accessFlags := 24, slot := 1, constantValue := 0 }, { name := "serialPersistentFields", type := (.array (.object "java/io/ObjectStreamField")), accessFlags := 26, slot := 2, constantValue := 0 }, { name := "REPL", type := .char, accessFlags := 26, slot := 3, constantValue := 0 }, { name := "CASE_INSENSITIVE_ORDER", type := (.object "java/util/Comparator"), accessFlags := 25, slot := 4, constantValue := 0 }, { name := "LATIN1", type := .byte, accessFlags := 24, slot := 5, constantValue := 0 }, { name := "UTF16", type := .byte, accessFlags := 24, slot := 6, constantValue := 0 }]
  methods := #[k9m0]
  instanceTypes := #[(.array .byte), .byte, .int, .boolean]
  staticTypes := #[.long, .boolean, (.array (.object "java/io/ObjectStreamField")), .char, (.object "java/util/Comparator"), .byte, .byte]
  resolved := Array.replicate 1451 none
  statics := none }

def pool10 : Array CpInfo := pool [(1, u "java/lang/Cloneable"), (0, .class_ 1), (0, u "java/lang/Object"), (0, .class_ 3)] 3

/-- java/lang/Cloneable -/
def k10 : Class := { plain "java/lang/Cloneable" (some 0) with
  accessFlags := 1537
  interfaces := #[]
  cf := some (fileOf pool10 2 #[] #[] 1537 4 #[] #[])
  fields := #[]
  methods := #[]
  instanceTypes := #[]
  staticTypes := #[]
  resolved := Array.replicate 8 none
  statics := none }

/-- the primitive byte -/
def k11 : Class := { plain "byte" none with kind := .primitive 'B', accessFlags := 0x411 }
/-- [B -/
def k12 : Class := { plain "[B" (some 0) with kind := .array 11 .byte, interfaces := #[10, 4], accessFlags := 1041 }

/-- the primitive int -/
def k13 : Class := { plain "int" none with kind := .primitive 'I', accessFlags := 0x411 }
/-- [I -/
def k14 : Class := { plain "[I" (some 0) with kind := .array 13 .int, interfaces := #[10, 4], accessFlags := 1041 }

def heap : Heap := #[]
def classes : Array Class := #[k0, k1, k2, k3, k4, k5, k6, k7, k8, k9, k10, k11, k12, k13, k14]
def interned : List (Array UInt16 × Addr) := []
def slotsUsed : Nat := 0
def theMethod : MethodId := ⟨1, 1⟩
def args0 : Array Value := #[.int 3, .int 2, .int 1, .int 7, .int 2, .int 5]
def aboutOver (below : List Frame) : State where
  vm := { classes := classes, interned := interned.toArray }
  heap := heap
  slotsUsed := slotsUsed
  threads := #[{ frames := .invoking theMethod args0 :: below }]
def below0 : List Frame := [.native { method := ⟨0, 0⟩, args := #[] }]
def about1 : State := aboutOver below0
def p0 : Program := .bare "" "" ""
def e0 : Env := launch0.env 0 0 0
theorem w_frames : about1.frames = Frame.invoking theMethod args0 :: below0 := rfl
set_option maxRecDepth 65536 in
theorem w_args : argsFit about1.vm theMethod args0 = true := by decide +kernel
set_option maxRecDepth 65536 in
theorem w_heap : heapFits about1 = true := by decide +kernel
set_option maxRecDepth 65536 in
theorem w_runnable : about1.curStatus? = some .runnable := by decide +kernel
set_option maxRecDepth 65536 in
theorem w_alone : about1.alone = true := by decide +kernel
set_option maxRecDepth 65536 in
theorem w_named : about1.methodNamed? x = some theMethod := by decide +kernel
set_option maxRecDepth 65536 in
theorem w_hears : about1.hears theMethod below0 = true := by decide +kernel
set_option maxRecDepth 65536 in
theorem w_ripe : about1.ripe theMethod args0 below0 = true := by decide +kernel
theorem w_running : about1.status = .running := rfl
set_option maxRecDepth 65536 in
theorem w_room : about1.hasRoom e0.platform room_1 = true :=
  launch0.hasRoom_least _ room_1 (by decide +kernel) (by decide +kernel) (by decide +kernel) (by decide +kernel) (by decide +kernel) (by decide +kernel)
theorem allAtoms_all (ts : List Jvm.Cond) (a : Array Jvm.Value) (st : Jvm.State) : (allAtoms ts).before a st = ts.all (fun c => c.before a st) := by
  induction ts with
  | nil => rfl
  | cons c t ih =>
    show (Jvm.Cond.and c (allAtoms t)).before a st = _
    rw [Jvm.Cond.before_and, ih, List.all_cons]
def words1 : List Jvm.Cond := Jvm.Cond.code x code maxLocals ret :: tables_1
/-- a 'code' word, met by the world's own term for the bytes: nothing is compared byte by byte -/
theorem code_word {y : MethodName} {bytes : ByteArray} {mx : Nat} {rt : Option FieldType} {a : Array Value} {s : State} {m : MethodId} {meth : Method} {c : Code} (h1 : s.methodNamed? y = some m) (h2 : s.vm.method? m = some meth) (h3 : meth.code = some c) (h4 : c.code = bytes)
    (h5 : (c.maxLocals == mx && c.exceptionTable.isEmpty && decide (c.maxStack ≤ mostOperands) && decide (meth.sig.returnType = rt) && !meth.locks && decide (parseMethodDescriptor y.desc = some meth.sig)) = true) : (Jvm.Cond.code y bytes mx rt).before a s = true := by
  simp only [Bool.and_eq_true, beq_iff_eq, Bool.not_eq_true', decide_eq_true_eq] at h5
  obtain ⟨⟨⟨⟨⟨g1, g2⟩, g3⟩, g4⟩, g5⟩, g6⟩ := h5
  simp [Cond.before, Cond.holds, Cond.value, h1, h2, h3, h4, g1, g2, g3, g4, g5, g6]
def isCode : Jvm.Cond → Bool
  | .code _ _ _ _ => true
  | _ => false
theorem all_split {L : List Jvm.Cond} {P : Jvm.Cond → Bool} (h1 : L.all (fun c => isCode c || P c) = true) (h2 : ∀ c ∈ L.filter isCode, P c = true) : L.all P = true := by
  refine List.all_eq_true.mpr fun c hc => ?_
  have h := List.all_eq_true.mp h1 c hc
  rcases Bool.eq_false_or_eq_true (isCode c) with hi | hi
  · exact h2 c (List.mem_filter.mpr ⟨hc, hi⟩)
  · simpa [hi] using h
set_option maxRecDepth 65536 in
theorem w_c0 : (Jvm.Cond.code x code maxLocals ret).before args0 about1 = true := code_word (m := ⟨1, 1⟩) (meth := k1m1) (c := k1c1) (by decide +kernel) rfl rfl rfl (by decide +kernel)
set_option maxRecDepth 65536 in
theorem w_c1 : (Jvm.Cond.code ({ cls := "java/lang/Math", name := "max", desc := "(II)I" } : Jvm.MethodName) jdk_29_method_65_code (2 : Nat) (Option.some Jvm.ClassFile.FieldType.int)).before args0 about1 = true := code_word (m := ⟨2, 1⟩) (meth := k2m1) (c := k2c1) (by decide +kernel) rfl rfl rfl (by decide +kernel)
set_option maxRecDepth 65536 in
theorem w_c2 : (Jvm.Cond.code ({ cls := "com/example/round2/round2/eval/TopicResult", name := "<init>", desc := "(Ljava/lang/String;II[I)V" } : Jvm.MethodName) prog_10_method_1_code (5 : Nat) (Option.none : Option Jvm.ClassFile.FieldType)).before args0 about1 = true := code_word (m := ⟨3, 0⟩) (meth := k3m0) (c := k3c0) (by decide +kernel) rfl rfl rfl (by decide +kernel)
set_option maxRecDepth 65536 in
theorem w_c3 : (Jvm.Cond.code ({ cls := "java/lang/Object", name := "<init>", desc := "()V" } : Jvm.MethodName) object_method_1_code (1 : Nat) (Option.none : Option Jvm.ClassFile.FieldType)).before args0 about1 = true := code_word (m := ⟨0, 0⟩) (meth := k0m0) (c := k0c0) (by decide +kernel) rfl rfl rfl (by decide +kernel)
set_option maxRecDepth 65536 in
theorem w_c4 : (Jvm.Cond.code ({ cls := "com/example/round2/round2/eval/TopicResult", name := "precisionAt", desc := "(I)D" } : Jvm.MethodName) prog_10_method_8_code (3 : Nat) (Option.some Jvm.ClassFile.FieldType.double)).before args0 about1 = true := code_word (m := ⟨3, 1⟩) (meth := k3m1) (c := k3c1) (by decide +kernel) rfl rfl rfl (by decide +kernel)
def codes1 : List Jvm.Cond := [Jvm.Cond.code x code maxLocals ret, Jvm.Cond.code ({ cls := "java/lang/Math", name := "max", desc := "(II)I" } : Jvm.MethodName) jdk_29_method_65_code (2 : Nat) (Option.some Jvm.ClassFile.FieldType.int), Jvm.Cond.code ({ cls := "com/example/round2/round2/eval/TopicResult", name := "<init>", desc := "(Ljava/lang/String;II[I)V" } : Jvm.MethodName) prog_10_method_1_code (5 : Nat) (Option.none : Option Jvm.ClassFile.FieldType), Jvm.Cond.code ({ cls := "java/lang/Object", name := "<init>", desc := "()V" } : Jvm.MethodName) object_method_1_code (1 : Nat) (Option.none : Option Jvm.ClassFile.FieldType), Jvm.Cond.code ({ cls := "com/example/round2/round2/eval/TopicResult", name := "precisionAt", desc := "(I)D" } : Jvm.MethodName) prog_10_method_8_code (3 : Nat) (Option.some Jvm.ClassFile.FieldType.double)]
set_option maxRecDepth 65536 in
theorem codes_eq : words1.filter isCode = codes1 := rfl
theorem w_codes : ∀ c ∈ words1.filter isCode, c.before args0 about1 = true := by
  rw [codes_eq]
  intro c hc
  simp only [codes1, List.mem_cons, List.not_mem_nil, or_false] at hc
  rcases hc with rfl | rfl | rfl | rfl | rfl
  · exact w_c0
  · exact w_c1
  · exact w_c2
  · exact w_c3
  · exact w_c4
set_option maxRecDepth 65536 in
theorem w_t1 : (words1.take 24).all (fun c => isCode c || c.before args0 about1) = true := by decide +kernel
set_option maxRecDepth 65536 in
theorem w_t2 : (words1.drop 24).all (fun c => isCode c || c.before args0 about1) = true := by decide +kernel
theorem w_tables : (allAtoms (Jvm.Cond.code x code maxLocals ret :: tables_1)).before args0 about1 = true := by
  rw [allAtoms_all]
  show words1.all (fun c => c.before args0 about1) = true
  refine all_split ?_ w_codes
  rw [← List.take_append_drop 24 words1, List.all_append, w_t1, w_t2]
  rfl
set_option maxRecDepth 65536 in
theorem w_case : (Jvm.Cond.and given_1 narrow_1).before args0 about1 = true := by decide +kernel
theorem w_applies : (headSpec (Jvm.Cond.code x code maxLocals ret :: tables_1) room_1).applies x e0.platform about1 = true :=
  (Spec.applies_iff w_frames).mpr ⟨w_running, w_runnable, w_alone, w_named, w_hears, w_ripe, w_room, w_tables⟩
theorem atStart : AtStart classFile x code maxLocals ret World_1 tables_1 room_1 Calls_1 rest_1 Pre_1 launch0 p0 e0 about1 theMethod args0 below0 :=
  ⟨lists_1, trivial, launch0.admits_env _ _ _, launch0.least_env, fairChoices_fair.cas, fairChoices_fair.clock, w_frames, w_args, w_heap, w_applies, trivial, trivial, w_case⟩
end start1
theorem witness_1 : WitnessClaimed_1 := ⟨start1.p0, start1.e0, start1.about1, start1.theMethod, start1.args0, start1.below0, start1.atStart⟩
end Jvm.Pilot.@@N@@
