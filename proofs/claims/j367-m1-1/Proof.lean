import JvmDerived
import JvmDerived.Pilot.@@N@@Statement
import JvmDerived.Pilot.@@N@@Code
set_option linter.unusedVariables false
set_option linter.unusedSimpArgs false
namespace Jvm.OwnFp
open Jvm.FP.Core Op
/-! own: exact values. `Dyf f i k d`: the datum d is finite and worth i / 2^k. -/
def Dyf (f : Fmt) (i : Int) (k : Nat) (d : Datum) : Prop := (∃ s c q, d = .fin s c q) ∧ zval f d * 2 ^ k = i * 2 ^ (-f.qmin).toNat
theorem pw_pos (n : Nat) : (0 : Int) < 2 ^ n := Int.pow_pos (by decide)
theorem pw_cast (n : Nat) : ((2 ^ n : Nat) : Int) = 2 ^ n := by simp
theorem signed_abs (i : Int) : signed (decide (i < 0)) i.natAbs = i := by
  unfold signed
  by_cases h : i < 0 <;> simp [h] <;> omega
theorem signed_mulI (s : Bool) (c k : Nat) : signed s (c * 2 ^ k) = signed s c * 2 ^ k := by
  rw [signed_mul, pw_cast]
theorem vex {f : Fmt} (hf : Good f) {i : Int} {k : Nat} (hi : i.natAbs < 2 ^ f.p) (hk : (k : Int) ≤ -f.qmin) (hq : 0 ≤ f.qmax) :
    ∃ s c q, FP.Core.fits f (.fin s c q) ∧ zval f (.fin s c q) * 2 ^ k = i * 2 ^ (-f.qmin).toNat := by
  obtain ⟨c', q', h, hu⟩ := round_exact hf (decide (i < 0)) (c := i.natAbs) (q := -(k : Int)) hi (by omega) (by omega)
  refine ⟨_, c', q', h ▸ round_fits hf _, ?_⟩
  show signed (decide (i < 0)) (inUnits c' q' f.qmin) * 2 ^ k = _
  rw [hu]
  unfold inUnits
  rw [signed_mulI, signed_abs, Int.mul_assoc, ← Int.pow_add, show (-(k : Int) - f.qmin).toNat + k = (-f.qmin).toNat by omega]
theorem dyf_of_zval {f : Fmt} (hf : Good f) {s : Bool} {A B : Nat} {e : Int} {s' : Bool} {c' : Nat} {q' : Int} (hV : FP.Core.fits f (.fin s' c' q'))
    (hz : zval f (roundRatio f s A B e) = zval f (.fin s' c' q')) : ∃ s₀ c₀ q₀, roundRatio f s A B e = .fin s₀ c₀ q₀ := by
  rcases roundRatio_cases f s A B e with ⟨c, q, h⟩ | h
  · exact ⟨s, c, q, h⟩
  · exfalso
    rw [h] at hz
    have h1 := zmag_lt_top hf hV
    have h2 := congrArg Int.natAbs hz
    unfold zval at h2
    rw [natAbs_signed, natAbs_signed] at h2
    have h3 : zmag f (.inf s) = f.tails * 2 ^ (f.exps - 2) := rfl
    have h4 : zmag f (.fin s' c' q') = inUnits c' q' f.qmin := rfl
    omega
/-- an exact result that the format holds is not rounded -/
theorem rnd {f : Fmt} (hf : Good f) (hq : 0 ≤ f.qmax) {s : Bool} {c : Nat} {q e0 : Int} (h0 : e0 ≤ f.qmin) (h0e : e0 ≤ q) {i : Int} {k : Nat} (hi : i.natAbs < 2 ^ f.p) (hk : (k : Int) ≤ -f.qmin)
    (h : signed s (inUnits c q e0) * 2 ^ k = i * 2 ^ (-f.qmin).toNat * 2 ^ (f.qmin - e0).toNat) : Dyf f i k (round f (.fin s c q)) := by
  obtain ⟨s', c', q', hV, hv⟩ := vex hf hi hk hq
  have hn : Datum.fin s' c' q' ≠ .nan := nofun
  have he : zval f (.fin s' c' q') * ((2 ^ (f.qmin - e0).toNat : Nat) : Int) = signed s (inUnits c q e0) := by
    refine Int.eq_of_mul_eq_mul_right (Int.ne_of_gt (pw_pos k)) ?_
    rw [h, ← hv, pw_cast]; ac_rfl
  have hz : zval f (round f (.fin s c q)) = zval f (.fin s' c' q') :=
    Int.le_antisymm (zval_round_le hf hV hn h0 h0e (Int.le_of_eq he.symm)) (zval_round_ge hf hV hn h0 h0e (Int.le_of_eq he))
  exact ⟨dyf_of_zval hf hV hz, by rw [hz]; exact hv⟩
theorem Dyf.fit {f : Fmt} {i : Int} {k : Nat} {d : Datum} (h : Dyf f i k d) : ∃ s c q, d = .fin s c q := h.1
theorem Dyf.up {f : Fmt} {i : Int} {k : Nat} {d : Datum} (h : Dyf f i k d) (l : Nat) : Dyf f (i * 2 ^ l) (k + l) d :=
  ⟨h.1, by rw [Int.pow_add, ← Int.mul_assoc, h.2]; ac_rfl⟩
theorem Dyf.to {f : Fmt} {i j : Int} {k l : Nat} {d : Datum} (h : Dyf f i k d) (e : i * 2 ^ l = j * 2 ^ k) : Dyf f j l d := by
  refine ⟨h.1, Int.eq_of_mul_eq_mul_right (Int.ne_of_gt (pw_pos k)) ?_⟩
  calc zval f d * 2 ^ l * 2 ^ k = (zval f d * 2 ^ k) * 2 ^ l := by ac_rfl
    _ = (i * 2 ^ l) * 2 ^ (-f.qmin).toNat := by rw [h.2]; ac_rfl
    _ = j * 2 ^ (-f.qmin).toNat * 2 ^ k := by rw [e]; ac_rfl
theorem Dyf.sum {f : Fmt} (hf : Good f) (hq : 0 ≤ f.qmax) {i j : Int} {k : Nat} {x y : Datum} (fx : FP.Core.fits f x) (fy : FP.Core.fits f y) (hx : Dyf f i k x) (hy : Dyf f j k y) (hi : (i + j).natAbs < 2 ^ f.p) (hk : (k : Int) ≤ -f.qmin) :
    Dyf f (i + j) k (round f (exactSum x y)) := by
  obtain ⟨⟨s, c, q, rfl⟩, hx⟩ := hx
  obtain ⟨⟨t, d, r, rfl⟩, hy⟩ := hy
  obtain ⟨sg, n, e, he, hle, hu⟩ := sum_units fx fy
  rw [he]
  refine rnd hf hq (Int.le_refl _) hle hi hk ?_
  rw [hu, Int.add_mul, hx, hy, Int.add_mul, Int.sub_self]
  simp
theorem Dyf.neg {f : Fmt} {i : Int} {k : Nat} {x : Datum} (hx : Dyf f i k x) : Dyf f (-i) k (negate x) := by
  obtain ⟨⟨s, c, q, rfl⟩, hx⟩ := hx
  refine ⟨⟨_, _, _, rfl⟩, ?_⟩
  rw [zval_negate, Int.neg_mul, hx, Int.neg_mul]
theorem Dyf.prod {f : Fmt} (hf : Good f) (hq : 0 ≤ f.qmax) {i j : Int} {k l : Nat} {x y : Datum} (fx : FP.Core.fits f x) (fy : FP.Core.fits f y) (hx : Dyf f i k x) (hy : Dyf f j l y) (hi : (i * j).natAbs < 2 ^ f.p) (hk : ((k + l : Nat) : Int) ≤ -f.qmin) :
    Dyf f (i * j) (k + l) (round f (exactProduct x y)) := by
  obtain ⟨⟨s, c, q, rfl⟩, hx⟩ := hx
  obtain ⟨⟨t, d, r, rfl⟩, hy⟩ := hy
  obtain ⟨he, hle, hu⟩ := product_units fx fy
  rw [he]
  have hn := qmin_neg hf
  refine rnd hf hq (e0 := 2 * f.qmin) (by omega) hle hi hk ?_
  rw [hu, signed_xor, show (f.qmin - 2 * f.qmin).toNat = (-f.qmin).toNat by omega, Int.pow_add]
  calc zval f (.fin s c q) * zval f (.fin t d r) * (2 ^ k * 2 ^ l) = (zval f (.fin s c q) * 2 ^ k) * (zval f (.fin t d r) * 2 ^ l) := by ac_rfl
    _ = _ := by rw [hx, hy]; ac_rfl
theorem natAbs_pow (n : Nat) : ((2 : Int) ^ n).natAbs = 2 ^ n := by rw [Int.natAbs_pow]; rfl
theorem natAbs_zval (f : Fmt) (d : Datum) : (zval f d).natAbs = zmag f d := natAbs_signed _ _
/-- an exact quotient that the format holds is not rounded -/
theorem Dyf.quot {f : Fmt} (hf : Good f) (hq : 0 ≤ f.qmax) {i j n : Int} {k l m : Nat} {x y : Datum} (fx : FP.Core.fits f x) (fy : FP.Core.fits f y) (hx : Dyf f i k x) (hy : Dyf f j l y) (hj : j ≠ 0) (hi : n.natAbs < 2 ^ f.p) (hm : (m : Int) ≤ -f.qmin)
    (e : i * 2 ^ l * 2 ^ m = n * j * 2 ^ k) : Dyf f n m (quotient f x y) := by
  obtain ⟨⟨s, c, q, rfl⟩, hx⟩ := hx
  obtain ⟨⟨t, d, r, rfl⟩, hy⟩ := hy
  obtain ⟨s', c', q', hV, hv⟩ := vex hf hi hm hq
  have hn : Datum.fin s' c' q' ≠ .nan := nofun
  have hqm := qmin_neg hf
  have fx1 := fx.2.1
  have fy1 := fy.2.1
  -- the signed equation
  have hz : zval f (.fin s c q) * 2 ^ (-f.qmin).toNat = zval f (.fin s' c' q') * zval f (.fin t d r) := by
    refine Int.eq_of_mul_eq_mul_right (Int.ne_of_gt (Int.mul_pos (Int.mul_pos (pw_pos k) (pw_pos l)) (pw_pos m))) ?_
    calc zval f (.fin s c q) * 2 ^ (-f.qmin).toNat * (2 ^ k * 2 ^ l * 2 ^ m) = (zval f (.fin s c q) * 2 ^ k) * (2 ^ l * 2 ^ m) * 2 ^ (-f.qmin).toNat := by ac_rfl
      _ = (i * 2 ^ l * 2 ^ m) * 2 ^ (-f.qmin).toNat * 2 ^ (-f.qmin).toNat := by rw [hx]; ac_rfl
      _ = (n * 2 ^ (-f.qmin).toNat) * (j * 2 ^ (-f.qmin).toNat) * 2 ^ k := by rw [e]; ac_rfl
      _ = (zval f (.fin s' c' q') * 2 ^ m) * (zval f (.fin t d r) * 2 ^ l) * 2 ^ k := by rw [hv, hy]
      _ = _ := by ac_rfl
  have hzb : zval f (.fin t d r) ≠ 0 := by
    intro h0
    rw [h0, Int.zero_mul] at hy
    rcases Int.mul_eq_zero.mp hy.symm with h | h
    · exact hj h
    · exact absurd h (Int.ne_of_gt (pw_pos _))
  have hd : d ≠ 0 := by
    rintro rfl
    apply hzb
    show signed t (inUnits 0 r f.qmin) = 0
    unfold inUnits; rw [Nat.zero_mul, signed_zero]
  have hmag : zmag f (.fin s c q) * 2 ^ (-f.qmin).toNat = zmag f (.fin s' c' q') * zmag f (.fin t d r) := by
    have h2 := congrArg Int.natAbs hz
    rw [Int.natAbs_mul, Int.natAbs_mul, natAbs_pow, natAbs_zval, natAbs_zval, natAbs_zval] at h2
    exact h2
  have hun : inUnits c (q - r) (2 * f.qmin - r) = zmag f (.fin s' c' q') * 2 ^ (f.qmin - (2 * f.qmin - r)).toNat * d := by
    have a1 : inUnits c (q - r) (2 * f.qmin - r) = zmag f (.fin s c q) * 2 ^ (-f.qmin).toNat := by
      show c * 2 ^ _ = c * 2 ^ _ * 2 ^ _
      rw [Nat.mul_assoc, ← Nat.pow_add, show (q - r - (2 * f.qmin - r)).toNat = (q - f.qmin).toNat + (-f.qmin).toNat by omega]
    rw [a1, hmag, show (f.qmin - (2 * f.qmin - r)).toNat = (r - f.qmin).toNat by omega]
    show _ * (d * 2 ^ _) = _
    ac_rfl
  have hqt : quotient f (.fin s c q) (.fin t d r) = roundRatio f (s != t) c d (q - r) := by
    show (if d = 0 then _ else _) = _
    rw [if_neg hd]
  have hm2 : zmag f (roundRatio f (s != t) c d (q - r)) = zmag f (.fin s' c' q') :=
    Nat.le_antisymm (zmag_roundRatio_le hf (e0 := 2 * f.qmin - r) (Nat.pos_of_ne_zero hd) hV hn (by omega) (by omega) (Nat.le_of_eq hun))
      (zmag_roundRatio_ge hf (e0 := 2 * f.qmin - r) (Nat.pos_of_ne_zero hd) hV (by omega) (by omega) (Nat.le_of_eq hun.symm))
  have hsg : signed (s != t) (zmag f (.fin s' c' q')) = zval f (.fin s' c' q') := by
    have p0 : zmag f (.fin s c q) = inUnits c q f.qmin := rfl
    have hS : zval f (.fin s c q) * 2 ^ (-f.qmin).toNat * zval f (.fin t d r) = zval f (.fin s' c' q') * (zval f (.fin t d r) * zval f (.fin t d r)) := by rw [hz]; ac_rfl
    by_cases h0 : zmag f (.fin s' c' q') = 0
    · unfold zval; rw [h0, signed_zero, signed_zero]
    · have hbb : 0 < zval f (.fin t d r) * zval f (.fin t d r) := by
        rcases Int.lt_or_gt_of_ne hzb with h | h
        · exact Int.mul_pos_of_neg_of_neg h h
        · exact Int.mul_pos h h
      have hst : zval f (.fin s c q) * zval f (.fin t d r) = signed (s != t) (zmag f (.fin s c q) * zmag f (.fin t d r)) := by
        rw [signed_xor]; rfl
      have e1 : zval f (.fin s' c' q') * (zval f (.fin t d r) * zval f (.fin t d r)) = signed (s != t) (zmag f (.fin s c q) * zmag f (.fin t d r)) * 2 ^ (-f.qmin).toNat := by
        rw [← hS, ← hst]; ac_rfl
      have e2 : signed (s != t) (zmag f (.fin s c q) * zmag f (.fin t d r)) * 2 ^ (-f.qmin).toNat = signed (s != t) (zmag f (.fin s' c' q')) * (zval f (.fin t d r) * zval f (.fin t d r)) := by
        rw [← signed_mulI, show zmag f (.fin s c q) * zmag f (.fin t d r) * 2 ^ (-f.qmin).toNat = zmag f (.fin s' c' q') * (zmag f (.fin t d r) * zmag f (.fin t d r)) by rw [Nat.mul_right_comm, hmag]; ac_rfl, signed_mul]
        congr 1
        unfold zval
        rw [Int.natCast_mul]
        cases (sgn (.fin t d r)) <;> simp [signed, Int.neg_mul_neg]
      exact Int.eq_of_mul_eq_mul_right (Int.ne_of_gt hbb) (e2.symm.trans e1.symm)
  have hzz : zval f (roundRatio f (s != t) c d (q - r)) = zval f (.fin s' c' q') := by
    rw [← hsg]
    show signed (sgn (roundRatio f (s != t) c d (q - r))) (zmag f (roundRatio f (s != t) c d (q - r))) = _
    rw [sgn_roundRatio, hm2]
  rw [hqt]
  exact ⟨dyf_of_zval hf hV hzz, by rw [hzz]; exact hv⟩
theorem Dyf.ofInt {f : Fmt} (hf : Good f) (hq : 0 ≤ f.qmax) {i : Int} (hi : i.natAbs < 2 ^ f.p) : Dyf f i 0 (round f (FP.Core.ofInt i)) := by
  have hn := qmin_neg hf
  refine rnd hf hq (Int.le_refl _) (by omega) hi (by omega) ?_
  unfold inUnits
  rw [signed_mulI, signed_abs, Int.sub_self]
  simp
theorem Dyf.order {f : Fmt} (hf : Good f) {i j : Int} {k : Nat} {x y : Datum} (fx : FP.Core.fits f x) (fy : FP.Core.fits f y) (hx : Dyf f i k x) (hy : Dyf f j k y) : order x y = some (compare i j) := by
  obtain ⟨⟨s, c, q, rfl⟩, hx⟩ := hx
  obtain ⟨⟨t, d, r, rfl⟩, hy⟩ := hy
  rw [order_zval hf fx fy nofun nofun, ← compare_mul_pos _ _ _ (pw_pos k), hx, hy, compare_mul_pos _ _ _ (pw_pos _)]
/-! doubles -/
def Dy (i : Int) (k : Nat) (a : UInt64) : Prop := Dyf b64 i k (val64 a)
theorem qm64 : (0 : Int) ≤ b64.qmax := by decide
theorem Dy.fin {i : Int} {k : Nat} {a : UInt64} (h : Dy i k a) : DFin a := h.1
theorem Dy.nn {i : Int} {k : Nat} {a : UInt64} (h : Dy i k a) : Jvm.Free.Fl.NoNaN64 a := (Jvm.Free.Fl.fin64_core.mpr h.1).noNaN
theorem Dy.to {i j : Int} {k l : Nat} {a : UInt64} (h : Dy i k a) (e : i * 2 ^ l = j * 2 ^ k) : Dy j l a := Dyf.to h e
theorem Dy.up {i : Int} {k : Nat} {a : UInt64} (h : Dy i k a) (l : Nat) : Dy (i * 2 ^ l) (k + l) a := Dyf.up h l
theorem Dy.add {i j : Int} {k : Nat} {a b : UInt64} (ha : Dy i k a) (hb : Dy j k b) (hi : (i + j).natAbs < 9007199254740992) (hk : k ≤ 1074) : Dy (i + j) k (FP.dadd a b) := by
  show Dyf b64 _ _ (val64 (dadd a b))
  rw [val64_dadd]
  exact Dyf.sum good_b64 qm64 (val64_fits a) (val64_fits b) ha hb hi (by rw [qmin_b64]; omega)
theorem Dy.sub {i j : Int} {k : Nat} {a b : UInt64} (ha : Dy i k a) (hb : Dy j k b) (hi : (i - j).natAbs < 9007199254740992) (hk : k ≤ 1074) : Dy (i - j) k (FP.dsub a b) := by
  show Dyf b64 _ _ (val64 (dsub a b))
  rw [val64_dsub]
  exact Dyf.sum good_b64 qm64 (val64_fits a) (negate_fits (val64_fits b)) ha hb.neg hi (by rw [qmin_b64]; omega)
theorem Dy.mul {i j : Int} {k l : Nat} {a b : UInt64} (ha : Dy i k a) (hb : Dy j l b) (hi : (i * j).natAbs < 9007199254740992) (hk : k + l ≤ 1074) : Dy (i * j) (k + l) (FP.dmul a b) := by
  show Dyf b64 _ _ (val64 (dmul a b))
  rw [val64_dmul]
  exact Dyf.prod good_b64 qm64 (val64_fits a) (val64_fits b) ha hb hi (by rw [qmin_b64]; omega)
theorem Dy.div {i j n : Int} {k l m : Nat} {a b : UInt64} (ha : Dy i k a) (hb : Dy j l b) (hj : j ≠ 0) (hi : n.natAbs < 9007199254740992) (hk : m ≤ 1074) (e : i * 2 ^ l * 2 ^ m = n * j * 2 ^ k) : Dy n m (FP.ddiv a b) := by
  show Dyf b64 _ _ (val64 (ddiv a b))
  rw [val64_ddiv]
  exact Dyf.quot good_b64 qm64 (val64_fits a) (val64_fits b) ha hb hj hi (by rw [qmin_b64]; omega) e
theorem Dy.neg {i : Int} {k : Nat} {a : UInt64} (ha : Dy i k a) : Dy (-i) k (FP.dneg a) := by
  show Dyf b64 _ _ (val64 (FP.dneg a))
  rw [Jvm.FP.val64_dneg]
  exact Dyf.neg ha
theorem Dy.i2d (x : Int32) : Dy x.toInt 0 (FP.i2d x) := by
  show Dyf b64 _ _ (val64 (FP.Core.i2d x))
  rw [val64_i2d]
  exact Dyf.ofInt good_b64 qm64 (by have := int32_abs x; show _ < 2 ^ 53; omega)
theorem Dy.l2d {x : Int64} (h : x.toInt.natAbs < 9007199254740992) : Dy x.toInt 0 (FP.l2d x) := by
  show Dyf b64 _ _ (val64 (FP.Core.l2d x))
  rw [val64_l2d]
  exact Dyf.ofInt good_b64 qm64 h
theorem Dy.cmp {i j : Int} {k : Nat} {a b : UInt64} (ha : Dy i k a) (hb : Dy j k b) : FP.dcmp a b = some (compare i j) :=
  Dyf.order good_b64 (val64_fits a) (val64_fits b) ha hb
theorem Dy.cmp_eq {i j : Int} {k : Nat} {a b : UInt64} (ha : Dy i k a) (hb : Dy j k b) (e : i = j) (o : ClassFile.CmpOp) : cmpValue (FP.dcmp a b) o = 0 := by
  rw [ha.cmp hb, e, compare_self_int]; rfl
theorem Dy.cmp_lt {i j : Int} {k : Nat} {a b : UInt64} (ha : Dy i k a) (hb : Dy j k b) (e : i < j) (o : ClassFile.CmpOp) : cmpValue (FP.dcmp a b) o = -1 := by
  rw [ha.cmp hb, show compare i j = .lt by rw [compare_ite, if_pos e]]; rfl
theorem Dy.cmp_gt {i j : Int} {k : Nat} {a b : UInt64} (ha : Dy i k a) (hb : Dy j k b) (e : j < i) (o : ClassFile.CmpOp) : cmpValue (FP.dcmp a b) o = 1 := by
  rw [ha.cmp hb, show compare i j = .gt by rw [compare_ite, if_neg (by omega), if_neg (by omega)]]; rfl
theorem dy_of {i : Int} {k : Nat} {a : UInt64} {s : Bool} {c : Nat} {q : Int} (h : val64 a = .fin s c q) (e : zval b64 (.fin s c q) * 2 ^ k = i * 2 ^ 1074) : Dy i k a :=
  ⟨⟨s, c, q, h⟩, by rw [h, e]; rfl⟩
theorem dy0 (k : Nat) : Dy 0 k (0 : UInt64) := dy_of (s := false) (c := 0) (q := -1074) (by decide +kernel) (by
  rw [show zval b64 (.fin false 0 (-1074)) = 0 from rfl, Int.zero_mul, Int.zero_mul])
theorem dy1 (k : Nat) : Dy (2 ^ k) k (4607182418800017408 : UInt64) := dy_of (s := false) (c := 2 ^ 52) (q := -52) (by decide +kernel) (by
  rw [show zval b64 (.fin false (2 ^ 52) (-52)) = 2 ^ 1074 by decide +kernel, Int.mul_comm])
theorem Dy.ge {i j : Int} {k : Nat} {a b : UInt64} (ha : Dy i k a) (hb : Dy j k b) (e : j ≤ i) (o : ClassFile.CmpOp) : ¬ (cmpValue (FP.dcmp a b) o < (0 : Int32)) := by
  rcases Int.lt_or_eq_of_le e with h | h
  · rw [ha.cmp_gt hb h]; decide
  · rw [ha.cmp_eq hb h.symm]; decide
theorem Dy.le {i j : Int} {k : Nat} {a b : UInt64} (ha : Dy i k a) (hb : Dy j k b) (e : i ≤ j) (o : ClassFile.CmpOp) : ¬ ((0 : Int32) < cmpValue (FP.dcmp a b) o) := by
  rcases Int.lt_or_eq_of_le e with h | h
  · rw [ha.cmp_lt hb h]; decide
  · rw [ha.cmp_eq hb h]; decide
theorem Dy.lt_inf {i : Int} {k : Nat} {a : UInt64} (ha : Dy i k a) (o : ClassFile.CmpOp) : cmpValue (FP.dcmp a (9218868437227405312 : UInt64)) o < (0 : Int32) := by
  rw [Jvm.RoadKit.dcmp_pinf (Jvm.Free.Fl.fin64_core.mpr ha.1)]; decide
theorem isfin {a : UInt64} (h : DFin a) : ¬ ((0 : Int32) < cmpValue (FP.dcmp (a &&& 0x7fffffffffffffff) (9218868437227405311 : UInt64)) .g) := by
  have hn : dIsNaN a = false := (notNaN_iff a).mpr (by obtain ⟨s, c, q, e⟩ := h; rw [e]; exact nofun)
  rcases (le_max hn).mpr h with e | e <;> rw [show FP.dcmp (a &&& 0x7fffffffffffffff) (9218868437227405311 : UInt64) = _ from e] <;> decide
theorem since0 (s : State) : s.Since s.vm 0 := ⟨State.Warmed39.refl s, fun j p h1 h2 => by
  rw [Array.getElem?_eq_none h1] at h2; cases h2⟩
theorem i2d_nz {v : Int32} (h : v ≠ 0) : ¬ DZero (FP.i2d v) := fun q => i2d_ne_zero h ((zero_bits2 _).mp q)
theorem nn_of {x : UInt64} (h : dIsNaN x = false) : Jvm.Free.Fl.NoNaN64 x := Jvm.Free.Fl.noNaN64_no.mpr h
theorem no_of {x : UInt64} (h : Jvm.Free.Fl.NoNaN64 x) : dIsNaN x = false := Jvm.Free.Fl.noNaN64_no.mp h
theorem no_fin {x : UInt64} (h : DFin x) : dIsNaN x = false := (notNaN_iff x).mpr (by obtain ⟨s, c, q, e⟩ := h; rw [e]; exact nofun)
theorem nn_div {a : UInt64} {v : Int32} (ha : dIsNaN a = false) (h : v ≠ 0) : Jvm.Free.Fl.NoNaN64 (FP.ddiv a (FP.i2d v)) := nn_of (ddiv_out ha (i2d_fin v) (i2d_nz h))
theorem fin_div (a : Int32) {v : Int32} (h : v ≠ 0) : DFin (FP.ddiv (FP.i2d a) (FP.i2d v)) := by
  have h1 := i2d_mag a
  have h2 := i2d_big (v := v) (fun q => h (Int32.toInt_inj.mp q))
  exact fin_of_lt (ddiv_mag h1 h2.1 h2.2 (by decide) (by decide)) (by decide)
end Jvm.OwnFp
namespace Jvm.OwnFp
open Jvm.FP.Core Op
/-! own: rounding to float of a dyadic number -/
def Fy (i : Int) (k : Nat) (a : UInt32) : Prop := Dyf b32 i k (val32 a)
theorem qm32 : (0 : Int) ≤ b32.qmax := by decide
theorem Fy.fin {i : Int} {k : Nat} {a : UInt32} (h : Fy i k a) : FFin a := h.1
theorem Fy.nn {i : Int} {k : Nat} {a : UInt32} (h : Fy i k a) : Jvm.Free.Fl.NoNaN32 a := (Jvm.Free.Fl.fin32_core.mpr h.1).noNaN
theorem Fy.cmp {i j : Int} {k : Nat} {a b : UInt32} (ha : Fy i k a) (hb : Fy j k b) : FP.fcmp a b = some (compare i j) :=
  Dyf.order good_b32 (val32_fits a) (val32_fits b) ha hb
theorem Fy.to {i j : Int} {k l : Nat} {a : UInt32} (h : Fy i k a) (e : i * 2 ^ l = j * 2 ^ k) : Fy j l a := Dyf.to h e
theorem Fy.cmp_eq {i j : Int} {k : Nat} {a b : UInt32} (ha : Fy i k a) (hb : Fy j k b) (e : i = j) (o : ClassFile.CmpOp) : cmpValue (FP.fcmp a b) o = 0 := by
  rw [ha.cmp hb, e, compare_self_int]; rfl
theorem Fy.cmp_lt {i j : Int} {k : Nat} {a b : UInt32} (ha : Fy i k a) (hb : Fy j k b) (e : i < j) (o : ClassFile.CmpOp) : cmpValue (FP.fcmp a b) o = -1 := by
  rw [ha.cmp hb, show compare i j = .lt by rw [compare_ite, if_pos e]]; rfl
theorem Fy.cmp_gt {i j : Int} {k : Nat} {a b : UInt32} (ha : Fy i k a) (hb : Fy j k b) (e : j < i) (o : ClassFile.CmpOp) : cmpValue (FP.fcmp a b) o = 1 := by
  rw [ha.cmp hb, show compare i j = .gt by rw [compare_ite, if_neg (by omega), if_neg (by omega)]]; rfl
/-- a magnitude of 24 + sh digits, in units of 2^t -/
theorem rr32 {s : Bool} {M sh : Nat} {t : Int} (h1 : 2 ^ (23 + sh) ≤ M) (h2 : M < 2 ^ (24 + sh)) (ht : -149 ≤ (sh : Int) + t) :
    roundRatio b32 s M 1 t = settle b32 s (nearest M (2 ^ sh)) ((sh : Int) + t) := by
  have hM : 0 < M := Nat.lt_of_lt_of_le (Nat.two_pow_pos _) h1
  have hq : quantum b32 M 1 t = (sh : Int) + t := by
    refine quantum_eq hM (by decide) ht ?_ (Or.inr ?_)
    · show M * 2 ^ (-((sh : Int) + t - t + (24 : Nat))).toNat < 1 * 2 ^ ((sh : Int) + t - t + (24 : Nat)).toNat
      rw [show (-((sh : Int) + t - t + (24 : Nat))).toNat = 0 by omega, show ((sh : Int) + t - t + (24 : Nat)).toNat = 24 + sh by omega]
      omega
    · show ¬ (M * 2 ^ (-((sh : Int) + t - t + (((24 : Nat) : Int) - 1))).toNat < 1 * 2 ^ ((sh : Int) + t - t + (((24 : Nat) : Int) - 1)).toNat)
      rw [show (-((sh : Int) + t - t + (((24 : Nat) : Int) - 1))).toNat = 0 by omega, show ((sh : Int) + t - t + (((24 : Nat) : Int) - 1)).toNat = 23 + sh by omega]
      omega
  unfold roundRatio
  rw [if_neg (by omega), hq]
  unfold roundAt unitsNum unitsDen
  rw [show (t - ((sh : Int) + t)).toNat = 0 by omega, show ((sh : Int) + t - t).toNat = sh by omega, Nat.pow_zero, Nat.mul_one, Nat.one_mul]
theorem nearest_range {M sh : Nat} (h1 : 2 ^ (23 + sh) ≤ M) (h2 : M < 2 ^ (24 + sh)) : 2 ^ 23 ≤ nearest M (2 ^ sh) ∧ nearest M (2 ^ sh) ≤ 2 ^ 24 :=
  ⟨nearest_ge (Nat.two_pow_pos _) (by rw [← Nat.pow_add]; exact h1), nearest_le (Nat.two_pow_pos _) (by rw [← Nat.pow_add]; exact Nat.le_of_lt h2)⟩
theorem settle32 {s : Bool} {c : Nat} {q : Int} (h2 : c ≤ 2 ^ 24) (hq1 : -149 ≤ q) (hq2 : q ≤ 103 ∨ (c < 2 ^ 24 ∧ q ≤ 104)) :
    ∃ c' q', settle b32 s c q = .fin s c' q' ∧ inUnits c' q' b32.qmin = c * 2 ^ (q + 149).toNat := by
  have hm : b32.qmax = 104 := by decide
  have hn : b32.qmin = -149 := by decide
  have ht : b32.tails = 2 ^ 23 := by decide
  unfold settle bound
  rw [hm]
  show ∃ c' q', (if c < 2 ^ 24 then _ else _) = _ ∧ _
  by_cases h : c < 2 ^ 24
  · rw [if_pos h, if_pos (by omega)]
    exact ⟨c, q, rfl, by unfold inUnits; rw [hn, show q - -149 = q + 149 by omega]⟩
  · rw [if_neg h, if_pos (by omega)]
    refine ⟨_, _, rfl, ?_⟩
    unfold inUnits
    rw [hn, ht, show (q + 1 - -149).toNat = (q + 149).toNat + 1 by omega, Nat.pow_succ, show c = 2 ^ 24 by omega]
    omega
theorem settle32_inf {s : Bool} {c : Nat} {q : Int} (hq : 104 < q ∨ (¬ c < 2 ^ 24 ∧ 103 < q)) : settle b32 s c q = .inf s := by
  have hm : b32.qmax = 104 := by decide
  unfold settle bound
  rw [hm]
  show (if c < 2 ^ 24 then _ else _) = _
  by_cases h : c < 2 ^ 24
  · rw [if_pos h, if_neg (by omega)]
  · rw [if_neg h, if_neg (by omega)]
/-- the parts of a double that is worth i / 2^k -/
theorem dy_parts {i : Int} {k : Nat} {a : UInt64} (h : Dy i k a) : ∃ s c q, val64 a = .fin s c q ∧ c * 1 * 2 ^ (q - (-(k : Int))).toNat = i.natAbs * 1 * 2 ^ (-(k : Int) - q).toNat ∧ (i ≠ 0 → s = decide (i < 0)) := by
  obtain ⟨⟨s, c, q, e⟩, hz⟩ := h
  refine ⟨s, c, q, e, ?_, ?_⟩
  · have hf := val64_fits a
    rw [e] at hf hz
    have hq := hf.2.1
    rw [qmin_b64] at hq
    have h2 := congrArg Int.natAbs hz
    rw [Int.natAbs_mul, Int.natAbs_mul, natAbs_pow, natAbs_pow, natAbs_zval, qmin_b64] at h2
    have h3 : zmag b64 (.fin s c q) = c * 2 ^ (q + 1074).toNat := by
      show c * 2 ^ (q - b64.qmin).toNat = _
      rw [qmin_b64, show q - -1074 = q + 1074 by omega]
    rw [h3, Nat.mul_assoc, ← Nat.pow_add] at h2
    rw [Nat.mul_one, Nat.mul_one]
    rcases Int.le_total 0 (q + k) with hp | hp
    · rw [show (-(k : Int) - q).toNat = 0 by omega, Nat.pow_zero, Nat.mul_one]
      refine Nat.eq_of_mul_eq_mul_right (Nat.two_pow_pos 1074) ?_
      rw [Nat.mul_assoc, ← Nat.pow_add, show (q - -(k : Int)).toNat + 1074 = (q + 1074).toNat + k by omega]
      exact h2
    · rw [show (q - -(k : Int)).toNat = 0 by omega, Nat.pow_zero, Nat.mul_one]
      refine Nat.eq_of_mul_eq_mul_right (Nat.two_pow_pos ((q + 1074).toNat + k)) ?_
      rw [h2, Nat.mul_assoc, ← Nat.pow_add, show (-(k : Int) - q).toNat + ((q + 1074).toNat + k) = 1074 by omega]
      rfl
  · intro hi
    rw [e] at hz
    have hs : zval b64 (.fin s c q) = signed s (inUnits c q b64.qmin) := rfl
    rw [hs] at hz
    have p1 := pw_pos k
    have p2 := pw_pos (-b64.qmin).toNat
    have hc : (0 : Int) ≤ (inUnits c q b64.qmin : Int) := Int.natCast_nonneg _
    cases s with
    | true =>
      have : signed true (inUnits c q b64.qmin) = -((inUnits c q b64.qmin : Nat) : Int) := rfl
      rw [this] at hz
      have : i * 2 ^ (-b64.qmin).toNat ≤ 0 := by rw [← hz]; exact Int.mul_nonpos_of_nonpos_of_nonneg (by omega) (Int.le_of_lt p1)
      have : ¬ 0 < i := fun hp => absurd (Int.mul_pos hp p2) (by omega)
      simp; omega
    | false =>
      have : signed false (inUnits c q b64.qmin) = ((inUnits c q b64.qmin : Nat) : Int) := rfl
      rw [this] at hz
      have : 0 ≤ i * 2 ^ (-b64.qmin).toNat := by rw [← hz]; exact Int.mul_nonneg hc (Int.le_of_lt p1)
      have : ¬ i < 0 := fun hp => absurd (Int.mul_neg_of_neg_of_pos hp p2) (by omega)
      simp; omega
theorem val32_d2f' {a : UInt64} (h : DFin a) : val32 (FP.d2f a) = round b32 (val64 a) := by
  have hn : FP.dIsNaN a = false := (notNaN_iff a).mpr (by obtain ⟨s, c, q, e⟩ := h; rw [e]; exact nofun)
  rw [FP.d2f_core hn, val32_d2f]
/-- small: no rounding -/
theorem d2f_small' {i : Int} {k : Nat} {a : UInt64} (h : Dy i k a) (hi : i.natAbs < 2 ^ 24) (hk : k ≤ 149) : Fy i k (FP.d2f a) := by
  show Dyf b32 i k (val32 (FP.d2f a))
  rw [val32_d2f' h.1]
  obtain ⟨⟨s, c, q, e⟩, hz⟩ := h
  have hf := val64_fits a
  rw [e] at hz hf ⊢
  have hq : b64.qmin ≤ q := hf.2.1
  have n1 : b32.qmin = -149 := by decide
  refine rnd good_b32 qm32 (e0 := b64.qmin) (by decide) hq hi (by rw [n1]; omega) ?_
  have : signed s (inUnits c q b64.qmin) * 2 ^ k = i * 2 ^ (-b64.qmin).toNat := hz
  rw [this, Int.mul_assoc, ← Int.pow_add]
  rfl
/-- the float of a double that is worth i / 2^k, |i| of 24 + sh digits -/
theorem d2f_round {i : Int} {k sh : Nat} {a : UInt64} (h : Dy i k a) (h1 : 2 ^ (23 + sh) ≤ i.natAbs) (h2 : i.natAbs < 2 ^ (24 + sh)) (hk : k ≤ 100) (hs : sh ≤ 100) :
    Fy (signed (decide (i < 0)) (nearest i.natAbs (2 ^ sh) * 2 ^ sh)) k (FP.d2f a) := by
  show Dyf b32 _ k (val32 (FP.d2f a))
  rw [val32_d2f' h.1]
  obtain ⟨s, c, q, e, hv, hsg⟩ := dy_parts h
  have hi : i ≠ 0 := by rintro rfl; have := Nat.two_pow_pos (23 + sh); rw [Int.natAbs_zero] at h1; omega
  have hs' := hsg hi
  subst hs'
  rw [e]
  show Dyf b32 _ k (roundRatio b32 _ c 1 q)
  rw [roundRatio_congr (by decide) (by decide) hv, rr32 h1 h2 (by omega)]
  obtain ⟨c', q', e', hu⟩ := settle32 (s := decide (i < 0)) (c := nearest i.natAbs (2 ^ sh)) (q := (sh : Int) + -(k : Int)) (nearest_range h1 h2).2 (by omega) (Or.inl (by omega))
  rw [e']
  refine ⟨⟨_, _, _, rfl⟩, ?_⟩
  show signed _ (inUnits c' q' b32.qmin) * 2 ^ k = _
  rw [hu, signed_mulI, signed_mulI, Int.mul_assoc, ← Int.pow_add, Int.mul_assoc, ← Int.pow_add, show ((sh : Int) + -(k : Int) + 149).toNat + k = sh + (-b32.qmin).toNat by rw [show b32.qmin = -149 by decide]; omega]
  rfl
end Jvm.OwnFp
namespace Jvm.Pilot.@@N@@
open Jvm Jvm.ClassFile Sem Op Lib Jvm.Free Jvm.Stand Jvm.LawKit Jvm.RoadKit Bundle Jvm.Pilot.@@N@@.Jvm.D
open Jvm.OwnFp Jvm.FP.Core
theorem int32_abs' (x : Int32) : x.toInt.natAbs ≤ 2147483648 := by have := rng32 x; omega
theorem own_lt64 {a k : Int64} {K : Int} (h : a.toInt < K) (hk : k.toInt = K) : a < k := Int64.lt_iff_toInt_lt.mpr (by omega)
theorem own_lt64' {a k : Int64} {K : Int} (h : a < k) (hk : k.toInt = K) : a.toInt < K := by have := Int64.lt_iff_toInt_lt.mp h; omega
/-- the float nearest to a whole number, as a whole number -/
def own_rm (u : Nat) : Nat := if u < 16777216 then u else nearest u (2 ^ (u.log2 - 23)) * 2 ^ (u.log2 - 23)
def own_rtf (i : Int) : Int := signed (decide (i < 0)) (own_rm i.natAbs)
theorem own_rm_small {q : Int64} (hb : 0 ≤ q.toInt ∧ q.toInt ≤ 2147483648) (h : q.toInt < 16777216) : q.toInt = (own_rm q.toInt.natAbs : Int) := by
  unfold own_rm; rw [if_pos (by omega)]; omega
theorem own_log {u s : Nat} (h1 : 2 ^ (23 + s) ≤ u) (h2 : u < 2 ^ (24 + s)) : u.log2 - 23 = s := by
  have : u.log2 = 23 + s := (Nat.log2_eq_iff (by have := Nat.two_pow_pos (23 + s); omega)).mpr ⟨h1, by rw [show 23 + s + 1 = 24 + s by omega]; exact h2⟩
  omega
theorem own_rm_big {u s : Nat} (hs : 1 ≤ s) (h1 : 2 ^ (23 + s) ≤ u) (h2 : u < 2 ^ (24 + s)) : own_rm u = nearest u (2 ^ s) * 2 ^ s := by
  unfold own_rm
  rw [if_neg, own_log h1 h2]
  have : 2 ^ 24 ≤ 2 ^ (23 + s) := Nat.pow_le_pow_right (by decide) (by omega)
  omega
theorem own_mag {q rm hf j : Int64} {U P : Nat} (hP : 2 ≤ P) (hq : q.toInt = (U / P : Nat)) (hr : rm.toInt = (U % P : Nat)) (hh : 2 * hf.toInt = P) (hU : U ≤ 2147483648)
    (hj : j = if hf < rm then (q + 1) else if rm = hf then (if (q &&& 1) = 1 then (q + 1) else q) else q) : j.toInt = (nearest U P : Nat) := by
  have hdiv : U / P ≤ 2147483648 := Nat.le_trans (Nat.div_le_self _ _) hU
  have ha := c_ladd q 1
  have rr := rng64 (q + 1)
  rw [show (1 : Int64).toInt = 1 by decide] at ha
  have hq0 : 0 ≤ q.toInt := by rw [hq]; exact Int.natCast_nonneg _
  have hq1 : q.toInt ≤ 2147483648 := by rw [hq]; exact Int.ofNat_le.mpr hdiv
  have e1 : (q + 1).toInt = q.toInt + 1 := by clear hq hdiv; omega
  have m := c_maskL q 1 1 (by decide) (by decide)
  have hodd : (q &&& 1) = 1 ↔ U / P % 2 = 1 := by
    rw [← Int64.toInt_inj, m, hq, show (1 : Int64).toInt = 1 by decide]; omega
  unfold nearest
  rw [hj]
  by_cases a1 : hf < rm
  · have := Int64.lt_iff_toInt_lt.mp a1
    rw [if_pos a1, if_neg (show ¬ 2 * (U % P) < P by omega), if_pos (show P < 2 * (U % P) by omega), e1, hq]; omega
  · have b1 : ¬ hf.toInt < rm.toInt := fun h => a1 (Int64.lt_iff_toInt_lt.mpr h)
    rw [if_neg a1]
    by_cases a2 : rm = hf
    · rw [if_pos a2, if_neg (show ¬ 2 * (U % P) < P by rw [a2] at hr; omega), if_neg (show ¬ P < 2 * (U % P) by rw [a2] at hr; omega)]
      by_cases a3 : (q &&& 1) = 1
      · rw [if_pos a3, e1, hq]; have := hodd.mp a3; omega
      · rw [if_neg a3, hq]; have : ¬ U / P % 2 = 1 := fun h => a3 (hodd.mpr h); omega
    · have b2 : rm.toInt ≠ hf.toInt := fun h => a2 (Int64.toInt_inj.mp h)
      rw [if_neg a2, if_pos (show 2 * (U % P) < P by omega), hq]
theorem own_magif (q rm hf : Int64) : (if (0 : Int32) < (lcmpW rm hf) then (q + (1 : Int64)) else (if (lcmpW rm hf) = (0 : Int32) then (if (lcmpW (q &&& (1 : Int64)) (1 : Int64)) = (0 : Int32) then (q + (1 : Int64)) else q) else q)) = (if hf < rm then (q + 1) else if rm = hf then (if (q &&& 1) = 1 then (q + 1) else q) else q) := by
  have a := lw_gt rm hf; have b := lw_eq rm hf; have d := lw_eq (q &&& 1) 1
  simp only [a, b, d]
theorem own_neg {q : Int64} (hb : -2147483648 ≤ q.toInt ∧ q.toInt ≤ 2147483648) (h : q.toInt < 0) : 0 ≤ (-q).toInt ∧ (-q).toInt ≤ 2147483648 := by
  have := c_lneg q; have := rng64 (-q); omega
theorem own_negE {q : Int64} (hb : -2147483648 ≤ q.toInt ∧ q.toInt ≤ 2147483648) : (-q).toInt = -q.toInt := by
  have := c_lneg q; have := rng64 (-q); omega
theorem own_rm_le (u : Nat) (h : u ≤ 2147483648) : own_rm u ≤ 2147483648 := by
  unfold own_rm
  by_cases q : u < 16777216
  · rw [if_pos q]; omega
  · rw [if_neg q]
    have hl : u.log2 ≤ 31 := by
      have : u.log2 < 32 := (Nat.log2_lt (by omega)).mpr (by omega)
      omega
    have h23 : 23 ≤ u.log2 := (Nat.le_log2 (by omega)).mpr (by omega)
    obtain ⟨s, hs⟩ : ∃ s, s = u.log2 - 23 := ⟨_, rfl⟩
    rw [← hs]
    have e : 2147483648 = 2 ^ (31 - s) * 2 ^ s := by rw [← Nat.pow_add, show 31 - s + s = 31 by omega]
    refine Nat.le_trans (Nat.mul_le_mul_right _ (nearest_le (M := 2 ^ (31 - s)) (Nat.two_pow_pos _) ?_)) (Nat.le_of_eq e.symm)
    rw [← e]; exact h
theorem own_rtf_neg {q r : Int64} (hb : -2147483648 ≤ q.toInt ∧ q.toInt ≤ 2147483648) (h : q.toInt < 0) (hr : r.toInt = (own_rm (-q).toInt.natAbs : Int)) : (-r).toInt = own_rtf q.toInt := by
  rw [own_negE hb, Int.natAbs_neg] at hr
  have := own_rm_le q.toInt.natAbs (by omega)
  have e := c_lneg r; have := rng64 (-r)
  unfold own_rtf
  rw [show decide (q.toInt < 0) = true by simp [h]]
  show _ = -((own_rm q.toInt.natAbs : Nat) : Int)
  omega
theorem own_rtf_pos {q r : Int64} (h : ¬ q.toInt < 0) (hr : r.toInt = (own_rm q.toInt.natAbs : Int)) : r.toInt = own_rtf q.toInt := by
  unfold own_rtf
  rw [show decide (q.toInt < 0) = false by simp [h], hr]; rfl
theorem own_k (f k : Int32) (h : k = f &&& (15 : Int32)) : ∃ K : Nat, k.toInt = K ∧ ((1 : Int32) <<< (k &&& 31)).toInt = 2 ^ K ∧ ((1 : Int64) <<< (k &&& 0x3f).toInt64).toInt = 2 ^ K ∧ (1 : Int) ≤ 2 ^ K ∧ (2 : Int) ^ K ≤ 32768 ∧ K ≤ 15 := by
  have e1 := c_and f 15 (by decide)
  rw [← h, show (15 : Int32).toInt = 15 by decide] at e1
  obtain ⟨E, hE, hE2⟩ : ∃ E : Nat, k.toInt = E ∧ E ≤ 15 := ⟨k.toInt.toNat, by omega, by omega⟩
  have hee : k = Int32.ofInt (E : Int) := by rw [← hE, Int32.ofInt_toInt]
  refine ⟨E, hE, ?_⟩
  subst hee
  clear h e1 hE
  match E, hE2 with
  | 0, _ => decide
  | 1, _ => decide
  | 2, _ => decide
  | 3, _ => decide
  | 4, _ => decide
  | 5, _ => decide
  | 6, _ => decide
  | 7, _ => decide
  | 8, _ => decide
  | 9, _ => decide
  | 10, _ => decide
  | 11, _ => decide
  | 12, _ => decide
  | 13, _ => decide
  | 14, _ => decide
  | 15, _ => decide
theorem own_negI (x : Int32) : (-(x.toInt64)).toInt = -x.toInt := by
  have := c_lneg x.toInt64; have r := rng64 (-x.toInt64); have q := rng32 x; rw [c_i2l] at this; omega
theorem own_d2f {i : Int} {k : Nat} {a : UInt64} (h : Dy i k a) (hb : -2147483648 ≤ i ∧ i ≤ 2147483648) (hk : k ≤ 15) : Fy (own_rtf i) k (FP.d2f a) := by
  unfold own_rtf
  by_cases q : i.natAbs < 16777216
  · have e : own_rm i.natAbs = i.natAbs := by unfold own_rm; rw [if_pos q]
    rw [e, signed_abs]
    exact d2f_small' h q (by omega)
  · have hl : i.natAbs.log2 ≤ 31 := by
      have : i.natAbs.log2 < 32 := (Nat.log2_lt (by omega)).mpr (by omega)
      omega
    have h24 : 24 ≤ i.natAbs.log2 := (Nat.le_log2 (by omega)).mpr (by omega)
    obtain ⟨s, hs⟩ : ∃ s, i.natAbs.log2 = 23 + s := ⟨i.natAbs.log2 - 23, by omega⟩
    have b1 : 2 ^ (23 + s) ≤ i.natAbs := hs ▸ Nat.log2_self_le (by omega)
    have b2 : i.natAbs < 2 ^ (24 + s) := by have := Nat.lt_log2_self (n := i.natAbs); rw [hs, show 23 + s + 1 = 24 + s by omega] at this; exact this
    rw [own_rm_big (by omega) b1 b2]
    exact d2f_round h b1 b2 (by omega) (by omega)
theorem own_rtf_abs {i : Int} (hb : -2147483648 ≤ i ∧ i ≤ 2147483648) : (own_rtf i).natAbs ≤ 2147483648 := by
  unfold own_rtf; rw [natAbs_signed]; exact own_rm_le _ (by omega)
theorem own_sc {i : Int} {r s : Int64} {K : Nat} (hb : -2147483648 ≤ i ∧ i ≤ 2147483648) (hr : r.toInt = own_rtf i) (hs : s.toInt = 2 ^ K) (p1 : (1 : Int) ≤ 2 ^ K) (p2 : (2 : Int) ^ K ≤ 32768) : (r * s).toInt = own_rtf i * 2 ^ K := by
  have b := own_rtf_abs hb
  have m : (own_rtf i * 2 ^ K).natAbs ≤ 2147483648 * 32768 := by rw [Int.natAbs_mul]; exact Nat.mul_le_mul b (by omega)
  have q := int64_mul (a := r) (b := s)
  rw [hr, hs] at q
  exact q (by omega) (by omega)
theorem own_fin {i j : Int} {k l : Nat} {f g : UInt32} {lhs rhs : Int64} (F : Fy (own_rtf i) k f) (G : Fy (own_rtf j) l g) (hl : lhs.toInt = own_rtf i * 2 ^ l) (hr : rhs.toInt = own_rtf j * 2 ^ k) :
    (if (if (0 : Int32) < (cmpValue (FP.fcmp f g) .l) then (-1 : Int32) else (if (cmpValue (FP.fcmp f g) .g) < (0 : Int32) then (1 : Int32) else (0 : Int32))) < (0 : Int32) then (-1 : Int32) else (if (0 : Int32) < (if (0 : Int32) < (cmpValue (FP.fcmp f g) .l) then (-1 : Int32) else (if (cmpValue (FP.fcmp f g) .g) < (0 : Int32) then (1 : Int32) else (0 : Int32))) then (1 : Int32) else (0 : Int32))) = (if (0 : Int32) < (lcmpW lhs rhs) then (-1 : Int32) else (if (lcmpW lhs rhs) < (0 : Int32) then (1 : Int32) else (0 : Int32))) := by
  have F' : Fy lhs.toInt (k + l) f := F.to (by rw [hl, Int.pow_add]; ac_rfl)
  have G' : Fy rhs.toInt (k + l) g := G.to (by rw [hr, Int.pow_add]; ac_rfl)
  rcases Int.lt_trichotomy lhs.toInt rhs.toInt with h | h | h
  · rw [F'.cmp_lt G' h, F'.cmp_lt G' h, show (lcmpW lhs rhs) = -1 from Int32.toInt_inj.mp ((c_lcmp lhs rhs).1 h)]; decide
  · rw [F'.cmp_eq G' h, F'.cmp_eq G' h, show (lcmpW lhs rhs) = 0 from Int32.toInt_inj.mp ((c_lcmp lhs rhs).2.1 h)]; decide
  · rw [F'.cmp_gt G' h, F'.cmp_gt G' h, show (lcmpW lhs rhs) = 1 from Int32.toInt_inj.mp ((c_lcmp lhs rhs).2.2 h)]; decide
theorem own_mag1 {q1 q rm hf j : Int64} (hb : 0 ≤ q1.toInt ∧ q1.toInt ≤ 2147483648) (c1 : ¬ q1.toInt < 16777216) (t8 : q1.toInt < 2147483648) (t7 : q1.toInt < 1073741824) (t6 : q1.toInt < 536870912) (t5 : q1.toInt < 268435456) (t4 : q1.toInt < 134217728) (t3 : q1.toInt < 67108864) (t2 : q1.toInt < 33554432)
    (eq : q = (q1 >>> ((1 : Int32) &&& 0x3f).toInt64)) (erm : rm = (q1 - ((q1 >>> ((1 : Int32) &&& 0x3f).toInt64) <<< ((1 : Int32) &&& 0x3f).toInt64))) (ehf : hf = ((1 : Int64) <<< (((1 : Int32) - (1 : Int32)) &&& 0x3f).toInt64))
    (hj : j = (if (0 : Int32) < (lcmpW rm hf) then (q + (1 : Int64)) else (if (lcmpW rm hf) = (0 : Int32) then (if (lcmpW (q &&& (1 : Int64)) (1 : Int64)) = (0 : Int32) then (q + (1 : Int64)) else q) else q))) : (j <<< ((1 : Int32) &&& 0x3f).toInt64).toInt = (own_rm q1.toInt.natAbs : Int) := by
  have q1' := c_lshr q1 1 1 (by decide)
  rw [← eq] at q1' erm
  have l1 := c_lshl q 1 1 (by decide)
  have r1 := rng64 (q <<< ((1 : Int32) &&& 0x3f).toInt64)
  have s1 := c_lsub q1 (q <<< ((1 : Int32) &&& 0x3f).toInt64)
  have r2 := rng64 (q1 - (q <<< ((1 : Int32) &&& 0x3f).toInt64))
  rw [← erm] at s1 r2
  have hp : ((2 ^ 1 : Nat) : Int) = 2 := by decide
  rw [hp] at q1' l1
  have hhf : hf.toInt = 1 := by rw [ehf]; decide
  have hm := own_mag (q := q) (rm := rm) (hf := hf) (j := j) (U := q1.toInt.natAbs) (P := 2 ^ 1) (by decide) (by omega) (by omega) (by rw [hhf]; decide) (by omega) (by rw [hj]; exact own_magif _ _ _)
  rw [own_rm_big (s := 1) (by decide) (by show 16777216 ≤ _; omega) (by show _ < 33554432; omega)]
  have l2 := c_lshl j 1 1 (by decide)
  have r3 := rng64 (j <<< ((1 : Int32) &&& 0x3f).toInt64)
  have nb := nearest_le (A := q1.toInt.natAbs) (B := 2 ^ 1) (M := 2 ^ (31 - 1)) (by decide) (by rw [← Nat.pow_add]; show _ ≤ 2147483648; omega)
  rw [hp, hm] at l2
  have : ((2 ^ (31 - 1) : Nat) : Int) * 2 = 2147483648 := by decide
  rw [Int.natCast_mul, hp]
  omega
theorem own_mag2 {q1 q rm hf j : Int64} (hb : 0 ≤ q1.toInt ∧ q1.toInt ≤ 2147483648) (c1 : ¬ q1.toInt < 16777216) (t8 : q1.toInt < 2147483648) (t7 : q1.toInt < 1073741824) (t6 : q1.toInt < 536870912) (t5 : q1.toInt < 268435456) (t4 : q1.toInt < 134217728) (t3 : q1.toInt < 67108864) (t2 : ¬ q1.toInt < 33554432)
    (eq : q = (q1 >>> ((2 : Int32) &&& 0x3f).toInt64)) (erm : rm = (q1 - ((q1 >>> ((2 : Int32) &&& 0x3f).toInt64) <<< ((2 : Int32) &&& 0x3f).toInt64))) (ehf : hf = ((1 : Int64) <<< (((2 : Int32) - (1 : Int32)) &&& 0x3f).toInt64))
    (hj : j = (if (0 : Int32) < (lcmpW rm hf) then (q + (1 : Int64)) else (if (lcmpW rm hf) = (0 : Int32) then (if (lcmpW (q &&& (1 : Int64)) (1 : Int64)) = (0 : Int32) then (q + (1 : Int64)) else q) else q))) : (j <<< ((2 : Int32) &&& 0x3f).toInt64).toInt = (own_rm q1.toInt.natAbs : Int) := by
  have q1' := c_lshr q1 2 2 (by decide)
  rw [← eq] at q1' erm
  have l1 := c_lshl q 2 2 (by decide)
  have r1 := rng64 (q <<< ((2 : Int32) &&& 0x3f).toInt64)
  have s1 := c_lsub q1 (q <<< ((2 : Int32) &&& 0x3f).toInt64)
  have r2 := rng64 (q1 - (q <<< ((2 : Int32) &&& 0x3f).toInt64))
  rw [← erm] at s1 r2
  have hp : ((2 ^ 2 : Nat) : Int) = 4 := by decide
  rw [hp] at q1' l1
  have hhf : hf.toInt = 2 := by rw [ehf]; decide
  have hm := own_mag (q := q) (rm := rm) (hf := hf) (j := j) (U := q1.toInt.natAbs) (P := 2 ^ 2) (by decide) (by omega) (by omega) (by rw [hhf]; decide) (by omega) (by rw [hj]; exact own_magif _ _ _)
  rw [own_rm_big (s := 2) (by decide) (by show 33554432 ≤ _; omega) (by show _ < 67108864; omega)]
  have l2 := c_lshl j 2 2 (by decide)
  have r3 := rng64 (j <<< ((2 : Int32) &&& 0x3f).toInt64)
  have nb := nearest_le (A := q1.toInt.natAbs) (B := 2 ^ 2) (M := 2 ^ (31 - 2)) (by decide) (by rw [← Nat.pow_add]; show _ ≤ 2147483648; omega)
  rw [hp, hm] at l2
  have : ((2 ^ (31 - 2) : Nat) : Int) * 4 = 2147483648 := by decide
  rw [Int.natCast_mul, hp]
  omega
theorem own_mag3 {q1 q rm hf j : Int64} (hb : 0 ≤ q1.toInt ∧ q1.toInt ≤ 2147483648) (c1 : ¬ q1.toInt < 16777216) (t8 : q1.toInt < 2147483648) (t7 : q1.toInt < 1073741824) (t6 : q1.toInt < 536870912) (t5 : q1.toInt < 268435456) (t4 : q1.toInt < 134217728) (t3 : ¬ q1.toInt < 67108864)
    (eq : q = (q1 >>> ((3 : Int32) &&& 0x3f).toInt64)) (erm : rm = (q1 - ((q1 >>> ((3 : Int32) &&& 0x3f).toInt64) <<< ((3 : Int32) &&& 0x3f).toInt64))) (ehf : hf = ((1 : Int64) <<< (((3 : Int32) - (1 : Int32)) &&& 0x3f).toInt64))
    (hj : j = (if (0 : Int32) < (lcmpW rm hf) then (q + (1 : Int64)) else (if (lcmpW rm hf) = (0 : Int32) then (if (lcmpW (q &&& (1 : Int64)) (1 : Int64)) = (0 : Int32) then (q + (1 : Int64)) else q) else q))) : (j <<< ((3 : Int32) &&& 0x3f).toInt64).toInt = (own_rm q1.toInt.natAbs : Int) := by
  have q1' := c_lshr q1 3 3 (by decide)
  rw [← eq] at q1' erm
  have l1 := c_lshl q 3 3 (by decide)
  have r1 := rng64 (q <<< ((3 : Int32) &&& 0x3f).toInt64)
  have s1 := c_lsub q1 (q <<< ((3 : Int32) &&& 0x3f).toInt64)
  have r2 := rng64 (q1 - (q <<< ((3 : Int32) &&& 0x3f).toInt64))
  rw [← erm] at s1 r2
  have hp : ((2 ^ 3 : Nat) : Int) = 8 := by decide
  rw [hp] at q1' l1
  have hhf : hf.toInt = 4 := by rw [ehf]; decide
  have hm := own_mag (q := q) (rm := rm) (hf := hf) (j := j) (U := q1.toInt.natAbs) (P := 2 ^ 3) (by decide) (by omega) (by omega) (by rw [hhf]; decide) (by omega) (by rw [hj]; exact own_magif _ _ _)
  rw [own_rm_big (s := 3) (by decide) (by show 67108864 ≤ _; omega) (by show _ < 134217728; omega)]
  have l2 := c_lshl j 3 3 (by decide)
  have r3 := rng64 (j <<< ((3 : Int32) &&& 0x3f).toInt64)
  have nb := nearest_le (A := q1.toInt.natAbs) (B := 2 ^ 3) (M := 2 ^ (31 - 3)) (by decide) (by rw [← Nat.pow_add]; show _ ≤ 2147483648; omega)
  rw [hp, hm] at l2
  have : ((2 ^ (31 - 3) : Nat) : Int) * 8 = 2147483648 := by decide
  rw [Int.natCast_mul, hp]
  omega
theorem own_mag4 {q1 q rm hf j : Int64} (hb : 0 ≤ q1.toInt ∧ q1.toInt ≤ 2147483648) (c1 : ¬ q1.toInt < 16777216) (t8 : q1.toInt < 2147483648) (t7 : q1.toInt < 1073741824) (t6 : q1.toInt < 536870912) (t5 : q1.toInt < 268435456) (t4 : ¬ q1.toInt < 134217728)
    (eq : q = (q1 >>> ((4 : Int32) &&& 0x3f).toInt64)) (erm : rm = (q1 - ((q1 >>> ((4 : Int32) &&& 0x3f).toInt64) <<< ((4 : Int32) &&& 0x3f).toInt64))) (ehf : hf = ((1 : Int64) <<< (((4 : Int32) - (1 : Int32)) &&& 0x3f).toInt64))
    (hj : j = (if (0 : Int32) < (lcmpW rm hf) then (q + (1 : Int64)) else (if (lcmpW rm hf) = (0 : Int32) then (if (lcmpW (q &&& (1 : Int64)) (1 : Int64)) = (0 : Int32) then (q + (1 : Int64)) else q) else q))) : (j <<< ((4 : Int32) &&& 0x3f).toInt64).toInt = (own_rm q1.toInt.natAbs : Int) := by
  have q1' := c_lshr q1 4 4 (by decide)
  rw [← eq] at q1' erm
  have l1 := c_lshl q 4 4 (by decide)
  have r1 := rng64 (q <<< ((4 : Int32) &&& 0x3f).toInt64)
  have s1 := c_lsub q1 (q <<< ((4 : Int32) &&& 0x3f).toInt64)
  have r2 := rng64 (q1 - (q <<< ((4 : Int32) &&& 0x3f).toInt64))
  rw [← erm] at s1 r2
  have hp : ((2 ^ 4 : Nat) : Int) = 16 := by decide
  rw [hp] at q1' l1
  have hhf : hf.toInt = 8 := by rw [ehf]; decide
  have hm := own_mag (q := q) (rm := rm) (hf := hf) (j := j) (U := q1.toInt.natAbs) (P := 2 ^ 4) (by decide) (by omega) (by omega) (by rw [hhf]; decide) (by omega) (by rw [hj]; exact own_magif _ _ _)
  rw [own_rm_big (s := 4) (by decide) (by show 134217728 ≤ _; omega) (by show _ < 268435456; omega)]
  have l2 := c_lshl j 4 4 (by decide)
  have r3 := rng64 (j <<< ((4 : Int32) &&& 0x3f).toInt64)
  have nb := nearest_le (A := q1.toInt.natAbs) (B := 2 ^ 4) (M := 2 ^ (31 - 4)) (by decide) (by rw [← Nat.pow_add]; show _ ≤ 2147483648; omega)
  rw [hp, hm] at l2
  have : ((2 ^ (31 - 4) : Nat) : Int) * 16 = 2147483648 := by decide
  rw [Int.natCast_mul, hp]
  omega
theorem own_mag5 {q1 q rm hf j : Int64} (hb : 0 ≤ q1.toInt ∧ q1.toInt ≤ 2147483648) (c1 : ¬ q1.toInt < 16777216) (t8 : q1.toInt < 2147483648) (t7 : q1.toInt < 1073741824) (t6 : q1.toInt < 536870912) (t5 : ¬ q1.toInt < 268435456)
    (eq : q = (q1 >>> ((5 : Int32) &&& 0x3f).toInt64)) (erm : rm = (q1 - ((q1 >>> ((5 : Int32) &&& 0x3f).toInt64) <<< ((5 : Int32) &&& 0x3f).toInt64))) (ehf : hf = ((1 : Int64) <<< (((5 : Int32) - (1 : Int32)) &&& 0x3f).toInt64))
    (hj : j = (if (0 : Int32) < (lcmpW rm hf) then (q + (1 : Int64)) else (if (lcmpW rm hf) = (0 : Int32) then (if (lcmpW (q &&& (1 : Int64)) (1 : Int64)) = (0 : Int32) then (q + (1 : Int64)) else q) else q))) : (j <<< ((5 : Int32) &&& 0x3f).toInt64).toInt = (own_rm q1.toInt.natAbs : Int) := by
  have q1' := c_lshr q1 5 5 (by decide)
  rw [← eq] at q1' erm
  have l1 := c_lshl q 5 5 (by decide)
  have r1 := rng64 (q <<< ((5 : Int32) &&& 0x3f).toInt64)
  have s1 := c_lsub q1 (q <<< ((5 : Int32) &&& 0x3f).toInt64)
  have r2 := rng64 (q1 - (q <<< ((5 : Int32) &&& 0x3f).toInt64))
  rw [← erm] at s1 r2
  have hp : ((2 ^ 5 : Nat) : Int) = 32 := by decide
  rw [hp] at q1' l1
  have hhf : hf.toInt = 16 := by rw [ehf]; decide
  have hm := own_mag (q := q) (rm := rm) (hf := hf) (j := j) (U := q1.toInt.natAbs) (P := 2 ^ 5) (by decide) (by omega) (by omega) (by rw [hhf]; decide) (by omega) (by rw [hj]; exact own_magif _ _ _)
  rw [own_rm_big (s := 5) (by decide) (by show 268435456 ≤ _; omega) (by show _ < 536870912; omega)]
  have l2 := c_lshl j 5 5 (by decide)
  have r3 := rng64 (j <<< ((5 : Int32) &&& 0x3f).toInt64)
  have nb := nearest_le (A := q1.toInt.natAbs) (B := 2 ^ 5) (M := 2 ^ (31 - 5)) (by decide) (by rw [← Nat.pow_add]; show _ ≤ 2147483648; omega)
  rw [hp, hm] at l2
  have : ((2 ^ (31 - 5) : Nat) : Int) * 32 = 2147483648 := by decide
  rw [Int.natCast_mul, hp]
  omega
theorem own_mag6 {q1 q rm hf j : Int64} (hb : 0 ≤ q1.toInt ∧ q1.toInt ≤ 2147483648) (c1 : ¬ q1.toInt < 16777216) (t8 : q1.toInt < 2147483648) (t7 : q1.toInt < 1073741824) (t6 : ¬ q1.toInt < 536870912)
    (eq : q = (q1 >>> ((6 : Int32) &&& 0x3f).toInt64)) (erm : rm = (q1 - ((q1 >>> ((6 : Int32) &&& 0x3f).toInt64) <<< ((6 : Int32) &&& 0x3f).toInt64))) (ehf : hf = ((1 : Int64) <<< (((6 : Int32) - (1 : Int32)) &&& 0x3f).toInt64))
    (hj : j = (if (0 : Int32) < (lcmpW rm hf) then (q + (1 : Int64)) else (if (lcmpW rm hf) = (0 : Int32) then (if (lcmpW (q &&& (1 : Int64)) (1 : Int64)) = (0 : Int32) then (q + (1 : Int64)) else q) else q))) : (j <<< ((6 : Int32) &&& 0x3f).toInt64).toInt = (own_rm q1.toInt.natAbs : Int) := by
  have q1' := c_lshr q1 6 6 (by decide)
  rw [← eq] at q1' erm
  have l1 := c_lshl q 6 6 (by decide)
  have r1 := rng64 (q <<< ((6 : Int32) &&& 0x3f).toInt64)
  have s1 := c_lsub q1 (q <<< ((6 : Int32) &&& 0x3f).toInt64)
  have r2 := rng64 (q1 - (q <<< ((6 : Int32) &&& 0x3f).toInt64))
  rw [← erm] at s1 r2
  have hp : ((2 ^ 6 : Nat) : Int) = 64 := by decide
  rw [hp] at q1' l1
  have hhf : hf.toInt = 32 := by rw [ehf]; decide
  have hm := own_mag (q := q) (rm := rm) (hf := hf) (j := j) (U := q1.toInt.natAbs) (P := 2 ^ 6) (by decide) (by omega) (by omega) (by rw [hhf]; decide) (by omega) (by rw [hj]; exact own_magif _ _ _)
  rw [own_rm_big (s := 6) (by decide) (by show 536870912 ≤ _; omega) (by show _ < 1073741824; omega)]
  have l2 := c_lshl j 6 6 (by decide)
  have r3 := rng64 (j <<< ((6 : Int32) &&& 0x3f).toInt64)
  have nb := nearest_le (A := q1.toInt.natAbs) (B := 2 ^ 6) (M := 2 ^ (31 - 6)) (by decide) (by rw [← Nat.pow_add]; show _ ≤ 2147483648; omega)
  rw [hp, hm] at l2
  have : ((2 ^ (31 - 6) : Nat) : Int) * 64 = 2147483648 := by decide
  rw [Int.natCast_mul, hp]
  omega
theorem own_mag7 {q1 q rm hf j : Int64} (hb : 0 ≤ q1.toInt ∧ q1.toInt ≤ 2147483648) (c1 : ¬ q1.toInt < 16777216) (t8 : q1.toInt < 2147483648) (t7 : ¬ q1.toInt < 1073741824)
    (eq : q = (q1 >>> ((7 : Int32) &&& 0x3f).toInt64)) (erm : rm = (q1 - ((q1 >>> ((7 : Int32) &&& 0x3f).toInt64) <<< ((7 : Int32) &&& 0x3f).toInt64))) (ehf : hf = ((1 : Int64) <<< (((7 : Int32) - (1 : Int32)) &&& 0x3f).toInt64))
    (hj : j = (if (0 : Int32) < (lcmpW rm hf) then (q + (1 : Int64)) else (if (lcmpW rm hf) = (0 : Int32) then (if (lcmpW (q &&& (1 : Int64)) (1 : Int64)) = (0 : Int32) then (q + (1 : Int64)) else q) else q))) : (j <<< ((7 : Int32) &&& 0x3f).toInt64).toInt = (own_rm q1.toInt.natAbs : Int) := by
  have q1' := c_lshr q1 7 7 (by decide)
  rw [← eq] at q1' erm
  have l1 := c_lshl q 7 7 (by decide)
  have r1 := rng64 (q <<< ((7 : Int32) &&& 0x3f).toInt64)
  have s1 := c_lsub q1 (q <<< ((7 : Int32) &&& 0x3f).toInt64)
  have r2 := rng64 (q1 - (q <<< ((7 : Int32) &&& 0x3f).toInt64))
  rw [← erm] at s1 r2
  have hp : ((2 ^ 7 : Nat) : Int) = 128 := by decide
  rw [hp] at q1' l1
  have hhf : hf.toInt = 64 := by rw [ehf]; decide
  have hm := own_mag (q := q) (rm := rm) (hf := hf) (j := j) (U := q1.toInt.natAbs) (P := 2 ^ 7) (by decide) (by omega) (by omega) (by rw [hhf]; decide) (by omega) (by rw [hj]; exact own_magif _ _ _)
  rw [own_rm_big (s := 7) (by decide) (by show 1073741824 ≤ _; omega) (by show _ < 2147483648; omega)]
  have l2 := c_lshl j 7 7 (by decide)
  have r3 := rng64 (j <<< ((7 : Int32) &&& 0x3f).toInt64)
  have nb := nearest_le (A := q1.toInt.natAbs) (B := 2 ^ 7) (M := 2 ^ (31 - 7)) (by decide) (by rw [← Nat.pow_add]; show _ ≤ 2147483648; omega)
  rw [hp, hm] at l2
  have : ((2 ^ (31 - 7) : Nat) : Int) * 128 = 2147483648 := by decide
  rw [Int.natCast_mul, hp]
  omega
theorem own_mag8 {q1 q rm hf j : Int64} (hb : 0 ≤ q1.toInt ∧ q1.toInt ≤ 2147483648) (c1 : ¬ q1.toInt < 16777216) (t8 : ¬ q1.toInt < 2147483648)
    (eq : q = (q1 >>> ((8 : Int32) &&& 0x3f).toInt64)) (erm : rm = (q1 - ((q1 >>> ((8 : Int32) &&& 0x3f).toInt64) <<< ((8 : Int32) &&& 0x3f).toInt64))) (ehf : hf = ((1 : Int64) <<< (((8 : Int32) - (1 : Int32)) &&& 0x3f).toInt64))
    (hj : j = (if (0 : Int32) < (lcmpW rm hf) then (q + (1 : Int64)) else (if (lcmpW rm hf) = (0 : Int32) then (if (lcmpW (q &&& (1 : Int64)) (1 : Int64)) = (0 : Int32) then (q + (1 : Int64)) else q) else q))) : (j <<< ((8 : Int32) &&& 0x3f).toInt64).toInt = (own_rm q1.toInt.natAbs : Int) := by
  have q1' := c_lshr q1 8 8 (by decide)
  rw [← eq] at q1' erm
  have l1 := c_lshl q 8 8 (by decide)
  have r1 := rng64 (q <<< ((8 : Int32) &&& 0x3f).toInt64)
  have s1 := c_lsub q1 (q <<< ((8 : Int32) &&& 0x3f).toInt64)
  have r2 := rng64 (q1 - (q <<< ((8 : Int32) &&& 0x3f).toInt64))
  rw [← erm] at s1 r2
  have hp : ((2 ^ 8 : Nat) : Int) = 256 := by decide
  rw [hp] at q1' l1
  have hhf : hf.toInt = 128 := by rw [ehf]; decide
  have hm := own_mag (q := q) (rm := rm) (hf := hf) (j := j) (U := q1.toInt.natAbs) (P := 2 ^ 8) (by decide) (by omega) (by omega) (by rw [hhf]; decide) (by omega) (by rw [hj]; exact own_magif _ _ _)
  rw [own_rm_big (s := 8) (by decide) (by show 2147483648 ≤ _; omega) (by show _ < 4294967296; omega)]
  have l2 := c_lshl j 8 8 (by decide)
  have r3 := rng64 (j <<< ((8 : Int32) &&& 0x3f).toInt64)
  have nb := nearest_le (A := q1.toInt.natAbs) (B := 2 ^ 8) (M := 2 ^ (31 - 8)) (by decide) (by rw [← Nat.pow_add]; show _ ≤ 2147483648; omega)
  rw [hp, hm] at l2
  have : ((2 ^ (31 - 8) : Nat) : Int) * 256 = 2147483648 := by decide
  rw [Int.natCast_mul, hp]
  omega
theorem ef_2_J (m : MethodId) (x0 : Int64) : entryFrame m #[(.long x0)] 9 = mkF m 0 #[.val (.long x0), .second, .unset, .unset, .unset, .unset, .unset, .unset, .unset] [] := by first | (simp [entryFrame, mkF, argsToLocals, Value.category]; done) | rfl
theorem d2_0 : decode method_4_code 0 = .ok (.lload_n 0, 1) := by decide +kernel
theorem d2_1 : decode method_4_code 1 = .ok (.ldc2_w 22, 3) := by decide +kernel
theorem d2_4 : decode method_4_code 4 = .ok (.lcmp, 1) := by decide +kernel
theorem d2_5 : decode method_4_code 5 = .ok (.ifCond .ge 5, 3) := by decide +kernel
theorem d2_8 : decode method_4_code 8 = .ok (.lload_n 0, 1) := by decide +kernel
theorem d2_9 : decode method_4_code 9 = .ok (.lreturn, 1) := by decide +kernel
theorem d2_10 : decode method_4_code 10 = .ok (.lload_n 0, 1) := by decide +kernel
theorem d2_11 : decode method_4_code 11 = .ok (.ldc2_w 24, 3) := by decide +kernel
theorem d2_14 : decode method_4_code 14 = .ok (.lcmp, 1) := by decide +kernel
theorem d2_15 : decode method_4_code 15 = .ok (.ifCond .lt 9, 3) := by decide +kernel
theorem d2_24 : decode method_4_code 24 = .ok (.lload_n 0, 1) := by decide +kernel
theorem d2_25 : decode method_4_code 25 = .ok (.ldc2_w 26, 3) := by decide +kernel
theorem d2_28 : decode method_4_code 28 = .ok (.lcmp, 1) := by decide +kernel
theorem d2_29 : decode method_4_code 29 = .ok (.ifCond .lt 9, 3) := by decide +kernel
theorem d2_38 : decode method_4_code 38 = .ok (.lload_n 0, 1) := by decide +kernel
theorem d2_39 : decode method_4_code 39 = .ok (.ldc2_w 28, 3) := by decide +kernel
theorem d2_42 : decode method_4_code 42 = .ok (.lcmp, 1) := by decide +kernel
theorem d2_43 : decode method_4_code 43 = .ok (.ifCond .lt 9, 3) := by decide +kernel
theorem d2_52 : decode method_4_code 52 = .ok (.lload_n 0, 1) := by decide +kernel
theorem d2_53 : decode method_4_code 53 = .ok (.ldc2_w 30, 3) := by decide +kernel
theorem d2_56 : decode method_4_code 56 = .ok (.lcmp, 1) := by decide +kernel
theorem d2_57 : decode method_4_code 57 = .ok (.ifCond .lt 8, 3) := by decide +kernel
theorem d2_65 : decode method_4_code 65 = .ok (.lload_n 0, 1) := by decide +kernel
theorem d2_66 : decode method_4_code 66 = .ok (.ldc2_w 32, 3) := by decide +kernel
theorem d2_69 : decode method_4_code 69 = .ok (.lcmp, 1) := by decide +kernel
theorem d2_70 : decode method_4_code 70 = .ok (.ifCond .lt 8, 3) := by decide +kernel
theorem d2_78 : decode method_4_code 78 = .ok (.lload_n 0, 1) := by decide +kernel
theorem d2_79 : decode method_4_code 79 = .ok (.ldc2_w 34, 3) := by decide +kernel
theorem d2_82 : decode method_4_code 82 = .ok (.lcmp, 1) := by decide +kernel
theorem d2_83 : decode method_4_code 83 = .ok (.ifCond .lt 8, 3) := by decide +kernel
theorem d2_91 : decode method_4_code 91 = .ok (.lload_n 0, 1) := by decide +kernel
theorem d2_92 : decode method_4_code 92 = .ok (.ldc2_w 36, 3) := by decide +kernel
theorem d2_95 : decode method_4_code 95 = .ok (.lcmp, 1) := by decide +kernel
theorem d2_96 : decode method_4_code 96 = .ok (.ifCond .lt 8, 3) := by decide +kernel
theorem d2_104 : decode method_4_code 104 = .ok (.iconst 1, 1) := by decide +kernel
theorem d2_105 : decode method_4_code 105 = .ok (.istore_n 2, 1) := by decide +kernel
theorem d2_106 : decode method_4_code 106 = .ok (.lload_n 0, 1) := by decide +kernel
theorem d2_107 : decode method_4_code 107 = .ok (.iload_n 2, 1) := by decide +kernel
theorem d2_108 : decode method_4_code 108 = .ok (.lshr, 1) := by decide +kernel
theorem d2_109 : decode method_4_code 109 = .ok (.lstore_n 3, 1) := by decide +kernel
theorem d2_110 : decode method_4_code 110 = .ok (.lload_n 0, 1) := by decide +kernel
theorem d2_111 : decode method_4_code 111 = .ok (.lload_n 3, 1) := by decide +kernel
theorem d2_112 : decode method_4_code 112 = .ok (.iload_n 2, 1) := by decide +kernel
theorem d2_113 : decode method_4_code 113 = .ok (.lshl, 1) := by decide +kernel
theorem d2_114 : decode method_4_code 114 = .ok (.lsub, 1) := by decide +kernel
theorem d2_115 : decode method_4_code 115 = .ok (.lstore 5, 2) := by decide +kernel
theorem d2_117 : decode method_4_code 117 = .ok (.lconst 1, 1) := by decide +kernel
theorem d2_118 : decode method_4_code 118 = .ok (.iload_n 2, 1) := by decide +kernel
theorem d2_119 : decode method_4_code 119 = .ok (.iconst 1, 1) := by decide +kernel
theorem d2_120 : decode method_4_code 120 = .ok (.isub, 1) := by decide +kernel
theorem d2_121 : decode method_4_code 121 = .ok (.lshl, 1) := by decide +kernel
theorem d2_122 : decode method_4_code 122 = .ok (.lstore 7, 2) := by decide +kernel
theorem d2_124 : decode method_4_code 124 = .ok (.lload 5, 2) := by decide +kernel
theorem d2_126 : decode method_4_code 126 = .ok (.lload 7, 2) := by decide +kernel
theorem d2_128 : decode method_4_code 128 = .ok (.lcmp, 1) := by decide +kernel
theorem d2_129 : decode method_4_code 129 = .ok (.ifCond .gt 19, 3) := by decide +kernel
theorem d2_148 : decode method_4_code 148 = .ok (.lload_n 3, 1) := by decide +kernel
theorem d2_149 : decode method_4_code 149 = .ok (.lconst 1, 1) := by decide +kernel
theorem d2_150 : decode method_4_code 150 = .ok (.ladd, 1) := by decide +kernel
theorem d2_151 : decode method_4_code 151 = .ok (.lstore_n 3, 1) := by decide +kernel
theorem d2_132 : decode method_4_code 132 = .ok (.lload 5, 2) := by decide +kernel
theorem d2_134 : decode method_4_code 134 = .ok (.lload 7, 2) := by decide +kernel
theorem d2_136 : decode method_4_code 136 = .ok (.lcmp, 1) := by decide +kernel
theorem d2_137 : decode method_4_code 137 = .ok (.ifCond .ne 15, 3) := by decide +kernel
theorem d2_140 : decode method_4_code 140 = .ok (.lload_n 3, 1) := by decide +kernel
theorem d2_141 : decode method_4_code 141 = .ok (.lconst 1, 1) := by decide +kernel
theorem d2_142 : decode method_4_code 142 = .ok (.land, 1) := by decide +kernel
theorem d2_143 : decode method_4_code 143 = .ok (.lconst 1, 1) := by decide +kernel
theorem d2_144 : decode method_4_code 144 = .ok (.lcmp, 1) := by decide +kernel
theorem d2_145 : decode method_4_code 145 = .ok (.ifCond .ne 7, 3) := by decide +kernel
theorem d2_152 : decode method_4_code 152 = .ok (.lload_n 3, 1) := by decide +kernel
theorem d2_153 : decode method_4_code 153 = .ok (.iload_n 2, 1) := by decide +kernel
theorem d2_154 : decode method_4_code 154 = .ok (.lshl, 1) := by decide +kernel
theorem d2_155 : decode method_4_code 155 = .ok (.lreturn, 1) := by decide +kernel
theorem d2_99 : decode method_4_code 99 = .ok (.iconst 2, 1) := by decide +kernel
theorem d2_100 : decode method_4_code 100 = .ok (.istore_n 2, 1) := by decide +kernel
theorem d2_101 : decode method_4_code 101 = .ok (.goto 5, 3) := by decide +kernel
theorem d2_86 : decode method_4_code 86 = .ok (.iconst 3, 1) := by decide +kernel
theorem d2_87 : decode method_4_code 87 = .ok (.istore_n 2, 1) := by decide +kernel
theorem d2_88 : decode method_4_code 88 = .ok (.goto 18, 3) := by decide +kernel
theorem d2_73 : decode method_4_code 73 = .ok (.iconst 4, 1) := by decide +kernel
theorem d2_74 : decode method_4_code 74 = .ok (.istore_n 2, 1) := by decide +kernel
theorem d2_75 : decode method_4_code 75 = .ok (.goto 31, 3) := by decide +kernel
theorem d2_60 : decode method_4_code 60 = .ok (.iconst 5, 1) := by decide +kernel
theorem d2_61 : decode method_4_code 61 = .ok (.istore_n 2, 1) := by decide +kernel
theorem d2_62 : decode method_4_code 62 = .ok (.goto 44, 3) := by decide +kernel
theorem d2_46 : decode method_4_code 46 = .ok (.bipush 6, 2) := by decide +kernel
theorem d2_48 : decode method_4_code 48 = .ok (.istore_n 2, 1) := by decide +kernel
theorem d2_49 : decode method_4_code 49 = .ok (.goto 57, 3) := by decide +kernel
theorem d2_32 : decode method_4_code 32 = .ok (.bipush 7, 2) := by decide +kernel
theorem d2_34 : decode method_4_code 34 = .ok (.istore_n 2, 1) := by decide +kernel
theorem d2_35 : decode method_4_code 35 = .ok (.goto 71, 3) := by decide +kernel
theorem d2_18 : decode method_4_code 18 = .ok (.bipush 8, 2) := by decide +kernel
theorem d2_20 : decode method_4_code 20 = .ok (.istore_n 2, 1) := by decide +kernel
theorem d2_21 : decode method_4_code 21 = .ok (.goto 85, 3) := by decide +kernel
def Q_rm2 (Z : State) (q1 : Int64) (h0 : Heap) (n0 : Nat) (v : Option Value) (h : Heap) (L : List Loc) : Prop := ∃ r : Int64, v = some (.long r) ∧ Fr n0 L ∧ h = h0 ∧ r.toInt = (own_rm q1.toInt.natAbs : Int)
theorem pn_com_2fexample_2fmultinomial_2fmultinomial_2fsearch_2fRankOrderCompareScoresPinLaw : plainName "com/example/multinomial/multinomial/search/RankOrderCompareScoresPinLaw" = true := by first | (simp [plainName, overriddenIn]; done) | decide +kernel
set_option maxRecDepth 65536 in
set_option maxHeartbeats 40000000 in
theorem rm2 (l : Launch) (Z : State) (a0 : Array Value) (hw : ∀ d ∈ tables_1, d.before a0 Z = true) (ws : List Jvm.Cond) (q1 : Int64) (h0 : Heap) (n0 : Nat) (Z0 : n0 ≤ h0.size) (hbq : 0 ≤ q1.toInt ∧ q1.toInt ≤ 2147483648) :
    MetFree l (⟨"com/example/multinomial/multinomial/search/RankOrderCompareScoresPinLaw", "roundMagnitude", "(J)J"⟩ : MethodName) (head1 (Jvm.Cond.code (⟨"com/example/multinomial/multinomial/search/RankOrderCompareScoresPinLaw", "roundMagnitude", "(J)J"⟩ : MethodName) method_4_code 9 (some .long) :: ws) ({ frames := 0, cells := 0, slots := 0, locals := 0 } : Room)) (fun a U => a = #[(.long q1)] ∧ Z.Warmed39 U.vm ∧ U.heap = h0) (fun _ _ _ _ _ => True) (fun _ U o U' => ∃ v L, o = .returned v ∧ Q_rm2 Z q1 h0 n0 v U'.heap L ∧ FrameEnd U o U' L ({ frames := 0, cells := 0, slots := 0, locals := 0 } : Room).cells ({ frames := 0, cells := 0, slots := 0, locals := 0 } : Room).slots) := by
  refine MetFree.of_bodySF (plainFor_of_name pn_com_2fexample_2fmultinomial_2fmultinomial_2fsearch_2fRankOrderCompareScoresPinLaw) hisR ?_
  intro p e s m args below meth c s₁ Bd hml0 hP hK
  obtain ⟨rfl, hZ, hh⟩ := hP
  have hx := Bd.exec
  have hby := Bd.bytes
  have hml : c.maxLocals = 9 := hml0
  have hown : s.vm.findClass "com/example/multinomial/multinomial/search/RankOrderCompareScoresPinLaw" = some m.cls := findClass_of_methodNamed Bd.named
  have hnm := (name_of_methodNamed Bd.named Bd.method).1
  have X0 : Stand p l e ({ frames := 0, cells := 0, slots := 0, locals := 0 } : Room) s m #[(.long q1)] below meth c s₁ [] 0 0 := Stand.of_body Bd
  have e0 : s₁.heap = h0 := by rw [← hh, Bd.state]; rfl
  have N0 := Fr.nil n0
  have k0 : ∀ t, Steps p.tables e below (s₁.setTop (mkF m 0 #[.val (.long q1), .second, .unset, .unset, .unset, .unset, .unset, .unset, .unset] [])) t → Steps p.tables e below (s₁.setTop (entryFrame m #[(.long q1)] 9)) t := fun t k => castTop (ef_2_J m q1) k
  have k101 : ∀ t, Steps p.tables e below (s₁.setTop (mkF m 5 #[.val (.long q1), .second, .unset, .unset, .unset, .unset, .unset, .unset, .unset] [(.int (lcmpW q1 (16777216 : Int64)))])) t → Steps p.tables e below (s₁.setTop (entryFrame m #[(.long q1)] 9)) t := fun t k => k0 t (by
    show Steps p.tables e below (s₁.setTop (mkF m 0 #[.val (.long q1), .second, .unset, .unset, .unset, .unset, .unset, .unset, .unset] [])) _
    refine XS.lloadN X0.here hx rfl (hb hby d2_0) rfl ?_
    show Steps p.tables e below (s₁.setTop (mkF m 1 #[.val (.long q1), .second, .unset, .unset, .unset, .unset, .unset, .unset, .unset] [(.long q1)])) _
    refine X0.ldc2Long hx hown (mvT hZ (hw _ (List.mem_of_getElem? (i := 7) rfl))) (g := (mkF m 1 #[.val (.long q1), .second, .unset, .unset, .unset, .unset, .unset, .unset, .unset] [(.long q1)])) rfl (hb hby d2_1) _ ?_
    show Steps p.tables e below (s₁.setTop (mkF m 4 #[.val (.long q1), .second, .unset, .unset, .unset, .unset, .unset, .unset, .unset] [(.long (16777216 : Int64)), (.long q1)])) _
    refine XS.lcmp X0.here hx rfl (hb hby d2_4) rfl ?_
    exact k)
  by_cases c1 : q1.toInt < 16777216
  · have k102 : ∀ t, Steps p.tables e below (s₁.setTop (mkF m 9 #[.val (.long q1), .second, .unset, .unset, .unset, .unset, .unset, .unset, .unset] [(.long q1)])) t → Steps p.tables e below (s₁.setTop (entryFrame m #[(.long q1)] 9)) t := fun t k => k101 t (by
      show Steps p.tables e below (s₁.setTop (mkF m 5 #[.val (.long q1), .second, .unset, .unset, .unset, .unset, .unset, .unset, .unset] [(.int (lcmpW q1 (16777216 : Int64)))])) _
      refine XS.ifNo X0.here hx rfl (hb hby d2_5) rfl ((if0 _ _).trans (tlt ((lw_lt _ _).mpr (own_lt64 c1 (by decide)))).2.1) ?_
      show Steps p.tables e below (s₁.setTop (mkF m 8 #[.val (.long q1), .second, .unset, .unset, .unset, .unset, .unset, .unset, .unset] [])) _
      refine XS.lloadN X0.here hx rfl (hb hby d2_8) rfl ?_
      exact k)
    obtain ⟨fs, hr, hrun, hended, hW, hsame⟩ := X0.leave (v := some (.long q1)) (fun h => by rw [Bd.returns] at h; cases h)
    refine ⟨_, _, k102 _ (retOut X0 hx (t := .long) Bd.returns rfl (Or.inr (Or.inl ⟨rfl, rfl, _, rfl⟩)) (hb hby d2_9) hr), hrun, hended, _, _, rfl, ?_, ⟨_, rfl⟩, hW, hsame.mono (by decide) (by decide)⟩
    show Q_rm2 Z q1 h0 n0 _ s₁.heap _
    rw [e0]
    exact ⟨q1, rfl, N0, rfl, own_rm_small hbq c1⟩
  · have k103 : ∀ t, Steps p.tables e below (s₁.setTop (mkF m 15 #[.val (.long q1), .second, .unset, .unset, .unset, .unset, .unset, .unset, .unset] [(.int (lcmpW q1 (2147483648 : Int64)))])) t → Steps p.tables e below (s₁.setTop (entryFrame m #[(.long q1)] 9)) t := fun t k => k101 t (by
      show Steps p.tables e below (s₁.setTop (mkF m 5 #[.val (.long q1), .second, .unset, .unset, .unset, .unset, .unset, .unset, .unset] [(.int (lcmpW q1 (16777216 : Int64)))])) _
      refine XS.ifYes X0.here hx rfl (pc0 := 5) (pc' := 10) rfl (hb hby d2_5) rfl ((if0 _ _).trans (flt (fun q => c1 (own_lt64' ((lw_lt _ _).mp q) (by decide)))).2.1) (by decide) (by decide) ?_
      show Steps p.tables e below (s₁.setTop (mkF m 10 #[.val (.long q1), .second, .unset, .unset, .unset, .unset, .unset, .unset, .unset] [])) _
      refine XS.lloadN X0.here hx rfl (hb hby d2_10) rfl ?_
      show Steps p.tables e below (s₁.setTop (mkF m 11 #[.val (.long q1), .second, .unset, .unset, .unset, .unset, .unset, .unset, .unset] [(.long q1)])) _
      refine X0.ldc2Long hx hown (mvT hZ (hw _ (List.mem_of_getElem? (i := 12) rfl))) (g := (mkF m 11 #[.val (.long q1), .second, .unset, .unset, .unset, .unset, .unset, .unset, .unset] [(.long q1)])) rfl (hb hby d2_11) _ ?_
      show Steps p.tables e below (s₁.setTop (mkF m 14 #[.val (.long q1), .second, .unset, .unset, .unset, .unset, .unset, .unset, .unset] [(.long (2147483648 : Int64)), (.long q1)])) _
      refine XS.lcmp X0.here hx rfl (hb hby d2_14) rfl ?_
      exact k)
    by_cases t8 : q1.toInt < 2147483648
    · have k104 : ∀ t, Steps p.tables e below (s₁.setTop (mkF m 29 #[.val (.long q1), .second, .unset, .unset, .unset, .unset, .unset, .unset, .unset] [(.int (lcmpW q1 (1073741824 : Int64)))])) t → Steps p.tables e below (s₁.setTop (entryFrame m #[(.long q1)] 9)) t := fun t k => k103 t (by
        show Steps p.tables e below (s₁.setTop (mkF m 15 #[.val (.long q1), .second, .unset, .unset, .unset, .unset, .unset, .unset, .unset] [(.int (lcmpW q1 (2147483648 : Int64)))])) _
        refine XS.ifYes X0.here hx rfl (pc0 := 15) (pc' := 24) rfl (hb hby d2_15) rfl ((if0 _ _).trans (tlt ((lw_lt _ _).mpr (own_lt64 t8 (by decide)))).1) (by decide) (by decide) ?_
        show Steps p.tables e below (s₁.setTop (mkF m 24 #[.val (.long q1), .second, .unset, .unset, .unset, .unset, .unset, .unset, .unset] [])) _
        refine XS.lloadN X0.here hx rfl (hb hby d2_24) rfl ?_
        show Steps p.tables e below (s₁.setTop (mkF m 25 #[.val (.long q1), .second, .unset, .unset, .unset, .unset, .unset, .unset, .unset] [(.long q1)])) _
        refine X0.ldc2Long hx hown (mvT hZ (hw _ (List.mem_of_getElem? (i := 13) rfl))) (g := (mkF m 25 #[.val (.long q1), .second, .unset, .unset, .unset, .unset, .unset, .unset, .unset] [(.long q1)])) rfl (hb hby d2_25) _ ?_
        show Steps p.tables e below (s₁.setTop (mkF m 28 #[.val (.long q1), .second, .unset, .unset, .unset, .unset, .unset, .unset, .unset] [(.long (1073741824 : Int64)), (.long q1)])) _
        refine XS.lcmp X0.here hx rfl (hb hby d2_28) rfl ?_
        exact k)
      by_cases t7 : q1.toInt < 1073741824
      · have k105 : ∀ t, Steps p.tables e below (s₁.setTop (mkF m 43 #[.val (.long q1), .second, .unset, .unset, .unset, .unset, .unset, .unset, .unset] [(.int (lcmpW q1 (536870912 : Int64)))])) t → Steps p.tables e below (s₁.setTop (entryFrame m #[(.long q1)] 9)) t := fun t k => k104 t (by
          show Steps p.tables e below (s₁.setTop (mkF m 29 #[.val (.long q1), .second, .unset, .unset, .unset, .unset, .unset, .unset, .unset] [(.int (lcmpW q1 (1073741824 : Int64)))])) _
          refine XS.ifYes X0.here hx rfl (pc0 := 29) (pc' := 38) rfl (hb hby d2_29) rfl ((if0 _ _).trans (tlt ((lw_lt _ _).mpr (own_lt64 t7 (by decide)))).1) (by decide) (by decide) ?_
          show Steps p.tables e below (s₁.setTop (mkF m 38 #[.val (.long q1), .second, .unset, .unset, .unset, .unset, .unset, .unset, .unset] [])) _
          refine XS.lloadN X0.here hx rfl (hb hby d2_38) rfl ?_
          show Steps p.tables e below (s₁.setTop (mkF m 39 #[.val (.long q1), .second, .unset, .unset, .unset, .unset, .unset, .unset, .unset] [(.long q1)])) _
          refine X0.ldc2Long hx hown (mvT hZ (hw _ (List.mem_of_getElem? (i := 14) rfl))) (g := (mkF m 39 #[.val (.long q1), .second, .unset, .unset, .unset, .unset, .unset, .unset, .unset] [(.long q1)])) rfl (hb hby d2_39) _ ?_
          show Steps p.tables e below (s₁.setTop (mkF m 42 #[.val (.long q1), .second, .unset, .unset, .unset, .unset, .unset, .unset, .unset] [(.long (536870912 : Int64)), (.long q1)])) _
          refine XS.lcmp X0.here hx rfl (hb hby d2_42) rfl ?_
          exact k)
        by_cases t6 : q1.toInt < 536870912
        · have k106 : ∀ t, Steps p.tables e below (s₁.setTop (mkF m 57 #[.val (.long q1), .second, .unset, .unset, .unset, .unset, .unset, .unset, .unset] [(.int (lcmpW q1 (268435456 : Int64)))])) t → Steps p.tables e below (s₁.setTop (entryFrame m #[(.long q1)] 9)) t := fun t k => k105 t (by
            show Steps p.tables e below (s₁.setTop (mkF m 43 #[.val (.long q1), .second, .unset, .unset, .unset, .unset, .unset, .unset, .unset] [(.int (lcmpW q1 (536870912 : Int64)))])) _
            refine XS.ifYes X0.here hx rfl (pc0 := 43) (pc' := 52) rfl (hb hby d2_43) rfl ((if0 _ _).trans (tlt ((lw_lt _ _).mpr (own_lt64 t6 (by decide)))).1) (by decide) (by decide) ?_
            show Steps p.tables e below (s₁.setTop (mkF m 52 #[.val (.long q1), .second, .unset, .unset, .unset, .unset, .unset, .unset, .unset] [])) _
            refine XS.lloadN X0.here hx rfl (hb hby d2_52) rfl ?_
            show Steps p.tables e below (s₁.setTop (mkF m 53 #[.val (.long q1), .second, .unset, .unset, .unset, .unset, .unset, .unset, .unset] [(.long q1)])) _
            refine X0.ldc2Long hx hown (mvT hZ (hw _ (List.mem_of_getElem? (i := 15) rfl))) (g := (mkF m 53 #[.val (.long q1), .second, .unset, .unset, .unset, .unset, .unset, .unset, .unset] [(.long q1)])) rfl (hb hby d2_53) _ ?_
            show Steps p.tables e below (s₁.setTop (mkF m 56 #[.val (.long q1), .second, .unset, .unset, .unset, .unset, .unset, .unset, .unset] [(.long (268435456 : Int64)), (.long q1)])) _
            refine XS.lcmp X0.here hx rfl (hb hby d2_56) rfl ?_
            exact k)
          by_cases t5 : q1.toInt < 268435456
          · have k107 : ∀ t, Steps p.tables e below (s₁.setTop (mkF m 70 #[.val (.long q1), .second, .unset, .unset, .unset, .unset, .unset, .unset, .unset] [(.int (lcmpW q1 (134217728 : Int64)))])) t → Steps p.tables e below (s₁.setTop (entryFrame m #[(.long q1)] 9)) t := fun t k => k106 t (by
              show Steps p.tables e below (s₁.setTop (mkF m 57 #[.val (.long q1), .second, .unset, .unset, .unset, .unset, .unset, .unset, .unset] [(.int (lcmpW q1 (268435456 : Int64)))])) _
              refine XS.ifYes X0.here hx rfl (pc0 := 57) (pc' := 65) rfl (hb hby d2_57) rfl ((if0 _ _).trans (tlt ((lw_lt _ _).mpr (own_lt64 t5 (by decide)))).1) (by decide) (by decide) ?_
              show Steps p.tables e below (s₁.setTop (mkF m 65 #[.val (.long q1), .second, .unset, .unset, .unset, .unset, .unset, .unset, .unset] [])) _
              refine XS.lloadN X0.here hx rfl (hb hby d2_65) rfl ?_
              show Steps p.tables e below (s₁.setTop (mkF m 66 #[.val (.long q1), .second, .unset, .unset, .unset, .unset, .unset, .unset, .unset] [(.long q1)])) _
              refine X0.ldc2Long hx hown (mvT hZ (hw _ (List.mem_of_getElem? (i := 16) rfl))) (g := (mkF m 66 #[.val (.long q1), .second, .unset, .unset, .unset, .unset, .unset, .unset, .unset] [(.long q1)])) rfl (hb hby d2_66) _ ?_
              show Steps p.tables e below (s₁.setTop (mkF m 69 #[.val (.long q1), .second, .unset, .unset, .unset, .unset, .unset, .unset, .unset] [(.long (134217728 : Int64)), (.long q1)])) _
              refine XS.lcmp X0.here hx rfl (hb hby d2_69) rfl ?_
              exact k)
            by_cases t4 : q1.toInt < 134217728
            · have k108 : ∀ t, Steps p.tables e below (s₁.setTop (mkF m 83 #[.val (.long q1), .second, .unset, .unset, .unset, .unset, .unset, .unset, .unset] [(.int (lcmpW q1 (67108864 : Int64)))])) t → Steps p.tables e below (s₁.setTop (entryFrame m #[(.long q1)] 9)) t := fun t k => k107 t (by
                show Steps p.tables e below (s₁.setTop (mkF m 70 #[.val (.long q1), .second, .unset, .unset, .unset, .unset, .unset, .unset, .unset] [(.int (lcmpW q1 (134217728 : Int64)))])) _
                refine XS.ifYes X0.here hx rfl (pc0 := 70) (pc' := 78) rfl (hb hby d2_70) rfl ((if0 _ _).trans (tlt ((lw_lt _ _).mpr (own_lt64 t4 (by decide)))).1) (by decide) (by decide) ?_
                show Steps p.tables e below (s₁.setTop (mkF m 78 #[.val (.long q1), .second, .unset, .unset, .unset, .unset, .unset, .unset, .unset] [])) _
                refine XS.lloadN X0.here hx rfl (hb hby d2_78) rfl ?_
                show Steps p.tables e below (s₁.setTop (mkF m 79 #[.val (.long q1), .second, .unset, .unset, .unset, .unset, .unset, .unset, .unset] [(.long q1)])) _
                refine X0.ldc2Long hx hown (mvT hZ (hw _ (List.mem_of_getElem? (i := 17) rfl))) (g := (mkF m 79 #[.val (.long q1), .second, .unset, .unset, .unset, .unset, .unset, .unset, .unset] [(.long q1)])) rfl (hb hby d2_79) _ ?_
                show Steps p.tables e below (s₁.setTop (mkF m 82 #[.val (.long q1), .second, .unset, .unset, .unset, .unset, .unset, .unset, .unset] [(.long (67108864 : Int64)), (.long q1)])) _
                refine XS.lcmp X0.here hx rfl (hb hby d2_82) rfl ?_
                exact k)
              by_cases t3 : q1.toInt < 67108864
              · have k109 : ∀ t, Steps p.tables e below (s₁.setTop (mkF m 96 #[.val (.long q1), .second, .unset, .unset, .unset, .unset, .unset, .unset, .unset] [(.int (lcmpW q1 (33554432 : Int64)))])) t → Steps p.tables e below (s₁.setTop (entryFrame m #[(.long q1)] 9)) t := fun t k => k108 t (by
                  show Steps p.tables e below (s₁.setTop (mkF m 83 #[.val (.long q1), .second, .unset, .unset, .unset, .unset, .unset, .unset, .unset] [(.int (lcmpW q1 (67108864 : Int64)))])) _
                  refine XS.ifYes X0.here hx rfl (pc0 := 83) (pc' := 91) rfl (hb hby d2_83) rfl ((if0 _ _).trans (tlt ((lw_lt _ _).mpr (own_lt64 t3 (by decide)))).1) (by decide) (by decide) ?_
                  show Steps p.tables e below (s₁.setTop (mkF m 91 #[.val (.long q1), .second, .unset, .unset, .unset, .unset, .unset, .unset, .unset] [])) _
                  refine XS.lloadN X0.here hx rfl (hb hby d2_91) rfl ?_
                  show Steps p.tables e below (s₁.setTop (mkF m 92 #[.val (.long q1), .second, .unset, .unset, .unset, .unset, .unset, .unset, .unset] [(.long q1)])) _
                  refine X0.ldc2Long hx hown (mvT hZ (hw _ (List.mem_of_getElem? (i := 18) rfl))) (g := (mkF m 92 #[.val (.long q1), .second, .unset, .unset, .unset, .unset, .unset, .unset, .unset] [(.long q1)])) rfl (hb hby d2_92) _ ?_
                  show Steps p.tables e below (s₁.setTop (mkF m 95 #[.val (.long q1), .second, .unset, .unset, .unset, .unset, .unset, .unset, .unset] [(.long (33554432 : Int64)), (.long q1)])) _
                  refine XS.lcmp X0.here hx rfl (hb hby d2_95) rfl ?_
                  exact k)
                by_cases t2 : q1.toInt < 33554432
                · have k110 : ∀ t, Steps p.tables e below (s₁.setTop (mkF m 104 #[.val (.long q1), .second, .unset, .unset, .unset, .unset, .unset, .unset, .unset] [])) t → Steps p.tables e below (s₁.setTop (entryFrame m #[(.long q1)] 9)) t := fun t k => k109 t (by
                    show Steps p.tables e below (s₁.setTop (mkF m 96 #[.val (.long q1), .second, .unset, .unset, .unset, .unset, .unset, .unset, .unset] [(.int (lcmpW q1 (33554432 : Int64)))])) _
                    refine XS.ifYes X0.here hx rfl (pc0 := 96) (pc' := 104) rfl (hb hby d2_96) rfl ((if0 _ _).trans (tlt ((lw_lt _ _).mpr (own_lt64 t2 (by decide)))).1) (by decide) (by decide) ?_
                    exact k)
                  have k111 : ∀ t, Steps p.tables e below (s₁.setTop (mkF m 124 #[.val (.long q1), .second, .val (.int (1 : Int32)), .val (.long (q1 >>> ((1 : Int32) &&& 0x3f).toInt64)), .second, .val (.long (q1 - ((q1 >>> ((1 : Int32) &&& 0x3f).toInt64) <<< ((1 : Int32) &&& 0x3f).toInt64))), .second, .val (.long ((1 : Int64) <<< ((0 : Int32) &&& 0x3f).toInt64)), .second] [])) t → Steps p.tables e below (s₁.setTop (entryFrame m #[(.long q1)] 9)) t := fun t k => k110 t (by
                    show Steps p.tables e below (s₁.setTop (mkF m 104 #[.val (.long q1), .second, .unset, .unset, .unset, .unset, .unset, .unset, .unset] [])) _
                    refine XS.iconst X0.here hx rfl (hb hby d2_104) ?_
                    show Steps p.tables e below (s₁.setTop (mkF m 105 #[.val (.long q1), .second, .unset, .unset, .unset, .unset, .unset, .unset, .unset] [(.int (1 : Int32))])) _
                    refine XS.istoreN X0.here hx rfl (hb hby d2_105) rfl (l' := #[.val (.long q1), .second, .val (.int (1 : Int32)), .unset, .unset, .unset, .unset, .unset, .unset]) rfl ?_
                    show Steps p.tables e below (s₁.setTop (mkF m 106 #[.val (.long q1), .second, .val (.int (1 : Int32)), .unset, .unset, .unset, .unset, .unset, .unset] [])) _
                    refine XS.lloadN X0.here hx rfl (hb hby d2_106) rfl ?_
                    show Steps p.tables e below (s₁.setTop (mkF m 107 #[.val (.long q1), .second, .val (.int (1 : Int32)), .unset, .unset, .unset, .unset, .unset, .unset] [(.long q1)])) _
                    refine XS.iloadN X0.here hx rfl (hb hby d2_107) rfl ?_
                    show Steps p.tables e below (s₁.setTop (mkF m 108 #[.val (.long q1), .second, .val (.int (1 : Int32)), .unset, .unset, .unset, .unset, .unset, .unset] [(.int (1 : Int32)), (.long q1)])) _
                    refine XS.lshr X0.here hx rfl (hb hby d2_108) rfl ?_
                    show Steps p.tables e below (s₁.setTop (mkF m 109 #[.val (.long q1), .second, .val (.int (1 : Int32)), .unset, .unset, .unset, .unset, .unset, .unset] [(.long (q1 >>> ((1 : Int32) &&& 0x3f).toInt64))])) _
                    refine XS.lstoreN X0.here hx rfl (hb hby d2_109) rfl (l' := #[.val (.long q1), .second, .val (.int (1 : Int32)), .val (.long (q1 >>> ((1 : Int32) &&& 0x3f).toInt64)), .second, .unset, .unset, .unset, .unset]) rfl ?_
                    show Steps p.tables e below (s₁.setTop (mkF m 110 #[.val (.long q1), .second, .val (.int (1 : Int32)), .val (.long (q1 >>> ((1 : Int32) &&& 0x3f).toInt64)), .second, .unset, .unset, .unset, .unset] [])) _
                    refine XS.lloadN X0.here hx rfl (hb hby d2_110) rfl ?_
                    show Steps p.tables e below (s₁.setTop (mkF m 111 #[.val (.long q1), .second, .val (.int (1 : Int32)), .val (.long (q1 >>> ((1 : Int32) &&& 0x3f).toInt64)), .second, .unset, .unset, .unset, .unset] [(.long q1)])) _
                    refine XS.lloadN X0.here hx rfl (hb hby d2_111) rfl ?_
                    show Steps p.tables e below (s₁.setTop (mkF m 112 #[.val (.long q1), .second, .val (.int (1 : Int32)), .val (.long (q1 >>> ((1 : Int32) &&& 0x3f).toInt64)), .second, .unset, .unset, .unset, .unset] [(.long (q1 >>> ((1 : Int32) &&& 0x3f).toInt64)), (.long q1)])) _
                    refine XS.iloadN X0.here hx rfl (hb hby d2_112) rfl ?_
                    show Steps p.tables e below (s₁.setTop (mkF m 113 #[.val (.long q1), .second, .val (.int (1 : Int32)), .val (.long (q1 >>> ((1 : Int32) &&& 0x3f).toInt64)), .second, .unset, .unset, .unset, .unset] [(.int (1 : Int32)), (.long (q1 >>> ((1 : Int32) &&& 0x3f).toInt64)), (.long q1)])) _
                    refine XS.lshl X0.here hx rfl (hb hby d2_113) rfl ?_
                    show Steps p.tables e below (s₁.setTop (mkF m 114 #[.val (.long q1), .second, .val (.int (1 : Int32)), .val (.long (q1 >>> ((1 : Int32) &&& 0x3f).toInt64)), .second, .unset, .unset, .unset, .unset] [(.long ((q1 >>> ((1 : Int32) &&& 0x3f).toInt64) <<< ((1 : Int32) &&& 0x3f).toInt64)), (.long q1)])) _
                    refine XS.lsub X0.here hx rfl (hb hby d2_114) rfl ?_
                    show Steps p.tables e below (s₁.setTop (mkF m 115 #[.val (.long q1), .second, .val (.int (1 : Int32)), .val (.long (q1 >>> ((1 : Int32) &&& 0x3f).toInt64)), .second, .unset, .unset, .unset, .unset] [(.long (q1 - ((q1 >>> ((1 : Int32) &&& 0x3f).toInt64) <<< ((1 : Int32) &&& 0x3f).toInt64)))])) _
                    refine XS.lstore X0.here hx rfl (hb hby d2_115) rfl (l' := #[.val (.long q1), .second, .val (.int (1 : Int32)), .val (.long (q1 >>> ((1 : Int32) &&& 0x3f).toInt64)), .second, .val (.long (q1 - ((q1 >>> ((1 : Int32) &&& 0x3f).toInt64) <<< ((1 : Int32) &&& 0x3f).toInt64))), .second, .unset, .unset]) rfl ?_
                    show Steps p.tables e below (s₁.setTop (mkF m 117 #[.val (.long q1), .second, .val (.int (1 : Int32)), .val (.long (q1 >>> ((1 : Int32) &&& 0x3f).toInt64)), .second, .val (.long (q1 - ((q1 >>> ((1 : Int32) &&& 0x3f).toInt64) <<< ((1 : Int32) &&& 0x3f).toInt64))), .second, .unset, .unset] [])) _
                    refine XS.lconst X0.here hx rfl (hb hby d2_117) ?_
                    show Steps p.tables e below (s₁.setTop (mkF m 118 #[.val (.long q1), .second, .val (.int (1 : Int32)), .val (.long (q1 >>> ((1 : Int32) &&& 0x3f).toInt64)), .second, .val (.long (q1 - ((q1 >>> ((1 : Int32) &&& 0x3f).toInt64) <<< ((1 : Int32) &&& 0x3f).toInt64))), .second, .unset, .unset] [(.long (1 : Int64))])) _
                    refine XS.iloadN X0.here hx rfl (hb hby d2_118) rfl ?_
                    show Steps p.tables e below (s₁.setTop (mkF m 119 #[.val (.long q1), .second, .val (.int (1 : Int32)), .val (.long (q1 >>> ((1 : Int32) &&& 0x3f).toInt64)), .second, .val (.long (q1 - ((q1 >>> ((1 : Int32) &&& 0x3f).toInt64) <<< ((1 : Int32) &&& 0x3f).toInt64))), .second, .unset, .unset] [(.int (1 : Int32)), (.long (1 : Int64))])) _
                    refine XS.iconst X0.here hx rfl (hb hby d2_119) ?_
                    show Steps p.tables e below (s₁.setTop (mkF m 120 #[.val (.long q1), .second, .val (.int (1 : Int32)), .val (.long (q1 >>> ((1 : Int32) &&& 0x3f).toInt64)), .second, .val (.long (q1 - ((q1 >>> ((1 : Int32) &&& 0x3f).toInt64) <<< ((1 : Int32) &&& 0x3f).toInt64))), .second, .unset, .unset] [(.int (1 : Int32)), (.int (1 : Int32)), (.long (1 : Int64))])) _
                    refine XS.isub X0.here hx rfl (hb hby d2_120) rfl ?_
                    show Steps p.tables e below (s₁.setTop (mkF m 121 #[.val (.long q1), .second, .val (.int (1 : Int32)), .val (.long (q1 >>> ((1 : Int32) &&& 0x3f).toInt64)), .second, .val (.long (q1 - ((q1 >>> ((1 : Int32) &&& 0x3f).toInt64) <<< ((1 : Int32) &&& 0x3f).toInt64))), .second, .unset, .unset] [(.int ((1 : Int32) - (1 : Int32))), (.long (1 : Int64))])) _
                    refine castTop (g' := (mkF m 121 #[.val (.long q1), .second, .val (.int (1 : Int32)), .val (.long (q1 >>> ((1 : Int32) &&& 0x3f).toInt64)), .second, .val (.long (q1 - ((q1 >>> ((1 : Int32) &&& 0x3f).toInt64) <<< ((1 : Int32) &&& 0x3f).toInt64))), .second, .unset, .unset] [(.int (0 : Int32)), (.long (1 : Int64))])) (by rw [show ((1 : Int32) - (1 : Int32)) = (0 : Int32) by decide]) ?_
                    show Steps p.tables e below (s₁.setTop (mkF m 121 #[.val (.long q1), .second, .val (.int (1 : Int32)), .val (.long (q1 >>> ((1 : Int32) &&& 0x3f).toInt64)), .second, .val (.long (q1 - ((q1 >>> ((1 : Int32) &&& 0x3f).toInt64) <<< ((1 : Int32) &&& 0x3f).toInt64))), .second, .unset, .unset] [(.int (0 : Int32)), (.long (1 : Int64))])) _
                    refine XS.lshl X0.here hx rfl (hb hby d2_121) rfl ?_
                    show Steps p.tables e below (s₁.setTop (mkF m 122 #[.val (.long q1), .second, .val (.int (1 : Int32)), .val (.long (q1 >>> ((1 : Int32) &&& 0x3f).toInt64)), .second, .val (.long (q1 - ((q1 >>> ((1 : Int32) &&& 0x3f).toInt64) <<< ((1 : Int32) &&& 0x3f).toInt64))), .second, .unset, .unset] [(.long ((1 : Int64) <<< ((0 : Int32) &&& 0x3f).toInt64))])) _
                    refine XS.lstore X0.here hx rfl (hb hby d2_122) rfl (l' := #[.val (.long q1), .second, .val (.int (1 : Int32)), .val (.long (q1 >>> ((1 : Int32) &&& 0x3f).toInt64)), .second, .val (.long (q1 - ((q1 >>> ((1 : Int32) &&& 0x3f).toInt64) <<< ((1 : Int32) &&& 0x3f).toInt64))), .second, .val (.long ((1 : Int64) <<< ((0 : Int32) &&& 0x3f).toInt64)), .second]) rfl ?_
                    exact k)
                  obtain ⟨qo1, eqo1⟩ : ∃ z : Int64, z = (q1 >>> ((1 : Int32) &&& 0x3f).toInt64) := ⟨_, rfl⟩
                  obtain ⟨ro1, ero1⟩ : ∃ z : Int64, z = (q1 - ((q1 >>> ((1 : Int32) &&& 0x3f).toInt64) <<< ((1 : Int32) &&& 0x3f).toInt64)) := ⟨_, rfl⟩
                  obtain ⟨ho1, eho1⟩ : ∃ z : Int64, z = ((1 : Int64) <<< ((0 : Int32) &&& 0x3f).toInt64) := ⟨_, rfl⟩
                  have k112 : ∀ t, Steps p.tables e below (s₁.setTop (mkF m 124 #[.val (.long q1), .second, .val (.int (1 : Int32)), .val (.long qo1), .second, .val (.long ro1), .second, .val (.long ho1), .second] [])) t → Steps p.tables e below (s₁.setTop (entryFrame m #[(.long q1)] 9)) t := fun t k => k111 t (by
                    show Steps p.tables e below (s₁.setTop (mkF m 124 #[.val (.long q1), .second, .val (.int (1 : Int32)), .val (.long (q1 >>> ((1 : Int32) &&& 0x3f).toInt64)), .second, .val (.long (q1 - ((q1 >>> ((1 : Int32) &&& 0x3f).toInt64) <<< ((1 : Int32) &&& 0x3f).toInt64))), .second, .val (.long ((1 : Int64) <<< ((0 : Int32) &&& 0x3f).toInt64)), .second] [])) _
                    refine castTop (g' := (mkF m 124 #[.val (.long q1), .second, .val (.int (1 : Int32)), .val (.long qo1), .second, .val (.long ro1), .second, .val (.long ho1), .second] [])) (by rw [ero1, eqo1, eho1]) ?_
                    exact k)
                  have k113 : ∀ t, Steps p.tables e below (s₁.setTop (mkF m 129 #[.val (.long q1), .second, .val (.int (1 : Int32)), .val (.long qo1), .second, .val (.long ro1), .second, .val (.long ho1), .second] [(.int (lcmpW ro1 ho1))])) t → Steps p.tables e below (s₁.setTop (entryFrame m #[(.long q1)] 9)) t := fun t k => k112 t (by
                    show Steps p.tables e below (s₁.setTop (mkF m 124 #[.val (.long q1), .second, .val (.int (1 : Int32)), .val (.long qo1), .second, .val (.long ro1), .second, .val (.long ho1), .second] [])) _
                    refine XS.lload X0.here hx rfl (hb hby d2_124) rfl ?_
                    show Steps p.tables e below (s₁.setTop (mkF m 126 #[.val (.long q1), .second, .val (.int (1 : Int32)), .val (.long qo1), .second, .val (.long ro1), .second, .val (.long ho1), .second] [(.long ro1)])) _
                    refine XS.lload X0.here hx rfl (hb hby d2_126) rfl ?_
                    show Steps p.tables e below (s₁.setTop (mkF m 128 #[.val (.long q1), .second, .val (.int (1 : Int32)), .val (.long qo1), .second, .val (.long ro1), .second, .val (.long ho1), .second] [(.long ho1), (.long ro1)])) _
                    refine XS.lcmp X0.here hx rfl (hb hby d2_128) rfl ?_
                    exact k)
                  obtain ⟨j117, hj117⟩ : ∃ z : Int64, z = (if (0 : Int32) < (lcmpW ro1 ho1) then (qo1 + (1 : Int64)) else (if (lcmpW ro1 ho1) = (0 : Int32) then (if (lcmpW (qo1 &&& (1 : Int64)) (1 : Int64)) = (0 : Int32) then (qo1 + (1 : Int64)) else qo1) else qo1)) := ⟨_, rfl⟩
                  have k118 : ∀ t, Steps p.tables e below (s₁.setTop (mkF m 152 #[.val (.long q1), .second, .val (.int (1 : Int32)), .val (.long j117), .second, .val (.long ro1), .second, .val (.long ho1), .second] [])) t → Steps p.tables e below (s₁.setTop (entryFrame m #[(.long q1)] 9)) t := fun t k => k113 t (by
                    by_cases c114 : (0 : Int32) < (lcmpW ro1 ho1)
                    · rw [if_pos c114] at hj117
                      show Steps p.tables e below (s₁.setTop (mkF m 129 #[.val (.long q1), .second, .val (.int (1 : Int32)), .val (.long qo1), .second, .val (.long ro1), .second, .val (.long ho1), .second] [(.int (lcmpW ro1 ho1))])) _
                      refine XS.ifYes X0.here hx rfl (pc0 := 129) (pc' := 148) rfl (hb hby d2_129) rfl ((if0 _ _).trans (tlt c114).2.2.1) (by decide) (by decide) ?_
                      show Steps p.tables e below (s₁.setTop (mkF m 148 #[.val (.long q1), .second, .val (.int (1 : Int32)), .val (.long qo1), .second, .val (.long ro1), .second, .val (.long ho1), .second] [])) _
                      refine XS.lloadN X0.here hx rfl (hb hby d2_148) rfl ?_
                      show Steps p.tables e below (s₁.setTop (mkF m 149 #[.val (.long q1), .second, .val (.int (1 : Int32)), .val (.long qo1), .second, .val (.long ro1), .second, .val (.long ho1), .second] [(.long qo1)])) _
                      refine XS.lconst X0.here hx rfl (hb hby d2_149) ?_
                      show Steps p.tables e below (s₁.setTop (mkF m 150 #[.val (.long q1), .second, .val (.int (1 : Int32)), .val (.long qo1), .second, .val (.long ro1), .second, .val (.long ho1), .second] [(.long (1 : Int64)), (.long qo1)])) _
                      refine XS.ladd X0.here hx rfl (hb hby d2_150) rfl ?_
                      show Steps p.tables e below (s₁.setTop (mkF m 151 #[.val (.long q1), .second, .val (.int (1 : Int32)), .val (.long qo1), .second, .val (.long ro1), .second, .val (.long ho1), .second] [(.long (qo1 + (1 : Int64)))])) _
                      refine XS.lstoreN X0.here hx rfl (hb hby d2_151) rfl (l' := #[.val (.long q1), .second, .val (.int (1 : Int32)), .val (.long (qo1 + (1 : Int64))), .second, .val (.long ro1), .second, .val (.long ho1), .second]) rfl ?_
                      show Steps p.tables e below (s₁.setTop (mkF m 152 #[.val (.long q1), .second, .val (.int (1 : Int32)), .val (.long (qo1 + (1 : Int64))), .second, .val (.long ro1), .second, .val (.long ho1), .second] [])) _
                      exact castTop (by rw [hj117]) k
                    · rw [if_neg c114] at hj117
                      show Steps p.tables e below (s₁.setTop (mkF m 129 #[.val (.long q1), .second, .val (.int (1 : Int32)), .val (.long qo1), .second, .val (.long ro1), .second, .val (.long ho1), .second] [(.int (lcmpW ro1 ho1))])) _
                      refine XS.ifNo X0.here hx rfl (hb hby d2_129) rfl ((if0 _ _).trans (flt c114).2.2.1) ?_
                      show Steps p.tables e below (s₁.setTop (mkF m 132 #[.val (.long q1), .second, .val (.int (1 : Int32)), .val (.long qo1), .second, .val (.long ro1), .second, .val (.long ho1), .second] [])) _
                      refine XS.lload X0.here hx rfl (hb hby d2_132) rfl ?_
                      show Steps p.tables e below (s₁.setTop (mkF m 134 #[.val (.long q1), .second, .val (.int (1 : Int32)), .val (.long qo1), .second, .val (.long ro1), .second, .val (.long ho1), .second] [(.long ro1)])) _
                      refine XS.lload X0.here hx rfl (hb hby d2_134) rfl ?_
                      show Steps p.tables e below (s₁.setTop (mkF m 136 #[.val (.long q1), .second, .val (.int (1 : Int32)), .val (.long qo1), .second, .val (.long ro1), .second, .val (.long ho1), .second] [(.long ho1), (.long ro1)])) _
                      refine XS.lcmp X0.here hx rfl (hb hby d2_136) rfl ?_
                      by_cases c115 : (lcmpW ro1 ho1) = (0 : Int32)
                      · rw [if_pos c115] at hj117
                        show Steps p.tables e below (s₁.setTop (mkF m 137 #[.val (.long q1), .second, .val (.int (1 : Int32)), .val (.long qo1), .second, .val (.long ro1), .second, .val (.long ho1), .second] [(.int (lcmpW ro1 ho1))])) _
                        refine XS.ifNo X0.here hx rfl (hb hby d2_137) rfl ((if0 _ _).trans (teq c115).2) ?_
                        show Steps p.tables e below (s₁.setTop (mkF m 140 #[.val (.long q1), .second, .val (.int (1 : Int32)), .val (.long qo1), .second, .val (.long ro1), .second, .val (.long ho1), .second] [])) _
                        refine XS.lloadN X0.here hx rfl (hb hby d2_140) rfl ?_
                        show Steps p.tables e below (s₁.setTop (mkF m 141 #[.val (.long q1), .second, .val (.int (1 : Int32)), .val (.long qo1), .second, .val (.long ro1), .second, .val (.long ho1), .second] [(.long qo1)])) _
                        refine XS.lconst X0.here hx rfl (hb hby d2_141) ?_
                        show Steps p.tables e below (s₁.setTop (mkF m 142 #[.val (.long q1), .second, .val (.int (1 : Int32)), .val (.long qo1), .second, .val (.long ro1), .second, .val (.long ho1), .second] [(.long (1 : Int64)), (.long qo1)])) _
                        refine XS.land X0.here hx rfl (hb hby d2_142) rfl ?_
                        show Steps p.tables e below (s₁.setTop (mkF m 143 #[.val (.long q1), .second, .val (.int (1 : Int32)), .val (.long qo1), .second, .val (.long ro1), .second, .val (.long ho1), .second] [(.long (qo1 &&& (1 : Int64)))])) _
                        refine XS.lconst X0.here hx rfl (hb hby d2_143) ?_
                        show Steps p.tables e below (s₁.setTop (mkF m 144 #[.val (.long q1), .second, .val (.int (1 : Int32)), .val (.long qo1), .second, .val (.long ro1), .second, .val (.long ho1), .second] [(.long (1 : Int64)), (.long (qo1 &&& (1 : Int64)))])) _
                        refine XS.lcmp X0.here hx rfl (hb hby d2_144) rfl ?_
                        by_cases c116 : (lcmpW (qo1 &&& (1 : Int64)) (1 : Int64)) = (0 : Int32)
                        · rw [if_pos c116] at hj117
                          show Steps p.tables e below (s₁.setTop (mkF m 145 #[.val (.long q1), .second, .val (.int (1 : Int32)), .val (.long qo1), .second, .val (.long ro1), .second, .val (.long ho1), .second] [(.int (lcmpW (qo1 &&& (1 : Int64)) (1 : Int64)))])) _
                          refine XS.ifNo X0.here hx rfl (hb hby d2_145) rfl ((if0 _ _).trans (teq c116).2) ?_
                          show Steps p.tables e below (s₁.setTop (mkF m 148 #[.val (.long q1), .second, .val (.int (1 : Int32)), .val (.long qo1), .second, .val (.long ro1), .second, .val (.long ho1), .second] [])) _
                          refine XS.lloadN X0.here hx rfl (hb hby d2_148) rfl ?_
                          show Steps p.tables e below (s₁.setTop (mkF m 149 #[.val (.long q1), .second, .val (.int (1 : Int32)), .val (.long qo1), .second, .val (.long ro1), .second, .val (.long ho1), .second] [(.long qo1)])) _
                          refine XS.lconst X0.here hx rfl (hb hby d2_149) ?_
                          show Steps p.tables e below (s₁.setTop (mkF m 150 #[.val (.long q1), .second, .val (.int (1 : Int32)), .val (.long qo1), .second, .val (.long ro1), .second, .val (.long ho1), .second] [(.long (1 : Int64)), (.long qo1)])) _
                          refine XS.ladd X0.here hx rfl (hb hby d2_150) rfl ?_
                          show Steps p.tables e below (s₁.setTop (mkF m 151 #[.val (.long q1), .second, .val (.int (1 : Int32)), .val (.long qo1), .second, .val (.long ro1), .second, .val (.long ho1), .second] [(.long (qo1 + (1 : Int64)))])) _
                          refine XS.lstoreN X0.here hx rfl (hb hby d2_151) rfl (l' := #[.val (.long q1), .second, .val (.int (1 : Int32)), .val (.long (qo1 + (1 : Int64))), .second, .val (.long ro1), .second, .val (.long ho1), .second]) rfl ?_
                          show Steps p.tables e below (s₁.setTop (mkF m 152 #[.val (.long q1), .second, .val (.int (1 : Int32)), .val (.long (qo1 + (1 : Int64))), .second, .val (.long ro1), .second, .val (.long ho1), .second] [])) _
                          exact castTop (by rw [hj117]) k
                        · rw [if_neg c116] at hj117
                          show Steps p.tables e below (s₁.setTop (mkF m 145 #[.val (.long q1), .second, .val (.int (1 : Int32)), .val (.long qo1), .second, .val (.long ro1), .second, .val (.long ho1), .second] [(.int (lcmpW (qo1 &&& (1 : Int64)) (1 : Int64)))])) _
                          refine XS.ifYes X0.here hx rfl (pc0 := 145) (pc' := 152) rfl (hb hby d2_145) rfl ((if0 _ _).trans (feq c116).2) (by decide) (by decide) ?_
                          show Steps p.tables e below (s₁.setTop (mkF m 152 #[.val (.long q1), .second, .val (.int (1 : Int32)), .val (.long qo1), .second, .val (.long ro1), .second, .val (.long ho1), .second] [])) _
                          exact castTop (by rw [hj117]) k
                      · rw [if_neg c115] at hj117
                        show Steps p.tables e below (s₁.setTop (mkF m 137 #[.val (.long q1), .second, .val (.int (1 : Int32)), .val (.long qo1), .second, .val (.long ro1), .second, .val (.long ho1), .second] [(.int (lcmpW ro1 ho1))])) _
                        refine XS.ifYes X0.here hx rfl (pc0 := 137) (pc' := 152) rfl (hb hby d2_137) rfl ((if0 _ _).trans (feq c115).2) (by decide) (by decide) ?_
                        show Steps p.tables e below (s₁.setTop (mkF m 152 #[.val (.long q1), .second, .val (.int (1 : Int32)), .val (.long qo1), .second, .val (.long ro1), .second, .val (.long ho1), .second] [])) _
                        exact castTop (by rw [hj117]) k)
                  have hres := own_mag1 hbq c1 t8 t7 t6 t5 t4 t3 t2 eqo1 ero1 eho1 hj117
                  have k119 : ∀ t, Steps p.tables e below (s₁.setTop (mkF m 155 #[.val (.long q1), .second, .val (.int (1 : Int32)), .val (.long j117), .second, .val (.long ro1), .second, .val (.long ho1), .second] [(.long (j117 <<< ((1 : Int32) &&& 0x3f).toInt64))])) t → Steps p.tables e below (s₁.setTop (entryFrame m #[(.long q1)] 9)) t := fun t k => k118 t (by
                    show Steps p.tables e below (s₁.setTop (mkF m 152 #[.val (.long q1), .second, .val (.int (1 : Int32)), .val (.long j117), .second, .val (.long ro1), .second, .val (.long ho1), .second] [])) _
                    refine XS.lloadN X0.here hx rfl (hb hby d2_152) rfl ?_
                    show Steps p.tables e below (s₁.setTop (mkF m 153 #[.val (.long q1), .second, .val (.int (1 : Int32)), .val (.long j117), .second, .val (.long ro1), .second, .val (.long ho1), .second] [(.long j117)])) _
                    refine XS.iloadN X0.here hx rfl (hb hby d2_153) rfl ?_
                    show Steps p.tables e below (s₁.setTop (mkF m 154 #[.val (.long q1), .second, .val (.int (1 : Int32)), .val (.long j117), .second, .val (.long ro1), .second, .val (.long ho1), .second] [(.int (1 : Int32)), (.long j117)])) _
                    refine XS.lshl X0.here hx rfl (hb hby d2_154) rfl ?_
                    exact k)
                  obtain ⟨fs, hr, hrun, hended, hW, hsame⟩ := X0.leave (v := some (.long (j117 <<< ((1 : Int32) &&& 0x3f).toInt64))) (fun h => by rw [Bd.returns] at h; cases h)
                  refine ⟨_, _, k119 _ (retOut X0 hx (t := .long) Bd.returns rfl (Or.inr (Or.inl ⟨rfl, rfl, _, rfl⟩)) (hb hby d2_155) hr), hrun, hended, _, _, rfl, ?_, ⟨_, rfl⟩, hW, hsame.mono (by decide) (by decide)⟩
                  show Q_rm2 Z q1 h0 n0 _ s₁.heap _
                  rw [e0]
                  exact ⟨_, rfl, N0, rfl, hres⟩
                · have k120 : ∀ t, Steps p.tables e below (s₁.setTop (mkF m 99 #[.val (.long q1), .second, .unset, .unset, .unset, .unset, .unset, .unset, .unset] [])) t → Steps p.tables e below (s₁.setTop (entryFrame m #[(.long q1)] 9)) t := fun t k => k109 t (by
                    show Steps p.tables e below (s₁.setTop (mkF m 96 #[.val (.long q1), .second, .unset, .unset, .unset, .unset, .unset, .unset, .unset] [(.int (lcmpW q1 (33554432 : Int64)))])) _
                    refine XS.ifNo X0.here hx rfl (hb hby d2_96) rfl ((if0 _ _).trans (flt (fun q => t2 (own_lt64' ((lw_lt _ _).mp q) (by decide)))).1) ?_
                    exact k)
                  have k121 : ∀ t, Steps p.tables e below (s₁.setTop (mkF m 124 #[.val (.long q1), .second, .val (.int (2 : Int32)), .val (.long (q1 >>> ((2 : Int32) &&& 0x3f).toInt64)), .second, .val (.long (q1 - ((q1 >>> ((2 : Int32) &&& 0x3f).toInt64) <<< ((2 : Int32) &&& 0x3f).toInt64))), .second, .val (.long ((1 : Int64) <<< ((1 : Int32) &&& 0x3f).toInt64)), .second] [])) t → Steps p.tables e below (s₁.setTop (entryFrame m #[(.long q1)] 9)) t := fun t k => k120 t (by
                    show Steps p.tables e below (s₁.setTop (mkF m 99 #[.val (.long q1), .second, .unset, .unset, .unset, .unset, .unset, .unset, .unset] [])) _
                    refine XS.iconst X0.here hx rfl (hb hby d2_99) ?_
                    show Steps p.tables e below (s₁.setTop (mkF m 100 #[.val (.long q1), .second, .unset, .unset, .unset, .unset, .unset, .unset, .unset] [(.int (2 : Int32))])) _
                    refine XS.istoreN X0.here hx rfl (hb hby d2_100) rfl (l' := #[.val (.long q1), .second, .val (.int (2 : Int32)), .unset, .unset, .unset, .unset, .unset, .unset]) rfl ?_
                    show Steps p.tables e below (s₁.setTop (mkF m 101 #[.val (.long q1), .second, .val (.int (2 : Int32)), .unset, .unset, .unset, .unset, .unset, .unset] [])) _
                    refine XS.goto X0.here hx rfl (pc0 := 101) (pc' := 106) rfl (hb hby d2_101) (by decide) (by decide) ?_
                    show Steps p.tables e below (s₁.setTop (mkF m 106 #[.val (.long q1), .second, .val (.int (2 : Int32)), .unset, .unset, .unset, .unset, .unset, .unset] [])) _
                    refine XS.lloadN X0.here hx rfl (hb hby d2_106) rfl ?_
                    show Steps p.tables e below (s₁.setTop (mkF m 107 #[.val (.long q1), .second, .val (.int (2 : Int32)), .unset, .unset, .unset, .unset, .unset, .unset] [(.long q1)])) _
                    refine XS.iloadN X0.here hx rfl (hb hby d2_107) rfl ?_
                    show Steps p.tables e below (s₁.setTop (mkF m 108 #[.val (.long q1), .second, .val (.int (2 : Int32)), .unset, .unset, .unset, .unset, .unset, .unset] [(.int (2 : Int32)), (.long q1)])) _
                    refine XS.lshr X0.here hx rfl (hb hby d2_108) rfl ?_
                    show Steps p.tables e below (s₁.setTop (mkF m 109 #[.val (.long q1), .second, .val (.int (2 : Int32)), .unset, .unset, .unset, .unset, .unset, .unset] [(.long (q1 >>> ((2 : Int32) &&& 0x3f).toInt64))])) _
                    refine XS.lstoreN X0.here hx rfl (hb hby d2_109) rfl (l' := #[.val (.long q1), .second, .val (.int (2 : Int32)), .val (.long (q1 >>> ((2 : Int32) &&& 0x3f).toInt64)), .second, .unset, .unset, .unset, .unset]) rfl ?_
                    show Steps p.tables e below (s₁.setTop (mkF m 110 #[.val (.long q1), .second, .val (.int (2 : Int32)), .val (.long (q1 >>> ((2 : Int32) &&& 0x3f).toInt64)), .second, .unset, .unset, .unset, .unset] [])) _
                    refine XS.lloadN X0.here hx rfl (hb hby d2_110) rfl ?_
                    show Steps p.tables e below (s₁.setTop (mkF m 111 #[.val (.long q1), .second, .val (.int (2 : Int32)), .val (.long (q1 >>> ((2 : Int32) &&& 0x3f).toInt64)), .second, .unset, .unset, .unset, .unset] [(.long q1)])) _
                    refine XS.lloadN X0.here hx rfl (hb hby d2_111) rfl ?_
                    show Steps p.tables e below (s₁.setTop (mkF m 112 #[.val (.long q1), .second, .val (.int (2 : Int32)), .val (.long (q1 >>> ((2 : Int32) &&& 0x3f).toInt64)), .second, .unset, .unset, .unset, .unset] [(.long (q1 >>> ((2 : Int32) &&& 0x3f).toInt64)), (.long q1)])) _
                    refine XS.iloadN X0.here hx rfl (hb hby d2_112) rfl ?_
                    show Steps p.tables e below (s₁.setTop (mkF m 113 #[.val (.long q1), .second, .val (.int (2 : Int32)), .val (.long (q1 >>> ((2 : Int32) &&& 0x3f).toInt64)), .second, .unset, .unset, .unset, .unset] [(.int (2 : Int32)), (.long (q1 >>> ((2 : Int32) &&& 0x3f).toInt64)), (.long q1)])) _
                    refine XS.lshl X0.here hx rfl (hb hby d2_113) rfl ?_
                    show Steps p.tables e below (s₁.setTop (mkF m 114 #[.val (.long q1), .second, .val (.int (2 : Int32)), .val (.long (q1 >>> ((2 : Int32) &&& 0x3f).toInt64)), .second, .unset, .unset, .unset, .unset] [(.long ((q1 >>> ((2 : Int32) &&& 0x3f).toInt64) <<< ((2 : Int32) &&& 0x3f).toInt64)), (.long q1)])) _
                    refine XS.lsub X0.here hx rfl (hb hby d2_114) rfl ?_
                    show Steps p.tables e below (s₁.setTop (mkF m 115 #[.val (.long q1), .second, .val (.int (2 : Int32)), .val (.long (q1 >>> ((2 : Int32) &&& 0x3f).toInt64)), .second, .unset, .unset, .unset, .unset] [(.long (q1 - ((q1 >>> ((2 : Int32) &&& 0x3f).toInt64) <<< ((2 : Int32) &&& 0x3f).toInt64)))])) _
                    refine XS.lstore X0.here hx rfl (hb hby d2_115) rfl (l' := #[.val (.long q1), .second, .val (.int (2 : Int32)), .val (.long (q1 >>> ((2 : Int32) &&& 0x3f).toInt64)), .second, .val (.long (q1 - ((q1 >>> ((2 : Int32) &&& 0x3f).toInt64) <<< ((2 : Int32) &&& 0x3f).toInt64))), .second, .unset, .unset]) rfl ?_
                    show Steps p.tables e below (s₁.setTop (mkF m 117 #[.val (.long q1), .second, .val (.int (2 : Int32)), .val (.long (q1 >>> ((2 : Int32) &&& 0x3f).toInt64)), .second, .val (.long (q1 - ((q1 >>> ((2 : Int32) &&& 0x3f).toInt64) <<< ((2 : Int32) &&& 0x3f).toInt64))), .second, .unset, .unset] [])) _
                    refine XS.lconst X0.here hx rfl (hb hby d2_117) ?_
                    show Steps p.tables e below (s₁.setTop (mkF m 118 #[.val (.long q1), .second, .val (.int (2 : Int32)), .val (.long (q1 >>> ((2 : Int32) &&& 0x3f).toInt64)), .second, .val (.long (q1 - ((q1 >>> ((2 : Int32) &&& 0x3f).toInt64) <<< ((2 : Int32) &&& 0x3f).toInt64))), .second, .unset, .unset] [(.long (1 : Int64))])) _
                    refine XS.iloadN X0.here hx rfl (hb hby d2_118) rfl ?_
                    show Steps p.tables e below (s₁.setTop (mkF m 119 #[.val (.long q1), .second, .val (.int (2 : Int32)), .val (.long (q1 >>> ((2 : Int32) &&& 0x3f).toInt64)), .second, .val (.long (q1 - ((q1 >>> ((2 : Int32) &&& 0x3f).toInt64) <<< ((2 : Int32) &&& 0x3f).toInt64))), .second, .unset, .unset] [(.int (2 : Int32)), (.long (1 : Int64))])) _
                    refine XS.iconst X0.here hx rfl (hb hby d2_119) ?_
                    show Steps p.tables e below (s₁.setTop (mkF m 120 #[.val (.long q1), .second, .val (.int (2 : Int32)), .val (.long (q1 >>> ((2 : Int32) &&& 0x3f).toInt64)), .second, .val (.long (q1 - ((q1 >>> ((2 : Int32) &&& 0x3f).toInt64) <<< ((2 : Int32) &&& 0x3f).toInt64))), .second, .unset, .unset] [(.int (1 : Int32)), (.int (2 : Int32)), (.long (1 : Int64))])) _
                    refine XS.isub X0.here hx rfl (hb hby d2_120) rfl ?_
                    show Steps p.tables e below (s₁.setTop (mkF m 121 #[.val (.long q1), .second, .val (.int (2 : Int32)), .val (.long (q1 >>> ((2 : Int32) &&& 0x3f).toInt64)), .second, .val (.long (q1 - ((q1 >>> ((2 : Int32) &&& 0x3f).toInt64) <<< ((2 : Int32) &&& 0x3f).toInt64))), .second, .unset, .unset] [(.int ((2 : Int32) - (1 : Int32))), (.long (1 : Int64))])) _
                    refine castTop (g' := (mkF m 121 #[.val (.long q1), .second, .val (.int (2 : Int32)), .val (.long (q1 >>> ((2 : Int32) &&& 0x3f).toInt64)), .second, .val (.long (q1 - ((q1 >>> ((2 : Int32) &&& 0x3f).toInt64) <<< ((2 : Int32) &&& 0x3f).toInt64))), .second, .unset, .unset] [(.int (1 : Int32)), (.long (1 : Int64))])) (by rw [show ((2 : Int32) - (1 : Int32)) = (1 : Int32) by decide]) ?_
                    show Steps p.tables e below (s₁.setTop (mkF m 121 #[.val (.long q1), .second, .val (.int (2 : Int32)), .val (.long (q1 >>> ((2 : Int32) &&& 0x3f).toInt64)), .second, .val (.long (q1 - ((q1 >>> ((2 : Int32) &&& 0x3f).toInt64) <<< ((2 : Int32) &&& 0x3f).toInt64))), .second, .unset, .unset] [(.int (1 : Int32)), (.long (1 : Int64))])) _
                    refine XS.lshl X0.here hx rfl (hb hby d2_121) rfl ?_
                    show Steps p.tables e below (s₁.setTop (mkF m 122 #[.val (.long q1), .second, .val (.int (2 : Int32)), .val (.long (q1 >>> ((2 : Int32) &&& 0x3f).toInt64)), .second, .val (.long (q1 - ((q1 >>> ((2 : Int32) &&& 0x3f).toInt64) <<< ((2 : Int32) &&& 0x3f).toInt64))), .second, .unset, .unset] [(.long ((1 : Int64) <<< ((1 : Int32) &&& 0x3f).toInt64))])) _
                    refine XS.lstore X0.here hx rfl (hb hby d2_122) rfl (l' := #[.val (.long q1), .second, .val (.int (2 : Int32)), .val (.long (q1 >>> ((2 : Int32) &&& 0x3f).toInt64)), .second, .val (.long (q1 - ((q1 >>> ((2 : Int32) &&& 0x3f).toInt64) <<< ((2 : Int32) &&& 0x3f).toInt64))), .second, .val (.long ((1 : Int64) <<< ((1 : Int32) &&& 0x3f).toInt64)), .second]) rfl ?_
                    exact k)
                  obtain ⟨qo2, eqo2⟩ : ∃ z : Int64, z = (q1 >>> ((2 : Int32) &&& 0x3f).toInt64) := ⟨_, rfl⟩
                  obtain ⟨ro2, ero2⟩ : ∃ z : Int64, z = (q1 - ((q1 >>> ((2 : Int32) &&& 0x3f).toInt64) <<< ((2 : Int32) &&& 0x3f).toInt64)) := ⟨_, rfl⟩
                  obtain ⟨ho2, eho2⟩ : ∃ z : Int64, z = ((1 : Int64) <<< ((1 : Int32) &&& 0x3f).toInt64) := ⟨_, rfl⟩
                  have k122 : ∀ t, Steps p.tables e below (s₁.setTop (mkF m 124 #[.val (.long q1), .second, .val (.int (2 : Int32)), .val (.long qo2), .second, .val (.long ro2), .second, .val (.long ho2), .second] [])) t → Steps p.tables e below (s₁.setTop (entryFrame m #[(.long q1)] 9)) t := fun t k => k121 t (by
                    show Steps p.tables e below (s₁.setTop (mkF m 124 #[.val (.long q1), .second, .val (.int (2 : Int32)), .val (.long (q1 >>> ((2 : Int32) &&& 0x3f).toInt64)), .second, .val (.long (q1 - ((q1 >>> ((2 : Int32) &&& 0x3f).toInt64) <<< ((2 : Int32) &&& 0x3f).toInt64))), .second, .val (.long ((1 : Int64) <<< ((1 : Int32) &&& 0x3f).toInt64)), .second] [])) _
                    refine castTop (g' := (mkF m 124 #[.val (.long q1), .second, .val (.int (2 : Int32)), .val (.long qo2), .second, .val (.long ro2), .second, .val (.long ho2), .second] [])) (by rw [ero2, eqo2, eho2]) ?_
                    exact k)
                  have k123 : ∀ t, Steps p.tables e below (s₁.setTop (mkF m 129 #[.val (.long q1), .second, .val (.int (2 : Int32)), .val (.long qo2), .second, .val (.long ro2), .second, .val (.long ho2), .second] [(.int (lcmpW ro2 ho2))])) t → Steps p.tables e below (s₁.setTop (entryFrame m #[(.long q1)] 9)) t := fun t k => k122 t (by
                    show Steps p.tables e below (s₁.setTop (mkF m 124 #[.val (.long q1), .second, .val (.int (2 : Int32)), .val (.long qo2), .second, .val (.long ro2), .second, .val (.long ho2), .second] [])) _
                    refine XS.lload X0.here hx rfl (hb hby d2_124) rfl ?_
                    show Steps p.tables e below (s₁.setTop (mkF m 126 #[.val (.long q1), .second, .val (.int (2 : Int32)), .val (.long qo2), .second, .val (.long ro2), .second, .val (.long ho2), .second] [(.long ro2)])) _
                    refine XS.lload X0.here hx rfl (hb hby d2_126) rfl ?_
                    show Steps p.tables e below (s₁.setTop (mkF m 128 #[.val (.long q1), .second, .val (.int (2 : Int32)), .val (.long qo2), .second, .val (.long ro2), .second, .val (.long ho2), .second] [(.long ho2), (.long ro2)])) _
                    refine XS.lcmp X0.here hx rfl (hb hby d2_128) rfl ?_
                    exact k)
                  obtain ⟨j127, hj127⟩ : ∃ z : Int64, z = (if (0 : Int32) < (lcmpW ro2 ho2) then (qo2 + (1 : Int64)) else (if (lcmpW ro2 ho2) = (0 : Int32) then (if (lcmpW (qo2 &&& (1 : Int64)) (1 : Int64)) = (0 : Int32) then (qo2 + (1 : Int64)) else qo2) else qo2)) := ⟨_, rfl⟩
                  have k128 : ∀ t, Steps p.tables e below (s₁.setTop (mkF m 152 #[.val (.long q1), .second, .val (.int (2 : Int32)), .val (.long j127), .second, .val (.long ro2), .second, .val (.long ho2), .second] [])) t → Steps p.tables e below (s₁.setTop (entryFrame m #[(.long q1)] 9)) t := fun t k => k123 t (by
                    by_cases c124 : (0 : Int32) < (lcmpW ro2 ho2)
                    · rw [if_pos c124] at hj127
                      show Steps p.tables e below (s₁.setTop (mkF m 129 #[.val (.long q1), .second, .val (.int (2 : Int32)), .val (.long qo2), .second, .val (.long ro2), .second, .val (.long ho2), .second] [(.int (lcmpW ro2 ho2))])) _
                      refine XS.ifYes X0.here hx rfl (pc0 := 129) (pc' := 148) rfl (hb hby d2_129) rfl ((if0 _ _).trans (tlt c124).2.2.1) (by decide) (by decide) ?_
                      show Steps p.tables e below (s₁.setTop (mkF m 148 #[.val (.long q1), .second, .val (.int (2 : Int32)), .val (.long qo2), .second, .val (.long ro2), .second, .val (.long ho2), .second] [])) _
                      refine XS.lloadN X0.here hx rfl (hb hby d2_148) rfl ?_
                      show Steps p.tables e below (s₁.setTop (mkF m 149 #[.val (.long q1), .second, .val (.int (2 : Int32)), .val (.long qo2), .second, .val (.long ro2), .second, .val (.long ho2), .second] [(.long qo2)])) _
                      refine XS.lconst X0.here hx rfl (hb hby d2_149) ?_
                      show Steps p.tables e below (s₁.setTop (mkF m 150 #[.val (.long q1), .second, .val (.int (2 : Int32)), .val (.long qo2), .second, .val (.long ro2), .second, .val (.long ho2), .second] [(.long (1 : Int64)), (.long qo2)])) _
                      refine XS.ladd X0.here hx rfl (hb hby d2_150) rfl ?_
                      show Steps p.tables e below (s₁.setTop (mkF m 151 #[.val (.long q1), .second, .val (.int (2 : Int32)), .val (.long qo2), .second, .val (.long ro2), .second, .val (.long ho2), .second] [(.long (qo2 + (1 : Int64)))])) _
                      refine XS.lstoreN X0.here hx rfl (hb hby d2_151) rfl (l' := #[.val (.long q1), .second, .val (.int (2 : Int32)), .val (.long (qo2 + (1 : Int64))), .second, .val (.long ro2), .second, .val (.long ho2), .second]) rfl ?_
                      show Steps p.tables e below (s₁.setTop (mkF m 152 #[.val (.long q1), .second, .val (.int (2 : Int32)), .val (.long (qo2 + (1 : Int64))), .second, .val (.long ro2), .second, .val (.long ho2), .second] [])) _
                      exact castTop (by rw [hj127]) k
                    · rw [if_neg c124] at hj127
                      show Steps p.tables e below (s₁.setTop (mkF m 129 #[.val (.long q1), .second, .val (.int (2 : Int32)), .val (.long qo2), .second, .val (.long ro2), .second, .val (.long ho2), .second] [(.int (lcmpW ro2 ho2))])) _
                      refine XS.ifNo X0.here hx rfl (hb hby d2_129) rfl ((if0 _ _).trans (flt c124).2.2.1) ?_
                      show Steps p.tables e below (s₁.setTop (mkF m 132 #[.val (.long q1), .second, .val (.int (2 : Int32)), .val (.long qo2), .second, .val (.long ro2), .second, .val (.long ho2), .second] [])) _
                      refine XS.lload X0.here hx rfl (hb hby d2_132) rfl ?_
                      show Steps p.tables e below (s₁.setTop (mkF m 134 #[.val (.long q1), .second, .val (.int (2 : Int32)), .val (.long qo2), .second, .val (.long ro2), .second, .val (.long ho2), .second] [(.long ro2)])) _
                      refine XS.lload X0.here hx rfl (hb hby d2_134) rfl ?_
                      show Steps p.tables e below (s₁.setTop (mkF m 136 #[.val (.long q1), .second, .val (.int (2 : Int32)), .val (.long qo2), .second, .val (.long ro2), .second, .val (.long ho2), .second] [(.long ho2), (.long ro2)])) _
                      refine XS.lcmp X0.here hx rfl (hb hby d2_136) rfl ?_
                      by_cases c125 : (lcmpW ro2 ho2) = (0 : Int32)
                      · rw [if_pos c125] at hj127
                        show Steps p.tables e below (s₁.setTop (mkF m 137 #[.val (.long q1), .second, .val (.int (2 : Int32)), .val (.long qo2), .second, .val (.long ro2), .second, .val (.long ho2), .second] [(.int (lcmpW ro2 ho2))])) _
                        refine XS.ifNo X0.here hx rfl (hb hby d2_137) rfl ((if0 _ _).trans (teq c125).2) ?_
                        show Steps p.tables e below (s₁.setTop (mkF m 140 #[.val (.long q1), .second, .val (.int (2 : Int32)), .val (.long qo2), .second, .val (.long ro2), .second, .val (.long ho2), .second] [])) _
                        refine XS.lloadN X0.here hx rfl (hb hby d2_140) rfl ?_
                        show Steps p.tables e below (s₁.setTop (mkF m 141 #[.val (.long q1), .second, .val (.int (2 : Int32)), .val (.long qo2), .second, .val (.long ro2), .second, .val (.long ho2), .second] [(.long qo2)])) _
                        refine XS.lconst X0.here hx rfl (hb hby d2_141) ?_
                        show Steps p.tables e below (s₁.setTop (mkF m 142 #[.val (.long q1), .second, .val (.int (2 : Int32)), .val (.long qo2), .second, .val (.long ro2), .second, .val (.long ho2), .second] [(.long (1 : Int64)), (.long qo2)])) _
                        refine XS.land X0.here hx rfl (hb hby d2_142) rfl ?_
                        show Steps p.tables e below (s₁.setTop (mkF m 143 #[.val (.long q1), .second, .val (.int (2 : Int32)), .val (.long qo2), .second, .val (.long ro2), .second, .val (.long ho2), .second] [(.long (qo2 &&& (1 : Int64)))])) _
                        refine XS.lconst X0.here hx rfl (hb hby d2_143) ?_
                        show Steps p.tables e below (s₁.setTop (mkF m 144 #[.val (.long q1), .second, .val (.int (2 : Int32)), .val (.long qo2), .second, .val (.long ro2), .second, .val (.long ho2), .second] [(.long (1 : Int64)), (.long (qo2 &&& (1 : Int64)))])) _
                        refine XS.lcmp X0.here hx rfl (hb hby d2_144) rfl ?_
                        by_cases c126 : (lcmpW (qo2 &&& (1 : Int64)) (1 : Int64)) = (0 : Int32)
                        · rw [if_pos c126] at hj127
                          show Steps p.tables e below (s₁.setTop (mkF m 145 #[.val (.long q1), .second, .val (.int (2 : Int32)), .val (.long qo2), .second, .val (.long ro2), .second, .val (.long ho2), .second] [(.int (lcmpW (qo2 &&& (1 : Int64)) (1 : Int64)))])) _
                          refine XS.ifNo X0.here hx rfl (hb hby d2_145) rfl ((if0 _ _).trans (teq c126).2) ?_
                          show Steps p.tables e below (s₁.setTop (mkF m 148 #[.val (.long q1), .second, .val (.int (2 : Int32)), .val (.long qo2), .second, .val (.long ro2), .second, .val (.long ho2), .second] [])) _
                          refine XS.lloadN X0.here hx rfl (hb hby d2_148) rfl ?_
                          show Steps p.tables e below (s₁.setTop (mkF m 149 #[.val (.long q1), .second, .val (.int (2 : Int32)), .val (.long qo2), .second, .val (.long ro2), .second, .val (.long ho2), .second] [(.long qo2)])) _
                          refine XS.lconst X0.here hx rfl (hb hby d2_149) ?_
                          show Steps p.tables e below (s₁.setTop (mkF m 150 #[.val (.long q1), .second, .val (.int (2 : Int32)), .val (.long qo2), .second, .val (.long ro2), .second, .val (.long ho2), .second] [(.long (1 : Int64)), (.long qo2)])) _
                          refine XS.ladd X0.here hx rfl (hb hby d2_150) rfl ?_
                          show Steps p.tables e below (s₁.setTop (mkF m 151 #[.val (.long q1), .second, .val (.int (2 : Int32)), .val (.long qo2), .second, .val (.long ro2), .second, .val (.long ho2), .second] [(.long (qo2 + (1 : Int64)))])) _
                          refine XS.lstoreN X0.here hx rfl (hb hby d2_151) rfl (l' := #[.val (.long q1), .second, .val (.int (2 : Int32)), .val (.long (qo2 + (1 : Int64))), .second, .val (.long ro2), .second, .val (.long ho2), .second]) rfl ?_
                          show Steps p.tables e below (s₁.setTop (mkF m 152 #[.val (.long q1), .second, .val (.int (2 : Int32)), .val (.long (qo2 + (1 : Int64))), .second, .val (.long ro2), .second, .val (.long ho2), .second] [])) _
                          exact castTop (by rw [hj127]) k
                        · rw [if_neg c126] at hj127
                          show Steps p.tables e below (s₁.setTop (mkF m 145 #[.val (.long q1), .second, .val (.int (2 : Int32)), .val (.long qo2), .second, .val (.long ro2), .second, .val (.long ho2), .second] [(.int (lcmpW (qo2 &&& (1 : Int64)) (1 : Int64)))])) _
                          refine XS.ifYes X0.here hx rfl (pc0 := 145) (pc' := 152) rfl (hb hby d2_145) rfl ((if0 _ _).trans (feq c126).2) (by decide) (by decide) ?_
                          show Steps p.tables e below (s₁.setTop (mkF m 152 #[.val (.long q1), .second, .val (.int (2 : Int32)), .val (.long qo2), .second, .val (.long ro2), .second, .val (.long ho2), .second] [])) _
                          exact castTop (by rw [hj127]) k
                      · rw [if_neg c125] at hj127
                        show Steps p.tables e below (s₁.setTop (mkF m 137 #[.val (.long q1), .second, .val (.int (2 : Int32)), .val (.long qo2), .second, .val (.long ro2), .second, .val (.long ho2), .second] [(.int (lcmpW ro2 ho2))])) _
                        refine XS.ifYes X0.here hx rfl (pc0 := 137) (pc' := 152) rfl (hb hby d2_137) rfl ((if0 _ _).trans (feq c125).2) (by decide) (by decide) ?_
                        show Steps p.tables e below (s₁.setTop (mkF m 152 #[.val (.long q1), .second, .val (.int (2 : Int32)), .val (.long qo2), .second, .val (.long ro2), .second, .val (.long ho2), .second] [])) _
                        exact castTop (by rw [hj127]) k)
                  have hres := own_mag2 hbq c1 t8 t7 t6 t5 t4 t3 t2 eqo2 ero2 eho2 hj127
                  have k129 : ∀ t, Steps p.tables e below (s₁.setTop (mkF m 155 #[.val (.long q1), .second, .val (.int (2 : Int32)), .val (.long j127), .second, .val (.long ro2), .second, .val (.long ho2), .second] [(.long (j127 <<< ((2 : Int32) &&& 0x3f).toInt64))])) t → Steps p.tables e below (s₁.setTop (entryFrame m #[(.long q1)] 9)) t := fun t k => k128 t (by
                    show Steps p.tables e below (s₁.setTop (mkF m 152 #[.val (.long q1), .second, .val (.int (2 : Int32)), .val (.long j127), .second, .val (.long ro2), .second, .val (.long ho2), .second] [])) _
                    refine XS.lloadN X0.here hx rfl (hb hby d2_152) rfl ?_
                    show Steps p.tables e below (s₁.setTop (mkF m 153 #[.val (.long q1), .second, .val (.int (2 : Int32)), .val (.long j127), .second, .val (.long ro2), .second, .val (.long ho2), .second] [(.long j127)])) _
                    refine XS.iloadN X0.here hx rfl (hb hby d2_153) rfl ?_
                    show Steps p.tables e below (s₁.setTop (mkF m 154 #[.val (.long q1), .second, .val (.int (2 : Int32)), .val (.long j127), .second, .val (.long ro2), .second, .val (.long ho2), .second] [(.int (2 : Int32)), (.long j127)])) _
                    refine XS.lshl X0.here hx rfl (hb hby d2_154) rfl ?_
                    exact k)
                  obtain ⟨fs, hr, hrun, hended, hW, hsame⟩ := X0.leave (v := some (.long (j127 <<< ((2 : Int32) &&& 0x3f).toInt64))) (fun h => by rw [Bd.returns] at h; cases h)
                  refine ⟨_, _, k129 _ (retOut X0 hx (t := .long) Bd.returns rfl (Or.inr (Or.inl ⟨rfl, rfl, _, rfl⟩)) (hb hby d2_155) hr), hrun, hended, _, _, rfl, ?_, ⟨_, rfl⟩, hW, hsame.mono (by decide) (by decide)⟩
                  show Q_rm2 Z q1 h0 n0 _ s₁.heap _
                  rw [e0]
                  exact ⟨_, rfl, N0, rfl, hres⟩
              · have k130 : ∀ t, Steps p.tables e below (s₁.setTop (mkF m 86 #[.val (.long q1), .second, .unset, .unset, .unset, .unset, .unset, .unset, .unset] [])) t → Steps p.tables e below (s₁.setTop (entryFrame m #[(.long q1)] 9)) t := fun t k => k108 t (by
                  show Steps p.tables e below (s₁.setTop (mkF m 83 #[.val (.long q1), .second, .unset, .unset, .unset, .unset, .unset, .unset, .unset] [(.int (lcmpW q1 (67108864 : Int64)))])) _
                  refine XS.ifNo X0.here hx rfl (hb hby d2_83) rfl ((if0 _ _).trans (flt (fun q => t3 (own_lt64' ((lw_lt _ _).mp q) (by decide)))).1) ?_
                  exact k)
                have k131 : ∀ t, Steps p.tables e below (s₁.setTop (mkF m 124 #[.val (.long q1), .second, .val (.int (3 : Int32)), .val (.long (q1 >>> ((3 : Int32) &&& 0x3f).toInt64)), .second, .val (.long (q1 - ((q1 >>> ((3 : Int32) &&& 0x3f).toInt64) <<< ((3 : Int32) &&& 0x3f).toInt64))), .second, .val (.long ((1 : Int64) <<< ((2 : Int32) &&& 0x3f).toInt64)), .second] [])) t → Steps p.tables e below (s₁.setTop (entryFrame m #[(.long q1)] 9)) t := fun t k => k130 t (by
                  show Steps p.tables e below (s₁.setTop (mkF m 86 #[.val (.long q1), .second, .unset, .unset, .unset, .unset, .unset, .unset, .unset] [])) _
                  refine XS.iconst X0.here hx rfl (hb hby d2_86) ?_
                  show Steps p.tables e below (s₁.setTop (mkF m 87 #[.val (.long q1), .second, .unset, .unset, .unset, .unset, .unset, .unset, .unset] [(.int (3 : Int32))])) _
                  refine XS.istoreN X0.here hx rfl (hb hby d2_87) rfl (l' := #[.val (.long q1), .second, .val (.int (3 : Int32)), .unset, .unset, .unset, .unset, .unset, .unset]) rfl ?_
                  show Steps p.tables e below (s₁.setTop (mkF m 88 #[.val (.long q1), .second, .val (.int (3 : Int32)), .unset, .unset, .unset, .unset, .unset, .unset] [])) _
                  refine XS.goto X0.here hx rfl (pc0 := 88) (pc' := 106) rfl (hb hby d2_88) (by decide) (by decide) ?_
                  show Steps p.tables e below (s₁.setTop (mkF m 106 #[.val (.long q1), .second, .val (.int (3 : Int32)), .unset, .unset, .unset, .unset, .unset, .unset] [])) _
                  refine XS.lloadN X0.here hx rfl (hb hby d2_106) rfl ?_
                  show Steps p.tables e below (s₁.setTop (mkF m 107 #[.val (.long q1), .second, .val (.int (3 : Int32)), .unset, .unset, .unset, .unset, .unset, .unset] [(.long q1)])) _
                  refine XS.iloadN X0.here hx rfl (hb hby d2_107) rfl ?_
                  show Steps p.tables e below (s₁.setTop (mkF m 108 #[.val (.long q1), .second, .val (.int (3 : Int32)), .unset, .unset, .unset, .unset, .unset, .unset] [(.int (3 : Int32)), (.long q1)])) _
                  refine XS.lshr X0.here hx rfl (hb hby d2_108) rfl ?_
                  show Steps p.tables e below (s₁.setTop (mkF m 109 #[.val (.long q1), .second, .val (.int (3 : Int32)), .unset, .unset, .unset, .unset, .unset, .unset] [(.long (q1 >>> ((3 : Int32) &&& 0x3f).toInt64))])) _
                  refine XS.lstoreN X0.here hx rfl (hb hby d2_109) rfl (l' := #[.val (.long q1), .second, .val (.int (3 : Int32)), .val (.long (q1 >>> ((3 : Int32) &&& 0x3f).toInt64)), .second, .unset, .unset, .unset, .unset]) rfl ?_
                  show Steps p.tables e below (s₁.setTop (mkF m 110 #[.val (.long q1), .second, .val (.int (3 : Int32)), .val (.long (q1 >>> ((3 : Int32) &&& 0x3f).toInt64)), .second, .unset, .unset, .unset, .unset] [])) _
                  refine XS.lloadN X0.here hx rfl (hb hby d2_110) rfl ?_
                  show Steps p.tables e below (s₁.setTop (mkF m 111 #[.val (.long q1), .second, .val (.int (3 : Int32)), .val (.long (q1 >>> ((3 : Int32) &&& 0x3f).toInt64)), .second, .unset, .unset, .unset, .unset] [(.long q1)])) _
                  refine XS.lloadN X0.here hx rfl (hb hby d2_111) rfl ?_
                  show Steps p.tables e below (s₁.setTop (mkF m 112 #[.val (.long q1), .second, .val (.int (3 : Int32)), .val (.long (q1 >>> ((3 : Int32) &&& 0x3f).toInt64)), .second, .unset, .unset, .unset, .unset] [(.long (q1 >>> ((3 : Int32) &&& 0x3f).toInt64)), (.long q1)])) _
                  refine XS.iloadN X0.here hx rfl (hb hby d2_112) rfl ?_
                  show Steps p.tables e below (s₁.setTop (mkF m 113 #[.val (.long q1), .second, .val (.int (3 : Int32)), .val (.long (q1 >>> ((3 : Int32) &&& 0x3f).toInt64)), .second, .unset, .unset, .unset, .unset] [(.int (3 : Int32)), (.long (q1 >>> ((3 : Int32) &&& 0x3f).toInt64)), (.long q1)])) _
                  refine XS.lshl X0.here hx rfl (hb hby d2_113) rfl ?_
                  show Steps p.tables e below (s₁.setTop (mkF m 114 #[.val (.long q1), .second, .val (.int (3 : Int32)), .val (.long (q1 >>> ((3 : Int32) &&& 0x3f).toInt64)), .second, .unset, .unset, .unset, .unset] [(.long ((q1 >>> ((3 : Int32) &&& 0x3f).toInt64) <<< ((3 : Int32) &&& 0x3f).toInt64)), (.long q1)])) _
                  refine XS.lsub X0.here hx rfl (hb hby d2_114) rfl ?_
                  show Steps p.tables e below (s₁.setTop (mkF m 115 #[.val (.long q1), .second, .val (.int (3 : Int32)), .val (.long (q1 >>> ((3 : Int32) &&& 0x3f).toInt64)), .second, .unset, .unset, .unset, .unset] [(.long (q1 - ((q1 >>> ((3 : Int32) &&& 0x3f).toInt64) <<< ((3 : Int32) &&& 0x3f).toInt64)))])) _
                  refine XS.lstore X0.here hx rfl (hb hby d2_115) rfl (l' := #[.val (.long q1), .second, .val (.int (3 : Int32)), .val (.long (q1 >>> ((3 : Int32) &&& 0x3f).toInt64)), .second, .val (.long (q1 - ((q1 >>> ((3 : Int32) &&& 0x3f).toInt64) <<< ((3 : Int32) &&& 0x3f).toInt64))), .second, .unset, .unset]) rfl ?_
                  show Steps p.tables e below (s₁.setTop (mkF m 117 #[.val (.long q1), .second, .val (.int (3 : Int32)), .val (.long (q1 >>> ((3 : Int32) &&& 0x3f).toInt64)), .second, .val (.long (q1 - ((q1 >>> ((3 : Int32) &&& 0x3f).toInt64) <<< ((3 : Int32) &&& 0x3f).toInt64))), .second, .unset, .unset] [])) _
                  refine XS.lconst X0.here hx rfl (hb hby d2_117) ?_
                  show Steps p.tables e below (s₁.setTop (mkF m 118 #[.val (.long q1), .second, .val (.int (3 : Int32)), .val (.long (q1 >>> ((3 : Int32) &&& 0x3f).toInt64)), .second, .val (.long (q1 - ((q1 >>> ((3 : Int32) &&& 0x3f).toInt64) <<< ((3 : Int32) &&& 0x3f).toInt64))), .second, .unset, .unset] [(.long (1 : Int64))])) _
                  refine XS.iloadN X0.here hx rfl (hb hby d2_118) rfl ?_
                  show Steps p.tables e below (s₁.setTop (mkF m 119 #[.val (.long q1), .second, .val (.int (3 : Int32)), .val (.long (q1 >>> ((3 : Int32) &&& 0x3f).toInt64)), .second, .val (.long (q1 - ((q1 >>> ((3 : Int32) &&& 0x3f).toInt64) <<< ((3 : Int32) &&& 0x3f).toInt64))), .second, .unset, .unset] [(.int (3 : Int32)), (.long (1 : Int64))])) _
                  refine XS.iconst X0.here hx rfl (hb hby d2_119) ?_
                  show Steps p.tables e below (s₁.setTop (mkF m 120 #[.val (.long q1), .second, .val (.int (3 : Int32)), .val (.long (q1 >>> ((3 : Int32) &&& 0x3f).toInt64)), .second, .val (.long (q1 - ((q1 >>> ((3 : Int32) &&& 0x3f).toInt64) <<< ((3 : Int32) &&& 0x3f).toInt64))), .second, .unset, .unset] [(.int (1 : Int32)), (.int (3 : Int32)), (.long (1 : Int64))])) _
                  refine XS.isub X0.here hx rfl (hb hby d2_120) rfl ?_
                  show Steps p.tables e below (s₁.setTop (mkF m 121 #[.val (.long q1), .second, .val (.int (3 : Int32)), .val (.long (q1 >>> ((3 : Int32) &&& 0x3f).toInt64)), .second, .val (.long (q1 - ((q1 >>> ((3 : Int32) &&& 0x3f).toInt64) <<< ((3 : Int32) &&& 0x3f).toInt64))), .second, .unset, .unset] [(.int ((3 : Int32) - (1 : Int32))), (.long (1 : Int64))])) _
                  refine castTop (g' := (mkF m 121 #[.val (.long q1), .second, .val (.int (3 : Int32)), .val (.long (q1 >>> ((3 : Int32) &&& 0x3f).toInt64)), .second, .val (.long (q1 - ((q1 >>> ((3 : Int32) &&& 0x3f).toInt64) <<< ((3 : Int32) &&& 0x3f).toInt64))), .second, .unset, .unset] [(.int (2 : Int32)), (.long (1 : Int64))])) (by rw [show ((3 : Int32) - (1 : Int32)) = (2 : Int32) by decide]) ?_
                  show Steps p.tables e below (s₁.setTop (mkF m 121 #[.val (.long q1), .second, .val (.int (3 : Int32)), .val (.long (q1 >>> ((3 : Int32) &&& 0x3f).toInt64)), .second, .val (.long (q1 - ((q1 >>> ((3 : Int32) &&& 0x3f).toInt64) <<< ((3 : Int32) &&& 0x3f).toInt64))), .second, .unset, .unset] [(.int (2 : Int32)), (.long (1 : Int64))])) _
                  refine XS.lshl X0.here hx rfl (hb hby d2_121) rfl ?_
                  show Steps p.tables e below (s₁.setTop (mkF m 122 #[.val (.long q1), .second, .val (.int (3 : Int32)), .val (.long (q1 >>> ((3 : Int32) &&& 0x3f).toInt64)), .second, .val (.long (q1 - ((q1 >>> ((3 : Int32) &&& 0x3f).toInt64) <<< ((3 : Int32) &&& 0x3f).toInt64))), .second, .unset, .unset] [(.long ((1 : Int64) <<< ((2 : Int32) &&& 0x3f).toInt64))])) _
                  refine XS.lstore X0.here hx rfl (hb hby d2_122) rfl (l' := #[.val (.long q1), .second, .val (.int (3 : Int32)), .val (.long (q1 >>> ((3 : Int32) &&& 0x3f).toInt64)), .second, .val (.long (q1 - ((q1 >>> ((3 : Int32) &&& 0x3f).toInt64) <<< ((3 : Int32) &&& 0x3f).toInt64))), .second, .val (.long ((1 : Int64) <<< ((2 : Int32) &&& 0x3f).toInt64)), .second]) rfl ?_
                  exact k)
                obtain ⟨qo3, eqo3⟩ : ∃ z : Int64, z = (q1 >>> ((3 : Int32) &&& 0x3f).toInt64) := ⟨_, rfl⟩
                obtain ⟨ro3, ero3⟩ : ∃ z : Int64, z = (q1 - ((q1 >>> ((3 : Int32) &&& 0x3f).toInt64) <<< ((3 : Int32) &&& 0x3f).toInt64)) := ⟨_, rfl⟩
                obtain ⟨ho3, eho3⟩ : ∃ z : Int64, z = ((1 : Int64) <<< ((2 : Int32) &&& 0x3f).toInt64) := ⟨_, rfl⟩
                have k132 : ∀ t, Steps p.tables e below (s₁.setTop (mkF m 124 #[.val (.long q1), .second, .val (.int (3 : Int32)), .val (.long qo3), .second, .val (.long ro3), .second, .val (.long ho3), .second] [])) t → Steps p.tables e below (s₁.setTop (entryFrame m #[(.long q1)] 9)) t := fun t k => k131 t (by
                  show Steps p.tables e below (s₁.setTop (mkF m 124 #[.val (.long q1), .second, .val (.int (3 : Int32)), .val (.long (q1 >>> ((3 : Int32) &&& 0x3f).toInt64)), .second, .val (.long (q1 - ((q1 >>> ((3 : Int32) &&& 0x3f).toInt64) <<< ((3 : Int32) &&& 0x3f).toInt64))), .second, .val (.long ((1 : Int64) <<< ((2 : Int32) &&& 0x3f).toInt64)), .second] [])) _
                  refine castTop (g' := (mkF m 124 #[.val (.long q1), .second, .val (.int (3 : Int32)), .val (.long qo3), .second, .val (.long ro3), .second, .val (.long ho3), .second] [])) (by rw [ero3, eqo3, eho3]) ?_
                  exact k)
                have k133 : ∀ t, Steps p.tables e below (s₁.setTop (mkF m 129 #[.val (.long q1), .second, .val (.int (3 : Int32)), .val (.long qo3), .second, .val (.long ro3), .second, .val (.long ho3), .second] [(.int (lcmpW ro3 ho3))])) t → Steps p.tables e below (s₁.setTop (entryFrame m #[(.long q1)] 9)) t := fun t k => k132 t (by
                  show Steps p.tables e below (s₁.setTop (mkF m 124 #[.val (.long q1), .second, .val (.int (3 : Int32)), .val (.long qo3), .second, .val (.long ro3), .second, .val (.long ho3), .second] [])) _
                  refine XS.lload X0.here hx rfl (hb hby d2_124) rfl ?_
                  show Steps p.tables e below (s₁.setTop (mkF m 126 #[.val (.long q1), .second, .val (.int (3 : Int32)), .val (.long qo3), .second, .val (.long ro3), .second, .val (.long ho3), .second] [(.long ro3)])) _
                  refine XS.lload X0.here hx rfl (hb hby d2_126) rfl ?_
                  show Steps p.tables e below (s₁.setTop (mkF m 128 #[.val (.long q1), .second, .val (.int (3 : Int32)), .val (.long qo3), .second, .val (.long ro3), .second, .val (.long ho3), .second] [(.long ho3), (.long ro3)])) _
                  refine XS.lcmp X0.here hx rfl (hb hby d2_128) rfl ?_
                  exact k)
                obtain ⟨j137, hj137⟩ : ∃ z : Int64, z = (if (0 : Int32) < (lcmpW ro3 ho3) then (qo3 + (1 : Int64)) else (if (lcmpW ro3 ho3) = (0 : Int32) then (if (lcmpW (qo3 &&& (1 : Int64)) (1 : Int64)) = (0 : Int32) then (qo3 + (1 : Int64)) else qo3) else qo3)) := ⟨_, rfl⟩
                have k138 : ∀ t, Steps p.tables e below (s₁.setTop (mkF m 152 #[.val (.long q1), .second, .val (.int (3 : Int32)), .val (.long j137), .second, .val (.long ro3), .second, .val (.long ho3), .second] [])) t → Steps p.tables e below (s₁.setTop (entryFrame m #[(.long q1)] 9)) t := fun t k => k133 t (by
                  by_cases c134 : (0 : Int32) < (lcmpW ro3 ho3)
                  · rw [if_pos c134] at hj137
                    show Steps p.tables e below (s₁.setTop (mkF m 129 #[.val (.long q1), .second, .val (.int (3 : Int32)), .val (.long qo3), .second, .val (.long ro3), .second, .val (.long ho3), .second] [(.int (lcmpW ro3 ho3))])) _
                    refine XS.ifYes X0.here hx rfl (pc0 := 129) (pc' := 148) rfl (hb hby d2_129) rfl ((if0 _ _).trans (tlt c134).2.2.1) (by decide) (by decide) ?_
                    show Steps p.tables e below (s₁.setTop (mkF m 148 #[.val (.long q1), .second, .val (.int (3 : Int32)), .val (.long qo3), .second, .val (.long ro3), .second, .val (.long ho3), .second] [])) _
                    refine XS.lloadN X0.here hx rfl (hb hby d2_148) rfl ?_
                    show Steps p.tables e below (s₁.setTop (mkF m 149 #[.val (.long q1), .second, .val (.int (3 : Int32)), .val (.long qo3), .second, .val (.long ro3), .second, .val (.long ho3), .second] [(.long qo3)])) _
                    refine XS.lconst X0.here hx rfl (hb hby d2_149) ?_
                    show Steps p.tables e below (s₁.setTop (mkF m 150 #[.val (.long q1), .second, .val (.int (3 : Int32)), .val (.long qo3), .second, .val (.long ro3), .second, .val (.long ho3), .second] [(.long (1 : Int64)), (.long qo3)])) _
                    refine XS.ladd X0.here hx rfl (hb hby d2_150) rfl ?_
                    show Steps p.tables e below (s₁.setTop (mkF m 151 #[.val (.long q1), .second, .val (.int (3 : Int32)), .val (.long qo3), .second, .val (.long ro3), .second, .val (.long ho3), .second] [(.long (qo3 + (1 : Int64)))])) _
                    refine XS.lstoreN X0.here hx rfl (hb hby d2_151) rfl (l' := #[.val (.long q1), .second, .val (.int (3 : Int32)), .val (.long (qo3 + (1 : Int64))), .second, .val (.long ro3), .second, .val (.long ho3), .second]) rfl ?_
                    show Steps p.tables e below (s₁.setTop (mkF m 152 #[.val (.long q1), .second, .val (.int (3 : Int32)), .val (.long (qo3 + (1 : Int64))), .second, .val (.long ro3), .second, .val (.long ho3), .second] [])) _
                    exact castTop (by rw [hj137]) k
                  · rw [if_neg c134] at hj137
                    show Steps p.tables e below (s₁.setTop (mkF m 129 #[.val (.long q1), .second, .val (.int (3 : Int32)), .val (.long qo3), .second, .val (.long ro3), .second, .val (.long ho3), .second] [(.int (lcmpW ro3 ho3))])) _
                    refine XS.ifNo X0.here hx rfl (hb hby d2_129) rfl ((if0 _ _).trans (flt c134).2.2.1) ?_
                    show Steps p.tables e below (s₁.setTop (mkF m 132 #[.val (.long q1), .second, .val (.int (3 : Int32)), .val (.long qo3), .second, .val (.long ro3), .second, .val (.long ho3), .second] [])) _
                    refine XS.lload X0.here hx rfl (hb hby d2_132) rfl ?_
                    show Steps p.tables e below (s₁.setTop (mkF m 134 #[.val (.long q1), .second, .val (.int (3 : Int32)), .val (.long qo3), .second, .val (.long ro3), .second, .val (.long ho3), .second] [(.long ro3)])) _
                    refine XS.lload X0.here hx rfl (hb hby d2_134) rfl ?_
                    show Steps p.tables e below (s₁.setTop (mkF m 136 #[.val (.long q1), .second, .val (.int (3 : Int32)), .val (.long qo3), .second, .val (.long ro3), .second, .val (.long ho3), .second] [(.long ho3), (.long ro3)])) _
                    refine XS.lcmp X0.here hx rfl (hb hby d2_136) rfl ?_
                    by_cases c135 : (lcmpW ro3 ho3) = (0 : Int32)
                    · rw [if_pos c135] at hj137
                      show Steps p.tables e below (s₁.setTop (mkF m 137 #[.val (.long q1), .second, .val (.int (3 : Int32)), .val (.long qo3), .second, .val (.long ro3), .second, .val (.long ho3), .second] [(.int (lcmpW ro3 ho3))])) _
                      refine XS.ifNo X0.here hx rfl (hb hby d2_137) rfl ((if0 _ _).trans (teq c135).2) ?_
                      show Steps p.tables e below (s₁.setTop (mkF m 140 #[.val (.long q1), .second, .val (.int (3 : Int32)), .val (.long qo3), .second, .val (.long ro3), .second, .val (.long ho3), .second] [])) _
                      refine XS.lloadN X0.here hx rfl (hb hby d2_140) rfl ?_
                      show Steps p.tables e below (s₁.setTop (mkF m 141 #[.val (.long q1), .second, .val (.int (3 : Int32)), .val (.long qo3), .second, .val (.long ro3), .second, .val (.long ho3), .second] [(.long qo3)])) _
                      refine XS.lconst X0.here hx rfl (hb hby d2_141) ?_
                      show Steps p.tables e below (s₁.setTop (mkF m 142 #[.val (.long q1), .second, .val (.int (3 : Int32)), .val (.long qo3), .second, .val (.long ro3), .second, .val (.long ho3), .second] [(.long (1 : Int64)), (.long qo3)])) _
                      refine XS.land X0.here hx rfl (hb hby d2_142) rfl ?_
                      show Steps p.tables e below (s₁.setTop (mkF m 143 #[.val (.long q1), .second, .val (.int (3 : Int32)), .val (.long qo3), .second, .val (.long ro3), .second, .val (.long ho3), .second] [(.long (qo3 &&& (1 : Int64)))])) _
                      refine XS.lconst X0.here hx rfl (hb hby d2_143) ?_
                      show Steps p.tables e below (s₁.setTop (mkF m 144 #[.val (.long q1), .second, .val (.int (3 : Int32)), .val (.long qo3), .second, .val (.long ro3), .second, .val (.long ho3), .second] [(.long (1 : Int64)), (.long (qo3 &&& (1 : Int64)))])) _
                      refine XS.lcmp X0.here hx rfl (hb hby d2_144) rfl ?_
                      by_cases c136 : (lcmpW (qo3 &&& (1 : Int64)) (1 : Int64)) = (0 : Int32)
                      · rw [if_pos c136] at hj137
                        show Steps p.tables e below (s₁.setTop (mkF m 145 #[.val (.long q1), .second, .val (.int (3 : Int32)), .val (.long qo3), .second, .val (.long ro3), .second, .val (.long ho3), .second] [(.int (lcmpW (qo3 &&& (1 : Int64)) (1 : Int64)))])) _
                        refine XS.ifNo X0.here hx rfl (hb hby d2_145) rfl ((if0 _ _).trans (teq c136).2) ?_
                        show Steps p.tables e below (s₁.setTop (mkF m 148 #[.val (.long q1), .second, .val (.int (3 : Int32)), .val (.long qo3), .second, .val (.long ro3), .second, .val (.long ho3), .second] [])) _
                        refine XS.lloadN X0.here hx rfl (hb hby d2_148) rfl ?_
                        show Steps p.tables e below (s₁.setTop (mkF m 149 #[.val (.long q1), .second, .val (.int (3 : Int32)), .val (.long qo3), .second, .val (.long ro3), .second, .val (.long ho3), .second] [(.long qo3)])) _
                        refine XS.lconst X0.here hx rfl (hb hby d2_149) ?_
                        show Steps p.tables e below (s₁.setTop (mkF m 150 #[.val (.long q1), .second, .val (.int (3 : Int32)), .val (.long qo3), .second, .val (.long ro3), .second, .val (.long ho3), .second] [(.long (1 : Int64)), (.long qo3)])) _
                        refine XS.ladd X0.here hx rfl (hb hby d2_150) rfl ?_
                        show Steps p.tables e below (s₁.setTop (mkF m 151 #[.val (.long q1), .second, .val (.int (3 : Int32)), .val (.long qo3), .second, .val (.long ro3), .second, .val (.long ho3), .second] [(.long (qo3 + (1 : Int64)))])) _
                        refine XS.lstoreN X0.here hx rfl (hb hby d2_151) rfl (l' := #[.val (.long q1), .second, .val (.int (3 : Int32)), .val (.long (qo3 + (1 : Int64))), .second, .val (.long ro3), .second, .val (.long ho3), .second]) rfl ?_
                        show Steps p.tables e below (s₁.setTop (mkF m 152 #[.val (.long q1), .second, .val (.int (3 : Int32)), .val (.long (qo3 + (1 : Int64))), .second, .val (.long ro3), .second, .val (.long ho3), .second] [])) _
                        exact castTop (by rw [hj137]) k
                      · rw [if_neg c136] at hj137
                        show Steps p.tables e below (s₁.setTop (mkF m 145 #[.val (.long q1), .second, .val (.int (3 : Int32)), .val (.long qo3), .second, .val (.long ro3), .second, .val (.long ho3), .second] [(.int (lcmpW (qo3 &&& (1 : Int64)) (1 : Int64)))])) _
                        refine XS.ifYes X0.here hx rfl (pc0 := 145) (pc' := 152) rfl (hb hby d2_145) rfl ((if0 _ _).trans (feq c136).2) (by decide) (by decide) ?_
                        show Steps p.tables e below (s₁.setTop (mkF m 152 #[.val (.long q1), .second, .val (.int (3 : Int32)), .val (.long qo3), .second, .val (.long ro3), .second, .val (.long ho3), .second] [])) _
                        exact castTop (by rw [hj137]) k
                    · rw [if_neg c135] at hj137
                      show Steps p.tables e below (s₁.setTop (mkF m 137 #[.val (.long q1), .second, .val (.int (3 : Int32)), .val (.long qo3), .second, .val (.long ro3), .second, .val (.long ho3), .second] [(.int (lcmpW ro3 ho3))])) _
                      refine XS.ifYes X0.here hx rfl (pc0 := 137) (pc' := 152) rfl (hb hby d2_137) rfl ((if0 _ _).trans (feq c135).2) (by decide) (by decide) ?_
                      show Steps p.tables e below (s₁.setTop (mkF m 152 #[.val (.long q1), .second, .val (.int (3 : Int32)), .val (.long qo3), .second, .val (.long ro3), .second, .val (.long ho3), .second] [])) _
                      exact castTop (by rw [hj137]) k)
                have hres := own_mag3 hbq c1 t8 t7 t6 t5 t4 t3 eqo3 ero3 eho3 hj137
                have k139 : ∀ t, Steps p.tables e below (s₁.setTop (mkF m 155 #[.val (.long q1), .second, .val (.int (3 : Int32)), .val (.long j137), .second, .val (.long ro3), .second, .val (.long ho3), .second] [(.long (j137 <<< ((3 : Int32) &&& 0x3f).toInt64))])) t → Steps p.tables e below (s₁.setTop (entryFrame m #[(.long q1)] 9)) t := fun t k => k138 t (by
                  show Steps p.tables e below (s₁.setTop (mkF m 152 #[.val (.long q1), .second, .val (.int (3 : Int32)), .val (.long j137), .second, .val (.long ro3), .second, .val (.long ho3), .second] [])) _
                  refine XS.lloadN X0.here hx rfl (hb hby d2_152) rfl ?_
                  show Steps p.tables e below (s₁.setTop (mkF m 153 #[.val (.long q1), .second, .val (.int (3 : Int32)), .val (.long j137), .second, .val (.long ro3), .second, .val (.long ho3), .second] [(.long j137)])) _
                  refine XS.iloadN X0.here hx rfl (hb hby d2_153) rfl ?_
                  show Steps p.tables e below (s₁.setTop (mkF m 154 #[.val (.long q1), .second, .val (.int (3 : Int32)), .val (.long j137), .second, .val (.long ro3), .second, .val (.long ho3), .second] [(.int (3 : Int32)), (.long j137)])) _
                  refine XS.lshl X0.here hx rfl (hb hby d2_154) rfl ?_
                  exact k)
                obtain ⟨fs, hr, hrun, hended, hW, hsame⟩ := X0.leave (v := some (.long (j137 <<< ((3 : Int32) &&& 0x3f).toInt64))) (fun h => by rw [Bd.returns] at h; cases h)
                refine ⟨_, _, k139 _ (retOut X0 hx (t := .long) Bd.returns rfl (Or.inr (Or.inl ⟨rfl, rfl, _, rfl⟩)) (hb hby d2_155) hr), hrun, hended, _, _, rfl, ?_, ⟨_, rfl⟩, hW, hsame.mono (by decide) (by decide)⟩
                show Q_rm2 Z q1 h0 n0 _ s₁.heap _
                rw [e0]
                exact ⟨_, rfl, N0, rfl, hres⟩
            · have k140 : ∀ t, Steps p.tables e below (s₁.setTop (mkF m 73 #[.val (.long q1), .second, .unset, .unset, .unset, .unset, .unset, .unset, .unset] [])) t → Steps p.tables e below (s₁.setTop (entryFrame m #[(.long q1)] 9)) t := fun t k => k107 t (by
                show Steps p.tables e below (s₁.setTop (mkF m 70 #[.val (.long q1), .second, .unset, .unset, .unset, .unset, .unset, .unset, .unset] [(.int (lcmpW q1 (134217728 : Int64)))])) _
                refine XS.ifNo X0.here hx rfl (hb hby d2_70) rfl ((if0 _ _).trans (flt (fun q => t4 (own_lt64' ((lw_lt _ _).mp q) (by decide)))).1) ?_
                exact k)
              have k141 : ∀ t, Steps p.tables e below (s₁.setTop (mkF m 124 #[.val (.long q1), .second, .val (.int (4 : Int32)), .val (.long (q1 >>> ((4 : Int32) &&& 0x3f).toInt64)), .second, .val (.long (q1 - ((q1 >>> ((4 : Int32) &&& 0x3f).toInt64) <<< ((4 : Int32) &&& 0x3f).toInt64))), .second, .val (.long ((1 : Int64) <<< ((3 : Int32) &&& 0x3f).toInt64)), .second] [])) t → Steps p.tables e below (s₁.setTop (entryFrame m #[(.long q1)] 9)) t := fun t k => k140 t (by
                show Steps p.tables e below (s₁.setTop (mkF m 73 #[.val (.long q1), .second, .unset, .unset, .unset, .unset, .unset, .unset, .unset] [])) _
                refine XS.iconst X0.here hx rfl (hb hby d2_73) ?_
                show Steps p.tables e below (s₁.setTop (mkF m 74 #[.val (.long q1), .second, .unset, .unset, .unset, .unset, .unset, .unset, .unset] [(.int (4 : Int32))])) _
                refine XS.istoreN X0.here hx rfl (hb hby d2_74) rfl (l' := #[.val (.long q1), .second, .val (.int (4 : Int32)), .unset, .unset, .unset, .unset, .unset, .unset]) rfl ?_
                show Steps p.tables e below (s₁.setTop (mkF m 75 #[.val (.long q1), .second, .val (.int (4 : Int32)), .unset, .unset, .unset, .unset, .unset, .unset] [])) _
                refine XS.goto X0.here hx rfl (pc0 := 75) (pc' := 106) rfl (hb hby d2_75) (by decide) (by decide) ?_
                show Steps p.tables e below (s₁.setTop (mkF m 106 #[.val (.long q1), .second, .val (.int (4 : Int32)), .unset, .unset, .unset, .unset, .unset, .unset] [])) _
                refine XS.lloadN X0.here hx rfl (hb hby d2_106) rfl ?_
                show Steps p.tables e below (s₁.setTop (mkF m 107 #[.val (.long q1), .second, .val (.int (4 : Int32)), .unset, .unset, .unset, .unset, .unset, .unset] [(.long q1)])) _
                refine XS.iloadN X0.here hx rfl (hb hby d2_107) rfl ?_
                show Steps p.tables e below (s₁.setTop (mkF m 108 #[.val (.long q1), .second, .val (.int (4 : Int32)), .unset, .unset, .unset, .unset, .unset, .unset] [(.int (4 : Int32)), (.long q1)])) _
                refine XS.lshr X0.here hx rfl (hb hby d2_108) rfl ?_
                show Steps p.tables e below (s₁.setTop (mkF m 109 #[.val (.long q1), .second, .val (.int (4 : Int32)), .unset, .unset, .unset, .unset, .unset, .unset] [(.long (q1 >>> ((4 : Int32) &&& 0x3f).toInt64))])) _
                refine XS.lstoreN X0.here hx rfl (hb hby d2_109) rfl (l' := #[.val (.long q1), .second, .val (.int (4 : Int32)), .val (.long (q1 >>> ((4 : Int32) &&& 0x3f).toInt64)), .second, .unset, .unset, .unset, .unset]) rfl ?_
                show Steps p.tables e below (s₁.setTop (mkF m 110 #[.val (.long q1), .second, .val (.int (4 : Int32)), .val (.long (q1 >>> ((4 : Int32) &&& 0x3f).toInt64)), .second, .unset, .unset, .unset, .unset] [])) _
                refine XS.lloadN X0.here hx rfl (hb hby d2_110) rfl ?_
                show Steps p.tables e below (s₁.setTop (mkF m 111 #[.val (.long q1), .second, .val (.int (4 : Int32)), .val (.long (q1 >>> ((4 : Int32) &&& 0x3f).toInt64)), .second, .unset, .unset, .unset, .unset] [(.long q1)])) _
                refine XS.lloadN X0.here hx rfl (hb hby d2_111) rfl ?_
                show Steps p.tables e below (s₁.setTop (mkF m 112 #[.val (.long q1), .second, .val (.int (4 : Int32)), .val (.long (q1 >>> ((4 : Int32) &&& 0x3f).toInt64)), .second, .unset, .unset, .unset, .unset] [(.long (q1 >>> ((4 : Int32) &&& 0x3f).toInt64)), (.long q1)])) _
                refine XS.iloadN X0.here hx rfl (hb hby d2_112) rfl ?_
                show Steps p.tables e below (s₁.setTop (mkF m 113 #[.val (.long q1), .second, .val (.int (4 : Int32)), .val (.long (q1 >>> ((4 : Int32) &&& 0x3f).toInt64)), .second, .unset, .unset, .unset, .unset] [(.int (4 : Int32)), (.long (q1 >>> ((4 : Int32) &&& 0x3f).toInt64)), (.long q1)])) _
                refine XS.lshl X0.here hx rfl (hb hby d2_113) rfl ?_
                show Steps p.tables e below (s₁.setTop (mkF m 114 #[.val (.long q1), .second, .val (.int (4 : Int32)), .val (.long (q1 >>> ((4 : Int32) &&& 0x3f).toInt64)), .second, .unset, .unset, .unset, .unset] [(.long ((q1 >>> ((4 : Int32) &&& 0x3f).toInt64) <<< ((4 : Int32) &&& 0x3f).toInt64)), (.long q1)])) _
                refine XS.lsub X0.here hx rfl (hb hby d2_114) rfl ?_
                show Steps p.tables e below (s₁.setTop (mkF m 115 #[.val (.long q1), .second, .val (.int (4 : Int32)), .val (.long (q1 >>> ((4 : Int32) &&& 0x3f).toInt64)), .second, .unset, .unset, .unset, .unset] [(.long (q1 - ((q1 >>> ((4 : Int32) &&& 0x3f).toInt64) <<< ((4 : Int32) &&& 0x3f).toInt64)))])) _
                refine XS.lstore X0.here hx rfl (hb hby d2_115) rfl (l' := #[.val (.long q1), .second, .val (.int (4 : Int32)), .val (.long (q1 >>> ((4 : Int32) &&& 0x3f).toInt64)), .second, .val (.long (q1 - ((q1 >>> ((4 : Int32) &&& 0x3f).toInt64) <<< ((4 : Int32) &&& 0x3f).toInt64))), .second, .unset, .unset]) rfl ?_
                show Steps p.tables e below (s₁.setTop (mkF m 117 #[.val (.long q1), .second, .val (.int (4 : Int32)), .val (.long (q1 >>> ((4 : Int32) &&& 0x3f).toInt64)), .second, .val (.long (q1 - ((q1 >>> ((4 : Int32) &&& 0x3f).toInt64) <<< ((4 : Int32) &&& 0x3f).toInt64))), .second, .unset, .unset] [])) _
                refine XS.lconst X0.here hx rfl (hb hby d2_117) ?_
                show Steps p.tables e below (s₁.setTop (mkF m 118 #[.val (.long q1), .second, .val (.int (4 : Int32)), .val (.long (q1 >>> ((4 : Int32) &&& 0x3f).toInt64)), .second, .val (.long (q1 - ((q1 >>> ((4 : Int32) &&& 0x3f).toInt64) <<< ((4 : Int32) &&& 0x3f).toInt64))), .second, .unset, .unset] [(.long (1 : Int64))])) _
                refine XS.iloadN X0.here hx rfl (hb hby d2_118) rfl ?_
                show Steps p.tables e below (s₁.setTop (mkF m 119 #[.val (.long q1), .second, .val (.int (4 : Int32)), .val (.long (q1 >>> ((4 : Int32) &&& 0x3f).toInt64)), .second, .val (.long (q1 - ((q1 >>> ((4 : Int32) &&& 0x3f).toInt64) <<< ((4 : Int32) &&& 0x3f).toInt64))), .second, .unset, .unset] [(.int (4 : Int32)), (.long (1 : Int64))])) _
                refine XS.iconst X0.here hx rfl (hb hby d2_119) ?_
                show Steps p.tables e below (s₁.setTop (mkF m 120 #[.val (.long q1), .second, .val (.int (4 : Int32)), .val (.long (q1 >>> ((4 : Int32) &&& 0x3f).toInt64)), .second, .val (.long (q1 - ((q1 >>> ((4 : Int32) &&& 0x3f).toInt64) <<< ((4 : Int32) &&& 0x3f).toInt64))), .second, .unset, .unset] [(.int (1 : Int32)), (.int (4 : Int32)), (.long (1 : Int64))])) _
                refine XS.isub X0.here hx rfl (hb hby d2_120) rfl ?_
                show Steps p.tables e below (s₁.setTop (mkF m 121 #[.val (.long q1), .second, .val (.int (4 : Int32)), .val (.long (q1 >>> ((4 : Int32) &&& 0x3f).toInt64)), .second, .val (.long (q1 - ((q1 >>> ((4 : Int32) &&& 0x3f).toInt64) <<< ((4 : Int32) &&& 0x3f).toInt64))), .second, .unset, .unset] [(.int ((4 : Int32) - (1 : Int32))), (.long (1 : Int64))])) _
                refine castTop (g' := (mkF m 121 #[.val (.long q1), .second, .val (.int (4 : Int32)), .val (.long (q1 >>> ((4 : Int32) &&& 0x3f).toInt64)), .second, .val (.long (q1 - ((q1 >>> ((4 : Int32) &&& 0x3f).toInt64) <<< ((4 : Int32) &&& 0x3f).toInt64))), .second, .unset, .unset] [(.int (3 : Int32)), (.long (1 : Int64))])) (by rw [show ((4 : Int32) - (1 : Int32)) = (3 : Int32) by decide]) ?_
                show Steps p.tables e below (s₁.setTop (mkF m 121 #[.val (.long q1), .second, .val (.int (4 : Int32)), .val (.long (q1 >>> ((4 : Int32) &&& 0x3f).toInt64)), .second, .val (.long (q1 - ((q1 >>> ((4 : Int32) &&& 0x3f).toInt64) <<< ((4 : Int32) &&& 0x3f).toInt64))), .second, .unset, .unset] [(.int (3 : Int32)), (.long (1 : Int64))])) _
                refine XS.lshl X0.here hx rfl (hb hby d2_121) rfl ?_
                show Steps p.tables e below (s₁.setTop (mkF m 122 #[.val (.long q1), .second, .val (.int (4 : Int32)), .val (.long (q1 >>> ((4 : Int32) &&& 0x3f).toInt64)), .second, .val (.long (q1 - ((q1 >>> ((4 : Int32) &&& 0x3f).toInt64) <<< ((4 : Int32) &&& 0x3f).toInt64))), .second, .unset, .unset] [(.long ((1 : Int64) <<< ((3 : Int32) &&& 0x3f).toInt64))])) _
                refine XS.lstore X0.here hx rfl (hb hby d2_122) rfl (l' := #[.val (.long q1), .second, .val (.int (4 : Int32)), .val (.long (q1 >>> ((4 : Int32) &&& 0x3f).toInt64)), .second, .val (.long (q1 - ((q1 >>> ((4 : Int32) &&& 0x3f).toInt64) <<< ((4 : Int32) &&& 0x3f).toInt64))), .second, .val (.long ((1 : Int64) <<< ((3 : Int32) &&& 0x3f).toInt64)), .second]) rfl ?_
                exact k)
              obtain ⟨qo4, eqo4⟩ : ∃ z : Int64, z = (q1 >>> ((4 : Int32) &&& 0x3f).toInt64) := ⟨_, rfl⟩
              obtain ⟨ro4, ero4⟩ : ∃ z : Int64, z = (q1 - ((q1 >>> ((4 : Int32) &&& 0x3f).toInt64) <<< ((4 : Int32) &&& 0x3f).toInt64)) := ⟨_, rfl⟩
              obtain ⟨ho4, eho4⟩ : ∃ z : Int64, z = ((1 : Int64) <<< ((3 : Int32) &&& 0x3f).toInt64) := ⟨_, rfl⟩
              have k142 : ∀ t, Steps p.tables e below (s₁.setTop (mkF m 124 #[.val (.long q1), .second, .val (.int (4 : Int32)), .val (.long qo4), .second, .val (.long ro4), .second, .val (.long ho4), .second] [])) t → Steps p.tables e below (s₁.setTop (entryFrame m #[(.long q1)] 9)) t := fun t k => k141 t (by
                show Steps p.tables e below (s₁.setTop (mkF m 124 #[.val (.long q1), .second, .val (.int (4 : Int32)), .val (.long (q1 >>> ((4 : Int32) &&& 0x3f).toInt64)), .second, .val (.long (q1 - ((q1 >>> ((4 : Int32) &&& 0x3f).toInt64) <<< ((4 : Int32) &&& 0x3f).toInt64))), .second, .val (.long ((1 : Int64) <<< ((3 : Int32) &&& 0x3f).toInt64)), .second] [])) _
                refine castTop (g' := (mkF m 124 #[.val (.long q1), .second, .val (.int (4 : Int32)), .val (.long qo4), .second, .val (.long ro4), .second, .val (.long ho4), .second] [])) (by rw [ero4, eqo4, eho4]) ?_
                exact k)
              have k143 : ∀ t, Steps p.tables e below (s₁.setTop (mkF m 129 #[.val (.long q1), .second, .val (.int (4 : Int32)), .val (.long qo4), .second, .val (.long ro4), .second, .val (.long ho4), .second] [(.int (lcmpW ro4 ho4))])) t → Steps p.tables e below (s₁.setTop (entryFrame m #[(.long q1)] 9)) t := fun t k => k142 t (by
                show Steps p.tables e below (s₁.setTop (mkF m 124 #[.val (.long q1), .second, .val (.int (4 : Int32)), .val (.long qo4), .second, .val (.long ro4), .second, .val (.long ho4), .second] [])) _
                refine XS.lload X0.here hx rfl (hb hby d2_124) rfl ?_
                show Steps p.tables e below (s₁.setTop (mkF m 126 #[.val (.long q1), .second, .val (.int (4 : Int32)), .val (.long qo4), .second, .val (.long ro4), .second, .val (.long ho4), .second] [(.long ro4)])) _
                refine XS.lload X0.here hx rfl (hb hby d2_126) rfl ?_
                show Steps p.tables e below (s₁.setTop (mkF m 128 #[.val (.long q1), .second, .val (.int (4 : Int32)), .val (.long qo4), .second, .val (.long ro4), .second, .val (.long ho4), .second] [(.long ho4), (.long ro4)])) _
                refine XS.lcmp X0.here hx rfl (hb hby d2_128) rfl ?_
                exact k)
              obtain ⟨j147, hj147⟩ : ∃ z : Int64, z = (if (0 : Int32) < (lcmpW ro4 ho4) then (qo4 + (1 : Int64)) else (if (lcmpW ro4 ho4) = (0 : Int32) then (if (lcmpW (qo4 &&& (1 : Int64)) (1 : Int64)) = (0 : Int32) then (qo4 + (1 : Int64)) else qo4) else qo4)) := ⟨_, rfl⟩
              have k148 : ∀ t, Steps p.tables e below (s₁.setTop (mkF m 152 #[.val (.long q1), .second, .val (.int (4 : Int32)), .val (.long j147), .second, .val (.long ro4), .second, .val (.long ho4), .second] [])) t → Steps p.tables e below (s₁.setTop (entryFrame m #[(.long q1)] 9)) t := fun t k => k143 t (by
                by_cases c144 : (0 : Int32) < (lcmpW ro4 ho4)
                · rw [if_pos c144] at hj147
                  show Steps p.tables e below (s₁.setTop (mkF m 129 #[.val (.long q1), .second, .val (.int (4 : Int32)), .val (.long qo4), .second, .val (.long ro4), .second, .val (.long ho4), .second] [(.int (lcmpW ro4 ho4))])) _
                  refine XS.ifYes X0.here hx rfl (pc0 := 129) (pc' := 148) rfl (hb hby d2_129) rfl ((if0 _ _).trans (tlt c144).2.2.1) (by decide) (by decide) ?_
                  show Steps p.tables e below (s₁.setTop (mkF m 148 #[.val (.long q1), .second, .val (.int (4 : Int32)), .val (.long qo4), .second, .val (.long ro4), .second, .val (.long ho4), .second] [])) _
                  refine XS.lloadN X0.here hx rfl (hb hby d2_148) rfl ?_
                  show Steps p.tables e below (s₁.setTop (mkF m 149 #[.val (.long q1), .second, .val (.int (4 : Int32)), .val (.long qo4), .second, .val (.long ro4), .second, .val (.long ho4), .second] [(.long qo4)])) _
                  refine XS.lconst X0.here hx rfl (hb hby d2_149) ?_
                  show Steps p.tables e below (s₁.setTop (mkF m 150 #[.val (.long q1), .second, .val (.int (4 : Int32)), .val (.long qo4), .second, .val (.long ro4), .second, .val (.long ho4), .second] [(.long (1 : Int64)), (.long qo4)])) _
                  refine XS.ladd X0.here hx rfl (hb hby d2_150) rfl ?_
                  show Steps p.tables e below (s₁.setTop (mkF m 151 #[.val (.long q1), .second, .val (.int (4 : Int32)), .val (.long qo4), .second, .val (.long ro4), .second, .val (.long ho4), .second] [(.long (qo4 + (1 : Int64)))])) _
                  refine XS.lstoreN X0.here hx rfl (hb hby d2_151) rfl (l' := #[.val (.long q1), .second, .val (.int (4 : Int32)), .val (.long (qo4 + (1 : Int64))), .second, .val (.long ro4), .second, .val (.long ho4), .second]) rfl ?_
                  show Steps p.tables e below (s₁.setTop (mkF m 152 #[.val (.long q1), .second, .val (.int (4 : Int32)), .val (.long (qo4 + (1 : Int64))), .second, .val (.long ro4), .second, .val (.long ho4), .second] [])) _
                  exact castTop (by rw [hj147]) k
                · rw [if_neg c144] at hj147
                  show Steps p.tables e below (s₁.setTop (mkF m 129 #[.val (.long q1), .second, .val (.int (4 : Int32)), .val (.long qo4), .second, .val (.long ro4), .second, .val (.long ho4), .second] [(.int (lcmpW ro4 ho4))])) _
                  refine XS.ifNo X0.here hx rfl (hb hby d2_129) rfl ((if0 _ _).trans (flt c144).2.2.1) ?_
                  show Steps p.tables e below (s₁.setTop (mkF m 132 #[.val (.long q1), .second, .val (.int (4 : Int32)), .val (.long qo4), .second, .val (.long ro4), .second, .val (.long ho4), .second] [])) _
                  refine XS.lload X0.here hx rfl (hb hby d2_132) rfl ?_
                  show Steps p.tables e below (s₁.setTop (mkF m 134 #[.val (.long q1), .second, .val (.int (4 : Int32)), .val (.long qo4), .second, .val (.long ro4), .second, .val (.long ho4), .second] [(.long ro4)])) _
                  refine XS.lload X0.here hx rfl (hb hby d2_134) rfl ?_
                  show Steps p.tables e below (s₁.setTop (mkF m 136 #[.val (.long q1), .second, .val (.int (4 : Int32)), .val (.long qo4), .second, .val (.long ro4), .second, .val (.long ho4), .second] [(.long ho4), (.long ro4)])) _
                  refine XS.lcmp X0.here hx rfl (hb hby d2_136) rfl ?_
                  by_cases c145 : (lcmpW ro4 ho4) = (0 : Int32)
                  · rw [if_pos c145] at hj147
                    show Steps p.tables e below (s₁.setTop (mkF m 137 #[.val (.long q1), .second, .val (.int (4 : Int32)), .val (.long qo4), .second, .val (.long ro4), .second, .val (.long ho4), .second] [(.int (lcmpW ro4 ho4))])) _
                    refine XS.ifNo X0.here hx rfl (hb hby d2_137) rfl ((if0 _ _).trans (teq c145).2) ?_
                    show Steps p.tables e below (s₁.setTop (mkF m 140 #[.val (.long q1), .second, .val (.int (4 : Int32)), .val (.long qo4), .second, .val (.long ro4), .second, .val (.long ho4), .second] [])) _
                    refine XS.lloadN X0.here hx rfl (hb hby d2_140) rfl ?_
                    show Steps p.tables e below (s₁.setTop (mkF m 141 #[.val (.long q1), .second, .val (.int (4 : Int32)), .val (.long qo4), .second, .val (.long ro4), .second, .val (.long ho4), .second] [(.long qo4)])) _
                    refine XS.lconst X0.here hx rfl (hb hby d2_141) ?_
                    show Steps p.tables e below (s₁.setTop (mkF m 142 #[.val (.long q1), .second, .val (.int (4 : Int32)), .val (.long qo4), .second, .val (.long ro4), .second, .val (.long ho4), .second] [(.long (1 : Int64)), (.long qo4)])) _
                    refine XS.land X0.here hx rfl (hb hby d2_142) rfl ?_
                    show Steps p.tables e below (s₁.setTop (mkF m 143 #[.val (.long q1), .second, .val (.int (4 : Int32)), .val (.long qo4), .second, .val (.long ro4), .second, .val (.long ho4), .second] [(.long (qo4 &&& (1 : Int64)))])) _
                    refine XS.lconst X0.here hx rfl (hb hby d2_143) ?_
                    show Steps p.tables e below (s₁.setTop (mkF m 144 #[.val (.long q1), .second, .val (.int (4 : Int32)), .val (.long qo4), .second, .val (.long ro4), .second, .val (.long ho4), .second] [(.long (1 : Int64)), (.long (qo4 &&& (1 : Int64)))])) _
                    refine XS.lcmp X0.here hx rfl (hb hby d2_144) rfl ?_
                    by_cases c146 : (lcmpW (qo4 &&& (1 : Int64)) (1 : Int64)) = (0 : Int32)
                    · rw [if_pos c146] at hj147
                      show Steps p.tables e below (s₁.setTop (mkF m 145 #[.val (.long q1), .second, .val (.int (4 : Int32)), .val (.long qo4), .second, .val (.long ro4), .second, .val (.long ho4), .second] [(.int (lcmpW (qo4 &&& (1 : Int64)) (1 : Int64)))])) _
                      refine XS.ifNo X0.here hx rfl (hb hby d2_145) rfl ((if0 _ _).trans (teq c146).2) ?_
                      show Steps p.tables e below (s₁.setTop (mkF m 148 #[.val (.long q1), .second, .val (.int (4 : Int32)), .val (.long qo4), .second, .val (.long ro4), .second, .val (.long ho4), .second] [])) _
                      refine XS.lloadN X0.here hx rfl (hb hby d2_148) rfl ?_
                      show Steps p.tables e below (s₁.setTop (mkF m 149 #[.val (.long q1), .second, .val (.int (4 : Int32)), .val (.long qo4), .second, .val (.long ro4), .second, .val (.long ho4), .second] [(.long qo4)])) _
                      refine XS.lconst X0.here hx rfl (hb hby d2_149) ?_
                      show Steps p.tables e below (s₁.setTop (mkF m 150 #[.val (.long q1), .second, .val (.int (4 : Int32)), .val (.long qo4), .second, .val (.long ro4), .second, .val (.long ho4), .second] [(.long (1 : Int64)), (.long qo4)])) _
                      refine XS.ladd X0.here hx rfl (hb hby d2_150) rfl ?_
                      show Steps p.tables e below (s₁.setTop (mkF m 151 #[.val (.long q1), .second, .val (.int (4 : Int32)), .val (.long qo4), .second, .val (.long ro4), .second, .val (.long ho4), .second] [(.long (qo4 + (1 : Int64)))])) _
                      refine XS.lstoreN X0.here hx rfl (hb hby d2_151) rfl (l' := #[.val (.long q1), .second, .val (.int (4 : Int32)), .val (.long (qo4 + (1 : Int64))), .second, .val (.long ro4), .second, .val (.long ho4), .second]) rfl ?_
                      show Steps p.tables e below (s₁.setTop (mkF m 152 #[.val (.long q1), .second, .val (.int (4 : Int32)), .val (.long (qo4 + (1 : Int64))), .second, .val (.long ro4), .second, .val (.long ho4), .second] [])) _
                      exact castTop (by rw [hj147]) k
                    · rw [if_neg c146] at hj147
                      show Steps p.tables e below (s₁.setTop (mkF m 145 #[.val (.long q1), .second, .val (.int (4 : Int32)), .val (.long qo4), .second, .val (.long ro4), .second, .val (.long ho4), .second] [(.int (lcmpW (qo4 &&& (1 : Int64)) (1 : Int64)))])) _
                      refine XS.ifYes X0.here hx rfl (pc0 := 145) (pc' := 152) rfl (hb hby d2_145) rfl ((if0 _ _).trans (feq c146).2) (by decide) (by decide) ?_
                      show Steps p.tables e below (s₁.setTop (mkF m 152 #[.val (.long q1), .second, .val (.int (4 : Int32)), .val (.long qo4), .second, .val (.long ro4), .second, .val (.long ho4), .second] [])) _
                      exact castTop (by rw [hj147]) k
                  · rw [if_neg c145] at hj147
                    show Steps p.tables e below (s₁.setTop (mkF m 137 #[.val (.long q1), .second, .val (.int (4 : Int32)), .val (.long qo4), .second, .val (.long ro4), .second, .val (.long ho4), .second] [(.int (lcmpW ro4 ho4))])) _
                    refine XS.ifYes X0.here hx rfl (pc0 := 137) (pc' := 152) rfl (hb hby d2_137) rfl ((if0 _ _).trans (feq c145).2) (by decide) (by decide) ?_
                    show Steps p.tables e below (s₁.setTop (mkF m 152 #[.val (.long q1), .second, .val (.int (4 : Int32)), .val (.long qo4), .second, .val (.long ro4), .second, .val (.long ho4), .second] [])) _
                    exact castTop (by rw [hj147]) k)
              have hres := own_mag4 hbq c1 t8 t7 t6 t5 t4 eqo4 ero4 eho4 hj147
              have k149 : ∀ t, Steps p.tables e below (s₁.setTop (mkF m 155 #[.val (.long q1), .second, .val (.int (4 : Int32)), .val (.long j147), .second, .val (.long ro4), .second, .val (.long ho4), .second] [(.long (j147 <<< ((4 : Int32) &&& 0x3f).toInt64))])) t → Steps p.tables e below (s₁.setTop (entryFrame m #[(.long q1)] 9)) t := fun t k => k148 t (by
                show Steps p.tables e below (s₁.setTop (mkF m 152 #[.val (.long q1), .second, .val (.int (4 : Int32)), .val (.long j147), .second, .val (.long ro4), .second, .val (.long ho4), .second] [])) _
                refine XS.lloadN X0.here hx rfl (hb hby d2_152) rfl ?_
                show Steps p.tables e below (s₁.setTop (mkF m 153 #[.val (.long q1), .second, .val (.int (4 : Int32)), .val (.long j147), .second, .val (.long ro4), .second, .val (.long ho4), .second] [(.long j147)])) _
                refine XS.iloadN X0.here hx rfl (hb hby d2_153) rfl ?_
                show Steps p.tables e below (s₁.setTop (mkF m 154 #[.val (.long q1), .second, .val (.int (4 : Int32)), .val (.long j147), .second, .val (.long ro4), .second, .val (.long ho4), .second] [(.int (4 : Int32)), (.long j147)])) _
                refine XS.lshl X0.here hx rfl (hb hby d2_154) rfl ?_
                exact k)
              obtain ⟨fs, hr, hrun, hended, hW, hsame⟩ := X0.leave (v := some (.long (j147 <<< ((4 : Int32) &&& 0x3f).toInt64))) (fun h => by rw [Bd.returns] at h; cases h)
              refine ⟨_, _, k149 _ (retOut X0 hx (t := .long) Bd.returns rfl (Or.inr (Or.inl ⟨rfl, rfl, _, rfl⟩)) (hb hby d2_155) hr), hrun, hended, _, _, rfl, ?_, ⟨_, rfl⟩, hW, hsame.mono (by decide) (by decide)⟩
              show Q_rm2 Z q1 h0 n0 _ s₁.heap _
              rw [e0]
              exact ⟨_, rfl, N0, rfl, hres⟩
          · have k150 : ∀ t, Steps p.tables e below (s₁.setTop (mkF m 60 #[.val (.long q1), .second, .unset, .unset, .unset, .unset, .unset, .unset, .unset] [])) t → Steps p.tables e below (s₁.setTop (entryFrame m #[(.long q1)] 9)) t := fun t k => k106 t (by
              show Steps p.tables e below (s₁.setTop (mkF m 57 #[.val (.long q1), .second, .unset, .unset, .unset, .unset, .unset, .unset, .unset] [(.int (lcmpW q1 (268435456 : Int64)))])) _
              refine XS.ifNo X0.here hx rfl (hb hby d2_57) rfl ((if0 _ _).trans (flt (fun q => t5 (own_lt64' ((lw_lt _ _).mp q) (by decide)))).1) ?_
              exact k)
            have k151 : ∀ t, Steps p.tables e below (s₁.setTop (mkF m 124 #[.val (.long q1), .second, .val (.int (5 : Int32)), .val (.long (q1 >>> ((5 : Int32) &&& 0x3f).toInt64)), .second, .val (.long (q1 - ((q1 >>> ((5 : Int32) &&& 0x3f).toInt64) <<< ((5 : Int32) &&& 0x3f).toInt64))), .second, .val (.long ((1 : Int64) <<< ((4 : Int32) &&& 0x3f).toInt64)), .second] [])) t → Steps p.tables e below (s₁.setTop (entryFrame m #[(.long q1)] 9)) t := fun t k => k150 t (by
              show Steps p.tables e below (s₁.setTop (mkF m 60 #[.val (.long q1), .second, .unset, .unset, .unset, .unset, .unset, .unset, .unset] [])) _
              refine XS.iconst X0.here hx rfl (hb hby d2_60) ?_
              show Steps p.tables e below (s₁.setTop (mkF m 61 #[.val (.long q1), .second, .unset, .unset, .unset, .unset, .unset, .unset, .unset] [(.int (5 : Int32))])) _
              refine XS.istoreN X0.here hx rfl (hb hby d2_61) rfl (l' := #[.val (.long q1), .second, .val (.int (5 : Int32)), .unset, .unset, .unset, .unset, .unset, .unset]) rfl ?_
              show Steps p.tables e below (s₁.setTop (mkF m 62 #[.val (.long q1), .second, .val (.int (5 : Int32)), .unset, .unset, .unset, .unset, .unset, .unset] [])) _
              refine XS.goto X0.here hx rfl (pc0 := 62) (pc' := 106) rfl (hb hby d2_62) (by decide) (by decide) ?_
              show Steps p.tables e below (s₁.setTop (mkF m 106 #[.val (.long q1), .second, .val (.int (5 : Int32)), .unset, .unset, .unset, .unset, .unset, .unset] [])) _
              refine XS.lloadN X0.here hx rfl (hb hby d2_106) rfl ?_
              show Steps p.tables e below (s₁.setTop (mkF m 107 #[.val (.long q1), .second, .val (.int (5 : Int32)), .unset, .unset, .unset, .unset, .unset, .unset] [(.long q1)])) _
              refine XS.iloadN X0.here hx rfl (hb hby d2_107) rfl ?_
              show Steps p.tables e below (s₁.setTop (mkF m 108 #[.val (.long q1), .second, .val (.int (5 : Int32)), .unset, .unset, .unset, .unset, .unset, .unset] [(.int (5 : Int32)), (.long q1)])) _
              refine XS.lshr X0.here hx rfl (hb hby d2_108) rfl ?_
              show Steps p.tables e below (s₁.setTop (mkF m 109 #[.val (.long q1), .second, .val (.int (5 : Int32)), .unset, .unset, .unset, .unset, .unset, .unset] [(.long (q1 >>> ((5 : Int32) &&& 0x3f).toInt64))])) _
              refine XS.lstoreN X0.here hx rfl (hb hby d2_109) rfl (l' := #[.val (.long q1), .second, .val (.int (5 : Int32)), .val (.long (q1 >>> ((5 : Int32) &&& 0x3f).toInt64)), .second, .unset, .unset, .unset, .unset]) rfl ?_
              show Steps p.tables e below (s₁.setTop (mkF m 110 #[.val (.long q1), .second, .val (.int (5 : Int32)), .val (.long (q1 >>> ((5 : Int32) &&& 0x3f).toInt64)), .second, .unset, .unset, .unset, .unset] [])) _
              refine XS.lloadN X0.here hx rfl (hb hby d2_110) rfl ?_
              show Steps p.tables e below (s₁.setTop (mkF m 111 #[.val (.long q1), .second, .val (.int (5 : Int32)), .val (.long (q1 >>> ((5 : Int32) &&& 0x3f).toInt64)), .second, .unset, .unset, .unset, .unset] [(.long q1)])) _
              refine XS.lloadN X0.here hx rfl (hb hby d2_111) rfl ?_
              show Steps p.tables e below (s₁.setTop (mkF m 112 #[.val (.long q1), .second, .val (.int (5 : Int32)), .val (.long (q1 >>> ((5 : Int32) &&& 0x3f).toInt64)), .second, .unset, .unset, .unset, .unset] [(.long (q1 >>> ((5 : Int32) &&& 0x3f).toInt64)), (.long q1)])) _
              refine XS.iloadN X0.here hx rfl (hb hby d2_112) rfl ?_
              show Steps p.tables e below (s₁.setTop (mkF m 113 #[.val (.long q1), .second, .val (.int (5 : Int32)), .val (.long (q1 >>> ((5 : Int32) &&& 0x3f).toInt64)), .second, .unset, .unset, .unset, .unset] [(.int (5 : Int32)), (.long (q1 >>> ((5 : Int32) &&& 0x3f).toInt64)), (.long q1)])) _
              refine XS.lshl X0.here hx rfl (hb hby d2_113) rfl ?_
              show Steps p.tables e below (s₁.setTop (mkF m 114 #[.val (.long q1), .second, .val (.int (5 : Int32)), .val (.long (q1 >>> ((5 : Int32) &&& 0x3f).toInt64)), .second, .unset, .unset, .unset, .unset] [(.long ((q1 >>> ((5 : Int32) &&& 0x3f).toInt64) <<< ((5 : Int32) &&& 0x3f).toInt64)), (.long q1)])) _
              refine XS.lsub X0.here hx rfl (hb hby d2_114) rfl ?_
              show Steps p.tables e below (s₁.setTop (mkF m 115 #[.val (.long q1), .second, .val (.int (5 : Int32)), .val (.long (q1 >>> ((5 : Int32) &&& 0x3f).toInt64)), .second, .unset, .unset, .unset, .unset] [(.long (q1 - ((q1 >>> ((5 : Int32) &&& 0x3f).toInt64) <<< ((5 : Int32) &&& 0x3f).toInt64)))])) _
              refine XS.lstore X0.here hx rfl (hb hby d2_115) rfl (l' := #[.val (.long q1), .second, .val (.int (5 : Int32)), .val (.long (q1 >>> ((5 : Int32) &&& 0x3f).toInt64)), .second, .val (.long (q1 - ((q1 >>> ((5 : Int32) &&& 0x3f).toInt64) <<< ((5 : Int32) &&& 0x3f).toInt64))), .second, .unset, .unset]) rfl ?_
              show Steps p.tables e below (s₁.setTop (mkF m 117 #[.val (.long q1), .second, .val (.int (5 : Int32)), .val (.long (q1 >>> ((5 : Int32) &&& 0x3f).toInt64)), .second, .val (.long (q1 - ((q1 >>> ((5 : Int32) &&& 0x3f).toInt64) <<< ((5 : Int32) &&& 0x3f).toInt64))), .second, .unset, .unset] [])) _
              refine XS.lconst X0.here hx rfl (hb hby d2_117) ?_
              show Steps p.tables e below (s₁.setTop (mkF m 118 #[.val (.long q1), .second, .val (.int (5 : Int32)), .val (.long (q1 >>> ((5 : Int32) &&& 0x3f).toInt64)), .second, .val (.long (q1 - ((q1 >>> ((5 : Int32) &&& 0x3f).toInt64) <<< ((5 : Int32) &&& 0x3f).toInt64))), .second, .unset, .unset] [(.long (1 : Int64))])) _
              refine XS.iloadN X0.here hx rfl (hb hby d2_118) rfl ?_
              show Steps p.tables e below (s₁.setTop (mkF m 119 #[.val (.long q1), .second, .val (.int (5 : Int32)), .val (.long (q1 >>> ((5 : Int32) &&& 0x3f).toInt64)), .second, .val (.long (q1 - ((q1 >>> ((5 : Int32) &&& 0x3f).toInt64) <<< ((5 : Int32) &&& 0x3f).toInt64))), .second, .unset, .unset] [(.int (5 : Int32)), (.long (1 : Int64))])) _
              refine XS.iconst X0.here hx rfl (hb hby d2_119) ?_
              show Steps p.tables e below (s₁.setTop (mkF m 120 #[.val (.long q1), .second, .val (.int (5 : Int32)), .val (.long (q1 >>> ((5 : Int32) &&& 0x3f).toInt64)), .second, .val (.long (q1 - ((q1 >>> ((5 : Int32) &&& 0x3f).toInt64) <<< ((5 : Int32) &&& 0x3f).toInt64))), .second, .unset, .unset] [(.int (1 : Int32)), (.int (5 : Int32)), (.long (1 : Int64))])) _
              refine XS.isub X0.here hx rfl (hb hby d2_120) rfl ?_
              show Steps p.tables e below (s₁.setTop (mkF m 121 #[.val (.long q1), .second, .val (.int (5 : Int32)), .val (.long (q1 >>> ((5 : Int32) &&& 0x3f).toInt64)), .second, .val (.long (q1 - ((q1 >>> ((5 : Int32) &&& 0x3f).toInt64) <<< ((5 : Int32) &&& 0x3f).toInt64))), .second, .unset, .unset] [(.int ((5 : Int32) - (1 : Int32))), (.long (1 : Int64))])) _
              refine castTop (g' := (mkF m 121 #[.val (.long q1), .second, .val (.int (5 : Int32)), .val (.long (q1 >>> ((5 : Int32) &&& 0x3f).toInt64)), .second, .val (.long (q1 - ((q1 >>> ((5 : Int32) &&& 0x3f).toInt64) <<< ((5 : Int32) &&& 0x3f).toInt64))), .second, .unset, .unset] [(.int (4 : Int32)), (.long (1 : Int64))])) (by rw [show ((5 : Int32) - (1 : Int32)) = (4 : Int32) by decide]) ?_
              show Steps p.tables e below (s₁.setTop (mkF m 121 #[.val (.long q1), .second, .val (.int (5 : Int32)), .val (.long (q1 >>> ((5 : Int32) &&& 0x3f).toInt64)), .second, .val (.long (q1 - ((q1 >>> ((5 : Int32) &&& 0x3f).toInt64) <<< ((5 : Int32) &&& 0x3f).toInt64))), .second, .unset, .unset] [(.int (4 : Int32)), (.long (1 : Int64))])) _
              refine XS.lshl X0.here hx rfl (hb hby d2_121) rfl ?_
              show Steps p.tables e below (s₁.setTop (mkF m 122 #[.val (.long q1), .second, .val (.int (5 : Int32)), .val (.long (q1 >>> ((5 : Int32) &&& 0x3f).toInt64)), .second, .val (.long (q1 - ((q1 >>> ((5 : Int32) &&& 0x3f).toInt64) <<< ((5 : Int32) &&& 0x3f).toInt64))), .second, .unset, .unset] [(.long ((1 : Int64) <<< ((4 : Int32) &&& 0x3f).toInt64))])) _
              refine XS.lstore X0.here hx rfl (hb hby d2_122) rfl (l' := #[.val (.long q1), .second, .val (.int (5 : Int32)), .val (.long (q1 >>> ((5 : Int32) &&& 0x3f).toInt64)), .second, .val (.long (q1 - ((q1 >>> ((5 : Int32) &&& 0x3f).toInt64) <<< ((5 : Int32) &&& 0x3f).toInt64))), .second, .val (.long ((1 : Int64) <<< ((4 : Int32) &&& 0x3f).toInt64)), .second]) rfl ?_
              exact k)
            obtain ⟨qo5, eqo5⟩ : ∃ z : Int64, z = (q1 >>> ((5 : Int32) &&& 0x3f).toInt64) := ⟨_, rfl⟩
            obtain ⟨ro5, ero5⟩ : ∃ z : Int64, z = (q1 - ((q1 >>> ((5 : Int32) &&& 0x3f).toInt64) <<< ((5 : Int32) &&& 0x3f).toInt64)) := ⟨_, rfl⟩
            obtain ⟨ho5, eho5⟩ : ∃ z : Int64, z = ((1 : Int64) <<< ((4 : Int32) &&& 0x3f).toInt64) := ⟨_, rfl⟩
            have k152 : ∀ t, Steps p.tables e below (s₁.setTop (mkF m 124 #[.val (.long q1), .second, .val (.int (5 : Int32)), .val (.long qo5), .second, .val (.long ro5), .second, .val (.long ho5), .second] [])) t → Steps p.tables e below (s₁.setTop (entryFrame m #[(.long q1)] 9)) t := fun t k => k151 t (by
              show Steps p.tables e below (s₁.setTop (mkF m 124 #[.val (.long q1), .second, .val (.int (5 : Int32)), .val (.long (q1 >>> ((5 : Int32) &&& 0x3f).toInt64)), .second, .val (.long (q1 - ((q1 >>> ((5 : Int32) &&& 0x3f).toInt64) <<< ((5 : Int32) &&& 0x3f).toInt64))), .second, .val (.long ((1 : Int64) <<< ((4 : Int32) &&& 0x3f).toInt64)), .second] [])) _
              refine castTop (g' := (mkF m 124 #[.val (.long q1), .second, .val (.int (5 : Int32)), .val (.long qo5), .second, .val (.long ro5), .second, .val (.long ho5), .second] [])) (by rw [ero5, eqo5, eho5]) ?_
              exact k)
            have k153 : ∀ t, Steps p.tables e below (s₁.setTop (mkF m 129 #[.val (.long q1), .second, .val (.int (5 : Int32)), .val (.long qo5), .second, .val (.long ro5), .second, .val (.long ho5), .second] [(.int (lcmpW ro5 ho5))])) t → Steps p.tables e below (s₁.setTop (entryFrame m #[(.long q1)] 9)) t := fun t k => k152 t (by
              show Steps p.tables e below (s₁.setTop (mkF m 124 #[.val (.long q1), .second, .val (.int (5 : Int32)), .val (.long qo5), .second, .val (.long ro5), .second, .val (.long ho5), .second] [])) _
              refine XS.lload X0.here hx rfl (hb hby d2_124) rfl ?_
              show Steps p.tables e below (s₁.setTop (mkF m 126 #[.val (.long q1), .second, .val (.int (5 : Int32)), .val (.long qo5), .second, .val (.long ro5), .second, .val (.long ho5), .second] [(.long ro5)])) _
              refine XS.lload X0.here hx rfl (hb hby d2_126) rfl ?_
              show Steps p.tables e below (s₁.setTop (mkF m 128 #[.val (.long q1), .second, .val (.int (5 : Int32)), .val (.long qo5), .second, .val (.long ro5), .second, .val (.long ho5), .second] [(.long ho5), (.long ro5)])) _
              refine XS.lcmp X0.here hx rfl (hb hby d2_128) rfl ?_
              exact k)
            obtain ⟨j157, hj157⟩ : ∃ z : Int64, z = (if (0 : Int32) < (lcmpW ro5 ho5) then (qo5 + (1 : Int64)) else (if (lcmpW ro5 ho5) = (0 : Int32) then (if (lcmpW (qo5 &&& (1 : Int64)) (1 : Int64)) = (0 : Int32) then (qo5 + (1 : Int64)) else qo5) else qo5)) := ⟨_, rfl⟩
            have k158 : ∀ t, Steps p.tables e below (s₁.setTop (mkF m 152 #[.val (.long q1), .second, .val (.int (5 : Int32)), .val (.long j157), .second, .val (.long ro5), .second, .val (.long ho5), .second] [])) t → Steps p.tables e below (s₁.setTop (entryFrame m #[(.long q1)] 9)) t := fun t k => k153 t (by
              by_cases c154 : (0 : Int32) < (lcmpW ro5 ho5)
              · rw [if_pos c154] at hj157
                show Steps p.tables e below (s₁.setTop (mkF m 129 #[.val (.long q1), .second, .val (.int (5 : Int32)), .val (.long qo5), .second, .val (.long ro5), .second, .val (.long ho5), .second] [(.int (lcmpW ro5 ho5))])) _
                refine XS.ifYes X0.here hx rfl (pc0 := 129) (pc' := 148) rfl (hb hby d2_129) rfl ((if0 _ _).trans (tlt c154).2.2.1) (by decide) (by decide) ?_
                show Steps p.tables e below (s₁.setTop (mkF m 148 #[.val (.long q1), .second, .val (.int (5 : Int32)), .val (.long qo5), .second, .val (.long ro5), .second, .val (.long ho5), .second] [])) _
                refine XS.lloadN X0.here hx rfl (hb hby d2_148) rfl ?_
                show Steps p.tables e below (s₁.setTop (mkF m 149 #[.val (.long q1), .second, .val (.int (5 : Int32)), .val (.long qo5), .second, .val (.long ro5), .second, .val (.long ho5), .second] [(.long qo5)])) _
                refine XS.lconst X0.here hx rfl (hb hby d2_149) ?_
                show Steps p.tables e below (s₁.setTop (mkF m 150 #[.val (.long q1), .second, .val (.int (5 : Int32)), .val (.long qo5), .second, .val (.long ro5), .second, .val (.long ho5), .second] [(.long (1 : Int64)), (.long qo5)])) _
                refine XS.ladd X0.here hx rfl (hb hby d2_150) rfl ?_
                show Steps p.tables e below (s₁.setTop (mkF m 151 #[.val (.long q1), .second, .val (.int (5 : Int32)), .val (.long qo5), .second, .val (.long ro5), .second, .val (.long ho5), .second] [(.long (qo5 + (1 : Int64)))])) _
                refine XS.lstoreN X0.here hx rfl (hb hby d2_151) rfl (l' := #[.val (.long q1), .second, .val (.int (5 : Int32)), .val (.long (qo5 + (1 : Int64))), .second, .val (.long ro5), .second, .val (.long ho5), .second]) rfl ?_
                show Steps p.tables e below (s₁.setTop (mkF m 152 #[.val (.long q1), .second, .val (.int (5 : Int32)), .val (.long (qo5 + (1 : Int64))), .second, .val (.long ro5), .second, .val (.long ho5), .second] [])) _
                exact castTop (by rw [hj157]) k
              · rw [if_neg c154] at hj157
                show Steps p.tables e below (s₁.setTop (mkF m 129 #[.val (.long q1), .second, .val (.int (5 : Int32)), .val (.long qo5), .second, .val (.long ro5), .second, .val (.long ho5), .second] [(.int (lcmpW ro5 ho5))])) _
                refine XS.ifNo X0.here hx rfl (hb hby d2_129) rfl ((if0 _ _).trans (flt c154).2.2.1) ?_
                show Steps p.tables e below (s₁.setTop (mkF m 132 #[.val (.long q1), .second, .val (.int (5 : Int32)), .val (.long qo5), .second, .val (.long ro5), .second, .val (.long ho5), .second] [])) _
                refine XS.lload X0.here hx rfl (hb hby d2_132) rfl ?_
                show Steps p.tables e below (s₁.setTop (mkF m 134 #[.val (.long q1), .second, .val (.int (5 : Int32)), .val (.long qo5), .second, .val (.long ro5), .second, .val (.long ho5), .second] [(.long ro5)])) _
                refine XS.lload X0.here hx rfl (hb hby d2_134) rfl ?_
                show Steps p.tables e below (s₁.setTop (mkF m 136 #[.val (.long q1), .second, .val (.int (5 : Int32)), .val (.long qo5), .second, .val (.long ro5), .second, .val (.long ho5), .second] [(.long ho5), (.long ro5)])) _
                refine XS.lcmp X0.here hx rfl (hb hby d2_136) rfl ?_
                by_cases c155 : (lcmpW ro5 ho5) = (0 : Int32)
                · rw [if_pos c155] at hj157
                  show Steps p.tables e below (s₁.setTop (mkF m 137 #[.val (.long q1), .second, .val (.int (5 : Int32)), .val (.long qo5), .second, .val (.long ro5), .second, .val (.long ho5), .second] [(.int (lcmpW ro5 ho5))])) _
                  refine XS.ifNo X0.here hx rfl (hb hby d2_137) rfl ((if0 _ _).trans (teq c155).2) ?_
                  show Steps p.tables e below (s₁.setTop (mkF m 140 #[.val (.long q1), .second, .val (.int (5 : Int32)), .val (.long qo5), .second, .val (.long ro5), .second, .val (.long ho5), .second] [])) _
                  refine XS.lloadN X0.here hx rfl (hb hby d2_140) rfl ?_
                  show Steps p.tables e below (s₁.setTop (mkF m 141 #[.val (.long q1), .second, .val (.int (5 : Int32)), .val (.long qo5), .second, .val (.long ro5), .second, .val (.long ho5), .second] [(.long qo5)])) _
                  refine XS.lconst X0.here hx rfl (hb hby d2_141) ?_
                  show Steps p.tables e below (s₁.setTop (mkF m 142 #[.val (.long q1), .second, .val (.int (5 : Int32)), .val (.long qo5), .second, .val (.long ro5), .second, .val (.long ho5), .second] [(.long (1 : Int64)), (.long qo5)])) _
                  refine XS.land X0.here hx rfl (hb hby d2_142) rfl ?_
                  show Steps p.tables e below (s₁.setTop (mkF m 143 #[.val (.long q1), .second, .val (.int (5 : Int32)), .val (.long qo5), .second, .val (.long ro5), .second, .val (.long ho5), .second] [(.long (qo5 &&& (1 : Int64)))])) _
                  refine XS.lconst X0.here hx rfl (hb hby d2_143) ?_
                  show Steps p.tables e below (s₁.setTop (mkF m 144 #[.val (.long q1), .second, .val (.int (5 : Int32)), .val (.long qo5), .second, .val (.long ro5), .second, .val (.long ho5), .second] [(.long (1 : Int64)), (.long (qo5 &&& (1 : Int64)))])) _
                  refine XS.lcmp X0.here hx rfl (hb hby d2_144) rfl ?_
                  by_cases c156 : (lcmpW (qo5 &&& (1 : Int64)) (1 : Int64)) = (0 : Int32)
                  · rw [if_pos c156] at hj157
                    show Steps p.tables e below (s₁.setTop (mkF m 145 #[.val (.long q1), .second, .val (.int (5 : Int32)), .val (.long qo5), .second, .val (.long ro5), .second, .val (.long ho5), .second] [(.int (lcmpW (qo5 &&& (1 : Int64)) (1 : Int64)))])) _
                    refine XS.ifNo X0.here hx rfl (hb hby d2_145) rfl ((if0 _ _).trans (teq c156).2) ?_
                    show Steps p.tables e below (s₁.setTop (mkF m 148 #[.val (.long q1), .second, .val (.int (5 : Int32)), .val (.long qo5), .second, .val (.long ro5), .second, .val (.long ho5), .second] [])) _
                    refine XS.lloadN X0.here hx rfl (hb hby d2_148) rfl ?_
                    show Steps p.tables e below (s₁.setTop (mkF m 149 #[.val (.long q1), .second, .val (.int (5 : Int32)), .val (.long qo5), .second, .val (.long ro5), .second, .val (.long ho5), .second] [(.long qo5)])) _
                    refine XS.lconst X0.here hx rfl (hb hby d2_149) ?_
                    show Steps p.tables e below (s₁.setTop (mkF m 150 #[.val (.long q1), .second, .val (.int (5 : Int32)), .val (.long qo5), .second, .val (.long ro5), .second, .val (.long ho5), .second] [(.long (1 : Int64)), (.long qo5)])) _
                    refine XS.ladd X0.here hx rfl (hb hby d2_150) rfl ?_
                    show Steps p.tables e below (s₁.setTop (mkF m 151 #[.val (.long q1), .second, .val (.int (5 : Int32)), .val (.long qo5), .second, .val (.long ro5), .second, .val (.long ho5), .second] [(.long (qo5 + (1 : Int64)))])) _
                    refine XS.lstoreN X0.here hx rfl (hb hby d2_151) rfl (l' := #[.val (.long q1), .second, .val (.int (5 : Int32)), .val (.long (qo5 + (1 : Int64))), .second, .val (.long ro5), .second, .val (.long ho5), .second]) rfl ?_
                    show Steps p.tables e below (s₁.setTop (mkF m 152 #[.val (.long q1), .second, .val (.int (5 : Int32)), .val (.long (qo5 + (1 : Int64))), .second, .val (.long ro5), .second, .val (.long ho5), .second] [])) _
                    exact castTop (by rw [hj157]) k
                  · rw [if_neg c156] at hj157
                    show Steps p.tables e below (s₁.setTop (mkF m 145 #[.val (.long q1), .second, .val (.int (5 : Int32)), .val (.long qo5), .second, .val (.long ro5), .second, .val (.long ho5), .second] [(.int (lcmpW (qo5 &&& (1 : Int64)) (1 : Int64)))])) _
                    refine XS.ifYes X0.here hx rfl (pc0 := 145) (pc' := 152) rfl (hb hby d2_145) rfl ((if0 _ _).trans (feq c156).2) (by decide) (by decide) ?_
                    show Steps p.tables e below (s₁.setTop (mkF m 152 #[.val (.long q1), .second, .val (.int (5 : Int32)), .val (.long qo5), .second, .val (.long ro5), .second, .val (.long ho5), .second] [])) _
                    exact castTop (by rw [hj157]) k
                · rw [if_neg c155] at hj157
                  show Steps p.tables e below (s₁.setTop (mkF m 137 #[.val (.long q1), .second, .val (.int (5 : Int32)), .val (.long qo5), .second, .val (.long ro5), .second, .val (.long ho5), .second] [(.int (lcmpW ro5 ho5))])) _
                  refine XS.ifYes X0.here hx rfl (pc0 := 137) (pc' := 152) rfl (hb hby d2_137) rfl ((if0 _ _).trans (feq c155).2) (by decide) (by decide) ?_
                  show Steps p.tables e below (s₁.setTop (mkF m 152 #[.val (.long q1), .second, .val (.int (5 : Int32)), .val (.long qo5), .second, .val (.long ro5), .second, .val (.long ho5), .second] [])) _
                  exact castTop (by rw [hj157]) k)
            have hres := own_mag5 hbq c1 t8 t7 t6 t5 eqo5 ero5 eho5 hj157
            have k159 : ∀ t, Steps p.tables e below (s₁.setTop (mkF m 155 #[.val (.long q1), .second, .val (.int (5 : Int32)), .val (.long j157), .second, .val (.long ro5), .second, .val (.long ho5), .second] [(.long (j157 <<< ((5 : Int32) &&& 0x3f).toInt64))])) t → Steps p.tables e below (s₁.setTop (entryFrame m #[(.long q1)] 9)) t := fun t k => k158 t (by
              show Steps p.tables e below (s₁.setTop (mkF m 152 #[.val (.long q1), .second, .val (.int (5 : Int32)), .val (.long j157), .second, .val (.long ro5), .second, .val (.long ho5), .second] [])) _
              refine XS.lloadN X0.here hx rfl (hb hby d2_152) rfl ?_
              show Steps p.tables e below (s₁.setTop (mkF m 153 #[.val (.long q1), .second, .val (.int (5 : Int32)), .val (.long j157), .second, .val (.long ro5), .second, .val (.long ho5), .second] [(.long j157)])) _
              refine XS.iloadN X0.here hx rfl (hb hby d2_153) rfl ?_
              show Steps p.tables e below (s₁.setTop (mkF m 154 #[.val (.long q1), .second, .val (.int (5 : Int32)), .val (.long j157), .second, .val (.long ro5), .second, .val (.long ho5), .second] [(.int (5 : Int32)), (.long j157)])) _
              refine XS.lshl X0.here hx rfl (hb hby d2_154) rfl ?_
              exact k)
            obtain ⟨fs, hr, hrun, hended, hW, hsame⟩ := X0.leave (v := some (.long (j157 <<< ((5 : Int32) &&& 0x3f).toInt64))) (fun h => by rw [Bd.returns] at h; cases h)
            refine ⟨_, _, k159 _ (retOut X0 hx (t := .long) Bd.returns rfl (Or.inr (Or.inl ⟨rfl, rfl, _, rfl⟩)) (hb hby d2_155) hr), hrun, hended, _, _, rfl, ?_, ⟨_, rfl⟩, hW, hsame.mono (by decide) (by decide)⟩
            show Q_rm2 Z q1 h0 n0 _ s₁.heap _
            rw [e0]
            exact ⟨_, rfl, N0, rfl, hres⟩
        · have k160 : ∀ t, Steps p.tables e below (s₁.setTop (mkF m 46 #[.val (.long q1), .second, .unset, .unset, .unset, .unset, .unset, .unset, .unset] [])) t → Steps p.tables e below (s₁.setTop (entryFrame m #[(.long q1)] 9)) t := fun t k => k105 t (by
            show Steps p.tables e below (s₁.setTop (mkF m 43 #[.val (.long q1), .second, .unset, .unset, .unset, .unset, .unset, .unset, .unset] [(.int (lcmpW q1 (536870912 : Int64)))])) _
            refine XS.ifNo X0.here hx rfl (hb hby d2_43) rfl ((if0 _ _).trans (flt (fun q => t6 (own_lt64' ((lw_lt _ _).mp q) (by decide)))).1) ?_
            exact k)
          have k161 : ∀ t, Steps p.tables e below (s₁.setTop (mkF m 124 #[.val (.long q1), .second, .val (.int (6 : Int32)), .val (.long (q1 >>> ((6 : Int32) &&& 0x3f).toInt64)), .second, .val (.long (q1 - ((q1 >>> ((6 : Int32) &&& 0x3f).toInt64) <<< ((6 : Int32) &&& 0x3f).toInt64))), .second, .val (.long ((1 : Int64) <<< ((5 : Int32) &&& 0x3f).toInt64)), .second] [])) t → Steps p.tables e below (s₁.setTop (entryFrame m #[(.long q1)] 9)) t := fun t k => k160 t (by
            show Steps p.tables e below (s₁.setTop (mkF m 46 #[.val (.long q1), .second, .unset, .unset, .unset, .unset, .unset, .unset, .unset] [])) _
            refine XS.bipush X0.here hx rfl (hb hby d2_46) ?_
            show Steps p.tables e below (s₁.setTop (mkF m 48 #[.val (.long q1), .second, .unset, .unset, .unset, .unset, .unset, .unset, .unset] [(.int (6 : Int32))])) _
            refine XS.istoreN X0.here hx rfl (hb hby d2_48) rfl (l' := #[.val (.long q1), .second, .val (.int (6 : Int32)), .unset, .unset, .unset, .unset, .unset, .unset]) rfl ?_
            show Steps p.tables e below (s₁.setTop (mkF m 49 #[.val (.long q1), .second, .val (.int (6 : Int32)), .unset, .unset, .unset, .unset, .unset, .unset] [])) _
            refine XS.goto X0.here hx rfl (pc0 := 49) (pc' := 106) rfl (hb hby d2_49) (by decide) (by decide) ?_
            show Steps p.tables e below (s₁.setTop (mkF m 106 #[.val (.long q1), .second, .val (.int (6 : Int32)), .unset, .unset, .unset, .unset, .unset, .unset] [])) _
            refine XS.lloadN X0.here hx rfl (hb hby d2_106) rfl ?_
            show Steps p.tables e below (s₁.setTop (mkF m 107 #[.val (.long q1), .second, .val (.int (6 : Int32)), .unset, .unset, .unset, .unset, .unset, .unset] [(.long q1)])) _
            refine XS.iloadN X0.here hx rfl (hb hby d2_107) rfl ?_
            show Steps p.tables e below (s₁.setTop (mkF m 108 #[.val (.long q1), .second, .val (.int (6 : Int32)), .unset, .unset, .unset, .unset, .unset, .unset] [(.int (6 : Int32)), (.long q1)])) _
            refine XS.lshr X0.here hx rfl (hb hby d2_108) rfl ?_
            show Steps p.tables e below (s₁.setTop (mkF m 109 #[.val (.long q1), .second, .val (.int (6 : Int32)), .unset, .unset, .unset, .unset, .unset, .unset] [(.long (q1 >>> ((6 : Int32) &&& 0x3f).toInt64))])) _
            refine XS.lstoreN X0.here hx rfl (hb hby d2_109) rfl (l' := #[.val (.long q1), .second, .val (.int (6 : Int32)), .val (.long (q1 >>> ((6 : Int32) &&& 0x3f).toInt64)), .second, .unset, .unset, .unset, .unset]) rfl ?_
            show Steps p.tables e below (s₁.setTop (mkF m 110 #[.val (.long q1), .second, .val (.int (6 : Int32)), .val (.long (q1 >>> ((6 : Int32) &&& 0x3f).toInt64)), .second, .unset, .unset, .unset, .unset] [])) _
            refine XS.lloadN X0.here hx rfl (hb hby d2_110) rfl ?_
            show Steps p.tables e below (s₁.setTop (mkF m 111 #[.val (.long q1), .second, .val (.int (6 : Int32)), .val (.long (q1 >>> ((6 : Int32) &&& 0x3f).toInt64)), .second, .unset, .unset, .unset, .unset] [(.long q1)])) _
            refine XS.lloadN X0.here hx rfl (hb hby d2_111) rfl ?_
            show Steps p.tables e below (s₁.setTop (mkF m 112 #[.val (.long q1), .second, .val (.int (6 : Int32)), .val (.long (q1 >>> ((6 : Int32) &&& 0x3f).toInt64)), .second, .unset, .unset, .unset, .unset] [(.long (q1 >>> ((6 : Int32) &&& 0x3f).toInt64)), (.long q1)])) _
            refine XS.iloadN X0.here hx rfl (hb hby d2_112) rfl ?_
            show Steps p.tables e below (s₁.setTop (mkF m 113 #[.val (.long q1), .second, .val (.int (6 : Int32)), .val (.long (q1 >>> ((6 : Int32) &&& 0x3f).toInt64)), .second, .unset, .unset, .unset, .unset] [(.int (6 : Int32)), (.long (q1 >>> ((6 : Int32) &&& 0x3f).toInt64)), (.long q1)])) _
            refine XS.lshl X0.here hx rfl (hb hby d2_113) rfl ?_
            show Steps p.tables e below (s₁.setTop (mkF m 114 #[.val (.long q1), .second, .val (.int (6 : Int32)), .val (.long (q1 >>> ((6 : Int32) &&& 0x3f).toInt64)), .second, .unset, .unset, .unset, .unset] [(.long ((q1 >>> ((6 : Int32) &&& 0x3f).toInt64) <<< ((6 : Int32) &&& 0x3f).toInt64)), (.long q1)])) _
            refine XS.lsub X0.here hx rfl (hb hby d2_114) rfl ?_
            show Steps p.tables e below (s₁.setTop (mkF m 115 #[.val (.long q1), .second, .val (.int (6 : Int32)), .val (.long (q1 >>> ((6 : Int32) &&& 0x3f).toInt64)), .second, .unset, .unset, .unset, .unset] [(.long (q1 - ((q1 >>> ((6 : Int32) &&& 0x3f).toInt64) <<< ((6 : Int32) &&& 0x3f).toInt64)))])) _
            refine XS.lstore X0.here hx rfl (hb hby d2_115) rfl (l' := #[.val (.long q1), .second, .val (.int (6 : Int32)), .val (.long (q1 >>> ((6 : Int32) &&& 0x3f).toInt64)), .second, .val (.long (q1 - ((q1 >>> ((6 : Int32) &&& 0x3f).toInt64) <<< ((6 : Int32) &&& 0x3f).toInt64))), .second, .unset, .unset]) rfl ?_
            show Steps p.tables e below (s₁.setTop (mkF m 117 #[.val (.long q1), .second, .val (.int (6 : Int32)), .val (.long (q1 >>> ((6 : Int32) &&& 0x3f).toInt64)), .second, .val (.long (q1 - ((q1 >>> ((6 : Int32) &&& 0x3f).toInt64) <<< ((6 : Int32) &&& 0x3f).toInt64))), .second, .unset, .unset] [])) _
            refine XS.lconst X0.here hx rfl (hb hby d2_117) ?_
            show Steps p.tables e below (s₁.setTop (mkF m 118 #[.val (.long q1), .second, .val (.int (6 : Int32)), .val (.long (q1 >>> ((6 : Int32) &&& 0x3f).toInt64)), .second, .val (.long (q1 - ((q1 >>> ((6 : Int32) &&& 0x3f).toInt64) <<< ((6 : Int32) &&& 0x3f).toInt64))), .second, .unset, .unset] [(.long (1 : Int64))])) _
            refine XS.iloadN X0.here hx rfl (hb hby d2_118) rfl ?_
            show Steps p.tables e below (s₁.setTop (mkF m 119 #[.val (.long q1), .second, .val (.int (6 : Int32)), .val (.long (q1 >>> ((6 : Int32) &&& 0x3f).toInt64)), .second, .val (.long (q1 - ((q1 >>> ((6 : Int32) &&& 0x3f).toInt64) <<< ((6 : Int32) &&& 0x3f).toInt64))), .second, .unset, .unset] [(.int (6 : Int32)), (.long (1 : Int64))])) _
            refine XS.iconst X0.here hx rfl (hb hby d2_119) ?_
            show Steps p.tables e below (s₁.setTop (mkF m 120 #[.val (.long q1), .second, .val (.int (6 : Int32)), .val (.long (q1 >>> ((6 : Int32) &&& 0x3f).toInt64)), .second, .val (.long (q1 - ((q1 >>> ((6 : Int32) &&& 0x3f).toInt64) <<< ((6 : Int32) &&& 0x3f).toInt64))), .second, .unset, .unset] [(.int (1 : Int32)), (.int (6 : Int32)), (.long (1 : Int64))])) _
            refine XS.isub X0.here hx rfl (hb hby d2_120) rfl ?_
            show Steps p.tables e below (s₁.setTop (mkF m 121 #[.val (.long q1), .second, .val (.int (6 : Int32)), .val (.long (q1 >>> ((6 : Int32) &&& 0x3f).toInt64)), .second, .val (.long (q1 - ((q1 >>> ((6 : Int32) &&& 0x3f).toInt64) <<< ((6 : Int32) &&& 0x3f).toInt64))), .second, .unset, .unset] [(.int ((6 : Int32) - (1 : Int32))), (.long (1 : Int64))])) _
            refine castTop (g' := (mkF m 121 #[.val (.long q1), .second, .val (.int (6 : Int32)), .val (.long (q1 >>> ((6 : Int32) &&& 0x3f).toInt64)), .second, .val (.long (q1 - ((q1 >>> ((6 : Int32) &&& 0x3f).toInt64) <<< ((6 : Int32) &&& 0x3f).toInt64))), .second, .unset, .unset] [(.int (5 : Int32)), (.long (1 : Int64))])) (by rw [show ((6 : Int32) - (1 : Int32)) = (5 : Int32) by decide]) ?_
            show Steps p.tables e below (s₁.setTop (mkF m 121 #[.val (.long q1), .second, .val (.int (6 : Int32)), .val (.long (q1 >>> ((6 : Int32) &&& 0x3f).toInt64)), .second, .val (.long (q1 - ((q1 >>> ((6 : Int32) &&& 0x3f).toInt64) <<< ((6 : Int32) &&& 0x3f).toInt64))), .second, .unset, .unset] [(.int (5 : Int32)), (.long (1 : Int64))])) _
            refine XS.lshl X0.here hx rfl (hb hby d2_121) rfl ?_
            show Steps p.tables e below (s₁.setTop (mkF m 122 #[.val (.long q1), .second, .val (.int (6 : Int32)), .val (.long (q1 >>> ((6 : Int32) &&& 0x3f).toInt64)), .second, .val (.long (q1 - ((q1 >>> ((6 : Int32) &&& 0x3f).toInt64) <<< ((6 : Int32) &&& 0x3f).toInt64))), .second, .unset, .unset] [(.long ((1 : Int64) <<< ((5 : Int32) &&& 0x3f).toInt64))])) _
            refine XS.lstore X0.here hx rfl (hb hby d2_122) rfl (l' := #[.val (.long q1), .second, .val (.int (6 : Int32)), .val (.long (q1 >>> ((6 : Int32) &&& 0x3f).toInt64)), .second, .val (.long (q1 - ((q1 >>> ((6 : Int32) &&& 0x3f).toInt64) <<< ((6 : Int32) &&& 0x3f).toInt64))), .second, .val (.long ((1 : Int64) <<< ((5 : Int32) &&& 0x3f).toInt64)), .second]) rfl ?_
            exact k)
          obtain ⟨qo6, eqo6⟩ : ∃ z : Int64, z = (q1 >>> ((6 : Int32) &&& 0x3f).toInt64) := ⟨_, rfl⟩
          obtain ⟨ro6, ero6⟩ : ∃ z : Int64, z = (q1 - ((q1 >>> ((6 : Int32) &&& 0x3f).toInt64) <<< ((6 : Int32) &&& 0x3f).toInt64)) := ⟨_, rfl⟩
          obtain ⟨ho6, eho6⟩ : ∃ z : Int64, z = ((1 : Int64) <<< ((5 : Int32) &&& 0x3f).toInt64) := ⟨_, rfl⟩
          have k162 : ∀ t, Steps p.tables e below (s₁.setTop (mkF m 124 #[.val (.long q1), .second, .val (.int (6 : Int32)), .val (.long qo6), .second, .val (.long ro6), .second, .val (.long ho6), .second] [])) t → Steps p.tables e below (s₁.setTop (entryFrame m #[(.long q1)] 9)) t := fun t k => k161 t (by
            show Steps p.tables e below (s₁.setTop (mkF m 124 #[.val (.long q1), .second, .val (.int (6 : Int32)), .val (.long (q1 >>> ((6 : Int32) &&& 0x3f).toInt64)), .second, .val (.long (q1 - ((q1 >>> ((6 : Int32) &&& 0x3f).toInt64) <<< ((6 : Int32) &&& 0x3f).toInt64))), .second, .val (.long ((1 : Int64) <<< ((5 : Int32) &&& 0x3f).toInt64)), .second] [])) _
            refine castTop (g' := (mkF m 124 #[.val (.long q1), .second, .val (.int (6 : Int32)), .val (.long qo6), .second, .val (.long ro6), .second, .val (.long ho6), .second] [])) (by rw [ero6, eqo6, eho6]) ?_
            exact k)
          have k163 : ∀ t, Steps p.tables e below (s₁.setTop (mkF m 129 #[.val (.long q1), .second, .val (.int (6 : Int32)), .val (.long qo6), .second, .val (.long ro6), .second, .val (.long ho6), .second] [(.int (lcmpW ro6 ho6))])) t → Steps p.tables e below (s₁.setTop (entryFrame m #[(.long q1)] 9)) t := fun t k => k162 t (by
            show Steps p.tables e below (s₁.setTop (mkF m 124 #[.val (.long q1), .second, .val (.int (6 : Int32)), .val (.long qo6), .second, .val (.long ro6), .second, .val (.long ho6), .second] [])) _
            refine XS.lload X0.here hx rfl (hb hby d2_124) rfl ?_
            show Steps p.tables e below (s₁.setTop (mkF m 126 #[.val (.long q1), .second, .val (.int (6 : Int32)), .val (.long qo6), .second, .val (.long ro6), .second, .val (.long ho6), .second] [(.long ro6)])) _
            refine XS.lload X0.here hx rfl (hb hby d2_126) rfl ?_
            show Steps p.tables e below (s₁.setTop (mkF m 128 #[.val (.long q1), .second, .val (.int (6 : Int32)), .val (.long qo6), .second, .val (.long ro6), .second, .val (.long ho6), .second] [(.long ho6), (.long ro6)])) _
            refine XS.lcmp X0.here hx rfl (hb hby d2_128) rfl ?_
            exact k)
          obtain ⟨j167, hj167⟩ : ∃ z : Int64, z = (if (0 : Int32) < (lcmpW ro6 ho6) then (qo6 + (1 : Int64)) else (if (lcmpW ro6 ho6) = (0 : Int32) then (if (lcmpW (qo6 &&& (1 : Int64)) (1 : Int64)) = (0 : Int32) then (qo6 + (1 : Int64)) else qo6) else qo6)) := ⟨_, rfl⟩
          have k168 : ∀ t, Steps p.tables e below (s₁.setTop (mkF m 152 #[.val (.long q1), .second, .val (.int (6 : Int32)), .val (.long j167), .second, .val (.long ro6), .second, .val (.long ho6), .second] [])) t → Steps p.tables e below (s₁.setTop (entryFrame m #[(.long q1)] 9)) t := fun t k => k163 t (by
            by_cases c164 : (0 : Int32) < (lcmpW ro6 ho6)
            · rw [if_pos c164] at hj167
              show Steps p.tables e below (s₁.setTop (mkF m 129 #[.val (.long q1), .second, .val (.int (6 : Int32)), .val (.long qo6), .second, .val (.long ro6), .second, .val (.long ho6), .second] [(.int (lcmpW ro6 ho6))])) _
              refine XS.ifYes X0.here hx rfl (pc0 := 129) (pc' := 148) rfl (hb hby d2_129) rfl ((if0 _ _).trans (tlt c164).2.2.1) (by decide) (by decide) ?_
              show Steps p.tables e below (s₁.setTop (mkF m 148 #[.val (.long q1), .second, .val (.int (6 : Int32)), .val (.long qo6), .second, .val (.long ro6), .second, .val (.long ho6), .second] [])) _
              refine XS.lloadN X0.here hx rfl (hb hby d2_148) rfl ?_
              show Steps p.tables e below (s₁.setTop (mkF m 149 #[.val (.long q1), .second, .val (.int (6 : Int32)), .val (.long qo6), .second, .val (.long ro6), .second, .val (.long ho6), .second] [(.long qo6)])) _
              refine XS.lconst X0.here hx rfl (hb hby d2_149) ?_
              show Steps p.tables e below (s₁.setTop (mkF m 150 #[.val (.long q1), .second, .val (.int (6 : Int32)), .val (.long qo6), .second, .val (.long ro6), .second, .val (.long ho6), .second] [(.long (1 : Int64)), (.long qo6)])) _
              refine XS.ladd X0.here hx rfl (hb hby d2_150) rfl ?_
              show Steps p.tables e below (s₁.setTop (mkF m 151 #[.val (.long q1), .second, .val (.int (6 : Int32)), .val (.long qo6), .second, .val (.long ro6), .second, .val (.long ho6), .second] [(.long (qo6 + (1 : Int64)))])) _
              refine XS.lstoreN X0.here hx rfl (hb hby d2_151) rfl (l' := #[.val (.long q1), .second, .val (.int (6 : Int32)), .val (.long (qo6 + (1 : Int64))), .second, .val (.long ro6), .second, .val (.long ho6), .second]) rfl ?_
              show Steps p.tables e below (s₁.setTop (mkF m 152 #[.val (.long q1), .second, .val (.int (6 : Int32)), .val (.long (qo6 + (1 : Int64))), .second, .val (.long ro6), .second, .val (.long ho6), .second] [])) _
              exact castTop (by rw [hj167]) k
            · rw [if_neg c164] at hj167
              show Steps p.tables e below (s₁.setTop (mkF m 129 #[.val (.long q1), .second, .val (.int (6 : Int32)), .val (.long qo6), .second, .val (.long ro6), .second, .val (.long ho6), .second] [(.int (lcmpW ro6 ho6))])) _
              refine XS.ifNo X0.here hx rfl (hb hby d2_129) rfl ((if0 _ _).trans (flt c164).2.2.1) ?_
              show Steps p.tables e below (s₁.setTop (mkF m 132 #[.val (.long q1), .second, .val (.int (6 : Int32)), .val (.long qo6), .second, .val (.long ro6), .second, .val (.long ho6), .second] [])) _
              refine XS.lload X0.here hx rfl (hb hby d2_132) rfl ?_
              show Steps p.tables e below (s₁.setTop (mkF m 134 #[.val (.long q1), .second, .val (.int (6 : Int32)), .val (.long qo6), .second, .val (.long ro6), .second, .val (.long ho6), .second] [(.long ro6)])) _
              refine XS.lload X0.here hx rfl (hb hby d2_134) rfl ?_
              show Steps p.tables e below (s₁.setTop (mkF m 136 #[.val (.long q1), .second, .val (.int (6 : Int32)), .val (.long qo6), .second, .val (.long ro6), .second, .val (.long ho6), .second] [(.long ho6), (.long ro6)])) _
              refine XS.lcmp X0.here hx rfl (hb hby d2_136) rfl ?_
              by_cases c165 : (lcmpW ro6 ho6) = (0 : Int32)
              · rw [if_pos c165] at hj167
                show Steps p.tables e below (s₁.setTop (mkF m 137 #[.val (.long q1), .second, .val (.int (6 : Int32)), .val (.long qo6), .second, .val (.long ro6), .second, .val (.long ho6), .second] [(.int (lcmpW ro6 ho6))])) _
                refine XS.ifNo X0.here hx rfl (hb hby d2_137) rfl ((if0 _ _).trans (teq c165).2) ?_
                show Steps p.tables e below (s₁.setTop (mkF m 140 #[.val (.long q1), .second, .val (.int (6 : Int32)), .val (.long qo6), .second, .val (.long ro6), .second, .val (.long ho6), .second] [])) _
                refine XS.lloadN X0.here hx rfl (hb hby d2_140) rfl ?_
                show Steps p.tables e below (s₁.setTop (mkF m 141 #[.val (.long q1), .second, .val (.int (6 : Int32)), .val (.long qo6), .second, .val (.long ro6), .second, .val (.long ho6), .second] [(.long qo6)])) _
                refine XS.lconst X0.here hx rfl (hb hby d2_141) ?_
                show Steps p.tables e below (s₁.setTop (mkF m 142 #[.val (.long q1), .second, .val (.int (6 : Int32)), .val (.long qo6), .second, .val (.long ro6), .second, .val (.long ho6), .second] [(.long (1 : Int64)), (.long qo6)])) _
                refine XS.land X0.here hx rfl (hb hby d2_142) rfl ?_
                show Steps p.tables e below (s₁.setTop (mkF m 143 #[.val (.long q1), .second, .val (.int (6 : Int32)), .val (.long qo6), .second, .val (.long ro6), .second, .val (.long ho6), .second] [(.long (qo6 &&& (1 : Int64)))])) _
                refine XS.lconst X0.here hx rfl (hb hby d2_143) ?_
                show Steps p.tables e below (s₁.setTop (mkF m 144 #[.val (.long q1), .second, .val (.int (6 : Int32)), .val (.long qo6), .second, .val (.long ro6), .second, .val (.long ho6), .second] [(.long (1 : Int64)), (.long (qo6 &&& (1 : Int64)))])) _
                refine XS.lcmp X0.here hx rfl (hb hby d2_144) rfl ?_
                by_cases c166 : (lcmpW (qo6 &&& (1 : Int64)) (1 : Int64)) = (0 : Int32)
                · rw [if_pos c166] at hj167
                  show Steps p.tables e below (s₁.setTop (mkF m 145 #[.val (.long q1), .second, .val (.int (6 : Int32)), .val (.long qo6), .second, .val (.long ro6), .second, .val (.long ho6), .second] [(.int (lcmpW (qo6 &&& (1 : Int64)) (1 : Int64)))])) _
                  refine XS.ifNo X0.here hx rfl (hb hby d2_145) rfl ((if0 _ _).trans (teq c166).2) ?_
                  show Steps p.tables e below (s₁.setTop (mkF m 148 #[.val (.long q1), .second, .val (.int (6 : Int32)), .val (.long qo6), .second, .val (.long ro6), .second, .val (.long ho6), .second] [])) _
                  refine XS.lloadN X0.here hx rfl (hb hby d2_148) rfl ?_
                  show Steps p.tables e below (s₁.setTop (mkF m 149 #[.val (.long q1), .second, .val (.int (6 : Int32)), .val (.long qo6), .second, .val (.long ro6), .second, .val (.long ho6), .second] [(.long qo6)])) _
                  refine XS.lconst X0.here hx rfl (hb hby d2_149) ?_
                  show Steps p.tables e below (s₁.setTop (mkF m 150 #[.val (.long q1), .second, .val (.int (6 : Int32)), .val (.long qo6), .second, .val (.long ro6), .second, .val (.long ho6), .second] [(.long (1 : Int64)), (.long qo6)])) _
                  refine XS.ladd X0.here hx rfl (hb hby d2_150) rfl ?_
                  show Steps p.tables e below (s₁.setTop (mkF m 151 #[.val (.long q1), .second, .val (.int (6 : Int32)), .val (.long qo6), .second, .val (.long ro6), .second, .val (.long ho6), .second] [(.long (qo6 + (1 : Int64)))])) _
                  refine XS.lstoreN X0.here hx rfl (hb hby d2_151) rfl (l' := #[.val (.long q1), .second, .val (.int (6 : Int32)), .val (.long (qo6 + (1 : Int64))), .second, .val (.long ro6), .second, .val (.long ho6), .second]) rfl ?_
                  show Steps p.tables e below (s₁.setTop (mkF m 152 #[.val (.long q1), .second, .val (.int (6 : Int32)), .val (.long (qo6 + (1 : Int64))), .second, .val (.long ro6), .second, .val (.long ho6), .second] [])) _
                  exact castTop (by rw [hj167]) k
                · rw [if_neg c166] at hj167
                  show Steps p.tables e below (s₁.setTop (mkF m 145 #[.val (.long q1), .second, .val (.int (6 : Int32)), .val (.long qo6), .second, .val (.long ro6), .second, .val (.long ho6), .second] [(.int (lcmpW (qo6 &&& (1 : Int64)) (1 : Int64)))])) _
                  refine XS.ifYes X0.here hx rfl (pc0 := 145) (pc' := 152) rfl (hb hby d2_145) rfl ((if0 _ _).trans (feq c166).2) (by decide) (by decide) ?_
                  show Steps p.tables e below (s₁.setTop (mkF m 152 #[.val (.long q1), .second, .val (.int (6 : Int32)), .val (.long qo6), .second, .val (.long ro6), .second, .val (.long ho6), .second] [])) _
                  exact castTop (by rw [hj167]) k
              · rw [if_neg c165] at hj167
                show Steps p.tables e below (s₁.setTop (mkF m 137 #[.val (.long q1), .second, .val (.int (6 : Int32)), .val (.long qo6), .second, .val (.long ro6), .second, .val (.long ho6), .second] [(.int (lcmpW ro6 ho6))])) _
                refine XS.ifYes X0.here hx rfl (pc0 := 137) (pc' := 152) rfl (hb hby d2_137) rfl ((if0 _ _).trans (feq c165).2) (by decide) (by decide) ?_
                show Steps p.tables e below (s₁.setTop (mkF m 152 #[.val (.long q1), .second, .val (.int (6 : Int32)), .val (.long qo6), .second, .val (.long ro6), .second, .val (.long ho6), .second] [])) _
                exact castTop (by rw [hj167]) k)
          have hres := own_mag6 hbq c1 t8 t7 t6 eqo6 ero6 eho6 hj167
          have k169 : ∀ t, Steps p.tables e below (s₁.setTop (mkF m 155 #[.val (.long q1), .second, .val (.int (6 : Int32)), .val (.long j167), .second, .val (.long ro6), .second, .val (.long ho6), .second] [(.long (j167 <<< ((6 : Int32) &&& 0x3f).toInt64))])) t → Steps p.tables e below (s₁.setTop (entryFrame m #[(.long q1)] 9)) t := fun t k => k168 t (by
            show Steps p.tables e below (s₁.setTop (mkF m 152 #[.val (.long q1), .second, .val (.int (6 : Int32)), .val (.long j167), .second, .val (.long ro6), .second, .val (.long ho6), .second] [])) _
            refine XS.lloadN X0.here hx rfl (hb hby d2_152) rfl ?_
            show Steps p.tables e below (s₁.setTop (mkF m 153 #[.val (.long q1), .second, .val (.int (6 : Int32)), .val (.long j167), .second, .val (.long ro6), .second, .val (.long ho6), .second] [(.long j167)])) _
            refine XS.iloadN X0.here hx rfl (hb hby d2_153) rfl ?_
            show Steps p.tables e below (s₁.setTop (mkF m 154 #[.val (.long q1), .second, .val (.int (6 : Int32)), .val (.long j167), .second, .val (.long ro6), .second, .val (.long ho6), .second] [(.int (6 : Int32)), (.long j167)])) _
            refine XS.lshl X0.here hx rfl (hb hby d2_154) rfl ?_
            exact k)
          obtain ⟨fs, hr, hrun, hended, hW, hsame⟩ := X0.leave (v := some (.long (j167 <<< ((6 : Int32) &&& 0x3f).toInt64))) (fun h => by rw [Bd.returns] at h; cases h)
          refine ⟨_, _, k169 _ (retOut X0 hx (t := .long) Bd.returns rfl (Or.inr (Or.inl ⟨rfl, rfl, _, rfl⟩)) (hb hby d2_155) hr), hrun, hended, _, _, rfl, ?_, ⟨_, rfl⟩, hW, hsame.mono (by decide) (by decide)⟩
          show Q_rm2 Z q1 h0 n0 _ s₁.heap _
          rw [e0]
          exact ⟨_, rfl, N0, rfl, hres⟩
      · have k170 : ∀ t, Steps p.tables e below (s₁.setTop (mkF m 32 #[.val (.long q1), .second, .unset, .unset, .unset, .unset, .unset, .unset, .unset] [])) t → Steps p.tables e below (s₁.setTop (entryFrame m #[(.long q1)] 9)) t := fun t k => k104 t (by
          show Steps p.tables e below (s₁.setTop (mkF m 29 #[.val (.long q1), .second, .unset, .unset, .unset, .unset, .unset, .unset, .unset] [(.int (lcmpW q1 (1073741824 : Int64)))])) _
          refine XS.ifNo X0.here hx rfl (hb hby d2_29) rfl ((if0 _ _).trans (flt (fun q => t7 (own_lt64' ((lw_lt _ _).mp q) (by decide)))).1) ?_
          exact k)
        have k171 : ∀ t, Steps p.tables e below (s₁.setTop (mkF m 124 #[.val (.long q1), .second, .val (.int (7 : Int32)), .val (.long (q1 >>> ((7 : Int32) &&& 0x3f).toInt64)), .second, .val (.long (q1 - ((q1 >>> ((7 : Int32) &&& 0x3f).toInt64) <<< ((7 : Int32) &&& 0x3f).toInt64))), .second, .val (.long ((1 : Int64) <<< ((6 : Int32) &&& 0x3f).toInt64)), .second] [])) t → Steps p.tables e below (s₁.setTop (entryFrame m #[(.long q1)] 9)) t := fun t k => k170 t (by
          show Steps p.tables e below (s₁.setTop (mkF m 32 #[.val (.long q1), .second, .unset, .unset, .unset, .unset, .unset, .unset, .unset] [])) _
          refine XS.bipush X0.here hx rfl (hb hby d2_32) ?_
          show Steps p.tables e below (s₁.setTop (mkF m 34 #[.val (.long q1), .second, .unset, .unset, .unset, .unset, .unset, .unset, .unset] [(.int (7 : Int32))])) _
          refine XS.istoreN X0.here hx rfl (hb hby d2_34) rfl (l' := #[.val (.long q1), .second, .val (.int (7 : Int32)), .unset, .unset, .unset, .unset, .unset, .unset]) rfl ?_
          show Steps p.tables e below (s₁.setTop (mkF m 35 #[.val (.long q1), .second, .val (.int (7 : Int32)), .unset, .unset, .unset, .unset, .unset, .unset] [])) _
          refine XS.goto X0.here hx rfl (pc0 := 35) (pc' := 106) rfl (hb hby d2_35) (by decide) (by decide) ?_
          show Steps p.tables e below (s₁.setTop (mkF m 106 #[.val (.long q1), .second, .val (.int (7 : Int32)), .unset, .unset, .unset, .unset, .unset, .unset] [])) _
          refine XS.lloadN X0.here hx rfl (hb hby d2_106) rfl ?_
          show Steps p.tables e below (s₁.setTop (mkF m 107 #[.val (.long q1), .second, .val (.int (7 : Int32)), .unset, .unset, .unset, .unset, .unset, .unset] [(.long q1)])) _
          refine XS.iloadN X0.here hx rfl (hb hby d2_107) rfl ?_
          show Steps p.tables e below (s₁.setTop (mkF m 108 #[.val (.long q1), .second, .val (.int (7 : Int32)), .unset, .unset, .unset, .unset, .unset, .unset] [(.int (7 : Int32)), (.long q1)])) _
          refine XS.lshr X0.here hx rfl (hb hby d2_108) rfl ?_
          show Steps p.tables e below (s₁.setTop (mkF m 109 #[.val (.long q1), .second, .val (.int (7 : Int32)), .unset, .unset, .unset, .unset, .unset, .unset] [(.long (q1 >>> ((7 : Int32) &&& 0x3f).toInt64))])) _
          refine XS.lstoreN X0.here hx rfl (hb hby d2_109) rfl (l' := #[.val (.long q1), .second, .val (.int (7 : Int32)), .val (.long (q1 >>> ((7 : Int32) &&& 0x3f).toInt64)), .second, .unset, .unset, .unset, .unset]) rfl ?_
          show Steps p.tables e below (s₁.setTop (mkF m 110 #[.val (.long q1), .second, .val (.int (7 : Int32)), .val (.long (q1 >>> ((7 : Int32) &&& 0x3f).toInt64)), .second, .unset, .unset, .unset, .unset] [])) _
          refine XS.lloadN X0.here hx rfl (hb hby d2_110) rfl ?_
          show Steps p.tables e below (s₁.setTop (mkF m 111 #[.val (.long q1), .second, .val (.int (7 : Int32)), .val (.long (q1 >>> ((7 : Int32) &&& 0x3f).toInt64)), .second, .unset, .unset, .unset, .unset] [(.long q1)])) _
          refine XS.lloadN X0.here hx rfl (hb hby d2_111) rfl ?_
          show Steps p.tables e below (s₁.setTop (mkF m 112 #[.val (.long q1), .second, .val (.int (7 : Int32)), .val (.long (q1 >>> ((7 : Int32) &&& 0x3f).toInt64)), .second, .unset, .unset, .unset, .unset] [(.long (q1 >>> ((7 : Int32) &&& 0x3f).toInt64)), (.long q1)])) _
          refine XS.iloadN X0.here hx rfl (hb hby d2_112) rfl ?_
          show Steps p.tables e below (s₁.setTop (mkF m 113 #[.val (.long q1), .second, .val (.int (7 : Int32)), .val (.long (q1 >>> ((7 : Int32) &&& 0x3f).toInt64)), .second, .unset, .unset, .unset, .unset] [(.int (7 : Int32)), (.long (q1 >>> ((7 : Int32) &&& 0x3f).toInt64)), (.long q1)])) _
          refine XS.lshl X0.here hx rfl (hb hby d2_113) rfl ?_
          show Steps p.tables e below (s₁.setTop (mkF m 114 #[.val (.long q1), .second, .val (.int (7 : Int32)), .val (.long (q1 >>> ((7 : Int32) &&& 0x3f).toInt64)), .second, .unset, .unset, .unset, .unset] [(.long ((q1 >>> ((7 : Int32) &&& 0x3f).toInt64) <<< ((7 : Int32) &&& 0x3f).toInt64)), (.long q1)])) _
          refine XS.lsub X0.here hx rfl (hb hby d2_114) rfl ?_
          show Steps p.tables e below (s₁.setTop (mkF m 115 #[.val (.long q1), .second, .val (.int (7 : Int32)), .val (.long (q1 >>> ((7 : Int32) &&& 0x3f).toInt64)), .second, .unset, .unset, .unset, .unset] [(.long (q1 - ((q1 >>> ((7 : Int32) &&& 0x3f).toInt64) <<< ((7 : Int32) &&& 0x3f).toInt64)))])) _
          refine XS.lstore X0.here hx rfl (hb hby d2_115) rfl (l' := #[.val (.long q1), .second, .val (.int (7 : Int32)), .val (.long (q1 >>> ((7 : Int32) &&& 0x3f).toInt64)), .second, .val (.long (q1 - ((q1 >>> ((7 : Int32) &&& 0x3f).toInt64) <<< ((7 : Int32) &&& 0x3f).toInt64))), .second, .unset, .unset]) rfl ?_
          show Steps p.tables e below (s₁.setTop (mkF m 117 #[.val (.long q1), .second, .val (.int (7 : Int32)), .val (.long (q1 >>> ((7 : Int32) &&& 0x3f).toInt64)), .second, .val (.long (q1 - ((q1 >>> ((7 : Int32) &&& 0x3f).toInt64) <<< ((7 : Int32) &&& 0x3f).toInt64))), .second, .unset, .unset] [])) _
          refine XS.lconst X0.here hx rfl (hb hby d2_117) ?_
          show Steps p.tables e below (s₁.setTop (mkF m 118 #[.val (.long q1), .second, .val (.int (7 : Int32)), .val (.long (q1 >>> ((7 : Int32) &&& 0x3f).toInt64)), .second, .val (.long (q1 - ((q1 >>> ((7 : Int32) &&& 0x3f).toInt64) <<< ((7 : Int32) &&& 0x3f).toInt64))), .second, .unset, .unset] [(.long (1 : Int64))])) _
          refine XS.iloadN X0.here hx rfl (hb hby d2_118) rfl ?_
          show Steps p.tables e below (s₁.setTop (mkF m 119 #[.val (.long q1), .second, .val (.int (7 : Int32)), .val (.long (q1 >>> ((7 : Int32) &&& 0x3f).toInt64)), .second, .val (.long (q1 - ((q1 >>> ((7 : Int32) &&& 0x3f).toInt64) <<< ((7 : Int32) &&& 0x3f).toInt64))), .second, .unset, .unset] [(.int (7 : Int32)), (.long (1 : Int64))])) _
          refine XS.iconst X0.here hx rfl (hb hby d2_119) ?_
          show Steps p.tables e below (s₁.setTop (mkF m 120 #[.val (.long q1), .second, .val (.int (7 : Int32)), .val (.long (q1 >>> ((7 : Int32) &&& 0x3f).toInt64)), .second, .val (.long (q1 - ((q1 >>> ((7 : Int32) &&& 0x3f).toInt64) <<< ((7 : Int32) &&& 0x3f).toInt64))), .second, .unset, .unset] [(.int (1 : Int32)), (.int (7 : Int32)), (.long (1 : Int64))])) _
          refine XS.isub X0.here hx rfl (hb hby d2_120) rfl ?_
          show Steps p.tables e below (s₁.setTop (mkF m 121 #[.val (.long q1), .second, .val (.int (7 : Int32)), .val (.long (q1 >>> ((7 : Int32) &&& 0x3f).toInt64)), .second, .val (.long (q1 - ((q1 >>> ((7 : Int32) &&& 0x3f).toInt64) <<< ((7 : Int32) &&& 0x3f).toInt64))), .second, .unset, .unset] [(.int ((7 : Int32) - (1 : Int32))), (.long (1 : Int64))])) _
          refine castTop (g' := (mkF m 121 #[.val (.long q1), .second, .val (.int (7 : Int32)), .val (.long (q1 >>> ((7 : Int32) &&& 0x3f).toInt64)), .second, .val (.long (q1 - ((q1 >>> ((7 : Int32) &&& 0x3f).toInt64) <<< ((7 : Int32) &&& 0x3f).toInt64))), .second, .unset, .unset] [(.int (6 : Int32)), (.long (1 : Int64))])) (by rw [show ((7 : Int32) - (1 : Int32)) = (6 : Int32) by decide]) ?_
          show Steps p.tables e below (s₁.setTop (mkF m 121 #[.val (.long q1), .second, .val (.int (7 : Int32)), .val (.long (q1 >>> ((7 : Int32) &&& 0x3f).toInt64)), .second, .val (.long (q1 - ((q1 >>> ((7 : Int32) &&& 0x3f).toInt64) <<< ((7 : Int32) &&& 0x3f).toInt64))), .second, .unset, .unset] [(.int (6 : Int32)), (.long (1 : Int64))])) _
          refine XS.lshl X0.here hx rfl (hb hby d2_121) rfl ?_
          show Steps p.tables e below (s₁.setTop (mkF m 122 #[.val (.long q1), .second, .val (.int (7 : Int32)), .val (.long (q1 >>> ((7 : Int32) &&& 0x3f).toInt64)), .second, .val (.long (q1 - ((q1 >>> ((7 : Int32) &&& 0x3f).toInt64) <<< ((7 : Int32) &&& 0x3f).toInt64))), .second, .unset, .unset] [(.long ((1 : Int64) <<< ((6 : Int32) &&& 0x3f).toInt64))])) _
          refine XS.lstore X0.here hx rfl (hb hby d2_122) rfl (l' := #[.val (.long q1), .second, .val (.int (7 : Int32)), .val (.long (q1 >>> ((7 : Int32) &&& 0x3f).toInt64)), .second, .val (.long (q1 - ((q1 >>> ((7 : Int32) &&& 0x3f).toInt64) <<< ((7 : Int32) &&& 0x3f).toInt64))), .second, .val (.long ((1 : Int64) <<< ((6 : Int32) &&& 0x3f).toInt64)), .second]) rfl ?_
          exact k)
        obtain ⟨qo7, eqo7⟩ : ∃ z : Int64, z = (q1 >>> ((7 : Int32) &&& 0x3f).toInt64) := ⟨_, rfl⟩
        obtain ⟨ro7, ero7⟩ : ∃ z : Int64, z = (q1 - ((q1 >>> ((7 : Int32) &&& 0x3f).toInt64) <<< ((7 : Int32) &&& 0x3f).toInt64)) := ⟨_, rfl⟩
        obtain ⟨ho7, eho7⟩ : ∃ z : Int64, z = ((1 : Int64) <<< ((6 : Int32) &&& 0x3f).toInt64) := ⟨_, rfl⟩
        have k172 : ∀ t, Steps p.tables e below (s₁.setTop (mkF m 124 #[.val (.long q1), .second, .val (.int (7 : Int32)), .val (.long qo7), .second, .val (.long ro7), .second, .val (.long ho7), .second] [])) t → Steps p.tables e below (s₁.setTop (entryFrame m #[(.long q1)] 9)) t := fun t k => k171 t (by
          show Steps p.tables e below (s₁.setTop (mkF m 124 #[.val (.long q1), .second, .val (.int (7 : Int32)), .val (.long (q1 >>> ((7 : Int32) &&& 0x3f).toInt64)), .second, .val (.long (q1 - ((q1 >>> ((7 : Int32) &&& 0x3f).toInt64) <<< ((7 : Int32) &&& 0x3f).toInt64))), .second, .val (.long ((1 : Int64) <<< ((6 : Int32) &&& 0x3f).toInt64)), .second] [])) _
          refine castTop (g' := (mkF m 124 #[.val (.long q1), .second, .val (.int (7 : Int32)), .val (.long qo7), .second, .val (.long ro7), .second, .val (.long ho7), .second] [])) (by rw [ero7, eqo7, eho7]) ?_
          exact k)
        have k173 : ∀ t, Steps p.tables e below (s₁.setTop (mkF m 129 #[.val (.long q1), .second, .val (.int (7 : Int32)), .val (.long qo7), .second, .val (.long ro7), .second, .val (.long ho7), .second] [(.int (lcmpW ro7 ho7))])) t → Steps p.tables e below (s₁.setTop (entryFrame m #[(.long q1)] 9)) t := fun t k => k172 t (by
          show Steps p.tables e below (s₁.setTop (mkF m 124 #[.val (.long q1), .second, .val (.int (7 : Int32)), .val (.long qo7), .second, .val (.long ro7), .second, .val (.long ho7), .second] [])) _
          refine XS.lload X0.here hx rfl (hb hby d2_124) rfl ?_
          show Steps p.tables e below (s₁.setTop (mkF m 126 #[.val (.long q1), .second, .val (.int (7 : Int32)), .val (.long qo7), .second, .val (.long ro7), .second, .val (.long ho7), .second] [(.long ro7)])) _
          refine XS.lload X0.here hx rfl (hb hby d2_126) rfl ?_
          show Steps p.tables e below (s₁.setTop (mkF m 128 #[.val (.long q1), .second, .val (.int (7 : Int32)), .val (.long qo7), .second, .val (.long ro7), .second, .val (.long ho7), .second] [(.long ho7), (.long ro7)])) _
          refine XS.lcmp X0.here hx rfl (hb hby d2_128) rfl ?_
          exact k)
        obtain ⟨j177, hj177⟩ : ∃ z : Int64, z = (if (0 : Int32) < (lcmpW ro7 ho7) then (qo7 + (1 : Int64)) else (if (lcmpW ro7 ho7) = (0 : Int32) then (if (lcmpW (qo7 &&& (1 : Int64)) (1 : Int64)) = (0 : Int32) then (qo7 + (1 : Int64)) else qo7) else qo7)) := ⟨_, rfl⟩
        have k178 : ∀ t, Steps p.tables e below (s₁.setTop (mkF m 152 #[.val (.long q1), .second, .val (.int (7 : Int32)), .val (.long j177), .second, .val (.long ro7), .second, .val (.long ho7), .second] [])) t → Steps p.tables e below (s₁.setTop (entryFrame m #[(.long q1)] 9)) t := fun t k => k173 t (by
          by_cases c174 : (0 : Int32) < (lcmpW ro7 ho7)
          · rw [if_pos c174] at hj177
            show Steps p.tables e below (s₁.setTop (mkF m 129 #[.val (.long q1), .second, .val (.int (7 : Int32)), .val (.long qo7), .second, .val (.long ro7), .second, .val (.long ho7), .second] [(.int (lcmpW ro7 ho7))])) _
            refine XS.ifYes X0.here hx rfl (pc0 := 129) (pc' := 148) rfl (hb hby d2_129) rfl ((if0 _ _).trans (tlt c174).2.2.1) (by decide) (by decide) ?_
            show Steps p.tables e below (s₁.setTop (mkF m 148 #[.val (.long q1), .second, .val (.int (7 : Int32)), .val (.long qo7), .second, .val (.long ro7), .second, .val (.long ho7), .second] [])) _
            refine XS.lloadN X0.here hx rfl (hb hby d2_148) rfl ?_
            show Steps p.tables e below (s₁.setTop (mkF m 149 #[.val (.long q1), .second, .val (.int (7 : Int32)), .val (.long qo7), .second, .val (.long ro7), .second, .val (.long ho7), .second] [(.long qo7)])) _
            refine XS.lconst X0.here hx rfl (hb hby d2_149) ?_
            show Steps p.tables e below (s₁.setTop (mkF m 150 #[.val (.long q1), .second, .val (.int (7 : Int32)), .val (.long qo7), .second, .val (.long ro7), .second, .val (.long ho7), .second] [(.long (1 : Int64)), (.long qo7)])) _
            refine XS.ladd X0.here hx rfl (hb hby d2_150) rfl ?_
            show Steps p.tables e below (s₁.setTop (mkF m 151 #[.val (.long q1), .second, .val (.int (7 : Int32)), .val (.long qo7), .second, .val (.long ro7), .second, .val (.long ho7), .second] [(.long (qo7 + (1 : Int64)))])) _
            refine XS.lstoreN X0.here hx rfl (hb hby d2_151) rfl (l' := #[.val (.long q1), .second, .val (.int (7 : Int32)), .val (.long (qo7 + (1 : Int64))), .second, .val (.long ro7), .second, .val (.long ho7), .second]) rfl ?_
            show Steps p.tables e below (s₁.setTop (mkF m 152 #[.val (.long q1), .second, .val (.int (7 : Int32)), .val (.long (qo7 + (1 : Int64))), .second, .val (.long ro7), .second, .val (.long ho7), .second] [])) _
            exact castTop (by rw [hj177]) k
          · rw [if_neg c174] at hj177
            show Steps p.tables e below (s₁.setTop (mkF m 129 #[.val (.long q1), .second, .val (.int (7 : Int32)), .val (.long qo7), .second, .val (.long ro7), .second, .val (.long ho7), .second] [(.int (lcmpW ro7 ho7))])) _
            refine XS.ifNo X0.here hx rfl (hb hby d2_129) rfl ((if0 _ _).trans (flt c174).2.2.1) ?_
            show Steps p.tables e below (s₁.setTop (mkF m 132 #[.val (.long q1), .second, .val (.int (7 : Int32)), .val (.long qo7), .second, .val (.long ro7), .second, .val (.long ho7), .second] [])) _
            refine XS.lload X0.here hx rfl (hb hby d2_132) rfl ?_
            show Steps p.tables e below (s₁.setTop (mkF m 134 #[.val (.long q1), .second, .val (.int (7 : Int32)), .val (.long qo7), .second, .val (.long ro7), .second, .val (.long ho7), .second] [(.long ro7)])) _
            refine XS.lload X0.here hx rfl (hb hby d2_134) rfl ?_
            show Steps p.tables e below (s₁.setTop (mkF m 136 #[.val (.long q1), .second, .val (.int (7 : Int32)), .val (.long qo7), .second, .val (.long ro7), .second, .val (.long ho7), .second] [(.long ho7), (.long ro7)])) _
            refine XS.lcmp X0.here hx rfl (hb hby d2_136) rfl ?_
            by_cases c175 : (lcmpW ro7 ho7) = (0 : Int32)
            · rw [if_pos c175] at hj177
              show Steps p.tables e below (s₁.setTop (mkF m 137 #[.val (.long q1), .second, .val (.int (7 : Int32)), .val (.long qo7), .second, .val (.long ro7), .second, .val (.long ho7), .second] [(.int (lcmpW ro7 ho7))])) _
              refine XS.ifNo X0.here hx rfl (hb hby d2_137) rfl ((if0 _ _).trans (teq c175).2) ?_
              show Steps p.tables e below (s₁.setTop (mkF m 140 #[.val (.long q1), .second, .val (.int (7 : Int32)), .val (.long qo7), .second, .val (.long ro7), .second, .val (.long ho7), .second] [])) _
              refine XS.lloadN X0.here hx rfl (hb hby d2_140) rfl ?_
              show Steps p.tables e below (s₁.setTop (mkF m 141 #[.val (.long q1), .second, .val (.int (7 : Int32)), .val (.long qo7), .second, .val (.long ro7), .second, .val (.long ho7), .second] [(.long qo7)])) _
              refine XS.lconst X0.here hx rfl (hb hby d2_141) ?_
              show Steps p.tables e below (s₁.setTop (mkF m 142 #[.val (.long q1), .second, .val (.int (7 : Int32)), .val (.long qo7), .second, .val (.long ro7), .second, .val (.long ho7), .second] [(.long (1 : Int64)), (.long qo7)])) _
              refine XS.land X0.here hx rfl (hb hby d2_142) rfl ?_
              show Steps p.tables e below (s₁.setTop (mkF m 143 #[.val (.long q1), .second, .val (.int (7 : Int32)), .val (.long qo7), .second, .val (.long ro7), .second, .val (.long ho7), .second] [(.long (qo7 &&& (1 : Int64)))])) _
              refine XS.lconst X0.here hx rfl (hb hby d2_143) ?_
              show Steps p.tables e below (s₁.setTop (mkF m 144 #[.val (.long q1), .second, .val (.int (7 : Int32)), .val (.long qo7), .second, .val (.long ro7), .second, .val (.long ho7), .second] [(.long (1 : Int64)), (.long (qo7 &&& (1 : Int64)))])) _
              refine XS.lcmp X0.here hx rfl (hb hby d2_144) rfl ?_
              by_cases c176 : (lcmpW (qo7 &&& (1 : Int64)) (1 : Int64)) = (0 : Int32)
              · rw [if_pos c176] at hj177
                show Steps p.tables e below (s₁.setTop (mkF m 145 #[.val (.long q1), .second, .val (.int (7 : Int32)), .val (.long qo7), .second, .val (.long ro7), .second, .val (.long ho7), .second] [(.int (lcmpW (qo7 &&& (1 : Int64)) (1 : Int64)))])) _
                refine XS.ifNo X0.here hx rfl (hb hby d2_145) rfl ((if0 _ _).trans (teq c176).2) ?_
                show Steps p.tables e below (s₁.setTop (mkF m 148 #[.val (.long q1), .second, .val (.int (7 : Int32)), .val (.long qo7), .second, .val (.long ro7), .second, .val (.long ho7), .second] [])) _
                refine XS.lloadN X0.here hx rfl (hb hby d2_148) rfl ?_
                show Steps p.tables e below (s₁.setTop (mkF m 149 #[.val (.long q1), .second, .val (.int (7 : Int32)), .val (.long qo7), .second, .val (.long ro7), .second, .val (.long ho7), .second] [(.long qo7)])) _
                refine XS.lconst X0.here hx rfl (hb hby d2_149) ?_
                show Steps p.tables e below (s₁.setTop (mkF m 150 #[.val (.long q1), .second, .val (.int (7 : Int32)), .val (.long qo7), .second, .val (.long ro7), .second, .val (.long ho7), .second] [(.long (1 : Int64)), (.long qo7)])) _
                refine XS.ladd X0.here hx rfl (hb hby d2_150) rfl ?_
                show Steps p.tables e below (s₁.setTop (mkF m 151 #[.val (.long q1), .second, .val (.int (7 : Int32)), .val (.long qo7), .second, .val (.long ro7), .second, .val (.long ho7), .second] [(.long (qo7 + (1 : Int64)))])) _
                refine XS.lstoreN X0.here hx rfl (hb hby d2_151) rfl (l' := #[.val (.long q1), .second, .val (.int (7 : Int32)), .val (.long (qo7 + (1 : Int64))), .second, .val (.long ro7), .second, .val (.long ho7), .second]) rfl ?_
                show Steps p.tables e below (s₁.setTop (mkF m 152 #[.val (.long q1), .second, .val (.int (7 : Int32)), .val (.long (qo7 + (1 : Int64))), .second, .val (.long ro7), .second, .val (.long ho7), .second] [])) _
                exact castTop (by rw [hj177]) k
              · rw [if_neg c176] at hj177
                show Steps p.tables e below (s₁.setTop (mkF m 145 #[.val (.long q1), .second, .val (.int (7 : Int32)), .val (.long qo7), .second, .val (.long ro7), .second, .val (.long ho7), .second] [(.int (lcmpW (qo7 &&& (1 : Int64)) (1 : Int64)))])) _
                refine XS.ifYes X0.here hx rfl (pc0 := 145) (pc' := 152) rfl (hb hby d2_145) rfl ((if0 _ _).trans (feq c176).2) (by decide) (by decide) ?_
                show Steps p.tables e below (s₁.setTop (mkF m 152 #[.val (.long q1), .second, .val (.int (7 : Int32)), .val (.long qo7), .second, .val (.long ro7), .second, .val (.long ho7), .second] [])) _
                exact castTop (by rw [hj177]) k
            · rw [if_neg c175] at hj177
              show Steps p.tables e below (s₁.setTop (mkF m 137 #[.val (.long q1), .second, .val (.int (7 : Int32)), .val (.long qo7), .second, .val (.long ro7), .second, .val (.long ho7), .second] [(.int (lcmpW ro7 ho7))])) _
              refine XS.ifYes X0.here hx rfl (pc0 := 137) (pc' := 152) rfl (hb hby d2_137) rfl ((if0 _ _).trans (feq c175).2) (by decide) (by decide) ?_
              show Steps p.tables e below (s₁.setTop (mkF m 152 #[.val (.long q1), .second, .val (.int (7 : Int32)), .val (.long qo7), .second, .val (.long ro7), .second, .val (.long ho7), .second] [])) _
              exact castTop (by rw [hj177]) k)
        have hres := own_mag7 hbq c1 t8 t7 eqo7 ero7 eho7 hj177
        have k179 : ∀ t, Steps p.tables e below (s₁.setTop (mkF m 155 #[.val (.long q1), .second, .val (.int (7 : Int32)), .val (.long j177), .second, .val (.long ro7), .second, .val (.long ho7), .second] [(.long (j177 <<< ((7 : Int32) &&& 0x3f).toInt64))])) t → Steps p.tables e below (s₁.setTop (entryFrame m #[(.long q1)] 9)) t := fun t k => k178 t (by
          show Steps p.tables e below (s₁.setTop (mkF m 152 #[.val (.long q1), .second, .val (.int (7 : Int32)), .val (.long j177), .second, .val (.long ro7), .second, .val (.long ho7), .second] [])) _
          refine XS.lloadN X0.here hx rfl (hb hby d2_152) rfl ?_
          show Steps p.tables e below (s₁.setTop (mkF m 153 #[.val (.long q1), .second, .val (.int (7 : Int32)), .val (.long j177), .second, .val (.long ro7), .second, .val (.long ho7), .second] [(.long j177)])) _
          refine XS.iloadN X0.here hx rfl (hb hby d2_153) rfl ?_
          show Steps p.tables e below (s₁.setTop (mkF m 154 #[.val (.long q1), .second, .val (.int (7 : Int32)), .val (.long j177), .second, .val (.long ro7), .second, .val (.long ho7), .second] [(.int (7 : Int32)), (.long j177)])) _
          refine XS.lshl X0.here hx rfl (hb hby d2_154) rfl ?_
          exact k)
        obtain ⟨fs, hr, hrun, hended, hW, hsame⟩ := X0.leave (v := some (.long (j177 <<< ((7 : Int32) &&& 0x3f).toInt64))) (fun h => by rw [Bd.returns] at h; cases h)
        refine ⟨_, _, k179 _ (retOut X0 hx (t := .long) Bd.returns rfl (Or.inr (Or.inl ⟨rfl, rfl, _, rfl⟩)) (hb hby d2_155) hr), hrun, hended, _, _, rfl, ?_, ⟨_, rfl⟩, hW, hsame.mono (by decide) (by decide)⟩
        show Q_rm2 Z q1 h0 n0 _ s₁.heap _
        rw [e0]
        exact ⟨_, rfl, N0, rfl, hres⟩
    · have k180 : ∀ t, Steps p.tables e below (s₁.setTop (mkF m 18 #[.val (.long q1), .second, .unset, .unset, .unset, .unset, .unset, .unset, .unset] [])) t → Steps p.tables e below (s₁.setTop (entryFrame m #[(.long q1)] 9)) t := fun t k => k103 t (by
        show Steps p.tables e below (s₁.setTop (mkF m 15 #[.val (.long q1), .second, .unset, .unset, .unset, .unset, .unset, .unset, .unset] [(.int (lcmpW q1 (2147483648 : Int64)))])) _
        refine XS.ifNo X0.here hx rfl (hb hby d2_15) rfl ((if0 _ _).trans (flt (fun q => t8 (own_lt64' ((lw_lt _ _).mp q) (by decide)))).1) ?_
        exact k)
      have k181 : ∀ t, Steps p.tables e below (s₁.setTop (mkF m 124 #[.val (.long q1), .second, .val (.int (8 : Int32)), .val (.long (q1 >>> ((8 : Int32) &&& 0x3f).toInt64)), .second, .val (.long (q1 - ((q1 >>> ((8 : Int32) &&& 0x3f).toInt64) <<< ((8 : Int32) &&& 0x3f).toInt64))), .second, .val (.long ((1 : Int64) <<< ((7 : Int32) &&& 0x3f).toInt64)), .second] [])) t → Steps p.tables e below (s₁.setTop (entryFrame m #[(.long q1)] 9)) t := fun t k => k180 t (by
        show Steps p.tables e below (s₁.setTop (mkF m 18 #[.val (.long q1), .second, .unset, .unset, .unset, .unset, .unset, .unset, .unset] [])) _
        refine XS.bipush X0.here hx rfl (hb hby d2_18) ?_
        show Steps p.tables e below (s₁.setTop (mkF m 20 #[.val (.long q1), .second, .unset, .unset, .unset, .unset, .unset, .unset, .unset] [(.int (8 : Int32))])) _
        refine XS.istoreN X0.here hx rfl (hb hby d2_20) rfl (l' := #[.val (.long q1), .second, .val (.int (8 : Int32)), .unset, .unset, .unset, .unset, .unset, .unset]) rfl ?_
        show Steps p.tables e below (s₁.setTop (mkF m 21 #[.val (.long q1), .second, .val (.int (8 : Int32)), .unset, .unset, .unset, .unset, .unset, .unset] [])) _
        refine XS.goto X0.here hx rfl (pc0 := 21) (pc' := 106) rfl (hb hby d2_21) (by decide) (by decide) ?_
        show Steps p.tables e below (s₁.setTop (mkF m 106 #[.val (.long q1), .second, .val (.int (8 : Int32)), .unset, .unset, .unset, .unset, .unset, .unset] [])) _
        refine XS.lloadN X0.here hx rfl (hb hby d2_106) rfl ?_
        show Steps p.tables e below (s₁.setTop (mkF m 107 #[.val (.long q1), .second, .val (.int (8 : Int32)), .unset, .unset, .unset, .unset, .unset, .unset] [(.long q1)])) _
        refine XS.iloadN X0.here hx rfl (hb hby d2_107) rfl ?_
        show Steps p.tables e below (s₁.setTop (mkF m 108 #[.val (.long q1), .second, .val (.int (8 : Int32)), .unset, .unset, .unset, .unset, .unset, .unset] [(.int (8 : Int32)), (.long q1)])) _
        refine XS.lshr X0.here hx rfl (hb hby d2_108) rfl ?_
        show Steps p.tables e below (s₁.setTop (mkF m 109 #[.val (.long q1), .second, .val (.int (8 : Int32)), .unset, .unset, .unset, .unset, .unset, .unset] [(.long (q1 >>> ((8 : Int32) &&& 0x3f).toInt64))])) _
        refine XS.lstoreN X0.here hx rfl (hb hby d2_109) rfl (l' := #[.val (.long q1), .second, .val (.int (8 : Int32)), .val (.long (q1 >>> ((8 : Int32) &&& 0x3f).toInt64)), .second, .unset, .unset, .unset, .unset]) rfl ?_
        show Steps p.tables e below (s₁.setTop (mkF m 110 #[.val (.long q1), .second, .val (.int (8 : Int32)), .val (.long (q1 >>> ((8 : Int32) &&& 0x3f).toInt64)), .second, .unset, .unset, .unset, .unset] [])) _
        refine XS.lloadN X0.here hx rfl (hb hby d2_110) rfl ?_
        show Steps p.tables e below (s₁.setTop (mkF m 111 #[.val (.long q1), .second, .val (.int (8 : Int32)), .val (.long (q1 >>> ((8 : Int32) &&& 0x3f).toInt64)), .second, .unset, .unset, .unset, .unset] [(.long q1)])) _
        refine XS.lloadN X0.here hx rfl (hb hby d2_111) rfl ?_
        show Steps p.tables e below (s₁.setTop (mkF m 112 #[.val (.long q1), .second, .val (.int (8 : Int32)), .val (.long (q1 >>> ((8 : Int32) &&& 0x3f).toInt64)), .second, .unset, .unset, .unset, .unset] [(.long (q1 >>> ((8 : Int32) &&& 0x3f).toInt64)), (.long q1)])) _
        refine XS.iloadN X0.here hx rfl (hb hby d2_112) rfl ?_
        show Steps p.tables e below (s₁.setTop (mkF m 113 #[.val (.long q1), .second, .val (.int (8 : Int32)), .val (.long (q1 >>> ((8 : Int32) &&& 0x3f).toInt64)), .second, .unset, .unset, .unset, .unset] [(.int (8 : Int32)), (.long (q1 >>> ((8 : Int32) &&& 0x3f).toInt64)), (.long q1)])) _
        refine XS.lshl X0.here hx rfl (hb hby d2_113) rfl ?_
        show Steps p.tables e below (s₁.setTop (mkF m 114 #[.val (.long q1), .second, .val (.int (8 : Int32)), .val (.long (q1 >>> ((8 : Int32) &&& 0x3f).toInt64)), .second, .unset, .unset, .unset, .unset] [(.long ((q1 >>> ((8 : Int32) &&& 0x3f).toInt64) <<< ((8 : Int32) &&& 0x3f).toInt64)), (.long q1)])) _
        refine XS.lsub X0.here hx rfl (hb hby d2_114) rfl ?_
        show Steps p.tables e below (s₁.setTop (mkF m 115 #[.val (.long q1), .second, .val (.int (8 : Int32)), .val (.long (q1 >>> ((8 : Int32) &&& 0x3f).toInt64)), .second, .unset, .unset, .unset, .unset] [(.long (q1 - ((q1 >>> ((8 : Int32) &&& 0x3f).toInt64) <<< ((8 : Int32) &&& 0x3f).toInt64)))])) _
        refine XS.lstore X0.here hx rfl (hb hby d2_115) rfl (l' := #[.val (.long q1), .second, .val (.int (8 : Int32)), .val (.long (q1 >>> ((8 : Int32) &&& 0x3f).toInt64)), .second, .val (.long (q1 - ((q1 >>> ((8 : Int32) &&& 0x3f).toInt64) <<< ((8 : Int32) &&& 0x3f).toInt64))), .second, .unset, .unset]) rfl ?_
        show Steps p.tables e below (s₁.setTop (mkF m 117 #[.val (.long q1), .second, .val (.int (8 : Int32)), .val (.long (q1 >>> ((8 : Int32) &&& 0x3f).toInt64)), .second, .val (.long (q1 - ((q1 >>> ((8 : Int32) &&& 0x3f).toInt64) <<< ((8 : Int32) &&& 0x3f).toInt64))), .second, .unset, .unset] [])) _
        refine XS.lconst X0.here hx rfl (hb hby d2_117) ?_
        show Steps p.tables e below (s₁.setTop (mkF m 118 #[.val (.long q1), .second, .val (.int (8 : Int32)), .val (.long (q1 >>> ((8 : Int32) &&& 0x3f).toInt64)), .second, .val (.long (q1 - ((q1 >>> ((8 : Int32) &&& 0x3f).toInt64) <<< ((8 : Int32) &&& 0x3f).toInt64))), .second, .unset, .unset] [(.long (1 : Int64))])) _
        refine XS.iloadN X0.here hx rfl (hb hby d2_118) rfl ?_
        show Steps p.tables e below (s₁.setTop (mkF m 119 #[.val (.long q1), .second, .val (.int (8 : Int32)), .val (.long (q1 >>> ((8 : Int32) &&& 0x3f).toInt64)), .second, .val (.long (q1 - ((q1 >>> ((8 : Int32) &&& 0x3f).toInt64) <<< ((8 : Int32) &&& 0x3f).toInt64))), .second, .unset, .unset] [(.int (8 : Int32)), (.long (1 : Int64))])) _
        refine XS.iconst X0.here hx rfl (hb hby d2_119) ?_
        show Steps p.tables e below (s₁.setTop (mkF m 120 #[.val (.long q1), .second, .val (.int (8 : Int32)), .val (.long (q1 >>> ((8 : Int32) &&& 0x3f).toInt64)), .second, .val (.long (q1 - ((q1 >>> ((8 : Int32) &&& 0x3f).toInt64) <<< ((8 : Int32) &&& 0x3f).toInt64))), .second, .unset, .unset] [(.int (1 : Int32)), (.int (8 : Int32)), (.long (1 : Int64))])) _
        refine XS.isub X0.here hx rfl (hb hby d2_120) rfl ?_
        show Steps p.tables e below (s₁.setTop (mkF m 121 #[.val (.long q1), .second, .val (.int (8 : Int32)), .val (.long (q1 >>> ((8 : Int32) &&& 0x3f).toInt64)), .second, .val (.long (q1 - ((q1 >>> ((8 : Int32) &&& 0x3f).toInt64) <<< ((8 : Int32) &&& 0x3f).toInt64))), .second, .unset, .unset] [(.int ((8 : Int32) - (1 : Int32))), (.long (1 : Int64))])) _
        refine castTop (g' := (mkF m 121 #[.val (.long q1), .second, .val (.int (8 : Int32)), .val (.long (q1 >>> ((8 : Int32) &&& 0x3f).toInt64)), .second, .val (.long (q1 - ((q1 >>> ((8 : Int32) &&& 0x3f).toInt64) <<< ((8 : Int32) &&& 0x3f).toInt64))), .second, .unset, .unset] [(.int (7 : Int32)), (.long (1 : Int64))])) (by rw [show ((8 : Int32) - (1 : Int32)) = (7 : Int32) by decide]) ?_
        show Steps p.tables e below (s₁.setTop (mkF m 121 #[.val (.long q1), .second, .val (.int (8 : Int32)), .val (.long (q1 >>> ((8 : Int32) &&& 0x3f).toInt64)), .second, .val (.long (q1 - ((q1 >>> ((8 : Int32) &&& 0x3f).toInt64) <<< ((8 : Int32) &&& 0x3f).toInt64))), .second, .unset, .unset] [(.int (7 : Int32)), (.long (1 : Int64))])) _
        refine XS.lshl X0.here hx rfl (hb hby d2_121) rfl ?_
        show Steps p.tables e below (s₁.setTop (mkF m 122 #[.val (.long q1), .second, .val (.int (8 : Int32)), .val (.long (q1 >>> ((8 : Int32) &&& 0x3f).toInt64)), .second, .val (.long (q1 - ((q1 >>> ((8 : Int32) &&& 0x3f).toInt64) <<< ((8 : Int32) &&& 0x3f).toInt64))), .second, .unset, .unset] [(.long ((1 : Int64) <<< ((7 : Int32) &&& 0x3f).toInt64))])) _
        refine XS.lstore X0.here hx rfl (hb hby d2_122) rfl (l' := #[.val (.long q1), .second, .val (.int (8 : Int32)), .val (.long (q1 >>> ((8 : Int32) &&& 0x3f).toInt64)), .second, .val (.long (q1 - ((q1 >>> ((8 : Int32) &&& 0x3f).toInt64) <<< ((8 : Int32) &&& 0x3f).toInt64))), .second, .val (.long ((1 : Int64) <<< ((7 : Int32) &&& 0x3f).toInt64)), .second]) rfl ?_
        exact k)
      obtain ⟨qo8, eqo8⟩ : ∃ z : Int64, z = (q1 >>> ((8 : Int32) &&& 0x3f).toInt64) := ⟨_, rfl⟩
      obtain ⟨ro8, ero8⟩ : ∃ z : Int64, z = (q1 - ((q1 >>> ((8 : Int32) &&& 0x3f).toInt64) <<< ((8 : Int32) &&& 0x3f).toInt64)) := ⟨_, rfl⟩
      obtain ⟨ho8, eho8⟩ : ∃ z : Int64, z = ((1 : Int64) <<< ((7 : Int32) &&& 0x3f).toInt64) := ⟨_, rfl⟩
      have k182 : ∀ t, Steps p.tables e below (s₁.setTop (mkF m 124 #[.val (.long q1), .second, .val (.int (8 : Int32)), .val (.long qo8), .second, .val (.long ro8), .second, .val (.long ho8), .second] [])) t → Steps p.tables e below (s₁.setTop (entryFrame m #[(.long q1)] 9)) t := fun t k => k181 t (by
        show Steps p.tables e below (s₁.setTop (mkF m 124 #[.val (.long q1), .second, .val (.int (8 : Int32)), .val (.long (q1 >>> ((8 : Int32) &&& 0x3f).toInt64)), .second, .val (.long (q1 - ((q1 >>> ((8 : Int32) &&& 0x3f).toInt64) <<< ((8 : Int32) &&& 0x3f).toInt64))), .second, .val (.long ((1 : Int64) <<< ((7 : Int32) &&& 0x3f).toInt64)), .second] [])) _
        refine castTop (g' := (mkF m 124 #[.val (.long q1), .second, .val (.int (8 : Int32)), .val (.long qo8), .second, .val (.long ro8), .second, .val (.long ho8), .second] [])) (by rw [ero8, eqo8, eho8]) ?_
        exact k)
      have k183 : ∀ t, Steps p.tables e below (s₁.setTop (mkF m 129 #[.val (.long q1), .second, .val (.int (8 : Int32)), .val (.long qo8), .second, .val (.long ro8), .second, .val (.long ho8), .second] [(.int (lcmpW ro8 ho8))])) t → Steps p.tables e below (s₁.setTop (entryFrame m #[(.long q1)] 9)) t := fun t k => k182 t (by
        show Steps p.tables e below (s₁.setTop (mkF m 124 #[.val (.long q1), .second, .val (.int (8 : Int32)), .val (.long qo8), .second, .val (.long ro8), .second, .val (.long ho8), .second] [])) _
        refine XS.lload X0.here hx rfl (hb hby d2_124) rfl ?_
        show Steps p.tables e below (s₁.setTop (mkF m 126 #[.val (.long q1), .second, .val (.int (8 : Int32)), .val (.long qo8), .second, .val (.long ro8), .second, .val (.long ho8), .second] [(.long ro8)])) _
        refine XS.lload X0.here hx rfl (hb hby d2_126) rfl ?_
        show Steps p.tables e below (s₁.setTop (mkF m 128 #[.val (.long q1), .second, .val (.int (8 : Int32)), .val (.long qo8), .second, .val (.long ro8), .second, .val (.long ho8), .second] [(.long ho8), (.long ro8)])) _
        refine XS.lcmp X0.here hx rfl (hb hby d2_128) rfl ?_
        exact k)
      obtain ⟨j187, hj187⟩ : ∃ z : Int64, z = (if (0 : Int32) < (lcmpW ro8 ho8) then (qo8 + (1 : Int64)) else (if (lcmpW ro8 ho8) = (0 : Int32) then (if (lcmpW (qo8 &&& (1 : Int64)) (1 : Int64)) = (0 : Int32) then (qo8 + (1 : Int64)) else qo8) else qo8)) := ⟨_, rfl⟩
      have k188 : ∀ t, Steps p.tables e below (s₁.setTop (mkF m 152 #[.val (.long q1), .second, .val (.int (8 : Int32)), .val (.long j187), .second, .val (.long ro8), .second, .val (.long ho8), .second] [])) t → Steps p.tables e below (s₁.setTop (entryFrame m #[(.long q1)] 9)) t := fun t k => k183 t (by
        by_cases c184 : (0 : Int32) < (lcmpW ro8 ho8)
        · rw [if_pos c184] at hj187
          show Steps p.tables e below (s₁.setTop (mkF m 129 #[.val (.long q1), .second, .val (.int (8 : Int32)), .val (.long qo8), .second, .val (.long ro8), .second, .val (.long ho8), .second] [(.int (lcmpW ro8 ho8))])) _
          refine XS.ifYes X0.here hx rfl (pc0 := 129) (pc' := 148) rfl (hb hby d2_129) rfl ((if0 _ _).trans (tlt c184).2.2.1) (by decide) (by decide) ?_
          show Steps p.tables e below (s₁.setTop (mkF m 148 #[.val (.long q1), .second, .val (.int (8 : Int32)), .val (.long qo8), .second, .val (.long ro8), .second, .val (.long ho8), .second] [])) _
          refine XS.lloadN X0.here hx rfl (hb hby d2_148) rfl ?_
          show Steps p.tables e below (s₁.setTop (mkF m 149 #[.val (.long q1), .second, .val (.int (8 : Int32)), .val (.long qo8), .second, .val (.long ro8), .second, .val (.long ho8), .second] [(.long qo8)])) _
          refine XS.lconst X0.here hx rfl (hb hby d2_149) ?_
          show Steps p.tables e below (s₁.setTop (mkF m 150 #[.val (.long q1), .second, .val (.int (8 : Int32)), .val (.long qo8), .second, .val (.long ro8), .second, .val (.long ho8), .second] [(.long (1 : Int64)), (.long qo8)])) _
          refine XS.ladd X0.here hx rfl (hb hby d2_150) rfl ?_
          show Steps p.tables e below (s₁.setTop (mkF m 151 #[.val (.long q1), .second, .val (.int (8 : Int32)), .val (.long qo8), .second, .val (.long ro8), .second, .val (.long ho8), .second] [(.long (qo8 + (1 : Int64)))])) _
          refine XS.lstoreN X0.here hx rfl (hb hby d2_151) rfl (l' := #[.val (.long q1), .second, .val (.int (8 : Int32)), .val (.long (qo8 + (1 : Int64))), .second, .val (.long ro8), .second, .val (.long ho8), .second]) rfl ?_
          show Steps p.tables e below (s₁.setTop (mkF m 152 #[.val (.long q1), .second, .val (.int (8 : Int32)), .val (.long (qo8 + (1 : Int64))), .second, .val (.long ro8), .second, .val (.long ho8), .second] [])) _
          exact castTop (by rw [hj187]) k
        · rw [if_neg c184] at hj187
          show Steps p.tables e below (s₁.setTop (mkF m 129 #[.val (.long q1), .second, .val (.int (8 : Int32)), .val (.long qo8), .second, .val (.long ro8), .second, .val (.long ho8), .second] [(.int (lcmpW ro8 ho8))])) _
          refine XS.ifNo X0.here hx rfl (hb hby d2_129) rfl ((if0 _ _).trans (flt c184).2.2.1) ?_
          show Steps p.tables e below (s₁.setTop (mkF m 132 #[.val (.long q1), .second, .val (.int (8 : Int32)), .val (.long qo8), .second, .val (.long ro8), .second, .val (.long ho8), .second] [])) _
          refine XS.lload X0.here hx rfl (hb hby d2_132) rfl ?_
          show Steps p.tables e below (s₁.setTop (mkF m 134 #[.val (.long q1), .second, .val (.int (8 : Int32)), .val (.long qo8), .second, .val (.long ro8), .second, .val (.long ho8), .second] [(.long ro8)])) _
          refine XS.lload X0.here hx rfl (hb hby d2_134) rfl ?_
          show Steps p.tables e below (s₁.setTop (mkF m 136 #[.val (.long q1), .second, .val (.int (8 : Int32)), .val (.long qo8), .second, .val (.long ro8), .second, .val (.long ho8), .second] [(.long ho8), (.long ro8)])) _
          refine XS.lcmp X0.here hx rfl (hb hby d2_136) rfl ?_
          by_cases c185 : (lcmpW ro8 ho8) = (0 : Int32)
          · rw [if_pos c185] at hj187
            show Steps p.tables e below (s₁.setTop (mkF m 137 #[.val (.long q1), .second, .val (.int (8 : Int32)), .val (.long qo8), .second, .val (.long ro8), .second, .val (.long ho8), .second] [(.int (lcmpW ro8 ho8))])) _
            refine XS.ifNo X0.here hx rfl (hb hby d2_137) rfl ((if0 _ _).trans (teq c185).2) ?_
            show Steps p.tables e below (s₁.setTop (mkF m 140 #[.val (.long q1), .second, .val (.int (8 : Int32)), .val (.long qo8), .second, .val (.long ro8), .second, .val (.long ho8), .second] [])) _
            refine XS.lloadN X0.here hx rfl (hb hby d2_140) rfl ?_
            show Steps p.tables e below (s₁.setTop (mkF m 141 #[.val (.long q1), .second, .val (.int (8 : Int32)), .val (.long qo8), .second, .val (.long ro8), .second, .val (.long ho8), .second] [(.long qo8)])) _
            refine XS.lconst X0.here hx rfl (hb hby d2_141) ?_
            show Steps p.tables e below (s₁.setTop (mkF m 142 #[.val (.long q1), .second, .val (.int (8 : Int32)), .val (.long qo8), .second, .val (.long ro8), .second, .val (.long ho8), .second] [(.long (1 : Int64)), (.long qo8)])) _
            refine XS.land X0.here hx rfl (hb hby d2_142) rfl ?_
            show Steps p.tables e below (s₁.setTop (mkF m 143 #[.val (.long q1), .second, .val (.int (8 : Int32)), .val (.long qo8), .second, .val (.long ro8), .second, .val (.long ho8), .second] [(.long (qo8 &&& (1 : Int64)))])) _
            refine XS.lconst X0.here hx rfl (hb hby d2_143) ?_
            show Steps p.tables e below (s₁.setTop (mkF m 144 #[.val (.long q1), .second, .val (.int (8 : Int32)), .val (.long qo8), .second, .val (.long ro8), .second, .val (.long ho8), .second] [(.long (1 : Int64)), (.long (qo8 &&& (1 : Int64)))])) _
            refine XS.lcmp X0.here hx rfl (hb hby d2_144) rfl ?_
            by_cases c186 : (lcmpW (qo8 &&& (1 : Int64)) (1 : Int64)) = (0 : Int32)
            · rw [if_pos c186] at hj187
              show Steps p.tables e below (s₁.setTop (mkF m 145 #[.val (.long q1), .second, .val (.int (8 : Int32)), .val (.long qo8), .second, .val (.long ro8), .second, .val (.long ho8), .second] [(.int (lcmpW (qo8 &&& (1 : Int64)) (1 : Int64)))])) _
              refine XS.ifNo X0.here hx rfl (hb hby d2_145) rfl ((if0 _ _).trans (teq c186).2) ?_
              show Steps p.tables e below (s₁.setTop (mkF m 148 #[.val (.long q1), .second, .val (.int (8 : Int32)), .val (.long qo8), .second, .val (.long ro8), .second, .val (.long ho8), .second] [])) _
              refine XS.lloadN X0.here hx rfl (hb hby d2_148) rfl ?_
              show Steps p.tables e below (s₁.setTop (mkF m 149 #[.val (.long q1), .second, .val (.int (8 : Int32)), .val (.long qo8), .second, .val (.long ro8), .second, .val (.long ho8), .second] [(.long qo8)])) _
              refine XS.lconst X0.here hx rfl (hb hby d2_149) ?_
              show Steps p.tables e below (s₁.setTop (mkF m 150 #[.val (.long q1), .second, .val (.int (8 : Int32)), .val (.long qo8), .second, .val (.long ro8), .second, .val (.long ho8), .second] [(.long (1 : Int64)), (.long qo8)])) _
              refine XS.ladd X0.here hx rfl (hb hby d2_150) rfl ?_
              show Steps p.tables e below (s₁.setTop (mkF m 151 #[.val (.long q1), .second, .val (.int (8 : Int32)), .val (.long qo8), .second, .val (.long ro8), .second, .val (.long ho8), .second] [(.long (qo8 + (1 : Int64)))])) _
              refine XS.lstoreN X0.here hx rfl (hb hby d2_151) rfl (l' := #[.val (.long q1), .second, .val (.int (8 : Int32)), .val (.long (qo8 + (1 : Int64))), .second, .val (.long ro8), .second, .val (.long ho8), .second]) rfl ?_
              show Steps p.tables e below (s₁.setTop (mkF m 152 #[.val (.long q1), .second, .val (.int (8 : Int32)), .val (.long (qo8 + (1 : Int64))), .second, .val (.long ro8), .second, .val (.long ho8), .second] [])) _
              exact castTop (by rw [hj187]) k
            · rw [if_neg c186] at hj187
              show Steps p.tables e below (s₁.setTop (mkF m 145 #[.val (.long q1), .second, .val (.int (8 : Int32)), .val (.long qo8), .second, .val (.long ro8), .second, .val (.long ho8), .second] [(.int (lcmpW (qo8 &&& (1 : Int64)) (1 : Int64)))])) _
              refine XS.ifYes X0.here hx rfl (pc0 := 145) (pc' := 152) rfl (hb hby d2_145) rfl ((if0 _ _).trans (feq c186).2) (by decide) (by decide) ?_
              show Steps p.tables e below (s₁.setTop (mkF m 152 #[.val (.long q1), .second, .val (.int (8 : Int32)), .val (.long qo8), .second, .val (.long ro8), .second, .val (.long ho8), .second] [])) _
              exact castTop (by rw [hj187]) k
          · rw [if_neg c185] at hj187
            show Steps p.tables e below (s₁.setTop (mkF m 137 #[.val (.long q1), .second, .val (.int (8 : Int32)), .val (.long qo8), .second, .val (.long ro8), .second, .val (.long ho8), .second] [(.int (lcmpW ro8 ho8))])) _
            refine XS.ifYes X0.here hx rfl (pc0 := 137) (pc' := 152) rfl (hb hby d2_137) rfl ((if0 _ _).trans (feq c185).2) (by decide) (by decide) ?_
            show Steps p.tables e below (s₁.setTop (mkF m 152 #[.val (.long q1), .second, .val (.int (8 : Int32)), .val (.long qo8), .second, .val (.long ro8), .second, .val (.long ho8), .second] [])) _
            exact castTop (by rw [hj187]) k)
      have hres := own_mag8 hbq c1 t8 eqo8 ero8 eho8 hj187
      have k189 : ∀ t, Steps p.tables e below (s₁.setTop (mkF m 155 #[.val (.long q1), .second, .val (.int (8 : Int32)), .val (.long j187), .second, .val (.long ro8), .second, .val (.long ho8), .second] [(.long (j187 <<< ((8 : Int32) &&& 0x3f).toInt64))])) t → Steps p.tables e below (s₁.setTop (entryFrame m #[(.long q1)] 9)) t := fun t k => k188 t (by
        show Steps p.tables e below (s₁.setTop (mkF m 152 #[.val (.long q1), .second, .val (.int (8 : Int32)), .val (.long j187), .second, .val (.long ro8), .second, .val (.long ho8), .second] [])) _
        refine XS.lloadN X0.here hx rfl (hb hby d2_152) rfl ?_
        show Steps p.tables e below (s₁.setTop (mkF m 153 #[.val (.long q1), .second, .val (.int (8 : Int32)), .val (.long j187), .second, .val (.long ro8), .second, .val (.long ho8), .second] [(.long j187)])) _
        refine XS.iloadN X0.here hx rfl (hb hby d2_153) rfl ?_
        show Steps p.tables e below (s₁.setTop (mkF m 154 #[.val (.long q1), .second, .val (.int (8 : Int32)), .val (.long j187), .second, .val (.long ro8), .second, .val (.long ho8), .second] [(.int (8 : Int32)), (.long j187)])) _
        refine XS.lshl X0.here hx rfl (hb hby d2_154) rfl ?_
        exact k)
      obtain ⟨fs, hr, hrun, hended, hW, hsame⟩ := X0.leave (v := some (.long (j187 <<< ((8 : Int32) &&& 0x3f).toInt64))) (fun h => by rw [Bd.returns] at h; cases h)
      refine ⟨_, _, k189 _ (retOut X0 hx (t := .long) Bd.returns rfl (Or.inr (Or.inl ⟨rfl, rfl, _, rfl⟩)) (hb hby d2_155) hr), hrun, hended, _, _, rfl, ?_, ⟨_, rfl⟩, hW, hsame.mono (by decide) (by decide)⟩
      show Q_rm2 Z q1 h0 n0 _ s₁.heap _
      rw [e0]
      exact ⟨_, rfl, N0, rfl, hres⟩
theorem ef_1_J (m : MethodId) (x0 : Int64) : entryFrame m #[(.long x0)] 2 = mkF m 0 #[.val (.long x0), .second] [] := by first | (simp [entryFrame, mkF, argsToLocals, Value.category]; done) | rfl
theorem d1_0 : decode method_3_code 0 = .ok (.lload_n 0, 1) := by decide +kernel
theorem d1_1 : decode method_3_code 1 = .ok (.lconst 0, 1) := by decide +kernel
theorem d1_2 : decode method_3_code 2 = .ok (.lcmp, 1) := by decide +kernel
theorem d1_3 : decode method_3_code 3 = .ok (.ifCond .ge 10, 3) := by decide +kernel
theorem d1_6 : decode method_3_code 6 = .ok (.lload_n 0, 1) := by decide +kernel
theorem d1_7 : decode method_3_code 7 = .ok (.lneg, 1) := by decide +kernel
theorem d1_8 : decode method_3_code 8 = .ok (.invokestatic 19, 3) := by decide +kernel
theorem pd__28J_29J : parseMethodDescriptor "(J)J" = some ⟨[.long], some .long⟩ := by decide +kernel
theorem d1_11 : decode method_3_code 11 = .ok (.lneg, 1) := by decide +kernel
theorem d1_12 : decode method_3_code 12 = .ok (.lreturn, 1) := by decide +kernel
theorem d1_13 : decode method_3_code 13 = .ok (.lload_n 0, 1) := by decide +kernel
theorem d1_14 : decode method_3_code 14 = .ok (.invokestatic 19, 3) := by decide +kernel
theorem d1_17 : decode method_3_code 17 = .ok (.lreturn, 1) := by decide +kernel
def Q_rm1 (Z : State) (q1 : Int64) (h0 : Heap) (n0 : Nat) (v : Option Value) (h : Heap) (L : List Loc) : Prop := ∃ r : Int64, v = some (.long r) ∧ Fr n0 L ∧ h = h0 ∧ r.toInt = own_rtf q1.toInt
set_option maxRecDepth 65536 in
set_option maxHeartbeats 40000000 in
theorem rm1 (l : Launch) (Z : State) (a0 : Array Value) (hw : ∀ d ∈ tables_1, d.before a0 Z = true) (ws : List Jvm.Cond) (q1 : Int64) (h0 : Heap) (n0 : Nat) (Z0 : n0 ≤ h0.size) (hbq : -2147483648 ≤ q1.toInt ∧ q1.toInt ≤ 2147483648) :
    MetFree l (⟨"com/example/multinomial/multinomial/search/RankOrderCompareScoresPinLaw", "roundToFloat", "(J)J"⟩ : MethodName) (head1 (Jvm.Cond.code (⟨"com/example/multinomial/multinomial/search/RankOrderCompareScoresPinLaw", "roundToFloat", "(J)J"⟩ : MethodName) method_3_code 2 (some .long) :: ws) ({ frames := 1, cells := 0, slots := 0, locals := 20 } : Room)) (fun a U => a = #[(.long q1)] ∧ Z.Warmed39 U.vm ∧ U.heap = h0) (fun _ _ _ _ _ => True) (fun _ U o U' => ∃ v L, o = .returned v ∧ Q_rm1 Z q1 h0 n0 v U'.heap L ∧ FrameEnd U o U' L ({ frames := 1, cells := 0, slots := 0, locals := 20 } : Room).cells ({ frames := 1, cells := 0, slots := 0, locals := 20 } : Room).slots) := by
  refine MetFree.of_bodySF (plainFor_of_name pn_com_2fexample_2fmultinomial_2fmultinomial_2fsearch_2fRankOrderCompareScoresPinLaw) hisR ?_
  intro p e s m args below meth c s₁ Bd hml0 hP hK
  obtain ⟨rfl, hZ, hh⟩ := hP
  have hx := Bd.exec
  have hby := Bd.bytes
  have hml : c.maxLocals = 2 := hml0
  have hown : s.vm.findClass "com/example/multinomial/multinomial/search/RankOrderCompareScoresPinLaw" = some m.cls := findClass_of_methodNamed Bd.named
  have hnm := (name_of_methodNamed Bd.named Bd.method).1
  have X0 : Stand p l e ({ frames := 1, cells := 0, slots := 0, locals := 20 } : Room) s m #[(.long q1)] below meth c s₁ [] 0 0 := Stand.of_body Bd
  have e0 : s₁.heap = h0 := by rw [← hh, Bd.state]; rfl
  have N0 := Fr.nil n0
  have k0 : ∀ t, Steps p.tables e below (s₁.setTop (mkF m 0 #[.val (.long q1), .second] [])) t → Steps p.tables e below (s₁.setTop (entryFrame m #[(.long q1)] 2)) t := fun t k => castTop (ef_1_J m q1) k
  have k101 : ∀ t, Steps p.tables e below (s₁.setTop (mkF m 3 #[.val (.long q1), .second] [(.int (lcmpW q1 (0 : Int64)))])) t → Steps p.tables e below (s₁.setTop (entryFrame m #[(.long q1)] 2)) t := fun t k => k0 t (by
    show Steps p.tables e below (s₁.setTop (mkF m 0 #[.val (.long q1), .second] [])) _
    refine XS.lloadN X0.here hx rfl (hb hby d1_0) rfl ?_
    show Steps p.tables e below (s₁.setTop (mkF m 1 #[.val (.long q1), .second] [(.long q1)])) _
    refine XS.lconst X0.here hx rfl (hb hby d1_1) ?_
    show Steps p.tables e below (s₁.setTop (mkF m 2 #[.val (.long q1), .second] [(.long (0 : Int64)), (.long q1)])) _
    refine XS.lcmp X0.here hx rfl (hb hby d1_2) rfl ?_
    exact k)
  by_cases c1 : q1.toInt < 0
  · have k102 : ∀ t, Steps p.tables e below (s₁.setTop (mkF m 8 #[.val (.long q1), .second] [(.long (-q1))])) t → Steps p.tables e below (s₁.setTop (entryFrame m #[(.long q1)] 2)) t := fun t k => k101 t (by
      show Steps p.tables e below (s₁.setTop (mkF m 3 #[.val (.long q1), .second] [(.int (lcmpW q1 (0 : Int64)))])) _
      refine XS.ifNo X0.here hx rfl (hb hby d1_3) rfl ((if0 _ _).trans (tlt ((lw_lt _ _).mpr (own_lt64 c1 (by decide)))).2.1) ?_
      show Steps p.tables e below (s₁.setTop (mkF m 6 #[.val (.long q1), .second] [])) _
      refine XS.lloadN X0.here hx rfl (hb hby d1_6) rfl ?_
      show Steps p.tables e below (s₁.setTop (mkF m 7 #[.val (.long q1), .second] [(.long q1)])) _
      refine XS.lneg X0.here hx rfl (hb hby d1_7) rfl ?_
      exact k)
    obtain ⟨_, _, ⟨T103, L103, k103, n103⟩, -, X103, ⟨Lc103, hQ103, l103, y103, z103⟩, st103⟩ := Jvm.LawKit.callS X0 hx (y := (⟨"com/example/multinomial/multinomial/search/RankOrderCompareScoresPinLaw", "roundMagnitude", "(J)J"⟩ : MethodName)) hown (mvT hZ (hw _ (List.mem_of_getElem? (i := 4) rfl))) (mvT hZ (hw _ (List.mem_of_getElem? (i := 5) rfl))) (mvT hZ (hw _ (List.mem_of_getElem? (i := 2) rfl))) (mvT hZ (hw _ (List.mem_of_getElem? (i := 6) rfl))) (by decide) (backOf (W := 0) (rm2 l Z a0 hw [] (-q1) h0 n0 Z0 (own_neg hbq c1)) hZ (hw _ (List.mem_of_getElem? (i := 6) rfl)) (hw _ (List.mem_of_getElem? (i := 2) rfl)) (by decide) (by decide)) (g := (mkF m 8 #[.val (.long q1), .second] [(.long (-q1))])) rfl (by rw [hml]; rfl) (argsL := [(.long (-q1))]) (rest := []) (lenOf pd__28J_29J rfl) rfl (by show 2 * 0 + _ ≤ _; exact Nat.le_of_eq rfl) (hb hby d1_8) (fun _ _ => ⟨rfl, e0, (by decide : 0 + 0 ≤ _), (by decide : 0 + 0 ≤ _)⟩)
    dsimp only [Pt.U, Pt.locs, Pt.cells, Pt.slots] at X103 l103 y103 z103 st103 hQ103
    subst l103 y103 z103
    obtain ⟨h103, e103⟩ : ∃ h', T103.heap = h' := ⟨_, rfl⟩
    rw [e103] at hQ103
    obtain ⟨r103, rfl, N103q, eh103, hr103⟩ := hQ103
    have N104 := Fr.app N0 N103q
    have k105 : ∀ t, Steps p.tables e below (T103.setTop (mkF m 11 #[.val (.long q1), .second] [(.long r103)])) t → Steps p.tables e below (s₁.setTop (entryFrame m #[(.long q1)] 2)) t := fun t k => k102 t (st103 t k)
    rw [eh103] at e103
    have k106 : ∀ t, Steps p.tables e below (T103.setTop (mkF m 12 #[.val (.long q1), .second] [(.long (-r103))])) t → Steps p.tables e below (s₁.setTop (entryFrame m #[(.long q1)] 2)) t := fun t k => k105 t (by
      show Steps p.tables e below (T103.setTop (mkF m 11 #[.val (.long q1), .second] [(.long r103)])) _
      refine XS.lneg X103.here hx rfl (hb hby d1_11) rfl ?_
      exact k)
    obtain ⟨fs, hr, hrun, hended, hW, hsame⟩ := X103.leave (v := some (.long (-r103))) (fun h => by rw [Bd.returns] at h; cases h)
    refine ⟨_, _, k106 _ (retOut X103 hx (t := .long) Bd.returns rfl (Or.inr (Or.inl ⟨rfl, rfl, _, rfl⟩)) (hb hby d1_12) hr), hrun, hended, _, _, rfl, ?_, ⟨_, rfl⟩, hW, hsame.mono (by decide) (by decide)⟩
    show Q_rm1 Z q1 h0 n0 _ T103.heap _
    rw [e103]
    exact ⟨_, rfl, N104, rfl, own_rtf_neg hbq c1 hr103⟩
  · have k107 : ∀ t, Steps p.tables e below (s₁.setTop (mkF m 14 #[.val (.long q1), .second] [(.long q1)])) t → Steps p.tables e below (s₁.setTop (entryFrame m #[(.long q1)] 2)) t := fun t k => k101 t (by
      show Steps p.tables e below (s₁.setTop (mkF m 3 #[.val (.long q1), .second] [(.int (lcmpW q1 (0 : Int64)))])) _
      refine XS.ifYes X0.here hx rfl (pc0 := 3) (pc' := 13) rfl (hb hby d1_3) rfl ((if0 _ _).trans (flt (fun q => c1 (own_lt64' ((lw_lt _ _).mp q) (by decide)))).2.1) (by decide) (by decide) ?_
      show Steps p.tables e below (s₁.setTop (mkF m 13 #[.val (.long q1), .second] [])) _
      refine XS.lloadN X0.here hx rfl (hb hby d1_13) rfl ?_
      exact k)
    obtain ⟨_, _, ⟨T108, L108, k108, n108⟩, -, X108, ⟨Lc108, hQ108, l108, y108, z108⟩, st108⟩ := Jvm.LawKit.callS X0 hx (y := (⟨"com/example/multinomial/multinomial/search/RankOrderCompareScoresPinLaw", "roundMagnitude", "(J)J"⟩ : MethodName)) hown (mvT hZ (hw _ (List.mem_of_getElem? (i := 4) rfl))) (mvT hZ (hw _ (List.mem_of_getElem? (i := 5) rfl))) (mvT hZ (hw _ (List.mem_of_getElem? (i := 2) rfl))) (mvT hZ (hw _ (List.mem_of_getElem? (i := 6) rfl))) (by decide) (backOf (W := 0) (rm2 l Z a0 hw [] q1 h0 n0 Z0 ⟨by omega, hbq.2⟩) hZ (hw _ (List.mem_of_getElem? (i := 6) rfl)) (hw _ (List.mem_of_getElem? (i := 2) rfl)) (by decide) (by decide)) (g := (mkF m 14 #[.val (.long q1), .second] [(.long q1)])) rfl (by rw [hml]; rfl) (argsL := [(.long q1)]) (rest := []) (lenOf pd__28J_29J rfl) rfl (by show 2 * 0 + _ ≤ _; exact Nat.le_of_eq rfl) (hb hby d1_14) (fun _ _ => ⟨rfl, e0, (by decide : 0 + 0 ≤ _), (by decide : 0 + 0 ≤ _)⟩)
    dsimp only [Pt.U, Pt.locs, Pt.cells, Pt.slots] at X108 l108 y108 z108 st108 hQ108
    subst l108 y108 z108
    obtain ⟨h108, e108⟩ : ∃ h', T108.heap = h' := ⟨_, rfl⟩
    rw [e108] at hQ108
    obtain ⟨r108, rfl, N108q, eh108, hr108⟩ := hQ108
    have N109 := Fr.app N0 N108q
    have k110 : ∀ t, Steps p.tables e below (T108.setTop (mkF m 17 #[.val (.long q1), .second] [(.long r108)])) t → Steps p.tables e below (s₁.setTop (entryFrame m #[(.long q1)] 2)) t := fun t k => k107 t (st108 t k)
    rw [eh108] at e108
    obtain ⟨fs, hr, hrun, hended, hW, hsame⟩ := X108.leave (v := some (.long r108)) (fun h => by rw [Bd.returns] at h; cases h)
    refine ⟨_, _, k110 _ (retOut X108 hx (t := .long) Bd.returns rfl (Or.inr (Or.inl ⟨rfl, rfl, _, rfl⟩)) (hb hby d1_17) hr), hrun, hended, _, _, rfl, ?_, ⟨_, rfl⟩, hW, hsame.mono (by decide) (by decide)⟩
    show Q_rm1 Z q1 h0 n0 _ T108.heap _
    rw [e108]
    exact ⟨_, rfl, N109, rfl, own_rtf_pos c1 hr108⟩
theorem ef_3_DD (m : MethodId) (x0 : UInt64) (x1 : UInt64) : entryFrame m #[(.double x0), (.double x1)] 7 = mkF m 0 #[.val (.double x0), .second, .val (.double x1), .second, .unset, .unset, .unset] [] := by first | (simp [entryFrame, mkF, argsToLocals, Value.category]; done) | rfl
theorem d3_0 : decode prog_42_method_2_code 0 = .ok (.dload_n 0, 1) := by decide +kernel
theorem d3_1 : decode prog_42_method_2_code 1 = .ok (.d2f, 1) := by decide +kernel
theorem d3_2 : decode prog_42_method_2_code 2 = .ok (.fstore 4, 2) := by decide +kernel
theorem d3_4 : decode prog_42_method_2_code 4 = .ok (.dload_n 2, 1) := by decide +kernel
theorem d3_5 : decode prog_42_method_2_code 5 = .ok (.d2f, 1) := by decide +kernel
theorem d3_6 : decode prog_42_method_2_code 6 = .ok (.fstore 5, 2) := by decide +kernel
theorem d3_8 : decode prog_42_method_2_code 8 = .ok (.fload 4, 2) := by decide +kernel
theorem d3_10 : decode prog_42_method_2_code 10 = .ok (.fload 5, 2) := by decide +kernel
theorem d3_12 : decode prog_42_method_2_code 12 = .ok (.fcmp .l, 1) := by decide +kernel
theorem d3_13 : decode prog_42_method_2_code 13 = .ok (.ifCond .le 9, 3) := by decide +kernel
theorem d3_16 : decode prog_42_method_2_code 16 = .ok (.iconst (-1), 1) := by decide +kernel
theorem d3_17 : decode prog_42_method_2_code 17 = .ok (.istore 6, 2) := by decide +kernel
theorem d3_19 : decode prog_42_method_2_code 19 = .ok (.goto 20, 3) := by decide +kernel
theorem d3_22 : decode prog_42_method_2_code 22 = .ok (.fload 4, 2) := by decide +kernel
theorem d3_24 : decode prog_42_method_2_code 24 = .ok (.fload 5, 2) := by decide +kernel
theorem d3_26 : decode prog_42_method_2_code 26 = .ok (.fcmp .g, 1) := by decide +kernel
theorem d3_27 : decode prog_42_method_2_code 27 = .ok (.ifCond .ge 9, 3) := by decide +kernel
theorem d3_30 : decode prog_42_method_2_code 30 = .ok (.iconst 1, 1) := by decide +kernel
theorem d3_31 : decode prog_42_method_2_code 31 = .ok (.istore 6, 2) := by decide +kernel
theorem d3_33 : decode prog_42_method_2_code 33 = .ok (.goto 6, 3) := by decide +kernel
theorem d3_36 : decode prog_42_method_2_code 36 = .ok (.iconst 0, 1) := by decide +kernel
theorem d3_37 : decode prog_42_method_2_code 37 = .ok (.istore 6, 2) := by decide +kernel
theorem d3_39 : decode prog_42_method_2_code 39 = .ok (.iload 6, 2) := by decide +kernel
theorem d3_41 : decode prog_42_method_2_code 41 = .ok (.ireturn, 1) := by decide +kernel
def Q_rm3 (Z : State) (u1 : UInt64) (u2 : UInt64) (h0 : Heap) (n0 : Nat) (v : Option Value) (h : Heap) (L : List Loc) : Prop := v = some (.int (if (0 : Int32) < (cmpValue (FP.fcmp (FP.d2f u1) (FP.d2f u2)) .l) then (-1 : Int32) else (if (cmpValue (FP.fcmp (FP.d2f u1) (FP.d2f u2)) .g) < (0 : Int32) then (1 : Int32) else (0 : Int32)))) ∧ Fr n0 L ∧ h = h0
theorem pn_com_2fexample_2fmultinomial_2fmultinomial_2fsearch_2fRankOrder : plainName "com/example/multinomial/multinomial/search/RankOrder" = true := by first | (simp [plainName, overriddenIn]; done) | decide +kernel
set_option maxRecDepth 65536 in
set_option maxHeartbeats 40000000 in
theorem rm3 (l : Launch) (Z : State) (a0 : Array Value) (hw : ∀ d ∈ tables_1, d.before a0 Z = true) (ws : List Jvm.Cond) (u1 : UInt64) (u2 : UInt64) (h0 : Heap) (n0 : Nat) (Z0 : n0 ≤ h0.size) (nn1 : Jvm.Free.Fl.NoNaN32 (FP.d2f u1)) (nn5 : Jvm.Free.Fl.NoNaN32 (FP.d2f u2)) :
    MetFree l (⟨"com/example/multinomial/multinomial/search/RankOrder", "compareScores", "(DD)I"⟩ : MethodName) (head1 (Jvm.Cond.code (⟨"com/example/multinomial/multinomial/search/RankOrder", "compareScores", "(DD)I"⟩ : MethodName) prog_42_method_2_code 7 (some .int) :: ws) ({ frames := 0, cells := 0, slots := 0, locals := 0 } : Room)) (fun a U => a = #[(.double u1), (.double u2)] ∧ Z.Warmed39 U.vm ∧ U.heap = h0) (fun _ _ _ _ _ => True) (fun _ U o U' => ∃ v L, o = .returned v ∧ Q_rm3 Z u1 u2 h0 n0 v U'.heap L ∧ FrameEnd U o U' L ({ frames := 0, cells := 0, slots := 0, locals := 0 } : Room).cells ({ frames := 0, cells := 0, slots := 0, locals := 0 } : Room).slots) := by
  refine MetFree.of_bodySF (plainFor_of_name pn_com_2fexample_2fmultinomial_2fmultinomial_2fsearch_2fRankOrder) hisR ?_
  intro p e s m args below meth c s₁ Bd hml0 hP hK
  obtain ⟨rfl, hZ, hh⟩ := hP
  have hx := Bd.exec
  have hby := Bd.bytes
  have hml : c.maxLocals = 7 := hml0
  have hown : s.vm.findClass "com/example/multinomial/multinomial/search/RankOrder" = some m.cls := findClass_of_methodNamed Bd.named
  have hnm := (name_of_methodNamed Bd.named Bd.method).1
  have X0 : Stand p l e ({ frames := 0, cells := 0, slots := 0, locals := 0 } : Room) s m #[(.double u1), (.double u2)] below meth c s₁ [] 0 0 := Stand.of_body Bd
  have e0 : s₁.heap = h0 := by rw [← hh, Bd.state]; rfl
  have N0 := Fr.nil n0
  have k0 : ∀ t, Steps p.tables e below (s₁.setTop (mkF m 0 #[.val (.double u1), .second, .val (.double u2), .second, .unset, .unset, .unset] [])) t → Steps p.tables e below (s₁.setTop (entryFrame m #[(.double u1), (.double u2)] 7)) t := fun t k => castTop (ef_3_DD m u1 u2) k
  have k101 : ∀ t, Steps p.tables e below (s₁.setTop (mkF m 13 #[.val (.double u1), .second, .val (.double u2), .second, .val (.float (FP.d2f u1)), .val (.float (FP.d2f u2)), .unset] [(.int (cmpValue (FP.fcmp (FP.d2f u1) (FP.d2f u2)) .l))])) t → Steps p.tables e below (s₁.setTop (entryFrame m #[(.double u1), (.double u2)] 7)) t := fun t k => k0 t (by
    show Steps p.tables e below (s₁.setTop (mkF m 0 #[.val (.double u1), .second, .val (.double u2), .second, .unset, .unset, .unset] [])) _
    refine XS.dloadN X0.here hx rfl (hb hby d3_0) rfl ?_
    show Steps p.tables e below (s₁.setTop (mkF m 1 #[.val (.double u1), .second, .val (.double u2), .second, .unset, .unset, .unset] [(.double u1)])) _
    refine XS.d2fS X0.here hx rfl (hb hby d3_1) rfl (nn1) rfl ?_
    show Steps p.tables e below (s₁.setTop (mkF m 2 #[.val (.double u1), .second, .val (.double u2), .second, .unset, .unset, .unset] [(.float (FP.d2f u1))])) _
    refine XS.fstore X0.here hx rfl (hb hby d3_2) rfl (l' := #[.val (.double u1), .second, .val (.double u2), .second, .val (.float (FP.d2f u1)), .unset, .unset]) rfl ?_
    show Steps p.tables e below (s₁.setTop (mkF m 4 #[.val (.double u1), .second, .val (.double u2), .second, .val (.float (FP.d2f u1)), .unset, .unset] [])) _
    refine XS.dloadN X0.here hx rfl (hb hby d3_4) rfl ?_
    show Steps p.tables e below (s₁.setTop (mkF m 5 #[.val (.double u1), .second, .val (.double u2), .second, .val (.float (FP.d2f u1)), .unset, .unset] [(.double u2)])) _
    refine XS.d2fS X0.here hx rfl (hb hby d3_5) rfl (nn5) rfl ?_
    show Steps p.tables e below (s₁.setTop (mkF m 6 #[.val (.double u1), .second, .val (.double u2), .second, .val (.float (FP.d2f u1)), .unset, .unset] [(.float (FP.d2f u2))])) _
    refine XS.fstore X0.here hx rfl (hb hby d3_6) rfl (l' := #[.val (.double u1), .second, .val (.double u2), .second, .val (.float (FP.d2f u1)), .val (.float (FP.d2f u2)), .unset]) rfl ?_
    show Steps p.tables e below (s₁.setTop (mkF m 8 #[.val (.double u1), .second, .val (.double u2), .second, .val (.float (FP.d2f u1)), .val (.float (FP.d2f u2)), .unset] [])) _
    refine XS.fload X0.here hx rfl (hb hby d3_8) rfl ?_
    show Steps p.tables e below (s₁.setTop (mkF m 10 #[.val (.double u1), .second, .val (.double u2), .second, .val (.float (FP.d2f u1)), .val (.float (FP.d2f u2)), .unset] [(.float (FP.d2f u1))])) _
    refine XS.fload X0.here hx rfl (hb hby d3_10) rfl ?_
    show Steps p.tables e below (s₁.setTop (mkF m 12 #[.val (.double u1), .second, .val (.double u2), .second, .val (.float (FP.d2f u1)), .val (.float (FP.d2f u2)), .unset] [(.float (FP.d2f u2)), (.float (FP.d2f u1))])) _
    refine XS.fcmpS X0.here hx rfl (hb hby d3_12) rfl rfl ?_
    exact k)
  obtain ⟨i104, hi104⟩ : ∃ z : Int32, z = (if (0 : Int32) < (cmpValue (FP.fcmp (FP.d2f u1) (FP.d2f u2)) .l) then (-1 : Int32) else (if (cmpValue (FP.fcmp (FP.d2f u1) (FP.d2f u2)) .g) < (0 : Int32) then (1 : Int32) else (0 : Int32))) := ⟨_, rfl⟩
  have k105 : ∀ t, Steps p.tables e below (s₁.setTop (mkF m 39 #[.val (.double u1), .second, .val (.double u2), .second, .val (.float (FP.d2f u1)), .val (.float (FP.d2f u2)), .val (.int i104)] [])) t → Steps p.tables e below (s₁.setTop (entryFrame m #[(.double u1), (.double u2)] 7)) t := fun t k => k101 t (by
    by_cases c102 : (0 : Int32) < (cmpValue (FP.fcmp (FP.d2f u1) (FP.d2f u2)) .l)
    · rw [if_pos c102] at hi104
      show Steps p.tables e below (s₁.setTop (mkF m 13 #[.val (.double u1), .second, .val (.double u2), .second, .val (.float (FP.d2f u1)), .val (.float (FP.d2f u2)), .unset] [(.int (cmpValue (FP.fcmp (FP.d2f u1) (FP.d2f u2)) .l))])) _
      refine XS.ifNo X0.here hx rfl (hb hby d3_13) rfl ((if0 _ _).trans (tlt c102).2.2.2) ?_
      show Steps p.tables e below (s₁.setTop (mkF m 16 #[.val (.double u1), .second, .val (.double u2), .second, .val (.float (FP.d2f u1)), .val (.float (FP.d2f u2)), .unset] [])) _
      refine XS.iconst X0.here hx rfl (hb hby d3_16) ?_
      show Steps p.tables e below (s₁.setTop (mkF m 17 #[.val (.double u1), .second, .val (.double u2), .second, .val (.float (FP.d2f u1)), .val (.float (FP.d2f u2)), .unset] [(.int (-1 : Int32))])) _
      refine XS.istore X0.here hx rfl (hb hby d3_17) rfl (l' := #[.val (.double u1), .second, .val (.double u2), .second, .val (.float (FP.d2f u1)), .val (.float (FP.d2f u2)), .val (.int (-1 : Int32))]) rfl ?_
      show Steps p.tables e below (s₁.setTop (mkF m 19 #[.val (.double u1), .second, .val (.double u2), .second, .val (.float (FP.d2f u1)), .val (.float (FP.d2f u2)), .val (.int (-1 : Int32))] [])) _
      refine XS.goto X0.here hx rfl (pc0 := 19) (pc' := 39) rfl (hb hby d3_19) (by decide) (by decide) ?_
      show Steps p.tables e below (s₁.setTop (mkF m 39 #[.val (.double u1), .second, .val (.double u2), .second, .val (.float (FP.d2f u1)), .val (.float (FP.d2f u2)), .val (.int (-1 : Int32))] [])) _
      exact castTop (by rw [hi104]) k
    · rw [if_neg c102] at hi104
      show Steps p.tables e below (s₁.setTop (mkF m 13 #[.val (.double u1), .second, .val (.double u2), .second, .val (.float (FP.d2f u1)), .val (.float (FP.d2f u2)), .unset] [(.int (cmpValue (FP.fcmp (FP.d2f u1) (FP.d2f u2)) .l))])) _
      refine XS.ifYes X0.here hx rfl (pc0 := 13) (pc' := 22) rfl (hb hby d3_13) rfl ((if0 _ _).trans (flt c102).2.2.2) (by decide) (by decide) ?_
      show Steps p.tables e below (s₁.setTop (mkF m 22 #[.val (.double u1), .second, .val (.double u2), .second, .val (.float (FP.d2f u1)), .val (.float (FP.d2f u2)), .unset] [])) _
      refine XS.fload X0.here hx rfl (hb hby d3_22) rfl ?_
      show Steps p.tables e below (s₁.setTop (mkF m 24 #[.val (.double u1), .second, .val (.double u2), .second, .val (.float (FP.d2f u1)), .val (.float (FP.d2f u2)), .unset] [(.float (FP.d2f u1))])) _
      refine XS.fload X0.here hx rfl (hb hby d3_24) rfl ?_
      show Steps p.tables e below (s₁.setTop (mkF m 26 #[.val (.double u1), .second, .val (.double u2), .second, .val (.float (FP.d2f u1)), .val (.float (FP.d2f u2)), .unset] [(.float (FP.d2f u2)), (.float (FP.d2f u1))])) _
      refine XS.fcmpS X0.here hx rfl (hb hby d3_26) rfl rfl ?_
      by_cases c103 : (cmpValue (FP.fcmp (FP.d2f u1) (FP.d2f u2)) .g) < (0 : Int32)
      · rw [if_pos c103] at hi104
        show Steps p.tables e below (s₁.setTop (mkF m 27 #[.val (.double u1), .second, .val (.double u2), .second, .val (.float (FP.d2f u1)), .val (.float (FP.d2f u2)), .unset] [(.int (cmpValue (FP.fcmp (FP.d2f u1) (FP.d2f u2)) .g))])) _
        refine XS.ifNo X0.here hx rfl (hb hby d3_27) rfl ((if0 _ _).trans (tlt c103).2.1) ?_
        show Steps p.tables e below (s₁.setTop (mkF m 30 #[.val (.double u1), .second, .val (.double u2), .second, .val (.float (FP.d2f u1)), .val (.float (FP.d2f u2)), .unset] [])) _
        refine XS.iconst X0.here hx rfl (hb hby d3_30) ?_
        show Steps p.tables e below (s₁.setTop (mkF m 31 #[.val (.double u1), .second, .val (.double u2), .second, .val (.float (FP.d2f u1)), .val (.float (FP.d2f u2)), .unset] [(.int (1 : Int32))])) _
        refine XS.istore X0.here hx rfl (hb hby d3_31) rfl (l' := #[.val (.double u1), .second, .val (.double u2), .second, .val (.float (FP.d2f u1)), .val (.float (FP.d2f u2)), .val (.int (1 : Int32))]) rfl ?_
        show Steps p.tables e below (s₁.setTop (mkF m 33 #[.val (.double u1), .second, .val (.double u2), .second, .val (.float (FP.d2f u1)), .val (.float (FP.d2f u2)), .val (.int (1 : Int32))] [])) _
        refine XS.goto X0.here hx rfl (pc0 := 33) (pc' := 39) rfl (hb hby d3_33) (by decide) (by decide) ?_
        show Steps p.tables e below (s₁.setTop (mkF m 39 #[.val (.double u1), .second, .val (.double u2), .second, .val (.float (FP.d2f u1)), .val (.float (FP.d2f u2)), .val (.int (1 : Int32))] [])) _
        exact castTop (by rw [hi104]) k
      · rw [if_neg c103] at hi104
        show Steps p.tables e below (s₁.setTop (mkF m 27 #[.val (.double u1), .second, .val (.double u2), .second, .val (.float (FP.d2f u1)), .val (.float (FP.d2f u2)), .unset] [(.int (cmpValue (FP.fcmp (FP.d2f u1) (FP.d2f u2)) .g))])) _
        refine XS.ifYes X0.here hx rfl (pc0 := 27) (pc' := 36) rfl (hb hby d3_27) rfl ((if0 _ _).trans (flt c103).2.1) (by decide) (by decide) ?_
        show Steps p.tables e below (s₁.setTop (mkF m 36 #[.val (.double u1), .second, .val (.double u2), .second, .val (.float (FP.d2f u1)), .val (.float (FP.d2f u2)), .unset] [])) _
        refine XS.iconst X0.here hx rfl (hb hby d3_36) ?_
        show Steps p.tables e below (s₁.setTop (mkF m 37 #[.val (.double u1), .second, .val (.double u2), .second, .val (.float (FP.d2f u1)), .val (.float (FP.d2f u2)), .unset] [(.int (0 : Int32))])) _
        refine XS.istore X0.here hx rfl (hb hby d3_37) rfl (l' := #[.val (.double u1), .second, .val (.double u2), .second, .val (.float (FP.d2f u1)), .val (.float (FP.d2f u2)), .val (.int (0 : Int32))]) rfl ?_
        show Steps p.tables e below (s₁.setTop (mkF m 39 #[.val (.double u1), .second, .val (.double u2), .second, .val (.float (FP.d2f u1)), .val (.float (FP.d2f u2)), .val (.int (0 : Int32))] [])) _
        exact castTop (by rw [hi104]) k)
  have k106 : ∀ t, Steps p.tables e below (s₁.setTop (mkF m 41 #[.val (.double u1), .second, .val (.double u2), .second, .val (.float (FP.d2f u1)), .val (.float (FP.d2f u2)), .val (.int i104)] [(.int i104)])) t → Steps p.tables e below (s₁.setTop (entryFrame m #[(.double u1), (.double u2)] 7)) t := fun t k => k105 t (by
    show Steps p.tables e below (s₁.setTop (mkF m 39 #[.val (.double u1), .second, .val (.double u2), .second, .val (.float (FP.d2f u1)), .val (.float (FP.d2f u2)), .val (.int i104)] [])) _
    refine XS.iload X0.here hx rfl (hb hby d3_39) rfl ?_
    exact k)
  obtain ⟨fs, hr, hrun, hended, hW, hsame⟩ := X0.leave (v := some (.int i104)) (fun h => by rw [Bd.returns] at h; cases h)
  refine ⟨_, _, k106 _ (retOut X0 hx (t := .int) Bd.returns rfl (Or.inl ⟨rfl, Or.inl rfl, _, rfl⟩) (hb hby d3_41) hr), hrun, hended, _, _, rfl, ?_, ⟨_, rfl⟩, hW, hsame.mono (by decide) (by decide)⟩
  show Q_rm3 Z u1 u2 h0 n0 _ s₁.heap _
  rw [e0]
  exact ⟨by rw [hi104], N0, rfl⟩
theorem ef_0_IIII (m : MethodId) (x0 : Int32) (x1 : Int32) (x2 : Int32) (x3 : Int32) : entryFrame m #[(.int x0), (.int x1), (.int x2), (.int x3)] maxLocals = mkF m 0 #[.val (.int x0), .val (.int x1), .val (.int x2), .val (.int x3), .unset, .unset, .unset, .unset, .unset, .unset, .unset, .unset, .unset, .unset, .unset, .unset, .unset, .unset, .unset, .unset, .unset, .unset, .unset, .unset, .unset, .unset, .unset] [] := by first | (simp [entryFrame, mkF, argsToLocals, Value.category, maxLocals]; done) | rfl
theorem pd__28DD_29I : parseMethodDescriptor "(DD)I" = some ⟨[.double, .double], some .int⟩ := by decide +kernel
def Q_rm0 (Z : State) (xi : Int32) (fx : Int32) (yi : Int32) (fy : Int32) (h0 : Heap) (n0 : Nat) (v : Option Value) (h : Heap) (L : List Loc) : Prop := v = some (.int 1) ∧ Fr n0 L
set_option maxRecDepth 65536 in
set_option maxHeartbeats 40000000 in
theorem rm0 (l : Launch) (Z : State) (a0 : Array Value) (hw : ∀ d ∈ tables_1, d.before a0 Z = true) (ws : List Jvm.Cond) (xi : Int32) (fx : Int32) (yi : Int32) (fy : Int32) (h0 : Heap) (n0 : Nat) (Z0 : n0 ≤ h0.size) :
    MetFree l x (head1 (Jvm.Cond.code x code maxLocals ret :: ws) room_1) (fun a U => a = #[(.int xi), (.int fx), (.int yi), (.int fy)] ∧ Z.Warmed39 U.vm ∧ U.heap = h0) (fun _ _ _ _ _ => True) (fun _ U o U' => ∃ v L, o = .returned v ∧ Q_rm0 Z xi fx yi fy h0 n0 v U'.heap L ∧ FrameEnd U o U' L room_1.cells room_1.slots) := by
  refine MetFree.of_bodySF (plainFor_of_name pn_com_2fexample_2fmultinomial_2fmultinomial_2fsearch_2fRankOrderCompareScoresPinLaw) hisR ?_
  intro p e s m args below meth c s₁ Bd hml0 hP hK
  obtain ⟨rfl, hZ, hh⟩ := hP
  have hx := Bd.exec
  have hby := Bd.bytes
  have hml : c.maxLocals = 27 := hml0
  have hown : s.vm.findClass "com/example/multinomial/multinomial/search/RankOrderCompareScoresPinLaw" = some m.cls := findClass_of_methodNamed Bd.named
  have hnm := (name_of_methodNamed Bd.named Bd.method).1
  have X0 : Stand p l e room_1 s m #[(.int xi), (.int fx), (.int yi), (.int fy)] below meth c s₁ [] 0 0 := Stand.of_body Bd
  have e0 : s₁.heap = h0 := by rw [← hh, Bd.state]; rfl
  have N0 := Fr.nil n0
  have k0 : ∀ t, Steps p.tables e below (s₁.setTop (mkF m 0 #[.val (.int xi), .val (.int fx), .val (.int yi), .val (.int fy), .unset, .unset, .unset, .unset, .unset, .unset, .unset, .unset, .unset, .unset, .unset, .unset, .unset, .unset, .unset, .unset, .unset, .unset, .unset, .unset, .unset, .unset, .unset] [])) t → Steps p.tables e below (s₁.setTop (entryFrame m #[(.int xi), (.int fx), (.int yi), (.int fy)] maxLocals)) t := fun t k => castTop (ef_0_IIII m xi fx yi fy) k
  obtain ⟨kx, hkx⟩ : ∃ z : Int32, z = (fx &&& (15 : Int32)) := ⟨_, rfl⟩
  have k101 : ∀ t, Steps p.tables e below (s₁.setTop (mkF m 10 #[.val (.int xi), .val (.int fx), .val (.int yi), .val (.int fy), .val (.int kx), .unset, .unset, .unset, .unset, .unset, .unset, .unset, .unset, .unset, .unset, .unset, .unset, .unset, .unset, .unset, .unset, .unset, .unset, .unset, .unset, .unset, .unset] [(.int (fx &&& (16 : Int32)))])) t → Steps p.tables e below (s₁.setTop (entryFrame m #[(.int xi), (.int fx), (.int yi), (.int fy)] maxLocals)) t := fun t k => k0 t (by
    show Steps p.tables e below (s₁.setTop (mkF m 0 #[.val (.int xi), .val (.int fx), .val (.int yi), .val (.int fy), .unset, .unset, .unset, .unset, .unset, .unset, .unset, .unset, .unset, .unset, .unset, .unset, .unset, .unset, .unset, .unset, .unset, .unset, .unset, .unset, .unset, .unset, .unset] [])) _
    refine XS.iloadN X0.here hx rfl (hb hby at_0) rfl ?_
    show Steps p.tables e below (s₁.setTop (mkF m 1 #[.val (.int xi), .val (.int fx), .val (.int yi), .val (.int fy), .unset, .unset, .unset, .unset, .unset, .unset, .unset, .unset, .unset, .unset, .unset, .unset, .unset, .unset, .unset, .unset, .unset, .unset, .unset, .unset, .unset, .unset, .unset] [(.int fx)])) _
    refine XS.bipush X0.here hx rfl (hb hby at_1) ?_
    show Steps p.tables e below (s₁.setTop (mkF m 3 #[.val (.int xi), .val (.int fx), .val (.int yi), .val (.int fy), .unset, .unset, .unset, .unset, .unset, .unset, .unset, .unset, .unset, .unset, .unset, .unset, .unset, .unset, .unset, .unset, .unset, .unset, .unset, .unset, .unset, .unset, .unset] [(.int (15 : Int32)), (.int fx)])) _
    refine XS.iand X0.here hx rfl (hb hby at_3) rfl ?_
    show Steps p.tables e below (s₁.setTop (mkF m 4 #[.val (.int xi), .val (.int fx), .val (.int yi), .val (.int fy), .unset, .unset, .unset, .unset, .unset, .unset, .unset, .unset, .unset, .unset, .unset, .unset, .unset, .unset, .unset, .unset, .unset, .unset, .unset, .unset, .unset, .unset, .unset] [(.int (fx &&& (15 : Int32)))])) _
    refine castTop (g' := (mkF m 4 #[.val (.int xi), .val (.int fx), .val (.int yi), .val (.int fy), .unset, .unset, .unset, .unset, .unset, .unset, .unset, .unset, .unset, .unset, .unset, .unset, .unset, .unset, .unset, .unset, .unset, .unset, .unset, .unset, .unset, .unset, .unset] [(.int kx)])) (by rw [hkx]) ?_
    show Steps p.tables e below (s₁.setTop (mkF m 4 #[.val (.int xi), .val (.int fx), .val (.int yi), .val (.int fy), .unset, .unset, .unset, .unset, .unset, .unset, .unset, .unset, .unset, .unset, .unset, .unset, .unset, .unset, .unset, .unset, .unset, .unset, .unset, .unset, .unset, .unset, .unset] [(.int kx)])) _
    refine XS.istore X0.here hx rfl (hb hby at_4) rfl (l' := #[.val (.int xi), .val (.int fx), .val (.int yi), .val (.int fy), .val (.int kx), .unset, .unset, .unset, .unset, .unset, .unset, .unset, .unset, .unset, .unset, .unset, .unset, .unset, .unset, .unset, .unset, .unset, .unset, .unset, .unset, .unset, .unset]) rfl ?_
    show Steps p.tables e below (s₁.setTop (mkF m 6 #[.val (.int xi), .val (.int fx), .val (.int yi), .val (.int fy), .val (.int kx), .unset, .unset, .unset, .unset, .unset, .unset, .unset, .unset, .unset, .unset, .unset, .unset, .unset, .unset, .unset, .unset, .unset, .unset, .unset, .unset, .unset, .unset] [])) _
    refine XS.iloadN X0.here hx rfl (hb hby at_6) rfl ?_
    show Steps p.tables e below (s₁.setTop (mkF m 7 #[.val (.int xi), .val (.int fx), .val (.int yi), .val (.int fy), .val (.int kx), .unset, .unset, .unset, .unset, .unset, .unset, .unset, .unset, .unset, .unset, .unset, .unset, .unset, .unset, .unset, .unset, .unset, .unset, .unset, .unset, .unset, .unset] [(.int fx)])) _
    refine XS.bipush X0.here hx rfl (hb hby at_7) ?_
    show Steps p.tables e below (s₁.setTop (mkF m 9 #[.val (.int xi), .val (.int fx), .val (.int yi), .val (.int fy), .val (.int kx), .unset, .unset, .unset, .unset, .unset, .unset, .unset, .unset, .unset, .unset, .unset, .unset, .unset, .unset, .unset, .unset, .unset, .unset, .unset, .unset, .unset, .unset] [(.int (16 : Int32)), (.int fx)])) _
    refine XS.iand X0.here hx rfl (hb hby at_9) rfl ?_
    exact k)
  obtain ⟨i103, hi103⟩ : ∃ z : Int32, z = (if (fx &&& (16 : Int32)) = (0 : Int32) then (0 : Int32) else (1 : Int32)) := ⟨_, rfl⟩
  have k104 : ∀ t, Steps p.tables e below (s₁.setTop (mkF m 18 #[.val (.int xi), .val (.int fx), .val (.int yi), .val (.int fy), .val (.int kx), .unset, .unset, .unset, .unset, .unset, .unset, .unset, .unset, .unset, .unset, .unset, .unset, .unset, .unset, .unset, .unset, .unset, .unset, .unset, .unset, .unset, .unset] [(.int i103)])) t → Steps p.tables e below (s₁.setTop (entryFrame m #[(.int xi), (.int fx), (.int yi), (.int fy)] maxLocals)) t := fun t k => k101 t (by
    by_cases c102 : (fx &&& (16 : Int32)) = (0 : Int32)
    · rw [if_pos c102] at hi103
      show Steps p.tables e below (s₁.setTop (mkF m 10 #[.val (.int xi), .val (.int fx), .val (.int yi), .val (.int fy), .val (.int kx), .unset, .unset, .unset, .unset, .unset, .unset, .unset, .unset, .unset, .unset, .unset, .unset, .unset, .unset, .unset, .unset, .unset, .unset, .unset, .unset, .unset, .unset] [(.int (fx &&& (16 : Int32)))])) _
      refine XS.ifYes X0.here hx rfl (pc0 := 10) (pc' := 17) rfl (hb hby at_10) rfl ((if0 _ _).trans (teq c102).1) (by decide) (by decide) ?_
      show Steps p.tables e below (s₁.setTop (mkF m 17 #[.val (.int xi), .val (.int fx), .val (.int yi), .val (.int fy), .val (.int kx), .unset, .unset, .unset, .unset, .unset, .unset, .unset, .unset, .unset, .unset, .unset, .unset, .unset, .unset, .unset, .unset, .unset, .unset, .unset, .unset, .unset, .unset] [])) _
      refine XS.iconst X0.here hx rfl (hb hby at_17) ?_
      show Steps p.tables e below (s₁.setTop (mkF m 18 #[.val (.int xi), .val (.int fx), .val (.int yi), .val (.int fy), .val (.int kx), .unset, .unset, .unset, .unset, .unset, .unset, .unset, .unset, .unset, .unset, .unset, .unset, .unset, .unset, .unset, .unset, .unset, .unset, .unset, .unset, .unset, .unset] [(.int (0 : Int32))])) _
      exact castTop (by rw [hi103]) k
    · rw [if_neg c102] at hi103
      show Steps p.tables e below (s₁.setTop (mkF m 10 #[.val (.int xi), .val (.int fx), .val (.int yi), .val (.int fy), .val (.int kx), .unset, .unset, .unset, .unset, .unset, .unset, .unset, .unset, .unset, .unset, .unset, .unset, .unset, .unset, .unset, .unset, .unset, .unset, .unset, .unset, .unset, .unset] [(.int (fx &&& (16 : Int32)))])) _
      refine XS.ifNo X0.here hx rfl (hb hby at_10) rfl ((if0 _ _).trans (feq c102).1) ?_
      show Steps p.tables e below (s₁.setTop (mkF m 13 #[.val (.int xi), .val (.int fx), .val (.int yi), .val (.int fy), .val (.int kx), .unset, .unset, .unset, .unset, .unset, .unset, .unset, .unset, .unset, .unset, .unset, .unset, .unset, .unset, .unset, .unset, .unset, .unset, .unset, .unset, .unset, .unset] [])) _
      refine XS.iconst X0.here hx rfl (hb hby at_13) ?_
      show Steps p.tables e below (s₁.setTop (mkF m 14 #[.val (.int xi), .val (.int fx), .val (.int yi), .val (.int fy), .val (.int kx), .unset, .unset, .unset, .unset, .unset, .unset, .unset, .unset, .unset, .unset, .unset, .unset, .unset, .unset, .unset, .unset, .unset, .unset, .unset, .unset, .unset, .unset] [(.int (1 : Int32))])) _
      refine XS.goto X0.here hx rfl (pc0 := 14) (pc' := 18) rfl (hb hby at_14) (by decide) (by decide) ?_
      show Steps p.tables e below (s₁.setTop (mkF m 18 #[.val (.int xi), .val (.int fx), .val (.int yi), .val (.int fy), .val (.int kx), .unset, .unset, .unset, .unset, .unset, .unset, .unset, .unset, .unset, .unset, .unset, .unset, .unset, .unset, .unset, .unset, .unset, .unset, .unset, .unset, .unset, .unset] [(.int (1 : Int32))])) _
      exact castTop (by rw [hi103]) k)
  obtain ⟨ky, hky⟩ : ∃ z : Int32, z = (fy &&& (15 : Int32)) := ⟨_, rfl⟩
  have k105 : ∀ t, Steps p.tables e below (s₁.setTop (mkF m 30 #[.val (.int xi), .val (.int fx), .val (.int yi), .val (.int fy), .val (.int kx), .val (.int i103), .val (.int ky), .unset, .unset, .unset, .unset, .unset, .unset, .unset, .unset, .unset, .unset, .unset, .unset, .unset, .unset, .unset, .unset, .unset, .unset, .unset, .unset] [(.int (fy &&& (16 : Int32)))])) t → Steps p.tables e below (s₁.setTop (entryFrame m #[(.int xi), (.int fx), (.int yi), (.int fy)] maxLocals)) t := fun t k => k104 t (by
    show Steps p.tables e below (s₁.setTop (mkF m 18 #[.val (.int xi), .val (.int fx), .val (.int yi), .val (.int fy), .val (.int kx), .unset, .unset, .unset, .unset, .unset, .unset, .unset, .unset, .unset, .unset, .unset, .unset, .unset, .unset, .unset, .unset, .unset, .unset, .unset, .unset, .unset, .unset] [(.int i103)])) _
    refine XS.istore X0.here hx rfl (hb hby at_18) rfl (l' := #[.val (.int xi), .val (.int fx), .val (.int yi), .val (.int fy), .val (.int kx), .val (.int i103), .unset, .unset, .unset, .unset, .unset, .unset, .unset, .unset, .unset, .unset, .unset, .unset, .unset, .unset, .unset, .unset, .unset, .unset, .unset, .unset, .unset]) rfl ?_
    show Steps p.tables e below (s₁.setTop (mkF m 20 #[.val (.int xi), .val (.int fx), .val (.int yi), .val (.int fy), .val (.int kx), .val (.int i103), .unset, .unset, .unset, .unset, .unset, .unset, .unset, .unset, .unset, .unset, .unset, .unset, .unset, .unset, .unset, .unset, .unset, .unset, .unset, .unset, .unset] [])) _
    refine XS.iloadN X0.here hx rfl (hb hby at_20) rfl ?_
    show Steps p.tables e below (s₁.setTop (mkF m 21 #[.val (.int xi), .val (.int fx), .val (.int yi), .val (.int fy), .val (.int kx), .val (.int i103), .unset, .unset, .unset, .unset, .unset, .unset, .unset, .unset, .unset, .unset, .unset, .unset, .unset, .unset, .unset, .unset, .unset, .unset, .unset, .unset, .unset] [(.int fy)])) _
    refine XS.bipush X0.here hx rfl (hb hby at_21) ?_
    show Steps p.tables e below (s₁.setTop (mkF m 23 #[.val (.int xi), .val (.int fx), .val (.int yi), .val (.int fy), .val (.int kx), .val (.int i103), .unset, .unset, .unset, .unset, .unset, .unset, .unset, .unset, .unset, .unset, .unset, .unset, .unset, .unset, .unset, .unset, .unset, .unset, .unset, .unset, .unset] [(.int (15 : Int32)), (.int fy)])) _
    refine XS.iand X0.here hx rfl (hb hby at_23) rfl ?_
    show Steps p.tables e below (s₁.setTop (mkF m 24 #[.val (.int xi), .val (.int fx), .val (.int yi), .val (.int fy), .val (.int kx), .val (.int i103), .unset, .unset, .unset, .unset, .unset, .unset, .unset, .unset, .unset, .unset, .unset, .unset, .unset, .unset, .unset, .unset, .unset, .unset, .unset, .unset, .unset] [(.int (fy &&& (15 : Int32)))])) _
    refine castTop (g' := (mkF m 24 #[.val (.int xi), .val (.int fx), .val (.int yi), .val (.int fy), .val (.int kx), .val (.int i103), .unset, .unset, .unset, .unset, .unset, .unset, .unset, .unset, .unset, .unset, .unset, .unset, .unset, .unset, .unset, .unset, .unset, .unset, .unset, .unset, .unset] [(.int ky)])) (by rw [hky]) ?_
    show Steps p.tables e below (s₁.setTop (mkF m 24 #[.val (.int xi), .val (.int fx), .val (.int yi), .val (.int fy), .val (.int kx), .val (.int i103), .unset, .unset, .unset, .unset, .unset, .unset, .unset, .unset, .unset, .unset, .unset, .unset, .unset, .unset, .unset, .unset, .unset, .unset, .unset, .unset, .unset] [(.int ky)])) _
    refine XS.istore X0.here hx rfl (hb hby at_24) rfl (l' := #[.val (.int xi), .val (.int fx), .val (.int yi), .val (.int fy), .val (.int kx), .val (.int i103), .val (.int ky), .unset, .unset, .unset, .unset, .unset, .unset, .unset, .unset, .unset, .unset, .unset, .unset, .unset, .unset, .unset, .unset, .unset, .unset, .unset, .unset]) rfl ?_
    show Steps p.tables e below (s₁.setTop (mkF m 26 #[.val (.int xi), .val (.int fx), .val (.int yi), .val (.int fy), .val (.int kx), .val (.int i103), .val (.int ky), .unset, .unset, .unset, .unset, .unset, .unset, .unset, .unset, .unset, .unset, .unset, .unset, .unset, .unset, .unset, .unset, .unset, .unset, .unset, .unset] [])) _
    refine XS.iloadN X0.here hx rfl (hb hby at_26) rfl ?_
    show Steps p.tables e below (s₁.setTop (mkF m 27 #[.val (.int xi), .val (.int fx), .val (.int yi), .val (.int fy), .val (.int kx), .val (.int i103), .val (.int ky), .unset, .unset, .unset, .unset, .unset, .unset, .unset, .unset, .unset, .unset, .unset, .unset, .unset, .unset, .unset, .unset, .unset, .unset, .unset, .unset] [(.int fy)])) _
    refine XS.bipush X0.here hx rfl (hb hby at_27) ?_
    show Steps p.tables e below (s₁.setTop (mkF m 29 #[.val (.int xi), .val (.int fx), .val (.int yi), .val (.int fy), .val (.int kx), .val (.int i103), .val (.int ky), .unset, .unset, .unset, .unset, .unset, .unset, .unset, .unset, .unset, .unset, .unset, .unset, .unset, .unset, .unset, .unset, .unset, .unset, .unset, .unset] [(.int (16 : Int32)), (.int fy)])) _
    refine XS.iand X0.here hx rfl (hb hby at_29) rfl ?_
    exact k)
  obtain ⟨i107, hi107⟩ : ∃ z : Int32, z = (if (fy &&& (16 : Int32)) = (0 : Int32) then (0 : Int32) else (1 : Int32)) := ⟨_, rfl⟩
  have k108 : ∀ t, Steps p.tables e below (s₁.setTop (mkF m 38 #[.val (.int xi), .val (.int fx), .val (.int yi), .val (.int fy), .val (.int kx), .val (.int i103), .val (.int ky), .unset, .unset, .unset, .unset, .unset, .unset, .unset, .unset, .unset, .unset, .unset, .unset, .unset, .unset, .unset, .unset, .unset, .unset, .unset, .unset] [(.int i107)])) t → Steps p.tables e below (s₁.setTop (entryFrame m #[(.int xi), (.int fx), (.int yi), (.int fy)] maxLocals)) t := fun t k => k105 t (by
    by_cases c106 : (fy &&& (16 : Int32)) = (0 : Int32)
    · rw [if_pos c106] at hi107
      show Steps p.tables e below (s₁.setTop (mkF m 30 #[.val (.int xi), .val (.int fx), .val (.int yi), .val (.int fy), .val (.int kx), .val (.int i103), .val (.int ky), .unset, .unset, .unset, .unset, .unset, .unset, .unset, .unset, .unset, .unset, .unset, .unset, .unset, .unset, .unset, .unset, .unset, .unset, .unset, .unset] [(.int (fy &&& (16 : Int32)))])) _
      refine XS.ifYes X0.here hx rfl (pc0 := 30) (pc' := 37) rfl (hb hby at_30) rfl ((if0 _ _).trans (teq c106).1) (by decide) (by decide) ?_
      show Steps p.tables e below (s₁.setTop (mkF m 37 #[.val (.int xi), .val (.int fx), .val (.int yi), .val (.int fy), .val (.int kx), .val (.int i103), .val (.int ky), .unset, .unset, .unset, .unset, .unset, .unset, .unset, .unset, .unset, .unset, .unset, .unset, .unset, .unset, .unset, .unset, .unset, .unset, .unset, .unset] [])) _
      refine XS.iconst X0.here hx rfl (hb hby at_37) ?_
      show Steps p.tables e below (s₁.setTop (mkF m 38 #[.val (.int xi), .val (.int fx), .val (.int yi), .val (.int fy), .val (.int kx), .val (.int i103), .val (.int ky), .unset, .unset, .unset, .unset, .unset, .unset, .unset, .unset, .unset, .unset, .unset, .unset, .unset, .unset, .unset, .unset, .unset, .unset, .unset, .unset] [(.int (0 : Int32))])) _
      exact castTop (by rw [hi107]) k
    · rw [if_neg c106] at hi107
      show Steps p.tables e below (s₁.setTop (mkF m 30 #[.val (.int xi), .val (.int fx), .val (.int yi), .val (.int fy), .val (.int kx), .val (.int i103), .val (.int ky), .unset, .unset, .unset, .unset, .unset, .unset, .unset, .unset, .unset, .unset, .unset, .unset, .unset, .unset, .unset, .unset, .unset, .unset, .unset, .unset] [(.int (fy &&& (16 : Int32)))])) _
      refine XS.ifNo X0.here hx rfl (hb hby at_30) rfl ((if0 _ _).trans (feq c106).1) ?_
      show Steps p.tables e below (s₁.setTop (mkF m 33 #[.val (.int xi), .val (.int fx), .val (.int yi), .val (.int fy), .val (.int kx), .val (.int i103), .val (.int ky), .unset, .unset, .unset, .unset, .unset, .unset, .unset, .unset, .unset, .unset, .unset, .unset, .unset, .unset, .unset, .unset, .unset, .unset, .unset, .unset] [])) _
      refine XS.iconst X0.here hx rfl (hb hby at_33) ?_
      show Steps p.tables e below (s₁.setTop (mkF m 34 #[.val (.int xi), .val (.int fx), .val (.int yi), .val (.int fy), .val (.int kx), .val (.int i103), .val (.int ky), .unset, .unset, .unset, .unset, .unset, .unset, .unset, .unset, .unset, .unset, .unset, .unset, .unset, .unset, .unset, .unset, .unset, .unset, .unset, .unset] [(.int (1 : Int32))])) _
      refine XS.goto X0.here hx rfl (pc0 := 34) (pc' := 38) rfl (hb hby at_34) (by decide) (by decide) ?_
      show Steps p.tables e below (s₁.setTop (mkF m 38 #[.val (.int xi), .val (.int fx), .val (.int yi), .val (.int fy), .val (.int kx), .val (.int i103), .val (.int ky), .unset, .unset, .unset, .unset, .unset, .unset, .unset, .unset, .unset, .unset, .unset, .unset, .unset, .unset, .unset, .unset, .unset, .unset, .unset, .unset] [(.int (1 : Int32))])) _
      exact castTop (by rw [hi107]) k)
  have k109 : ∀ t, Steps p.tables e below (s₁.setTop (mkF m 40 #[.val (.int xi), .val (.int fx), .val (.int yi), .val (.int fy), .val (.int kx), .val (.int i103), .val (.int ky), .val (.int i107), .unset, .unset, .unset, .unset, .unset, .unset, .unset, .unset, .unset, .unset, .unset, .unset, .unset, .unset, .unset, .unset, .unset, .unset, .unset] [])) t → Steps p.tables e below (s₁.setTop (entryFrame m #[(.int xi), (.int fx), (.int yi), (.int fy)] maxLocals)) t := fun t k => k108 t (by
    show Steps p.tables e below (s₁.setTop (mkF m 38 #[.val (.int xi), .val (.int fx), .val (.int yi), .val (.int fy), .val (.int kx), .val (.int i103), .val (.int ky), .unset, .unset, .unset, .unset, .unset, .unset, .unset, .unset, .unset, .unset, .unset, .unset, .unset, .unset, .unset, .unset, .unset, .unset, .unset, .unset] [(.int i107)])) _
    refine XS.istore X0.here hx rfl (hb hby at_38) rfl (l' := #[.val (.int xi), .val (.int fx), .val (.int yi), .val (.int fy), .val (.int kx), .val (.int i103), .val (.int ky), .val (.int i107), .unset, .unset, .unset, .unset, .unset, .unset, .unset, .unset, .unset, .unset, .unset, .unset, .unset, .unset, .unset, .unset, .unset, .unset, .unset]) rfl ?_
    exact k)
  obtain ⟨KX, hKX, shx, shxL, px1, px2, hKX15⟩ := own_k fx kx hkx
  obtain ⟨KY, hKY, shy, shyL, py1, py2, hKY15⟩ := own_k fy ky hky
  obtain ⟨vx, hvx⟩ : ∃ z : UInt64, FP.i2d xi = z := ⟨_, rfl⟩
  have Dvx : Dy (xi.toInt) (0) vx := by rw [← hvx]; exact Dy.i2d _
  obtain ⟨vxp, hvxp⟩ : ∃ z : UInt64, FP.i2d ((1 : Int32) <<< (kx &&& 31)) = z := ⟨_, rfl⟩
  have Dvxp : Dy (2 ^ KX) (0) vxp := by rw [← hvxp]; exact shx ▸ Dy.i2d _
  obtain ⟨va, hva⟩ : ∃ z : UInt64, FP.ddiv vx vxp = z := ⟨_, rfl⟩
  have Dva : Dy (xi.toInt) (KX) va := by rw [← hva]; exact Dy.div Dvx Dvxp (by omega) (by have := int32_abs' xi; omega) (by omega) (by rw [Int.pow_zero, Int.mul_one, Int.mul_one])
  have k110 : ∀ t, Steps p.tables e below (s₁.setTop (mkF m 52 #[.val (.int xi), .val (.int fx), .val (.int yi), .val (.int fy), .val (.int kx), .val (.int i103), .val (.int ky), .val (.int i107), .val (.double va), .second, .unset, .unset, .unset, .unset, .unset, .unset, .unset, .unset, .unset, .unset, .unset, .unset, .unset, .unset, .unset, .unset, .unset] [(.int i103)])) t → Steps p.tables e below (s₁.setTop (entryFrame m #[(.int xi), (.int fx), (.int yi), (.int fy)] maxLocals)) t := fun t k => k109 t (by
    show Steps p.tables e below (s₁.setTop (mkF m 40 #[.val (.int xi), .val (.int fx), .val (.int yi), .val (.int fy), .val (.int kx), .val (.int i103), .val (.int ky), .val (.int i107), .unset, .unset, .unset, .unset, .unset, .unset, .unset, .unset, .unset, .unset, .unset, .unset, .unset, .unset, .unset, .unset, .unset, .unset, .unset] [])) _
    refine XS.iloadN X0.here hx rfl (hb hby at_40) rfl ?_
    show Steps p.tables e below (s₁.setTop (mkF m 41 #[.val (.int xi), .val (.int fx), .val (.int yi), .val (.int fy), .val (.int kx), .val (.int i103), .val (.int ky), .val (.int i107), .unset, .unset, .unset, .unset, .unset, .unset, .unset, .unset, .unset, .unset, .unset, .unset, .unset, .unset, .unset, .unset, .unset, .unset, .unset] [(.int xi)])) _
    refine XS.i2dS X0.here hx rfl (hb hby at_41) rfl hvx ?_
    show Steps p.tables e below (s₁.setTop (mkF m 42 #[.val (.int xi), .val (.int fx), .val (.int yi), .val (.int fy), .val (.int kx), .val (.int i103), .val (.int ky), .val (.int i107), .unset, .unset, .unset, .unset, .unset, .unset, .unset, .unset, .unset, .unset, .unset, .unset, .unset, .unset, .unset, .unset, .unset, .unset, .unset] [(.double vx)])) _
    refine XS.iconst X0.here hx rfl (hb hby at_42) ?_
    show Steps p.tables e below (s₁.setTop (mkF m 43 #[.val (.int xi), .val (.int fx), .val (.int yi), .val (.int fy), .val (.int kx), .val (.int i103), .val (.int ky), .val (.int i107), .unset, .unset, .unset, .unset, .unset, .unset, .unset, .unset, .unset, .unset, .unset, .unset, .unset, .unset, .unset, .unset, .unset, .unset, .unset] [(.int (1 : Int32)), (.double vx)])) _
    refine XS.iload X0.here hx rfl (hb hby at_43) rfl ?_
    show Steps p.tables e below (s₁.setTop (mkF m 45 #[.val (.int xi), .val (.int fx), .val (.int yi), .val (.int fy), .val (.int kx), .val (.int i103), .val (.int ky), .val (.int i107), .unset, .unset, .unset, .unset, .unset, .unset, .unset, .unset, .unset, .unset, .unset, .unset, .unset, .unset, .unset, .unset, .unset, .unset, .unset] [(.int kx), (.int (1 : Int32)), (.double vx)])) _
    refine XS.ishl X0.here hx rfl (hb hby at_45) rfl ?_
    show Steps p.tables e below (s₁.setTop (mkF m 46 #[.val (.int xi), .val (.int fx), .val (.int yi), .val (.int fy), .val (.int kx), .val (.int i103), .val (.int ky), .val (.int i107), .unset, .unset, .unset, .unset, .unset, .unset, .unset, .unset, .unset, .unset, .unset, .unset, .unset, .unset, .unset, .unset, .unset, .unset, .unset] [(.int ((1 : Int32) <<< (kx &&& 31))), (.double vx)])) _
    refine XS.i2dS X0.here hx rfl (hb hby at_46) rfl hvxp ?_
    show Steps p.tables e below (s₁.setTop (mkF m 47 #[.val (.int xi), .val (.int fx), .val (.int yi), .val (.int fy), .val (.int kx), .val (.int i103), .val (.int ky), .val (.int i107), .unset, .unset, .unset, .unset, .unset, .unset, .unset, .unset, .unset, .unset, .unset, .unset, .unset, .unset, .unset, .unset, .unset, .unset, .unset] [(.double vxp), (.double vx)])) _
    refine XS.ddivS X0.here hx rfl (hb hby at_47) rfl (by rw [hva]; exact Dva.nn) hva ?_
    show Steps p.tables e below (s₁.setTop (mkF m 48 #[.val (.int xi), .val (.int fx), .val (.int yi), .val (.int fy), .val (.int kx), .val (.int i103), .val (.int ky), .val (.int i107), .unset, .unset, .unset, .unset, .unset, .unset, .unset, .unset, .unset, .unset, .unset, .unset, .unset, .unset, .unset, .unset, .unset, .unset, .unset] [(.double va)])) _
    refine XS.dstore X0.here hx rfl (hb hby at_48) rfl (l' := #[.val (.int xi), .val (.int fx), .val (.int yi), .val (.int fy), .val (.int kx), .val (.int i103), .val (.int ky), .val (.int i107), .val (.double va), .second, .unset, .unset, .unset, .unset, .unset, .unset, .unset, .unset, .unset, .unset, .unset, .unset, .unset, .unset, .unset, .unset, .unset]) rfl ?_
    show Steps p.tables e below (s₁.setTop (mkF m 50 #[.val (.int xi), .val (.int fx), .val (.int yi), .val (.int fy), .val (.int kx), .val (.int i103), .val (.int ky), .val (.int i107), .val (.double va), .second, .unset, .unset, .unset, .unset, .unset, .unset, .unset, .unset, .unset, .unset, .unset, .unset, .unset, .unset, .unset, .unset, .unset] [])) _
    refine XS.iload X0.here hx rfl (hb hby at_50) rfl ?_
    exact k)
  obtain ⟨van, hvan⟩ : ∃ z : UInt64, FP.dneg va = z := ⟨_, rfl⟩
  have Dvan : Dy (-xi.toInt) (KX) van := by rw [← hvan]; exact Dva.neg
  obtain ⟨v112, hv112⟩ : ∃ z : UInt64, z = (if i103 = (0 : Int32) then va else van) := ⟨_, rfl⟩
  have k113 : ∀ t, Steps p.tables e below (s₁.setTop (mkF m 60 #[.val (.int xi), .val (.int fx), .val (.int yi), .val (.int fy), .val (.int kx), .val (.int i103), .val (.int ky), .val (.int i107), .val (.double v112), .second, .unset, .unset, .unset, .unset, .unset, .unset, .unset, .unset, .unset, .unset, .unset, .unset, .unset, .unset, .unset, .unset, .unset] [])) t → Steps p.tables e below (s₁.setTop (entryFrame m #[(.int xi), (.int fx), (.int yi), (.int fy)] maxLocals)) t := fun t k => k110 t (by
    by_cases c111 : i103 = (0 : Int32)
    · rw [if_pos c111] at hv112
      show Steps p.tables e below (s₁.setTop (mkF m 52 #[.val (.int xi), .val (.int fx), .val (.int yi), .val (.int fy), .val (.int kx), .val (.int i103), .val (.int ky), .val (.int i107), .val (.double va), .second, .unset, .unset, .unset, .unset, .unset, .unset, .unset, .unset, .unset, .unset, .unset, .unset, .unset, .unset, .unset, .unset, .unset] [(.int i103)])) _
      refine XS.ifYes X0.here hx rfl (pc0 := 52) (pc' := 60) rfl (hb hby at_52) rfl ((if0 _ _).trans (teq c111).1) (by decide) (by decide) ?_
      show Steps p.tables e below (s₁.setTop (mkF m 60 #[.val (.int xi), .val (.int fx), .val (.int yi), .val (.int fy), .val (.int kx), .val (.int i103), .val (.int ky), .val (.int i107), .val (.double va), .second, .unset, .unset, .unset, .unset, .unset, .unset, .unset, .unset, .unset, .unset, .unset, .unset, .unset, .unset, .unset, .unset, .unset] [])) _
      exact castTop (by rw [hv112]) k
    · rw [if_neg c111] at hv112
      show Steps p.tables e below (s₁.setTop (mkF m 52 #[.val (.int xi), .val (.int fx), .val (.int yi), .val (.int fy), .val (.int kx), .val (.int i103), .val (.int ky), .val (.int i107), .val (.double va), .second, .unset, .unset, .unset, .unset, .unset, .unset, .unset, .unset, .unset, .unset, .unset, .unset, .unset, .unset, .unset, .unset, .unset] [(.int i103)])) _
      refine XS.ifNo X0.here hx rfl (hb hby at_52) rfl ((if0 _ _).trans (feq c111).1) ?_
      show Steps p.tables e below (s₁.setTop (mkF m 55 #[.val (.int xi), .val (.int fx), .val (.int yi), .val (.int fy), .val (.int kx), .val (.int i103), .val (.int ky), .val (.int i107), .val (.double va), .second, .unset, .unset, .unset, .unset, .unset, .unset, .unset, .unset, .unset, .unset, .unset, .unset, .unset, .unset, .unset, .unset, .unset] [])) _
      refine XS.dload X0.here hx rfl (hb hby at_55) rfl ?_
      show Steps p.tables e below (s₁.setTop (mkF m 57 #[.val (.int xi), .val (.int fx), .val (.int yi), .val (.int fy), .val (.int kx), .val (.int i103), .val (.int ky), .val (.int i107), .val (.double va), .second, .unset, .unset, .unset, .unset, .unset, .unset, .unset, .unset, .unset, .unset, .unset, .unset, .unset, .unset, .unset, .unset, .unset] [(.double va)])) _
      refine XS.dnegS X0.here hx rfl (hb hby at_57) rfl hvan ?_
      show Steps p.tables e below (s₁.setTop (mkF m 58 #[.val (.int xi), .val (.int fx), .val (.int yi), .val (.int fy), .val (.int kx), .val (.int i103), .val (.int ky), .val (.int i107), .val (.double va), .second, .unset, .unset, .unset, .unset, .unset, .unset, .unset, .unset, .unset, .unset, .unset, .unset, .unset, .unset, .unset, .unset, .unset] [(.double van)])) _
      refine XS.dstore X0.here hx rfl (hb hby at_58) rfl (l' := #[.val (.int xi), .val (.int fx), .val (.int yi), .val (.int fy), .val (.int kx), .val (.int i103), .val (.int ky), .val (.int i107), .val (.double van), .second, .unset, .unset, .unset, .unset, .unset, .unset, .unset, .unset, .unset, .unset, .unset, .unset, .unset, .unset, .unset, .unset, .unset]) rfl ?_
      show Steps p.tables e below (s₁.setTop (mkF m 60 #[.val (.int xi), .val (.int fx), .val (.int yi), .val (.int fy), .val (.int kx), .val (.int i103), .val (.int ky), .val (.int i107), .val (.double van), .second, .unset, .unset, .unset, .unset, .unset, .unset, .unset, .unset, .unset, .unset, .unset, .unset, .unset, .unset, .unset, .unset, .unset] [])) _
      exact castTop (by rw [hv112]) k)
  obtain ⟨vy, hvy⟩ : ∃ z : UInt64, FP.i2d yi = z := ⟨_, rfl⟩
  have Dvy : Dy (yi.toInt) (0) vy := by rw [← hvy]; exact Dy.i2d _
  obtain ⟨vyp, hvyp⟩ : ∃ z : UInt64, FP.i2d ((1 : Int32) <<< (ky &&& 31)) = z := ⟨_, rfl⟩
  have Dvyp : Dy (2 ^ KY) (0) vyp := by rw [← hvyp]; exact shy ▸ Dy.i2d _
  obtain ⟨vb, hvb⟩ : ∃ z : UInt64, FP.ddiv vy vyp = z := ⟨_, rfl⟩
  have Dvb : Dy (yi.toInt) (KY) vb := by rw [← hvb]; exact Dy.div Dvy Dvyp (by omega) (by have := int32_abs' yi; omega) (by omega) (by rw [Int.pow_zero, Int.mul_one, Int.mul_one])
  have k114 : ∀ t, Steps p.tables e below (s₁.setTop (mkF m 72 #[.val (.int xi), .val (.int fx), .val (.int yi), .val (.int fy), .val (.int kx), .val (.int i103), .val (.int ky), .val (.int i107), .val (.double v112), .second, .val (.double vb), .second, .unset, .unset, .unset, .unset, .unset, .unset, .unset, .unset, .unset, .unset, .unset, .unset, .unset, .unset, .unset] [(.int i107)])) t → Steps p.tables e below (s₁.setTop (entryFrame m #[(.int xi), (.int fx), (.int yi), (.int fy)] maxLocals)) t := fun t k => k113 t (by
    show Steps p.tables e below (s₁.setTop (mkF m 60 #[.val (.int xi), .val (.int fx), .val (.int yi), .val (.int fy), .val (.int kx), .val (.int i103), .val (.int ky), .val (.int i107), .val (.double v112), .second, .unset, .unset, .unset, .unset, .unset, .unset, .unset, .unset, .unset, .unset, .unset, .unset, .unset, .unset, .unset, .unset, .unset] [])) _
    refine XS.iloadN X0.here hx rfl (hb hby at_60) rfl ?_
    show Steps p.tables e below (s₁.setTop (mkF m 61 #[.val (.int xi), .val (.int fx), .val (.int yi), .val (.int fy), .val (.int kx), .val (.int i103), .val (.int ky), .val (.int i107), .val (.double v112), .second, .unset, .unset, .unset, .unset, .unset, .unset, .unset, .unset, .unset, .unset, .unset, .unset, .unset, .unset, .unset, .unset, .unset] [(.int yi)])) _
    refine XS.i2dS X0.here hx rfl (hb hby at_61) rfl hvy ?_
    show Steps p.tables e below (s₁.setTop (mkF m 62 #[.val (.int xi), .val (.int fx), .val (.int yi), .val (.int fy), .val (.int kx), .val (.int i103), .val (.int ky), .val (.int i107), .val (.double v112), .second, .unset, .unset, .unset, .unset, .unset, .unset, .unset, .unset, .unset, .unset, .unset, .unset, .unset, .unset, .unset, .unset, .unset] [(.double vy)])) _
    refine XS.iconst X0.here hx rfl (hb hby at_62) ?_
    show Steps p.tables e below (s₁.setTop (mkF m 63 #[.val (.int xi), .val (.int fx), .val (.int yi), .val (.int fy), .val (.int kx), .val (.int i103), .val (.int ky), .val (.int i107), .val (.double v112), .second, .unset, .unset, .unset, .unset, .unset, .unset, .unset, .unset, .unset, .unset, .unset, .unset, .unset, .unset, .unset, .unset, .unset] [(.int (1 : Int32)), (.double vy)])) _
    refine XS.iload X0.here hx rfl (hb hby at_63) rfl ?_
    show Steps p.tables e below (s₁.setTop (mkF m 65 #[.val (.int xi), .val (.int fx), .val (.int yi), .val (.int fy), .val (.int kx), .val (.int i103), .val (.int ky), .val (.int i107), .val (.double v112), .second, .unset, .unset, .unset, .unset, .unset, .unset, .unset, .unset, .unset, .unset, .unset, .unset, .unset, .unset, .unset, .unset, .unset] [(.int ky), (.int (1 : Int32)), (.double vy)])) _
    refine XS.ishl X0.here hx rfl (hb hby at_65) rfl ?_
    show Steps p.tables e below (s₁.setTop (mkF m 66 #[.val (.int xi), .val (.int fx), .val (.int yi), .val (.int fy), .val (.int kx), .val (.int i103), .val (.int ky), .val (.int i107), .val (.double v112), .second, .unset, .unset, .unset, .unset, .unset, .unset, .unset, .unset, .unset, .unset, .unset, .unset, .unset, .unset, .unset, .unset, .unset] [(.int ((1 : Int32) <<< (ky &&& 31))), (.double vy)])) _
    refine XS.i2dS X0.here hx rfl (hb hby at_66) rfl hvyp ?_
    show Steps p.tables e below (s₁.setTop (mkF m 67 #[.val (.int xi), .val (.int fx), .val (.int yi), .val (.int fy), .val (.int kx), .val (.int i103), .val (.int ky), .val (.int i107), .val (.double v112), .second, .unset, .unset, .unset, .unset, .unset, .unset, .unset, .unset, .unset, .unset, .unset, .unset, .unset, .unset, .unset, .unset, .unset] [(.double vyp), (.double vy)])) _
    refine XS.ddivS X0.here hx rfl (hb hby at_67) rfl (by rw [hvb]; exact Dvb.nn) hvb ?_
    show Steps p.tables e below (s₁.setTop (mkF m 68 #[.val (.int xi), .val (.int fx), .val (.int yi), .val (.int fy), .val (.int kx), .val (.int i103), .val (.int ky), .val (.int i107), .val (.double v112), .second, .unset, .unset, .unset, .unset, .unset, .unset, .unset, .unset, .unset, .unset, .unset, .unset, .unset, .unset, .unset, .unset, .unset] [(.double vb)])) _
    refine XS.dstore X0.here hx rfl (hb hby at_68) rfl (l' := #[.val (.int xi), .val (.int fx), .val (.int yi), .val (.int fy), .val (.int kx), .val (.int i103), .val (.int ky), .val (.int i107), .val (.double v112), .second, .val (.double vb), .second, .unset, .unset, .unset, .unset, .unset, .unset, .unset, .unset, .unset, .unset, .unset, .unset, .unset, .unset, .unset]) rfl ?_
    show Steps p.tables e below (s₁.setTop (mkF m 70 #[.val (.int xi), .val (.int fx), .val (.int yi), .val (.int fy), .val (.int kx), .val (.int i103), .val (.int ky), .val (.int i107), .val (.double v112), .second, .val (.double vb), .second, .unset, .unset, .unset, .unset, .unset, .unset, .unset, .unset, .unset, .unset, .unset, .unset, .unset, .unset, .unset] [])) _
    refine XS.iload X0.here hx rfl (hb hby at_70) rfl ?_
    exact k)
  obtain ⟨vbn, hvbn⟩ : ∃ z : UInt64, FP.dneg vb = z := ⟨_, rfl⟩
  have Dvbn : Dy (-yi.toInt) (KY) vbn := by rw [← hvbn]; exact Dvb.neg
  obtain ⟨v116, hv116⟩ : ∃ z : UInt64, z = (if i107 = (0 : Int32) then vb else vbn) := ⟨_, rfl⟩
  have k117 : ∀ t, Steps p.tables e below (s₁.setTop (mkF m 80 #[.val (.int xi), .val (.int fx), .val (.int yi), .val (.int fy), .val (.int kx), .val (.int i103), .val (.int ky), .val (.int i107), .val (.double v112), .second, .val (.double v116), .second, .unset, .unset, .unset, .unset, .unset, .unset, .unset, .unset, .unset, .unset, .unset, .unset, .unset, .unset, .unset] [])) t → Steps p.tables e below (s₁.setTop (entryFrame m #[(.int xi), (.int fx), (.int yi), (.int fy)] maxLocals)) t := fun t k => k114 t (by
    by_cases c115 : i107 = (0 : Int32)
    · rw [if_pos c115] at hv116
      show Steps p.tables e below (s₁.setTop (mkF m 72 #[.val (.int xi), .val (.int fx), .val (.int yi), .val (.int fy), .val (.int kx), .val (.int i103), .val (.int ky), .val (.int i107), .val (.double v112), .second, .val (.double vb), .second, .unset, .unset, .unset, .unset, .unset, .unset, .unset, .unset, .unset, .unset, .unset, .unset, .unset, .unset, .unset] [(.int i107)])) _
      refine XS.ifYes X0.here hx rfl (pc0 := 72) (pc' := 80) rfl (hb hby at_72) rfl ((if0 _ _).trans (teq c115).1) (by decide) (by decide) ?_
      show Steps p.tables e below (s₁.setTop (mkF m 80 #[.val (.int xi), .val (.int fx), .val (.int yi), .val (.int fy), .val (.int kx), .val (.int i103), .val (.int ky), .val (.int i107), .val (.double v112), .second, .val (.double vb), .second, .unset, .unset, .unset, .unset, .unset, .unset, .unset, .unset, .unset, .unset, .unset, .unset, .unset, .unset, .unset] [])) _
      exact castTop (by rw [hv116]) k
    · rw [if_neg c115] at hv116
      show Steps p.tables e below (s₁.setTop (mkF m 72 #[.val (.int xi), .val (.int fx), .val (.int yi), .val (.int fy), .val (.int kx), .val (.int i103), .val (.int ky), .val (.int i107), .val (.double v112), .second, .val (.double vb), .second, .unset, .unset, .unset, .unset, .unset, .unset, .unset, .unset, .unset, .unset, .unset, .unset, .unset, .unset, .unset] [(.int i107)])) _
      refine XS.ifNo X0.here hx rfl (hb hby at_72) rfl ((if0 _ _).trans (feq c115).1) ?_
      show Steps p.tables e below (s₁.setTop (mkF m 75 #[.val (.int xi), .val (.int fx), .val (.int yi), .val (.int fy), .val (.int kx), .val (.int i103), .val (.int ky), .val (.int i107), .val (.double v112), .second, .val (.double vb), .second, .unset, .unset, .unset, .unset, .unset, .unset, .unset, .unset, .unset, .unset, .unset, .unset, .unset, .unset, .unset] [])) _
      refine XS.dload X0.here hx rfl (hb hby at_75) rfl ?_
      show Steps p.tables e below (s₁.setTop (mkF m 77 #[.val (.int xi), .val (.int fx), .val (.int yi), .val (.int fy), .val (.int kx), .val (.int i103), .val (.int ky), .val (.int i107), .val (.double v112), .second, .val (.double vb), .second, .unset, .unset, .unset, .unset, .unset, .unset, .unset, .unset, .unset, .unset, .unset, .unset, .unset, .unset, .unset] [(.double vb)])) _
      refine XS.dnegS X0.here hx rfl (hb hby at_77) rfl hvbn ?_
      show Steps p.tables e below (s₁.setTop (mkF m 78 #[.val (.int xi), .val (.int fx), .val (.int yi), .val (.int fy), .val (.int kx), .val (.int i103), .val (.int ky), .val (.int i107), .val (.double v112), .second, .val (.double vb), .second, .unset, .unset, .unset, .unset, .unset, .unset, .unset, .unset, .unset, .unset, .unset, .unset, .unset, .unset, .unset] [(.double vbn)])) _
      refine XS.dstore X0.here hx rfl (hb hby at_78) rfl (l' := #[.val (.int xi), .val (.int fx), .val (.int yi), .val (.int fy), .val (.int kx), .val (.int i103), .val (.int ky), .val (.int i107), .val (.double v112), .second, .val (.double vbn), .second, .unset, .unset, .unset, .unset, .unset, .unset, .unset, .unset, .unset, .unset, .unset, .unset, .unset, .unset, .unset]) rfl ?_
      show Steps p.tables e below (s₁.setTop (mkF m 80 #[.val (.int xi), .val (.int fx), .val (.int yi), .val (.int fy), .val (.int kx), .val (.int i103), .val (.int ky), .val (.int i107), .val (.double v112), .second, .val (.double vbn), .second, .unset, .unset, .unset, .unset, .unset, .unset, .unset, .unset, .unset, .unset, .unset, .unset, .unset, .unset, .unset] [])) _
      exact castTop (by rw [hv116]) k)
  have k118 : ∀ t, Steps p.tables e below (s₁.setTop (mkF m 82 #[.val (.int xi), .val (.int fx), .val (.int yi), .val (.int fy), .val (.int kx), .val (.int i103), .val (.int ky), .val (.int i107), .val (.double v112), .second, .val (.double v116), .second, .unset, .unset, .unset, .unset, .unset, .unset, .unset, .unset, .unset, .unset, .unset, .unset, .unset, .unset, .unset] [(.int i103)])) t → Steps p.tables e below (s₁.setTop (entryFrame m #[(.int xi), (.int fx), (.int yi), (.int fy)] maxLocals)) t := fun t k => k117 t (by
    show Steps p.tables e below (s₁.setTop (mkF m 80 #[.val (.int xi), .val (.int fx), .val (.int yi), .val (.int fy), .val (.int kx), .val (.int i103), .val (.int ky), .val (.int i107), .val (.double v112), .second, .val (.double v116), .second, .unset, .unset, .unset, .unset, .unset, .unset, .unset, .unset, .unset, .unset, .unset, .unset, .unset, .unset, .unset] [])) _
    refine XS.iload X0.here hx rfl (hb hby at_80) rfl ?_
    exact k)
  obtain ⟨j120, hj120⟩ : ∃ z : Int64, z = (if i103 = (0 : Int32) then (xi.toInt64) else (-(xi.toInt64))) := ⟨_, rfl⟩
  have k121 : ∀ t, Steps p.tables e below (s₁.setTop (mkF m 93 #[.val (.int xi), .val (.int fx), .val (.int yi), .val (.int fy), .val (.int kx), .val (.int i103), .val (.int ky), .val (.int i107), .val (.double v112), .second, .val (.double v116), .second, .unset, .unset, .unset, .unset, .unset, .unset, .unset, .unset, .unset, .unset, .unset, .unset, .unset, .unset, .unset] [(.long j120)])) t → Steps p.tables e below (s₁.setTop (entryFrame m #[(.int xi), (.int fx), (.int yi), (.int fy)] maxLocals)) t := fun t k => k118 t (by
    by_cases c119 : i103 = (0 : Int32)
    · rw [if_pos c119] at hj120
      show Steps p.tables e below (s₁.setTop (mkF m 82 #[.val (.int xi), .val (.int fx), .val (.int yi), .val (.int fy), .val (.int kx), .val (.int i103), .val (.int ky), .val (.int i107), .val (.double v112), .second, .val (.double v116), .second, .unset, .unset, .unset, .unset, .unset, .unset, .unset, .unset, .unset, .unset, .unset, .unset, .unset, .unset, .unset] [(.int i103)])) _
      refine XS.ifYes X0.here hx rfl (pc0 := 82) (pc' := 91) rfl (hb hby at_82) rfl ((if0 _ _).trans (teq c119).1) (by decide) (by decide) ?_
      show Steps p.tables e below (s₁.setTop (mkF m 91 #[.val (.int xi), .val (.int fx), .val (.int yi), .val (.int fy), .val (.int kx), .val (.int i103), .val (.int ky), .val (.int i107), .val (.double v112), .second, .val (.double v116), .second, .unset, .unset, .unset, .unset, .unset, .unset, .unset, .unset, .unset, .unset, .unset, .unset, .unset, .unset, .unset] [])) _
      refine XS.iloadN X0.here hx rfl (hb hby at_91) rfl ?_
      show Steps p.tables e below (s₁.setTop (mkF m 92 #[.val (.int xi), .val (.int fx), .val (.int yi), .val (.int fy), .val (.int kx), .val (.int i103), .val (.int ky), .val (.int i107), .val (.double v112), .second, .val (.double v116), .second, .unset, .unset, .unset, .unset, .unset, .unset, .unset, .unset, .unset, .unset, .unset, .unset, .unset, .unset, .unset] [(.int xi)])) _
      refine XS.i2l X0.here hx rfl (hb hby at_92) rfl ?_
      show Steps p.tables e below (s₁.setTop (mkF m 93 #[.val (.int xi), .val (.int fx), .val (.int yi), .val (.int fy), .val (.int kx), .val (.int i103), .val (.int ky), .val (.int i107), .val (.double v112), .second, .val (.double v116), .second, .unset, .unset, .unset, .unset, .unset, .unset, .unset, .unset, .unset, .unset, .unset, .unset, .unset, .unset, .unset] [(.long (xi.toInt64))])) _
      exact castTop (by rw [hj120]) k
    · rw [if_neg c119] at hj120
      show Steps p.tables e below (s₁.setTop (mkF m 82 #[.val (.int xi), .val (.int fx), .val (.int yi), .val (.int fy), .val (.int kx), .val (.int i103), .val (.int ky), .val (.int i107), .val (.double v112), .second, .val (.double v116), .second, .unset, .unset, .unset, .unset, .unset, .unset, .unset, .unset, .unset, .unset, .unset, .unset, .unset, .unset, .unset] [(.int i103)])) _
      refine XS.ifNo X0.here hx rfl (hb hby at_82) rfl ((if0 _ _).trans (feq c119).1) ?_
      show Steps p.tables e below (s₁.setTop (mkF m 85 #[.val (.int xi), .val (.int fx), .val (.int yi), .val (.int fy), .val (.int kx), .val (.int i103), .val (.int ky), .val (.int i107), .val (.double v112), .second, .val (.double v116), .second, .unset, .unset, .unset, .unset, .unset, .unset, .unset, .unset, .unset, .unset, .unset, .unset, .unset, .unset, .unset] [])) _
      refine XS.iloadN X0.here hx rfl (hb hby at_85) rfl ?_
      show Steps p.tables e below (s₁.setTop (mkF m 86 #[.val (.int xi), .val (.int fx), .val (.int yi), .val (.int fy), .val (.int kx), .val (.int i103), .val (.int ky), .val (.int i107), .val (.double v112), .second, .val (.double v116), .second, .unset, .unset, .unset, .unset, .unset, .unset, .unset, .unset, .unset, .unset, .unset, .unset, .unset, .unset, .unset] [(.int xi)])) _
      refine XS.i2l X0.here hx rfl (hb hby at_86) rfl ?_
      show Steps p.tables e below (s₁.setTop (mkF m 87 #[.val (.int xi), .val (.int fx), .val (.int yi), .val (.int fy), .val (.int kx), .val (.int i103), .val (.int ky), .val (.int i107), .val (.double v112), .second, .val (.double v116), .second, .unset, .unset, .unset, .unset, .unset, .unset, .unset, .unset, .unset, .unset, .unset, .unset, .unset, .unset, .unset] [(.long (xi.toInt64))])) _
      refine XS.lneg X0.here hx rfl (hb hby at_87) rfl ?_
      show Steps p.tables e below (s₁.setTop (mkF m 88 #[.val (.int xi), .val (.int fx), .val (.int yi), .val (.int fy), .val (.int kx), .val (.int i103), .val (.int ky), .val (.int i107), .val (.double v112), .second, .val (.double v116), .second, .unset, .unset, .unset, .unset, .unset, .unset, .unset, .unset, .unset, .unset, .unset, .unset, .unset, .unset, .unset] [(.long (-(xi.toInt64)))])) _
      refine XS.goto X0.here hx rfl (pc0 := 88) (pc' := 93) rfl (hb hby at_88) (by decide) (by decide) ?_
      show Steps p.tables e below (s₁.setTop (mkF m 93 #[.val (.int xi), .val (.int fx), .val (.int yi), .val (.int fy), .val (.int kx), .val (.int i103), .val (.int ky), .val (.int i107), .val (.double v112), .second, .val (.double v116), .second, .unset, .unset, .unset, .unset, .unset, .unset, .unset, .unset, .unset, .unset, .unset, .unset, .unset, .unset, .unset] [(.long (-(xi.toInt64)))])) _
      exact castTop (by rw [hj120]) k)
  have k122 : ∀ t, Steps p.tables e below (s₁.setTop (mkF m 97 #[.val (.int xi), .val (.int fx), .val (.int yi), .val (.int fy), .val (.int kx), .val (.int i103), .val (.int ky), .val (.int i107), .val (.double v112), .second, .val (.double v116), .second, .val (.long j120), .second, .unset, .unset, .unset, .unset, .unset, .unset, .unset, .unset, .unset, .unset, .unset, .unset, .unset] [(.int i107)])) t → Steps p.tables e below (s₁.setTop (entryFrame m #[(.int xi), (.int fx), (.int yi), (.int fy)] maxLocals)) t := fun t k => k121 t (by
    show Steps p.tables e below (s₁.setTop (mkF m 93 #[.val (.int xi), .val (.int fx), .val (.int yi), .val (.int fy), .val (.int kx), .val (.int i103), .val (.int ky), .val (.int i107), .val (.double v112), .second, .val (.double v116), .second, .unset, .unset, .unset, .unset, .unset, .unset, .unset, .unset, .unset, .unset, .unset, .unset, .unset, .unset, .unset] [(.long j120)])) _
    refine XS.lstore X0.here hx rfl (hb hby at_93) rfl (l' := #[.val (.int xi), .val (.int fx), .val (.int yi), .val (.int fy), .val (.int kx), .val (.int i103), .val (.int ky), .val (.int i107), .val (.double v112), .second, .val (.double v116), .second, .val (.long j120), .second, .unset, .unset, .unset, .unset, .unset, .unset, .unset, .unset, .unset, .unset, .unset, .unset, .unset]) rfl ?_
    show Steps p.tables e below (s₁.setTop (mkF m 95 #[.val (.int xi), .val (.int fx), .val (.int yi), .val (.int fy), .val (.int kx), .val (.int i103), .val (.int ky), .val (.int i107), .val (.double v112), .second, .val (.double v116), .second, .val (.long j120), .second, .unset, .unset, .unset, .unset, .unset, .unset, .unset, .unset, .unset, .unset, .unset, .unset, .unset] [])) _
    refine XS.iload X0.here hx rfl (hb hby at_95) rfl ?_
    exact k)
  obtain ⟨j124, hj124⟩ : ∃ z : Int64, z = (if i107 = (0 : Int32) then (yi.toInt64) else (-(yi.toInt64))) := ⟨_, rfl⟩
  have k125 : ∀ t, Steps p.tables e below (s₁.setTop (mkF m 108 #[.val (.int xi), .val (.int fx), .val (.int yi), .val (.int fy), .val (.int kx), .val (.int i103), .val (.int ky), .val (.int i107), .val (.double v112), .second, .val (.double v116), .second, .val (.long j120), .second, .unset, .unset, .unset, .unset, .unset, .unset, .unset, .unset, .unset, .unset, .unset, .unset, .unset] [(.long j124)])) t → Steps p.tables e below (s₁.setTop (entryFrame m #[(.int xi), (.int fx), (.int yi), (.int fy)] maxLocals)) t := fun t k => k122 t (by
    by_cases c123 : i107 = (0 : Int32)
    · rw [if_pos c123] at hj124
      show Steps p.tables e below (s₁.setTop (mkF m 97 #[.val (.int xi), .val (.int fx), .val (.int yi), .val (.int fy), .val (.int kx), .val (.int i103), .val (.int ky), .val (.int i107), .val (.double v112), .second, .val (.double v116), .second, .val (.long j120), .second, .unset, .unset, .unset, .unset, .unset, .unset, .unset, .unset, .unset, .unset, .unset, .unset, .unset] [(.int i107)])) _
      refine XS.ifYes X0.here hx rfl (pc0 := 97) (pc' := 106) rfl (hb hby at_97) rfl ((if0 _ _).trans (teq c123).1) (by decide) (by decide) ?_
      show Steps p.tables e below (s₁.setTop (mkF m 106 #[.val (.int xi), .val (.int fx), .val (.int yi), .val (.int fy), .val (.int kx), .val (.int i103), .val (.int ky), .val (.int i107), .val (.double v112), .second, .val (.double v116), .second, .val (.long j120), .second, .unset, .unset, .unset, .unset, .unset, .unset, .unset, .unset, .unset, .unset, .unset, .unset, .unset] [])) _
      refine XS.iloadN X0.here hx rfl (hb hby at_106) rfl ?_
      show Steps p.tables e below (s₁.setTop (mkF m 107 #[.val (.int xi), .val (.int fx), .val (.int yi), .val (.int fy), .val (.int kx), .val (.int i103), .val (.int ky), .val (.int i107), .val (.double v112), .second, .val (.double v116), .second, .val (.long j120), .second, .unset, .unset, .unset, .unset, .unset, .unset, .unset, .unset, .unset, .unset, .unset, .unset, .unset] [(.int yi)])) _
      refine XS.i2l X0.here hx rfl (hb hby at_107) rfl ?_
      show Steps p.tables e below (s₁.setTop (mkF m 108 #[.val (.int xi), .val (.int fx), .val (.int yi), .val (.int fy), .val (.int kx), .val (.int i103), .val (.int ky), .val (.int i107), .val (.double v112), .second, .val (.double v116), .second, .val (.long j120), .second, .unset, .unset, .unset, .unset, .unset, .unset, .unset, .unset, .unset, .unset, .unset, .unset, .unset] [(.long (yi.toInt64))])) _
      exact castTop (by rw [hj124]) k
    · rw [if_neg c123] at hj124
      show Steps p.tables e below (s₁.setTop (mkF m 97 #[.val (.int xi), .val (.int fx), .val (.int yi), .val (.int fy), .val (.int kx), .val (.int i103), .val (.int ky), .val (.int i107), .val (.double v112), .second, .val (.double v116), .second, .val (.long j120), .second, .unset, .unset, .unset, .unset, .unset, .unset, .unset, .unset, .unset, .unset, .unset, .unset, .unset] [(.int i107)])) _
      refine XS.ifNo X0.here hx rfl (hb hby at_97) rfl ((if0 _ _).trans (feq c123).1) ?_
      show Steps p.tables e below (s₁.setTop (mkF m 100 #[.val (.int xi), .val (.int fx), .val (.int yi), .val (.int fy), .val (.int kx), .val (.int i103), .val (.int ky), .val (.int i107), .val (.double v112), .second, .val (.double v116), .second, .val (.long j120), .second, .unset, .unset, .unset, .unset, .unset, .unset, .unset, .unset, .unset, .unset, .unset, .unset, .unset] [])) _
      refine XS.iloadN X0.here hx rfl (hb hby at_100) rfl ?_
      show Steps p.tables e below (s₁.setTop (mkF m 101 #[.val (.int xi), .val (.int fx), .val (.int yi), .val (.int fy), .val (.int kx), .val (.int i103), .val (.int ky), .val (.int i107), .val (.double v112), .second, .val (.double v116), .second, .val (.long j120), .second, .unset, .unset, .unset, .unset, .unset, .unset, .unset, .unset, .unset, .unset, .unset, .unset, .unset] [(.int yi)])) _
      refine XS.i2l X0.here hx rfl (hb hby at_101) rfl ?_
      show Steps p.tables e below (s₁.setTop (mkF m 102 #[.val (.int xi), .val (.int fx), .val (.int yi), .val (.int fy), .val (.int kx), .val (.int i103), .val (.int ky), .val (.int i107), .val (.double v112), .second, .val (.double v116), .second, .val (.long j120), .second, .unset, .unset, .unset, .unset, .unset, .unset, .unset, .unset, .unset, .unset, .unset, .unset, .unset] [(.long (yi.toInt64))])) _
      refine XS.lneg X0.here hx rfl (hb hby at_102) rfl ?_
      show Steps p.tables e below (s₁.setTop (mkF m 103 #[.val (.int xi), .val (.int fx), .val (.int yi), .val (.int fy), .val (.int kx), .val (.int i103), .val (.int ky), .val (.int i107), .val (.double v112), .second, .val (.double v116), .second, .val (.long j120), .second, .unset, .unset, .unset, .unset, .unset, .unset, .unset, .unset, .unset, .unset, .unset, .unset, .unset] [(.long (-(yi.toInt64)))])) _
      refine XS.goto X0.here hx rfl (pc0 := 103) (pc' := 108) rfl (hb hby at_103) (by decide) (by decide) ?_
      show Steps p.tables e below (s₁.setTop (mkF m 108 #[.val (.int xi), .val (.int fx), .val (.int yi), .val (.int fy), .val (.int kx), .val (.int i103), .val (.int ky), .val (.int i107), .val (.double v112), .second, .val (.double v116), .second, .val (.long j120), .second, .unset, .unset, .unset, .unset, .unset, .unset, .unset, .unset, .unset, .unset, .unset, .unset, .unset] [(.long (-(yi.toInt64)))])) _
      exact castTop (by rw [hj124]) k)
  have Mx : Dy j120.toInt KX v112 ∧ -2147483648 ≤ j120.toInt ∧ j120.toInt ≤ 2147483648 := by
    rw [hj120, hv112]
    by_cases q : i103 = (0 : Int32)
    · rw [if_pos q, if_pos q, c_i2l]; exact ⟨Dva, by have := rng32 xi; omega⟩
    · rw [if_neg q, if_neg q, own_negI]; exact ⟨Dvan, by have := rng32 xi; omega⟩
  have My : Dy j124.toInt KY v116 ∧ -2147483648 ≤ j124.toInt ∧ j124.toInt ≤ 2147483648 := by
    rw [hj124, hv116]
    by_cases q : i107 = (0 : Int32)
    · rw [if_pos q, if_pos q, c_i2l]; exact ⟨Dvb, by have := rng32 yi; omega⟩
    · rw [if_neg q, if_neg q, own_negI]; exact ⟨Dvbn, by have := rng32 yi; omega⟩
  have k126 : ∀ t, Steps p.tables e below (s₁.setTop (mkF m 112 #[.val (.int xi), .val (.int fx), .val (.int yi), .val (.int fy), .val (.int kx), .val (.int i103), .val (.int ky), .val (.int i107), .val (.double v112), .second, .val (.double v116), .second, .val (.long j120), .second, .val (.long j124), .second, .unset, .unset, .unset, .unset, .unset, .unset, .unset, .unset, .unset, .unset, .unset] [(.long j120)])) t → Steps p.tables e below (s₁.setTop (entryFrame m #[(.int xi), (.int fx), (.int yi), (.int fy)] maxLocals)) t := fun t k => k125 t (by
    show Steps p.tables e below (s₁.setTop (mkF m 108 #[.val (.int xi), .val (.int fx), .val (.int yi), .val (.int fy), .val (.int kx), .val (.int i103), .val (.int ky), .val (.int i107), .val (.double v112), .second, .val (.double v116), .second, .val (.long j120), .second, .unset, .unset, .unset, .unset, .unset, .unset, .unset, .unset, .unset, .unset, .unset, .unset, .unset] [(.long j124)])) _
    refine XS.lstore X0.here hx rfl (hb hby at_108) rfl (l' := #[.val (.int xi), .val (.int fx), .val (.int yi), .val (.int fy), .val (.int kx), .val (.int i103), .val (.int ky), .val (.int i107), .val (.double v112), .second, .val (.double v116), .second, .val (.long j120), .second, .val (.long j124), .second, .unset, .unset, .unset, .unset, .unset, .unset, .unset, .unset, .unset, .unset, .unset]) rfl ?_
    show Steps p.tables e below (s₁.setTop (mkF m 110 #[.val (.int xi), .val (.int fx), .val (.int yi), .val (.int fy), .val (.int kx), .val (.int i103), .val (.int ky), .val (.int i107), .val (.double v112), .second, .val (.double v116), .second, .val (.long j120), .second, .val (.long j124), .second, .unset, .unset, .unset, .unset, .unset, .unset, .unset, .unset, .unset, .unset, .unset] [])) _
    refine XS.lload X0.here hx rfl (hb hby at_110) rfl ?_
    exact k)
  obtain ⟨_, _, ⟨T127, L127, k127, n127⟩, -, X127, ⟨Lc127, hQ127, l127, y127, z127⟩, st127⟩ := Jvm.LawKit.callS X0 hx (y := (⟨"com/example/multinomial/multinomial/search/RankOrderCompareScoresPinLaw", "roundToFloat", "(J)J"⟩ : MethodName)) hown (mvT hZ (hw _ (List.mem_of_getElem? (i := 0) rfl))) (mvT hZ (hw _ (List.mem_of_getElem? (i := 1) rfl))) (mvT hZ (hw _ (List.mem_of_getElem? (i := 2) rfl))) (mvT hZ (hw _ (List.mem_of_getElem? (i := 3) rfl))) (by decide) (backOf (W := 0) (rm1 l Z a0 hw [] j120 h0 n0 Z0 Mx.2) hZ (hw _ (List.mem_of_getElem? (i := 3) rfl)) (hw _ (List.mem_of_getElem? (i := 2) rfl)) (by decide) (by decide)) (g := (mkF m 112 #[.val (.int xi), .val (.int fx), .val (.int yi), .val (.int fy), .val (.int kx), .val (.int i103), .val (.int ky), .val (.int i107), .val (.double v112), .second, .val (.double v116), .second, .val (.long j120), .second, .val (.long j124), .second, .unset, .unset, .unset, .unset, .unset, .unset, .unset, .unset, .unset, .unset, .unset] [(.long j120)])) rfl (by rw [hml]; rfl) (argsL := [(.long j120)]) (rest := []) (lenOf pd__28J_29J rfl) rfl (by show 2 * 0 + _ ≤ _; exact Nat.le_of_eq rfl) (hb hby at_112) (fun _ _ => ⟨rfl, e0, (by decide : 0 + 0 ≤ _), (by decide : 0 + 0 ≤ _)⟩)
  dsimp only [Pt.U, Pt.locs, Pt.cells, Pt.slots] at X127 l127 y127 z127 st127 hQ127
  subst l127 y127 z127
  obtain ⟨h127, e127⟩ : ∃ h', T127.heap = h' := ⟨_, rfl⟩
  rw [e127] at hQ127
  obtain ⟨r127, rfl, N127q, eh127, hrx⟩ := hQ127
  have N128 := Fr.app N0 N127q
  have k129 : ∀ t, Steps p.tables e below (T127.setTop (mkF m 115 #[.val (.int xi), .val (.int fx), .val (.int yi), .val (.int fy), .val (.int kx), .val (.int i103), .val (.int ky), .val (.int i107), .val (.double v112), .second, .val (.double v116), .second, .val (.long j120), .second, .val (.long j124), .second, .unset, .unset, .unset, .unset, .unset, .unset, .unset, .unset, .unset, .unset, .unset] [(.long r127)])) t → Steps p.tables e below (s₁.setTop (entryFrame m #[(.int xi), (.int fx), (.int yi), (.int fy)] maxLocals)) t := fun t k => k126 t (st127 t k)
  rw [eh127] at e127
  have k130 : ∀ t, Steps p.tables e below (T127.setTop (mkF m 119 #[.val (.int xi), .val (.int fx), .val (.int yi), .val (.int fy), .val (.int kx), .val (.int i103), .val (.int ky), .val (.int i107), .val (.double v112), .second, .val (.double v116), .second, .val (.long j120), .second, .val (.long j124), .second, .val (.long r127), .second, .unset, .unset, .unset, .unset, .unset, .unset, .unset, .unset, .unset] [(.long j124)])) t → Steps p.tables e below (s₁.setTop (entryFrame m #[(.int xi), (.int fx), (.int yi), (.int fy)] maxLocals)) t := fun t k => k129 t (by
    show Steps p.tables e below (T127.setTop (mkF m 115 #[.val (.int xi), .val (.int fx), .val (.int yi), .val (.int fy), .val (.int kx), .val (.int i103), .val (.int ky), .val (.int i107), .val (.double v112), .second, .val (.double v116), .second, .val (.long j120), .second, .val (.long j124), .second, .unset, .unset, .unset, .unset, .unset, .unset, .unset, .unset, .unset, .unset, .unset] [(.long r127)])) _
    refine XS.lstore X127.here hx rfl (hb hby at_115) rfl (l' := #[.val (.int xi), .val (.int fx), .val (.int yi), .val (.int fy), .val (.int kx), .val (.int i103), .val (.int ky), .val (.int i107), .val (.double v112), .second, .val (.double v116), .second, .val (.long j120), .second, .val (.long j124), .second, .val (.long r127), .second, .unset, .unset, .unset, .unset, .unset, .unset, .unset, .unset, .unset]) rfl ?_
    show Steps p.tables e below (T127.setTop (mkF m 117 #[.val (.int xi), .val (.int fx), .val (.int yi), .val (.int fy), .val (.int kx), .val (.int i103), .val (.int ky), .val (.int i107), .val (.double v112), .second, .val (.double v116), .second, .val (.long j120), .second, .val (.long j124), .second, .val (.long r127), .second, .unset, .unset, .unset, .unset, .unset, .unset, .unset, .unset, .unset] [])) _
    refine XS.lload X127.here hx rfl (hb hby at_117) rfl ?_
    exact k)
  obtain ⟨_, _, ⟨T131, L131, k131, n131⟩, -, X131, ⟨Lc131, hQ131, l131, y131, z131⟩, st131⟩ := Jvm.LawKit.callS X127 hx (y := (⟨"com/example/multinomial/multinomial/search/RankOrderCompareScoresPinLaw", "roundToFloat", "(J)J"⟩ : MethodName)) hown (mvT hZ (hw _ (List.mem_of_getElem? (i := 0) rfl))) (mvT hZ (hw _ (List.mem_of_getElem? (i := 1) rfl))) (mvT hZ (hw _ (List.mem_of_getElem? (i := 2) rfl))) (mvT hZ (hw _ (List.mem_of_getElem? (i := 3) rfl))) (by decide) (backOf (W := 0) (rm1 l Z a0 hw [] j124 h0 n0 Z0 My.2) hZ (hw _ (List.mem_of_getElem? (i := 3) rfl)) (hw _ (List.mem_of_getElem? (i := 2) rfl)) (by decide) (by decide)) (g := (mkF m 119 #[.val (.int xi), .val (.int fx), .val (.int yi), .val (.int fy), .val (.int kx), .val (.int i103), .val (.int ky), .val (.int i107), .val (.double v112), .second, .val (.double v116), .second, .val (.long j120), .second, .val (.long j124), .second, .val (.long r127), .second, .unset, .unset, .unset, .unset, .unset, .unset, .unset, .unset, .unset] [(.long j124)])) rfl (by rw [hml]; rfl) (argsL := [(.long j124)]) (rest := []) (lenOf pd__28J_29J rfl) rfl (by show 2 * 0 + _ ≤ _; exact Nat.le_of_eq rfl) (hb hby at_119) (fun _ _ => ⟨rfl, e127, (by decide : 0 + 0 ≤ _), (by decide : 0 + 0 ≤ _)⟩)
  dsimp only [Pt.U, Pt.locs, Pt.cells, Pt.slots] at X131 l131 y131 z131 st131 hQ131
  subst l131 y131 z131
  obtain ⟨h131, e131⟩ : ∃ h', T131.heap = h' := ⟨_, rfl⟩
  rw [e131] at hQ131
  obtain ⟨r131, rfl, N131q, eh131, hry⟩ := hQ131
  have N132 := Fr.app N128 N131q
  have k133 : ∀ t, Steps p.tables e below (T131.setTop (mkF m 122 #[.val (.int xi), .val (.int fx), .val (.int yi), .val (.int fy), .val (.int kx), .val (.int i103), .val (.int ky), .val (.int i107), .val (.double v112), .second, .val (.double v116), .second, .val (.long j120), .second, .val (.long j124), .second, .val (.long r127), .second, .unset, .unset, .unset, .unset, .unset, .unset, .unset, .unset, .unset] [(.long r131)])) t → Steps p.tables e below (s₁.setTop (entryFrame m #[(.int xi), (.int fx), (.int yi), (.int fy)] maxLocals)) t := fun t k => k130 t (st131 t k)
  rw [eh131] at e131
  obtain ⟨lhs, hlhs⟩ : ∃ z : Int64, z = (r127 * ((1 : Int64) <<< (ky &&& 0x3f).toInt64)) := ⟨_, rfl⟩
  obtain ⟨rhs, hrhs⟩ : ∃ z : Int64, z = (r131 * ((1 : Int64) <<< (kx &&& 0x3f).toInt64)) := ⟨_, rfl⟩
  have k134 : ∀ t, Steps p.tables e below (T131.setTop (mkF m 142 #[.val (.int xi), .val (.int fx), .val (.int yi), .val (.int fy), .val (.int kx), .val (.int i103), .val (.int ky), .val (.int i107), .val (.double v112), .second, .val (.double v116), .second, .val (.long j120), .second, .val (.long j124), .second, .val (.long r127), .second, .val (.long r131), .second, .val (.long lhs), .second, .val (.long rhs), .second, .unset, .unset, .unset] [])) t → Steps p.tables e below (s₁.setTop (entryFrame m #[(.int xi), (.int fx), (.int yi), (.int fy)] maxLocals)) t := fun t k => k133 t (by
    show Steps p.tables e below (T131.setTop (mkF m 122 #[.val (.int xi), .val (.int fx), .val (.int yi), .val (.int fy), .val (.int kx), .val (.int i103), .val (.int ky), .val (.int i107), .val (.double v112), .second, .val (.double v116), .second, .val (.long j120), .second, .val (.long j124), .second, .val (.long r127), .second, .unset, .unset, .unset, .unset, .unset, .unset, .unset, .unset, .unset] [(.long r131)])) _
    refine XS.lstore X131.here hx rfl (hb hby at_122) rfl (l' := #[.val (.int xi), .val (.int fx), .val (.int yi), .val (.int fy), .val (.int kx), .val (.int i103), .val (.int ky), .val (.int i107), .val (.double v112), .second, .val (.double v116), .second, .val (.long j120), .second, .val (.long j124), .second, .val (.long r127), .second, .val (.long r131), .second, .unset, .unset, .unset, .unset, .unset, .unset, .unset]) rfl ?_
    show Steps p.tables e below (T131.setTop (mkF m 124 #[.val (.int xi), .val (.int fx), .val (.int yi), .val (.int fy), .val (.int kx), .val (.int i103), .val (.int ky), .val (.int i107), .val (.double v112), .second, .val (.double v116), .second, .val (.long j120), .second, .val (.long j124), .second, .val (.long r127), .second, .val (.long r131), .second, .unset, .unset, .unset, .unset, .unset, .unset, .unset] [])) _
    refine XS.lload X131.here hx rfl (hb hby at_124) rfl ?_
    show Steps p.tables e below (T131.setTop (mkF m 126 #[.val (.int xi), .val (.int fx), .val (.int yi), .val (.int fy), .val (.int kx), .val (.int i103), .val (.int ky), .val (.int i107), .val (.double v112), .second, .val (.double v116), .second, .val (.long j120), .second, .val (.long j124), .second, .val (.long r127), .second, .val (.long r131), .second, .unset, .unset, .unset, .unset, .unset, .unset, .unset] [(.long r127)])) _
    refine XS.lconst X131.here hx rfl (hb hby at_126) ?_
    show Steps p.tables e below (T131.setTop (mkF m 127 #[.val (.int xi), .val (.int fx), .val (.int yi), .val (.int fy), .val (.int kx), .val (.int i103), .val (.int ky), .val (.int i107), .val (.double v112), .second, .val (.double v116), .second, .val (.long j120), .second, .val (.long j124), .second, .val (.long r127), .second, .val (.long r131), .second, .unset, .unset, .unset, .unset, .unset, .unset, .unset] [(.long (1 : Int64)), (.long r127)])) _
    refine XS.iload X131.here hx rfl (hb hby at_127) rfl ?_
    show Steps p.tables e below (T131.setTop (mkF m 129 #[.val (.int xi), .val (.int fx), .val (.int yi), .val (.int fy), .val (.int kx), .val (.int i103), .val (.int ky), .val (.int i107), .val (.double v112), .second, .val (.double v116), .second, .val (.long j120), .second, .val (.long j124), .second, .val (.long r127), .second, .val (.long r131), .second, .unset, .unset, .unset, .unset, .unset, .unset, .unset] [(.int ky), (.long (1 : Int64)), (.long r127)])) _
    refine XS.lshl X131.here hx rfl (hb hby at_129) rfl ?_
    show Steps p.tables e below (T131.setTop (mkF m 130 #[.val (.int xi), .val (.int fx), .val (.int yi), .val (.int fy), .val (.int kx), .val (.int i103), .val (.int ky), .val (.int i107), .val (.double v112), .second, .val (.double v116), .second, .val (.long j120), .second, .val (.long j124), .second, .val (.long r127), .second, .val (.long r131), .second, .unset, .unset, .unset, .unset, .unset, .unset, .unset] [(.long ((1 : Int64) <<< (ky &&& 0x3f).toInt64)), (.long r127)])) _
    refine XS.lmul X131.here hx rfl (hb hby at_130) rfl ?_
    show Steps p.tables e below (T131.setTop (mkF m 131 #[.val (.int xi), .val (.int fx), .val (.int yi), .val (.int fy), .val (.int kx), .val (.int i103), .val (.int ky), .val (.int i107), .val (.double v112), .second, .val (.double v116), .second, .val (.long j120), .second, .val (.long j124), .second, .val (.long r127), .second, .val (.long r131), .second, .unset, .unset, .unset, .unset, .unset, .unset, .unset] [(.long (r127 * ((1 : Int64) <<< (ky &&& 0x3f).toInt64)))])) _
    refine castTop (g' := (mkF m 131 #[.val (.int xi), .val (.int fx), .val (.int yi), .val (.int fy), .val (.int kx), .val (.int i103), .val (.int ky), .val (.int i107), .val (.double v112), .second, .val (.double v116), .second, .val (.long j120), .second, .val (.long j124), .second, .val (.long r127), .second, .val (.long r131), .second, .unset, .unset, .unset, .unset, .unset, .unset, .unset] [(.long lhs)])) (by rw [hlhs]) ?_
    show Steps p.tables e below (T131.setTop (mkF m 131 #[.val (.int xi), .val (.int fx), .val (.int yi), .val (.int fy), .val (.int kx), .val (.int i103), .val (.int ky), .val (.int i107), .val (.double v112), .second, .val (.double v116), .second, .val (.long j120), .second, .val (.long j124), .second, .val (.long r127), .second, .val (.long r131), .second, .unset, .unset, .unset, .unset, .unset, .unset, .unset] [(.long lhs)])) _
    refine XS.lstore X131.here hx rfl (hb hby at_131) rfl (l' := #[.val (.int xi), .val (.int fx), .val (.int yi), .val (.int fy), .val (.int kx), .val (.int i103), .val (.int ky), .val (.int i107), .val (.double v112), .second, .val (.double v116), .second, .val (.long j120), .second, .val (.long j124), .second, .val (.long r127), .second, .val (.long r131), .second, .val (.long lhs), .second, .unset, .unset, .unset, .unset, .unset]) rfl ?_
    show Steps p.tables e below (T131.setTop (mkF m 133 #[.val (.int xi), .val (.int fx), .val (.int yi), .val (.int fy), .val (.int kx), .val (.int i103), .val (.int ky), .val (.int i107), .val (.double v112), .second, .val (.double v116), .second, .val (.long j120), .second, .val (.long j124), .second, .val (.long r127), .second, .val (.long r131), .second, .val (.long lhs), .second, .unset, .unset, .unset, .unset, .unset] [])) _
    refine XS.lload X131.here hx rfl (hb hby at_133) rfl ?_
    show Steps p.tables e below (T131.setTop (mkF m 135 #[.val (.int xi), .val (.int fx), .val (.int yi), .val (.int fy), .val (.int kx), .val (.int i103), .val (.int ky), .val (.int i107), .val (.double v112), .second, .val (.double v116), .second, .val (.long j120), .second, .val (.long j124), .second, .val (.long r127), .second, .val (.long r131), .second, .val (.long lhs), .second, .unset, .unset, .unset, .unset, .unset] [(.long r131)])) _
    refine XS.lconst X131.here hx rfl (hb hby at_135) ?_
    show Steps p.tables e below (T131.setTop (mkF m 136 #[.val (.int xi), .val (.int fx), .val (.int yi), .val (.int fy), .val (.int kx), .val (.int i103), .val (.int ky), .val (.int i107), .val (.double v112), .second, .val (.double v116), .second, .val (.long j120), .second, .val (.long j124), .second, .val (.long r127), .second, .val (.long r131), .second, .val (.long lhs), .second, .unset, .unset, .unset, .unset, .unset] [(.long (1 : Int64)), (.long r131)])) _
    refine XS.iload X131.here hx rfl (hb hby at_136) rfl ?_
    show Steps p.tables e below (T131.setTop (mkF m 138 #[.val (.int xi), .val (.int fx), .val (.int yi), .val (.int fy), .val (.int kx), .val (.int i103), .val (.int ky), .val (.int i107), .val (.double v112), .second, .val (.double v116), .second, .val (.long j120), .second, .val (.long j124), .second, .val (.long r127), .second, .val (.long r131), .second, .val (.long lhs), .second, .unset, .unset, .unset, .unset, .unset] [(.int kx), (.long (1 : Int64)), (.long r131)])) _
    refine XS.lshl X131.here hx rfl (hb hby at_138) rfl ?_
    show Steps p.tables e below (T131.setTop (mkF m 139 #[.val (.int xi), .val (.int fx), .val (.int yi), .val (.int fy), .val (.int kx), .val (.int i103), .val (.int ky), .val (.int i107), .val (.double v112), .second, .val (.double v116), .second, .val (.long j120), .second, .val (.long j124), .second, .val (.long r127), .second, .val (.long r131), .second, .val (.long lhs), .second, .unset, .unset, .unset, .unset, .unset] [(.long ((1 : Int64) <<< (kx &&& 0x3f).toInt64)), (.long r131)])) _
    refine XS.lmul X131.here hx rfl (hb hby at_139) rfl ?_
    show Steps p.tables e below (T131.setTop (mkF m 140 #[.val (.int xi), .val (.int fx), .val (.int yi), .val (.int fy), .val (.int kx), .val (.int i103), .val (.int ky), .val (.int i107), .val (.double v112), .second, .val (.double v116), .second, .val (.long j120), .second, .val (.long j124), .second, .val (.long r127), .second, .val (.long r131), .second, .val (.long lhs), .second, .unset, .unset, .unset, .unset, .unset] [(.long (r131 * ((1 : Int64) <<< (kx &&& 0x3f).toInt64)))])) _
    refine castTop (g' := (mkF m 140 #[.val (.int xi), .val (.int fx), .val (.int yi), .val (.int fy), .val (.int kx), .val (.int i103), .val (.int ky), .val (.int i107), .val (.double v112), .second, .val (.double v116), .second, .val (.long j120), .second, .val (.long j124), .second, .val (.long r127), .second, .val (.long r131), .second, .val (.long lhs), .second, .unset, .unset, .unset, .unset, .unset] [(.long rhs)])) (by rw [hrhs]) ?_
    show Steps p.tables e below (T131.setTop (mkF m 140 #[.val (.int xi), .val (.int fx), .val (.int yi), .val (.int fy), .val (.int kx), .val (.int i103), .val (.int ky), .val (.int i107), .val (.double v112), .second, .val (.double v116), .second, .val (.long j120), .second, .val (.long j124), .second, .val (.long r127), .second, .val (.long r131), .second, .val (.long lhs), .second, .unset, .unset, .unset, .unset, .unset] [(.long rhs)])) _
    refine XS.lstore X131.here hx rfl (hb hby at_140) rfl (l' := #[.val (.int xi), .val (.int fx), .val (.int yi), .val (.int fy), .val (.int kx), .val (.int i103), .val (.int ky), .val (.int i107), .val (.double v112), .second, .val (.double v116), .second, .val (.long j120), .second, .val (.long j124), .second, .val (.long r127), .second, .val (.long r131), .second, .val (.long lhs), .second, .val (.long rhs), .second, .unset, .unset, .unset]) rfl ?_
    exact k)
  have Fx := own_d2f Mx.1 Mx.2 hKX15
  have Fy' := own_d2f My.1 My.2 hKY15
  have hl : lhs.toInt = own_rtf j120.toInt * 2 ^ KY := by rw [hlhs]; exact own_sc Mx.2 hrx shyL py1 py2
  have hrr : rhs.toInt = own_rtf j124.toInt * 2 ^ KX := by rw [hrhs]; exact own_sc My.2 hry shxL px1 px2
  have k135 : ∀ t, Steps p.tables e below (T131.setTop (mkF m 147 #[.val (.int xi), .val (.int fx), .val (.int yi), .val (.int fy), .val (.int kx), .val (.int i103), .val (.int ky), .val (.int i107), .val (.double v112), .second, .val (.double v116), .second, .val (.long j120), .second, .val (.long j124), .second, .val (.long r127), .second, .val (.long r131), .second, .val (.long lhs), .second, .val (.long rhs), .second, .unset, .unset, .unset] [(.int (lcmpW lhs rhs))])) t → Steps p.tables e below (s₁.setTop (entryFrame m #[(.int xi), (.int fx), (.int yi), (.int fy)] maxLocals)) t := fun t k => k134 t (by
    show Steps p.tables e below (T131.setTop (mkF m 142 #[.val (.int xi), .val (.int fx), .val (.int yi), .val (.int fy), .val (.int kx), .val (.int i103), .val (.int ky), .val (.int i107), .val (.double v112), .second, .val (.double v116), .second, .val (.long j120), .second, .val (.long j124), .second, .val (.long r127), .second, .val (.long r131), .second, .val (.long lhs), .second, .val (.long rhs), .second, .unset, .unset, .unset] [])) _
    refine XS.lload X131.here hx rfl (hb hby at_142) rfl ?_
    show Steps p.tables e below (T131.setTop (mkF m 144 #[.val (.int xi), .val (.int fx), .val (.int yi), .val (.int fy), .val (.int kx), .val (.int i103), .val (.int ky), .val (.int i107), .val (.double v112), .second, .val (.double v116), .second, .val (.long j120), .second, .val (.long j124), .second, .val (.long r127), .second, .val (.long r131), .second, .val (.long lhs), .second, .val (.long rhs), .second, .unset, .unset, .unset] [(.long lhs)])) _
    refine XS.lload X131.here hx rfl (hb hby at_144) rfl ?_
    show Steps p.tables e below (T131.setTop (mkF m 146 #[.val (.int xi), .val (.int fx), .val (.int yi), .val (.int fy), .val (.int kx), .val (.int i103), .val (.int ky), .val (.int i107), .val (.double v112), .second, .val (.double v116), .second, .val (.long j120), .second, .val (.long j124), .second, .val (.long r127), .second, .val (.long r131), .second, .val (.long lhs), .second, .val (.long rhs), .second, .unset, .unset, .unset] [(.long rhs), (.long lhs)])) _
    refine XS.lcmp X131.here hx rfl (hb hby at_146) rfl ?_
    exact k)
  obtain ⟨i138, hi138⟩ : ∃ z : Int32, z = (if (0 : Int32) < (lcmpW lhs rhs) then (-1 : Int32) else (if (lcmpW lhs rhs) < (0 : Int32) then (1 : Int32) else (0 : Int32))) := ⟨_, rfl⟩
  have k139 : ∀ t, Steps p.tables e below (T131.setTop (mkF m 173 #[.val (.int xi), .val (.int fx), .val (.int yi), .val (.int fy), .val (.int kx), .val (.int i103), .val (.int ky), .val (.int i107), .val (.double v112), .second, .val (.double v116), .second, .val (.long j120), .second, .val (.long j124), .second, .val (.long r127), .second, .val (.long r131), .second, .val (.long lhs), .second, .val (.long rhs), .second, .val (.int i138), .unset, .unset] [])) t → Steps p.tables e below (s₁.setTop (entryFrame m #[(.int xi), (.int fx), (.int yi), (.int fy)] maxLocals)) t := fun t k => k135 t (by
    by_cases c136 : (0 : Int32) < (lcmpW lhs rhs)
    · rw [if_pos c136] at hi138
      show Steps p.tables e below (T131.setTop (mkF m 147 #[.val (.int xi), .val (.int fx), .val (.int yi), .val (.int fy), .val (.int kx), .val (.int i103), .val (.int ky), .val (.int i107), .val (.double v112), .second, .val (.double v116), .second, .val (.long j120), .second, .val (.long j124), .second, .val (.long r127), .second, .val (.long r131), .second, .val (.long lhs), .second, .val (.long rhs), .second, .unset, .unset, .unset] [(.int (lcmpW lhs rhs))])) _
      refine XS.ifNo X131.here hx rfl (hb hby at_147) rfl ((if0 _ _).trans (tlt c136).2.2.2) ?_
      show Steps p.tables e below (T131.setTop (mkF m 150 #[.val (.int xi), .val (.int fx), .val (.int yi), .val (.int fy), .val (.int kx), .val (.int i103), .val (.int ky), .val (.int i107), .val (.double v112), .second, .val (.double v116), .second, .val (.long j120), .second, .val (.long j124), .second, .val (.long r127), .second, .val (.long r131), .second, .val (.long lhs), .second, .val (.long rhs), .second, .unset, .unset, .unset] [])) _
      refine XS.iconst X131.here hx rfl (hb hby at_150) ?_
      show Steps p.tables e below (T131.setTop (mkF m 151 #[.val (.int xi), .val (.int fx), .val (.int yi), .val (.int fy), .val (.int kx), .val (.int i103), .val (.int ky), .val (.int i107), .val (.double v112), .second, .val (.double v116), .second, .val (.long j120), .second, .val (.long j124), .second, .val (.long r127), .second, .val (.long r131), .second, .val (.long lhs), .second, .val (.long rhs), .second, .unset, .unset, .unset] [(.int (-1 : Int32))])) _
      refine XS.istore X131.here hx rfl (hb hby at_151) rfl (l' := #[.val (.int xi), .val (.int fx), .val (.int yi), .val (.int fy), .val (.int kx), .val (.int i103), .val (.int ky), .val (.int i107), .val (.double v112), .second, .val (.double v116), .second, .val (.long j120), .second, .val (.long j124), .second, .val (.long r127), .second, .val (.long r131), .second, .val (.long lhs), .second, .val (.long rhs), .second, .val (.int (-1 : Int32)), .unset, .unset]) rfl ?_
      show Steps p.tables e below (T131.setTop (mkF m 153 #[.val (.int xi), .val (.int fx), .val (.int yi), .val (.int fy), .val (.int kx), .val (.int i103), .val (.int ky), .val (.int i107), .val (.double v112), .second, .val (.double v116), .second, .val (.long j120), .second, .val (.long j124), .second, .val (.long r127), .second, .val (.long r131), .second, .val (.long lhs), .second, .val (.long rhs), .second, .val (.int (-1 : Int32)), .unset, .unset] [])) _
      refine XS.goto X131.here hx rfl (pc0 := 153) (pc' := 173) rfl (hb hby at_153) (by decide) (by decide) ?_
      show Steps p.tables e below (T131.setTop (mkF m 173 #[.val (.int xi), .val (.int fx), .val (.int yi), .val (.int fy), .val (.int kx), .val (.int i103), .val (.int ky), .val (.int i107), .val (.double v112), .second, .val (.double v116), .second, .val (.long j120), .second, .val (.long j124), .second, .val (.long r127), .second, .val (.long r131), .second, .val (.long lhs), .second, .val (.long rhs), .second, .val (.int (-1 : Int32)), .unset, .unset] [])) _
      exact castTop (by rw [hi138]) k
    · rw [if_neg c136] at hi138
      show Steps p.tables e below (T131.setTop (mkF m 147 #[.val (.int xi), .val (.int fx), .val (.int yi), .val (.int fy), .val (.int kx), .val (.int i103), .val (.int ky), .val (.int i107), .val (.double v112), .second, .val (.double v116), .second, .val (.long j120), .second, .val (.long j124), .second, .val (.long r127), .second, .val (.long r131), .second, .val (.long lhs), .second, .val (.long rhs), .second, .unset, .unset, .unset] [(.int (lcmpW lhs rhs))])) _
      refine XS.ifYes X131.here hx rfl (pc0 := 147) (pc' := 156) rfl (hb hby at_147) rfl ((if0 _ _).trans (flt c136).2.2.2) (by decide) (by decide) ?_
      show Steps p.tables e below (T131.setTop (mkF m 156 #[.val (.int xi), .val (.int fx), .val (.int yi), .val (.int fy), .val (.int kx), .val (.int i103), .val (.int ky), .val (.int i107), .val (.double v112), .second, .val (.double v116), .second, .val (.long j120), .second, .val (.long j124), .second, .val (.long r127), .second, .val (.long r131), .second, .val (.long lhs), .second, .val (.long rhs), .second, .unset, .unset, .unset] [])) _
      refine XS.lload X131.here hx rfl (hb hby at_156) rfl ?_
      show Steps p.tables e below (T131.setTop (mkF m 158 #[.val (.int xi), .val (.int fx), .val (.int yi), .val (.int fy), .val (.int kx), .val (.int i103), .val (.int ky), .val (.int i107), .val (.double v112), .second, .val (.double v116), .second, .val (.long j120), .second, .val (.long j124), .second, .val (.long r127), .second, .val (.long r131), .second, .val (.long lhs), .second, .val (.long rhs), .second, .unset, .unset, .unset] [(.long lhs)])) _
      refine XS.lload X131.here hx rfl (hb hby at_158) rfl ?_
      show Steps p.tables e below (T131.setTop (mkF m 160 #[.val (.int xi), .val (.int fx), .val (.int yi), .val (.int fy), .val (.int kx), .val (.int i103), .val (.int ky), .val (.int i107), .val (.double v112), .second, .val (.double v116), .second, .val (.long j120), .second, .val (.long j124), .second, .val (.long r127), .second, .val (.long r131), .second, .val (.long lhs), .second, .val (.long rhs), .second, .unset, .unset, .unset] [(.long rhs), (.long lhs)])) _
      refine XS.lcmp X131.here hx rfl (hb hby at_160) rfl ?_
      by_cases c137 : (lcmpW lhs rhs) < (0 : Int32)
      · rw [if_pos c137] at hi138
        show Steps p.tables e below (T131.setTop (mkF m 161 #[.val (.int xi), .val (.int fx), .val (.int yi), .val (.int fy), .val (.int kx), .val (.int i103), .val (.int ky), .val (.int i107), .val (.double v112), .second, .val (.double v116), .second, .val (.long j120), .second, .val (.long j124), .second, .val (.long r127), .second, .val (.long r131), .second, .val (.long lhs), .second, .val (.long rhs), .second, .unset, .unset, .unset] [(.int (lcmpW lhs rhs))])) _
        refine XS.ifNo X131.here hx rfl (hb hby at_161) rfl ((if0 _ _).trans (tlt c137).2.1) ?_
        show Steps p.tables e below (T131.setTop (mkF m 164 #[.val (.int xi), .val (.int fx), .val (.int yi), .val (.int fy), .val (.int kx), .val (.int i103), .val (.int ky), .val (.int i107), .val (.double v112), .second, .val (.double v116), .second, .val (.long j120), .second, .val (.long j124), .second, .val (.long r127), .second, .val (.long r131), .second, .val (.long lhs), .second, .val (.long rhs), .second, .unset, .unset, .unset] [])) _
        refine XS.iconst X131.here hx rfl (hb hby at_164) ?_
        show Steps p.tables e below (T131.setTop (mkF m 165 #[.val (.int xi), .val (.int fx), .val (.int yi), .val (.int fy), .val (.int kx), .val (.int i103), .val (.int ky), .val (.int i107), .val (.double v112), .second, .val (.double v116), .second, .val (.long j120), .second, .val (.long j124), .second, .val (.long r127), .second, .val (.long r131), .second, .val (.long lhs), .second, .val (.long rhs), .second, .unset, .unset, .unset] [(.int (1 : Int32))])) _
        refine XS.istore X131.here hx rfl (hb hby at_165) rfl (l' := #[.val (.int xi), .val (.int fx), .val (.int yi), .val (.int fy), .val (.int kx), .val (.int i103), .val (.int ky), .val (.int i107), .val (.double v112), .second, .val (.double v116), .second, .val (.long j120), .second, .val (.long j124), .second, .val (.long r127), .second, .val (.long r131), .second, .val (.long lhs), .second, .val (.long rhs), .second, .val (.int (1 : Int32)), .unset, .unset]) rfl ?_
        show Steps p.tables e below (T131.setTop (mkF m 167 #[.val (.int xi), .val (.int fx), .val (.int yi), .val (.int fy), .val (.int kx), .val (.int i103), .val (.int ky), .val (.int i107), .val (.double v112), .second, .val (.double v116), .second, .val (.long j120), .second, .val (.long j124), .second, .val (.long r127), .second, .val (.long r131), .second, .val (.long lhs), .second, .val (.long rhs), .second, .val (.int (1 : Int32)), .unset, .unset] [])) _
        refine XS.goto X131.here hx rfl (pc0 := 167) (pc' := 173) rfl (hb hby at_167) (by decide) (by decide) ?_
        show Steps p.tables e below (T131.setTop (mkF m 173 #[.val (.int xi), .val (.int fx), .val (.int yi), .val (.int fy), .val (.int kx), .val (.int i103), .val (.int ky), .val (.int i107), .val (.double v112), .second, .val (.double v116), .second, .val (.long j120), .second, .val (.long j124), .second, .val (.long r127), .second, .val (.long r131), .second, .val (.long lhs), .second, .val (.long rhs), .second, .val (.int (1 : Int32)), .unset, .unset] [])) _
        exact castTop (by rw [hi138]) k
      · rw [if_neg c137] at hi138
        show Steps p.tables e below (T131.setTop (mkF m 161 #[.val (.int xi), .val (.int fx), .val (.int yi), .val (.int fy), .val (.int kx), .val (.int i103), .val (.int ky), .val (.int i107), .val (.double v112), .second, .val (.double v116), .second, .val (.long j120), .second, .val (.long j124), .second, .val (.long r127), .second, .val (.long r131), .second, .val (.long lhs), .second, .val (.long rhs), .second, .unset, .unset, .unset] [(.int (lcmpW lhs rhs))])) _
        refine XS.ifYes X131.here hx rfl (pc0 := 161) (pc' := 170) rfl (hb hby at_161) rfl ((if0 _ _).trans (flt c137).2.1) (by decide) (by decide) ?_
        show Steps p.tables e below (T131.setTop (mkF m 170 #[.val (.int xi), .val (.int fx), .val (.int yi), .val (.int fy), .val (.int kx), .val (.int i103), .val (.int ky), .val (.int i107), .val (.double v112), .second, .val (.double v116), .second, .val (.long j120), .second, .val (.long j124), .second, .val (.long r127), .second, .val (.long r131), .second, .val (.long lhs), .second, .val (.long rhs), .second, .unset, .unset, .unset] [])) _
        refine XS.iconst X131.here hx rfl (hb hby at_170) ?_
        show Steps p.tables e below (T131.setTop (mkF m 171 #[.val (.int xi), .val (.int fx), .val (.int yi), .val (.int fy), .val (.int kx), .val (.int i103), .val (.int ky), .val (.int i107), .val (.double v112), .second, .val (.double v116), .second, .val (.long j120), .second, .val (.long j124), .second, .val (.long r127), .second, .val (.long r131), .second, .val (.long lhs), .second, .val (.long rhs), .second, .unset, .unset, .unset] [(.int (0 : Int32))])) _
        refine XS.istore X131.here hx rfl (hb hby at_171) rfl (l' := #[.val (.int xi), .val (.int fx), .val (.int yi), .val (.int fy), .val (.int kx), .val (.int i103), .val (.int ky), .val (.int i107), .val (.double v112), .second, .val (.double v116), .second, .val (.long j120), .second, .val (.long j124), .second, .val (.long r127), .second, .val (.long r131), .second, .val (.long lhs), .second, .val (.long rhs), .second, .val (.int (0 : Int32)), .unset, .unset]) rfl ?_
        show Steps p.tables e below (T131.setTop (mkF m 173 #[.val (.int xi), .val (.int fx), .val (.int yi), .val (.int fy), .val (.int kx), .val (.int i103), .val (.int ky), .val (.int i107), .val (.double v112), .second, .val (.double v116), .second, .val (.long j120), .second, .val (.long j124), .second, .val (.long r127), .second, .val (.long r131), .second, .val (.long lhs), .second, .val (.long rhs), .second, .val (.int (0 : Int32)), .unset, .unset] [])) _
        exact castTop (by rw [hi138]) k)
  have k140 : ∀ t, Steps p.tables e below (T131.setTop (mkF m 177 #[.val (.int xi), .val (.int fx), .val (.int yi), .val (.int fy), .val (.int kx), .val (.int i103), .val (.int ky), .val (.int i107), .val (.double v112), .second, .val (.double v116), .second, .val (.long j120), .second, .val (.long j124), .second, .val (.long r127), .second, .val (.long r131), .second, .val (.long lhs), .second, .val (.long rhs), .second, .val (.int i138), .unset, .unset] [(.double v116), (.double v112)])) t → Steps p.tables e below (s₁.setTop (entryFrame m #[(.int xi), (.int fx), (.int yi), (.int fy)] maxLocals)) t := fun t k => k139 t (by
    show Steps p.tables e below (T131.setTop (mkF m 173 #[.val (.int xi), .val (.int fx), .val (.int yi), .val (.int fy), .val (.int kx), .val (.int i103), .val (.int ky), .val (.int i107), .val (.double v112), .second, .val (.double v116), .second, .val (.long j120), .second, .val (.long j124), .second, .val (.long r127), .second, .val (.long r131), .second, .val (.long lhs), .second, .val (.long rhs), .second, .val (.int i138), .unset, .unset] [])) _
    refine XS.dload X131.here hx rfl (hb hby at_173) rfl ?_
    show Steps p.tables e below (T131.setTop (mkF m 175 #[.val (.int xi), .val (.int fx), .val (.int yi), .val (.int fy), .val (.int kx), .val (.int i103), .val (.int ky), .val (.int i107), .val (.double v112), .second, .val (.double v116), .second, .val (.long j120), .second, .val (.long j124), .second, .val (.long r127), .second, .val (.long r131), .second, .val (.long lhs), .second, .val (.long rhs), .second, .val (.int i138), .unset, .unset] [(.double v112)])) _
    refine XS.dload X131.here hx rfl (hb hby at_175) rfl ?_
    exact k)
  obtain ⟨_, _, ⟨T141, L141, k141, n141⟩, -, X141, ⟨Lc141, hQ141, l141, y141, z141⟩, st141⟩ := Jvm.LawKit.callS X131 hx (y := (⟨"com/example/multinomial/multinomial/search/RankOrder", "compareScores", "(DD)I"⟩ : MethodName)) hown (mvT hZ (hw _ (List.mem_of_getElem? (i := 8) rfl))) (mvT hZ (hw _ (List.mem_of_getElem? (i := 9) rfl))) (mvT hZ (hw _ (List.mem_of_getElem? (i := 10) rfl))) (mvT hZ (hw _ (List.mem_of_getElem? (i := 11) rfl))) (by decide) (backOf (W := 0) (rm3 l Z a0 hw [] v112 v116 h0 n0 Z0 Fx.nn Fy'.nn) hZ (hw _ (List.mem_of_getElem? (i := 11) rfl)) (hw _ (List.mem_of_getElem? (i := 10) rfl)) (by decide) (by decide)) (g := (mkF m 177 #[.val (.int xi), .val (.int fx), .val (.int yi), .val (.int fy), .val (.int kx), .val (.int i103), .val (.int ky), .val (.int i107), .val (.double v112), .second, .val (.double v116), .second, .val (.long j120), .second, .val (.long j124), .second, .val (.long r127), .second, .val (.long r131), .second, .val (.long lhs), .second, .val (.long rhs), .second, .val (.int i138), .unset, .unset] [(.double v116), (.double v112)])) rfl (by rw [hml]; rfl) (argsL := [(.double v112), (.double v116)]) (rest := []) (lenOf pd__28DD_29I rfl) rfl (by show 2 * 0 + _ ≤ _; exact Nat.le_of_eq rfl) (hb hby at_177) (fun _ _ => ⟨rfl, e131, (by decide : 0 + 0 ≤ _), (by decide : 0 + 0 ≤ _)⟩)
  dsimp only [Pt.U, Pt.locs, Pt.cells, Pt.slots] at X141 l141 y141 z141 st141 hQ141
  subst l141 y141 z141
  obtain ⟨rfl, N141q, e141⟩ := hQ141
  have N142 := Fr.app N132 N141q
  have k143 : ∀ t, Steps p.tables e below (T141.setTop (mkF m 180 #[.val (.int xi), .val (.int fx), .val (.int yi), .val (.int fy), .val (.int kx), .val (.int i103), .val (.int ky), .val (.int i107), .val (.double v112), .second, .val (.double v116), .second, .val (.long j120), .second, .val (.long j124), .second, .val (.long r127), .second, .val (.long r131), .second, .val (.long lhs), .second, .val (.long rhs), .second, .val (.int i138), .unset, .unset] [(.int (if (0 : Int32) < (cmpValue (FP.fcmp (FP.d2f v112) (FP.d2f v116)) .l) then (-1 : Int32) else (if (cmpValue (FP.fcmp (FP.d2f v112) (FP.d2f v116)) .g) < (0 : Int32) then (1 : Int32) else (0 : Int32))))])) t → Steps p.tables e below (s₁.setTop (entryFrame m #[(.int xi), (.int fx), (.int yi), (.int fy)] maxLocals)) t := fun t k => k140 t (st141 t k)
  obtain ⟨got, hgot⟩ : ∃ z : Int32, z = (if (0 : Int32) < (cmpValue (FP.fcmp (FP.d2f v112) (FP.d2f v116)) .l) then (-1 : Int32) else (if (cmpValue (FP.fcmp (FP.d2f v112) (FP.d2f v116)) .g) < (0 : Int32) then (1 : Int32) else (0 : Int32))) := ⟨_, rfl⟩
  have k144 : ∀ t, Steps p.tables e below (T141.setTop (mkF m 184 #[.val (.int xi), .val (.int fx), .val (.int yi), .val (.int fy), .val (.int kx), .val (.int i103), .val (.int ky), .val (.int i107), .val (.double v112), .second, .val (.double v116), .second, .val (.long j120), .second, .val (.long j124), .second, .val (.long r127), .second, .val (.long r131), .second, .val (.long lhs), .second, .val (.long rhs), .second, .val (.int i138), .val (.int got), .unset] [(.int got)])) t → Steps p.tables e below (s₁.setTop (entryFrame m #[(.int xi), (.int fx), (.int yi), (.int fy)] maxLocals)) t := fun t k => k143 t (by
    show Steps p.tables e below (T141.setTop (mkF m 180 #[.val (.int xi), .val (.int fx), .val (.int yi), .val (.int fy), .val (.int kx), .val (.int i103), .val (.int ky), .val (.int i107), .val (.double v112), .second, .val (.double v116), .second, .val (.long j120), .second, .val (.long j124), .second, .val (.long r127), .second, .val (.long r131), .second, .val (.long lhs), .second, .val (.long rhs), .second, .val (.int i138), .unset, .unset] [(.int (if (0 : Int32) < (cmpValue (FP.fcmp (FP.d2f v112) (FP.d2f v116)) .l) then (-1 : Int32) else (if (cmpValue (FP.fcmp (FP.d2f v112) (FP.d2f v116)) .g) < (0 : Int32) then (1 : Int32) else (0 : Int32))))])) _
    refine castTop (g' := (mkF m 180 #[.val (.int xi), .val (.int fx), .val (.int yi), .val (.int fy), .val (.int kx), .val (.int i103), .val (.int ky), .val (.int i107), .val (.double v112), .second, .val (.double v116), .second, .val (.long j120), .second, .val (.long j124), .second, .val (.long r127), .second, .val (.long r131), .second, .val (.long lhs), .second, .val (.long rhs), .second, .val (.int i138), .unset, .unset] [(.int got)])) (by rw [hgot]) ?_
    show Steps p.tables e below (T141.setTop (mkF m 180 #[.val (.int xi), .val (.int fx), .val (.int yi), .val (.int fy), .val (.int kx), .val (.int i103), .val (.int ky), .val (.int i107), .val (.double v112), .second, .val (.double v116), .second, .val (.long j120), .second, .val (.long j124), .second, .val (.long r127), .second, .val (.long r131), .second, .val (.long lhs), .second, .val (.long rhs), .second, .val (.int i138), .unset, .unset] [(.int got)])) _
    refine XS.istore X141.here hx rfl (hb hby at_180) rfl (l' := #[.val (.int xi), .val (.int fx), .val (.int yi), .val (.int fy), .val (.int kx), .val (.int i103), .val (.int ky), .val (.int i107), .val (.double v112), .second, .val (.double v116), .second, .val (.long j120), .second, .val (.long j124), .second, .val (.long r127), .second, .val (.long r131), .second, .val (.long lhs), .second, .val (.long rhs), .second, .val (.int i138), .val (.int got), .unset]) rfl ?_
    show Steps p.tables e below (T141.setTop (mkF m 182 #[.val (.int xi), .val (.int fx), .val (.int yi), .val (.int fy), .val (.int kx), .val (.int i103), .val (.int ky), .val (.int i107), .val (.double v112), .second, .val (.double v116), .second, .val (.long j120), .second, .val (.long j124), .second, .val (.long r127), .second, .val (.long r131), .second, .val (.long lhs), .second, .val (.long rhs), .second, .val (.int i138), .val (.int got), .unset] [])) _
    refine XS.iload X141.here hx rfl (hb hby at_182) rfl ?_
    exact k)
  obtain ⟨i147, hi147⟩ : ∃ z : Int32, z = (if got < (0 : Int32) then (-1 : Int32) else (if (0 : Int32) < got then (1 : Int32) else (0 : Int32))) := ⟨_, rfl⟩
  have k148 : ∀ t, Steps p.tables e below (T141.setTop (mkF m 201 #[.val (.int xi), .val (.int fx), .val (.int yi), .val (.int fy), .val (.int kx), .val (.int i103), .val (.int ky), .val (.int i107), .val (.double v112), .second, .val (.double v116), .second, .val (.long j120), .second, .val (.long j124), .second, .val (.long r127), .second, .val (.long r131), .second, .val (.long lhs), .second, .val (.long rhs), .second, .val (.int i138), .val (.int got), .unset] [(.int i147)])) t → Steps p.tables e below (s₁.setTop (entryFrame m #[(.int xi), (.int fx), (.int yi), (.int fy)] maxLocals)) t := fun t k => k144 t (by
    by_cases c145 : got < (0 : Int32)
    · rw [if_pos c145] at hi147
      show Steps p.tables e below (T141.setTop (mkF m 184 #[.val (.int xi), .val (.int fx), .val (.int yi), .val (.int fy), .val (.int kx), .val (.int i103), .val (.int ky), .val (.int i107), .val (.double v112), .second, .val (.double v116), .second, .val (.long j120), .second, .val (.long j124), .second, .val (.long r127), .second, .val (.long r131), .second, .val (.long lhs), .second, .val (.long rhs), .second, .val (.int i138), .val (.int got), .unset] [(.int got)])) _
      refine XS.ifNo X141.here hx rfl (hb hby at_184) rfl ((if0 _ _).trans (tlt c145).2.1) ?_
      show Steps p.tables e below (T141.setTop (mkF m 187 #[.val (.int xi), .val (.int fx), .val (.int yi), .val (.int fy), .val (.int kx), .val (.int i103), .val (.int ky), .val (.int i107), .val (.double v112), .second, .val (.double v116), .second, .val (.long j120), .second, .val (.long j124), .second, .val (.long r127), .second, .val (.long r131), .second, .val (.long lhs), .second, .val (.long rhs), .second, .val (.int i138), .val (.int got), .unset] [])) _
      refine XS.iconst X141.here hx rfl (hb hby at_187) ?_
      show Steps p.tables e below (T141.setTop (mkF m 188 #[.val (.int xi), .val (.int fx), .val (.int yi), .val (.int fy), .val (.int kx), .val (.int i103), .val (.int ky), .val (.int i107), .val (.double v112), .second, .val (.double v116), .second, .val (.long j120), .second, .val (.long j124), .second, .val (.long r127), .second, .val (.long r131), .second, .val (.long lhs), .second, .val (.long rhs), .second, .val (.int i138), .val (.int got), .unset] [(.int (-1 : Int32))])) _
      refine XS.goto X141.here hx rfl (pc0 := 188) (pc' := 201) rfl (hb hby at_188) (by decide) (by decide) ?_
      show Steps p.tables e below (T141.setTop (mkF m 201 #[.val (.int xi), .val (.int fx), .val (.int yi), .val (.int fy), .val (.int kx), .val (.int i103), .val (.int ky), .val (.int i107), .val (.double v112), .second, .val (.double v116), .second, .val (.long j120), .second, .val (.long j124), .second, .val (.long r127), .second, .val (.long r131), .second, .val (.long lhs), .second, .val (.long rhs), .second, .val (.int i138), .val (.int got), .unset] [(.int (-1 : Int32))])) _
      exact castTop (by rw [hi147]) k
    · rw [if_neg c145] at hi147
      show Steps p.tables e below (T141.setTop (mkF m 184 #[.val (.int xi), .val (.int fx), .val (.int yi), .val (.int fy), .val (.int kx), .val (.int i103), .val (.int ky), .val (.int i107), .val (.double v112), .second, .val (.double v116), .second, .val (.long j120), .second, .val (.long j124), .second, .val (.long r127), .second, .val (.long r131), .second, .val (.long lhs), .second, .val (.long rhs), .second, .val (.int i138), .val (.int got), .unset] [(.int got)])) _
      refine XS.ifYes X141.here hx rfl (pc0 := 184) (pc' := 191) rfl (hb hby at_184) rfl ((if0 _ _).trans (flt c145).2.1) (by decide) (by decide) ?_
      show Steps p.tables e below (T141.setTop (mkF m 191 #[.val (.int xi), .val (.int fx), .val (.int yi), .val (.int fy), .val (.int kx), .val (.int i103), .val (.int ky), .val (.int i107), .val (.double v112), .second, .val (.double v116), .second, .val (.long j120), .second, .val (.long j124), .second, .val (.long r127), .second, .val (.long r131), .second, .val (.long lhs), .second, .val (.long rhs), .second, .val (.int i138), .val (.int got), .unset] [])) _
      refine XS.iload X141.here hx rfl (hb hby at_191) rfl ?_
      by_cases c146 : (0 : Int32) < got
      · rw [if_pos c146] at hi147
        show Steps p.tables e below (T141.setTop (mkF m 193 #[.val (.int xi), .val (.int fx), .val (.int yi), .val (.int fy), .val (.int kx), .val (.int i103), .val (.int ky), .val (.int i107), .val (.double v112), .second, .val (.double v116), .second, .val (.long j120), .second, .val (.long j124), .second, .val (.long r127), .second, .val (.long r131), .second, .val (.long lhs), .second, .val (.long rhs), .second, .val (.int i138), .val (.int got), .unset] [(.int got)])) _
        refine XS.ifNo X141.here hx rfl (hb hby at_193) rfl ((if0 _ _).trans (tlt c146).2.2.2) ?_
        show Steps p.tables e below (T141.setTop (mkF m 196 #[.val (.int xi), .val (.int fx), .val (.int yi), .val (.int fy), .val (.int kx), .val (.int i103), .val (.int ky), .val (.int i107), .val (.double v112), .second, .val (.double v116), .second, .val (.long j120), .second, .val (.long j124), .second, .val (.long r127), .second, .val (.long r131), .second, .val (.long lhs), .second, .val (.long rhs), .second, .val (.int i138), .val (.int got), .unset] [])) _
        refine XS.iconst X141.here hx rfl (hb hby at_196) ?_
        show Steps p.tables e below (T141.setTop (mkF m 197 #[.val (.int xi), .val (.int fx), .val (.int yi), .val (.int fy), .val (.int kx), .val (.int i103), .val (.int ky), .val (.int i107), .val (.double v112), .second, .val (.double v116), .second, .val (.long j120), .second, .val (.long j124), .second, .val (.long r127), .second, .val (.long r131), .second, .val (.long lhs), .second, .val (.long rhs), .second, .val (.int i138), .val (.int got), .unset] [(.int (1 : Int32))])) _
        refine XS.goto X141.here hx rfl (pc0 := 197) (pc' := 201) rfl (hb hby at_197) (by decide) (by decide) ?_
        show Steps p.tables e below (T141.setTop (mkF m 201 #[.val (.int xi), .val (.int fx), .val (.int yi), .val (.int fy), .val (.int kx), .val (.int i103), .val (.int ky), .val (.int i107), .val (.double v112), .second, .val (.double v116), .second, .val (.long j120), .second, .val (.long j124), .second, .val (.long r127), .second, .val (.long r131), .second, .val (.long lhs), .second, .val (.long rhs), .second, .val (.int i138), .val (.int got), .unset] [(.int (1 : Int32))])) _
        exact castTop (by rw [hi147]) k
      · rw [if_neg c146] at hi147
        show Steps p.tables e below (T141.setTop (mkF m 193 #[.val (.int xi), .val (.int fx), .val (.int yi), .val (.int fy), .val (.int kx), .val (.int i103), .val (.int ky), .val (.int i107), .val (.double v112), .second, .val (.double v116), .second, .val (.long j120), .second, .val (.long j124), .second, .val (.long r127), .second, .val (.long r131), .second, .val (.long lhs), .second, .val (.long rhs), .second, .val (.int i138), .val (.int got), .unset] [(.int got)])) _
        refine XS.ifYes X141.here hx rfl (pc0 := 193) (pc' := 200) rfl (hb hby at_193) rfl ((if0 _ _).trans (flt c146).2.2.2) (by decide) (by decide) ?_
        show Steps p.tables e below (T141.setTop (mkF m 200 #[.val (.int xi), .val (.int fx), .val (.int yi), .val (.int fy), .val (.int kx), .val (.int i103), .val (.int ky), .val (.int i107), .val (.double v112), .second, .val (.double v116), .second, .val (.long j120), .second, .val (.long j124), .second, .val (.long r127), .second, .val (.long r131), .second, .val (.long lhs), .second, .val (.long rhs), .second, .val (.int i138), .val (.int got), .unset] [])) _
        refine XS.iconst X141.here hx rfl (hb hby at_200) ?_
        show Steps p.tables e below (T141.setTop (mkF m 201 #[.val (.int xi), .val (.int fx), .val (.int yi), .val (.int fy), .val (.int kx), .val (.int i103), .val (.int ky), .val (.int i107), .val (.double v112), .second, .val (.double v116), .second, .val (.long j120), .second, .val (.long j124), .second, .val (.long r127), .second, .val (.long r131), .second, .val (.long lhs), .second, .val (.long rhs), .second, .val (.int i138), .val (.int got), .unset] [(.int (0 : Int32))])) _
        exact castTop (by rw [hi147]) k)
  have hfin : i147 = i138 := by rw [hi147, hgot, hi138]; exact own_fin Fx Fy' hl hrr
  have k149 : ∀ t, Steps p.tables e below (T141.setTop (mkF m 215 #[.val (.int xi), .val (.int fx), .val (.int yi), .val (.int fy), .val (.int kx), .val (.int i103), .val (.int ky), .val (.int i107), .val (.double v112), .second, .val (.double v116), .second, .val (.long j120), .second, .val (.long j124), .second, .val (.long r127), .second, .val (.long r131), .second, .val (.long lhs), .second, .val (.long rhs), .second, .val (.int i138), .val (.int got), .val (.int i147)] [(.int (1 : Int32))])) t → Steps p.tables e below (s₁.setTop (entryFrame m #[(.int xi), (.int fx), (.int yi), (.int fy)] maxLocals)) t := fun t k => k148 t (by
    show Steps p.tables e below (T141.setTop (mkF m 201 #[.val (.int xi), .val (.int fx), .val (.int yi), .val (.int fy), .val (.int kx), .val (.int i103), .val (.int ky), .val (.int i107), .val (.double v112), .second, .val (.double v116), .second, .val (.long j120), .second, .val (.long j124), .second, .val (.long r127), .second, .val (.long r131), .second, .val (.long lhs), .second, .val (.long rhs), .second, .val (.int i138), .val (.int got), .unset] [(.int i147)])) _
    refine XS.istore X141.here hx rfl (hb hby at_201) rfl (l' := #[.val (.int xi), .val (.int fx), .val (.int yi), .val (.int fy), .val (.int kx), .val (.int i103), .val (.int ky), .val (.int i107), .val (.double v112), .second, .val (.double v116), .second, .val (.long j120), .second, .val (.long j124), .second, .val (.long r127), .second, .val (.long r131), .second, .val (.long lhs), .second, .val (.long rhs), .second, .val (.int i138), .val (.int got), .val (.int i147)]) rfl ?_
    show Steps p.tables e below (T141.setTop (mkF m 203 #[.val (.int xi), .val (.int fx), .val (.int yi), .val (.int fy), .val (.int kx), .val (.int i103), .val (.int ky), .val (.int i107), .val (.double v112), .second, .val (.double v116), .second, .val (.long j120), .second, .val (.long j124), .second, .val (.long r127), .second, .val (.long r131), .second, .val (.long lhs), .second, .val (.long rhs), .second, .val (.int i138), .val (.int got), .val (.int i147)] [])) _
    refine XS.iload X141.here hx rfl (hb hby at_203) rfl ?_
    show Steps p.tables e below (T141.setTop (mkF m 205 #[.val (.int xi), .val (.int fx), .val (.int yi), .val (.int fy), .val (.int kx), .val (.int i103), .val (.int ky), .val (.int i107), .val (.double v112), .second, .val (.double v116), .second, .val (.long j120), .second, .val (.long j124), .second, .val (.long r127), .second, .val (.long r131), .second, .val (.long lhs), .second, .val (.long rhs), .second, .val (.int i138), .val (.int got), .val (.int i147)] [(.int i147)])) _
    refine XS.iload X141.here hx rfl (hb hby at_205) rfl ?_
    show Steps p.tables e below (T141.setTop (mkF m 207 #[.val (.int xi), .val (.int fx), .val (.int yi), .val (.int fy), .val (.int kx), .val (.int i103), .val (.int ky), .val (.int i107), .val (.double v112), .second, .val (.double v116), .second, .val (.long j120), .second, .val (.long j124), .second, .val (.long r127), .second, .val (.long r131), .second, .val (.long lhs), .second, .val (.long rhs), .second, .val (.int i138), .val (.int got), .val (.int i147)] [(.int i138), (.int i147)])) _
    refine XS.icmpNo X141.here hx rfl (hb hby at_207) rfl (teq hfin).2 ?_
    show Steps p.tables e below (T141.setTop (mkF m 210 #[.val (.int xi), .val (.int fx), .val (.int yi), .val (.int fy), .val (.int kx), .val (.int i103), .val (.int ky), .val (.int i107), .val (.double v112), .second, .val (.double v116), .second, .val (.long j120), .second, .val (.long j124), .second, .val (.long r127), .second, .val (.long r131), .second, .val (.long lhs), .second, .val (.long rhs), .second, .val (.int i138), .val (.int got), .val (.int i147)] [])) _
    refine XS.iconst X141.here hx rfl (hb hby at_210) ?_
    show Steps p.tables e below (T141.setTop (mkF m 211 #[.val (.int xi), .val (.int fx), .val (.int yi), .val (.int fy), .val (.int kx), .val (.int i103), .val (.int ky), .val (.int i107), .val (.double v112), .second, .val (.double v116), .second, .val (.long j120), .second, .val (.long j124), .second, .val (.long r127), .second, .val (.long r131), .second, .val (.long lhs), .second, .val (.long rhs), .second, .val (.int i138), .val (.int got), .val (.int i147)] [(.int (1 : Int32))])) _
    refine XS.goto X141.here hx rfl (pc0 := 211) (pc' := 215) rfl (hb hby at_211) (by decide) (by decide) ?_
    exact k)
  obtain ⟨fs, hr, hrun, hended, hW, hsame⟩ := X141.leave (v := some (.int (1 : Int32))) (fun h => by rw [Bd.returns] at h; cases h)
  refine ⟨_, _, k149 _ (retOut X141 hx (t := .boolean) Bd.returns rfl (Or.inl ⟨rfl, Or.inr (Or.inl rfl), _, rfl⟩) (hb hby at_215) hr), hrun, hended, _, _, rfl, ?_, ⟨_, rfl⟩, hW, hsame.mono (by decide) (by decide)⟩
  show Q_rm0 Z xi fx yi fy h0 n0 _ T141.heap _
  rw [e141]
  exact ⟨rfl, N142⟩
set_option maxRecDepth 65536 in
set_option maxHeartbeats 40000000 in
theorem comes_1 {Post : Tables → Env → Array Value → State → Outcome → State → Prop} (hpost : ∀ tb e args s v u, (limb_1_1.after args s (.returned v) u = true ∧ limb_1_2.after args s (.returned v) u = true ∧ True) → FrameEnd s (.returned v) u (Jvm.fieldLocs frame_1_writes args s ++ Jvm.arrayLocs frame_1_arrays args s ++ Jvm.staticLocs frame_1_statics s) 0 0 → Post tb e args s (.returned v) u) :
    ArmFor flags0 classFile x code maxLocals ret World_1 tables_1 room_1 Calls_1 rest_1 Pre_1 Post := by
  intro l hfl _ _ p e ha hc hk s m args below hf hA hF happ hP
  obtain ⟨hcalls, hrest, hpre⟩ := hP
  obtain ⟨-, -, -, hnamed, -, -, -, hat⟩ := (Spec.applies_iff hf).mp happ
  obtain ⟨hg, hn⟩ := and_e (Cond.before_iff.mp (show (Jvm.Cond.and given_1 narrow_1).before args s = true from hpre))
  obtain ⟨g1, g2⟩ := and_e hg
  obtain ⟨g3, g4⟩ := and_e g2
  obtain ⟨g5, g6⟩ := and_e g4
  obtain ⟨g7, g8⟩ := and_e g6
  obtain ⟨w0, w1, w2, w3, rfl⟩ : ∃ w0 w1 w2 w3 : Value, args = #[w0, w1, w2, w3] := by
    have hs : args.size = 4 := by simpa [Cond.value, given_1] using g1
    obtain ⟨L⟩ := args
    match L, hs with
    | [w0, w1, w2, w3], _ => exact ⟨w0, w1, w2, w3, rfl⟩
  have hw := fun d (hd : d ∈ tables_1) => atoms_spec (ws := Jvm.Cond.code x code maxLocals ret :: tables_1) hat d (List.mem_cons_of_mem _ hd)
  obtain ⟨i0, ei0⟩ := is_v g3
  obtain rfl : w0 = (.int i0) := Option.some.inj ei0
  obtain ⟨i1, ei1⟩ := is_v g5
  obtain rfl : w1 = (.int i1) := Option.some.inj ei1
  obtain ⟨i2, ei2⟩ := is_v g7
  obtain rfl : w2 = (.int i2) := Option.some.inj ei2
  obtain ⟨i3, ei3⟩ := is_v g8
  obtain rfl : w3 = (.int i3) := Option.some.inj ei3
  obtain ⟨n, o, h1, h2, h3, _, L, rfl, ⟨rfl, N⟩, hq⟩ := rm0 l s _ hw tables_1 i0 i1 i2 i3 s.heap s.heap.size (Nat.le_refl _) p e ha hc hk s m _ below hf ((Spec.applies_iff_loose hf).mp happ).1 ⟨rfl, State.Warmed39.refl s, rfl⟩ trivial
  refine ⟨n, _, h1, h2, h3, hpost _ _ _ _ _ _ ⟨Cond.after_iff.mpr rfl, Cond.after_iff.mpr (eq_i res_at (Term.int_eval (1)) rfl), trivial⟩ ⟨hq.1, hq.2.1, (hq.2.2.sift fun y hy => Or.inr (N y hy)).mono (by decide) (by decide)⟩⟩
theorem main_1_1 : Claimed_1_1 := comes_1 fun _ _ _ _ _ _ h hF => ⟨h.1, hF⟩
theorem main_1_2 : Claimed_1_2 := comes_1 fun _ _ _ _ _ _ h hF => ⟨h.2.1, hF⟩
end Jvm.Pilot.@@N@@
namespace Jvm.Pilot.@@N@@
open Jvm Jvm.ClassFile Sem Op Lib Jvm.Free Jvm.Stand Jvm.Pilot.@@N@@.Jvm.D
/-! MADE BY PROGRAM (witnessworld.py) out of the Statement's table words and the real class files: 9 classes; the members and pool entries that the words name. The judged class is class 1, her method 1. -/
namespace start1
open Jvm.ClassFile
def u (s : String) : CpInfo := .utf8 (stringToUtf16 s)
/-- a pool by its gaps: so many unusable entries, then the entry; so many at the end -/
def gap : Nat → List CpInfo → List CpInfo
  | 0, r => r
  | n + 1, r => .unusable :: gap n r
def poolList (es : List (Nat × CpInfo)) (last : Nat) : List CpInfo := es.foldr (fun e r => gap e.1 (e.2 :: r)) (gap last [])
def pool (es : List (Nat × CpInfo)) (last : Nat) : Array CpInfo := ⟨poolList es last⟩
def fileOf (pool : Array CpInfo) (this : Nat) (attrs : Array Attribute := #[]) (ms : Array MethodInfo := #[]) (fl : Nat := 33) (sup : Nat := 0) (ifs : Array Nat := #[]) (fds : Array FieldInfo := #[]) : ClassFile where
  minorVersion := 0
  majorVersion := 65
  constantPool := pool
  accessFlags := fl
  thisClass := this
  superClass := sup
  interfaces := ifs
  fields := fds
  methods := ms
  attributes := attrs
def plain (name : String) (sup : Option ClassId) : Class where
  name := name
  kind := .ordinary
  loader := none
  accessFlags := 33
  super := sup
  interfaces := #[]
  cf := none
  fields := #[]
  methods := #[]
  instanceTypes := #[]
  staticTypes := #[]
  resolved := #[]
  callSites := []
  init := .initialized
  statics := none
  mirror := none

def pool0 : Array CpInfo := pool [(5, u "<init>"), (0, u "()V"), (1, .class_ 10), (1, u "java/lang/Object")] 113

def k0m0 : Method := { name := "<init>", desc := "()V", sig := { parameters := [], returnType := none }, accessFlags := 1, code := none }
/-- java/lang/Object -/
def k0 : Class := { plain "java/lang/Object" none with
  accessFlags := 33
  interfaces := #[]
  cf := some (fileOf pool0 8 #[] #[{ accessFlags := 1, nameIndex := 5, descriptorIndex := 6, attributes := #[] }] 33 0 #[] #[])
  fields := #[]
  methods := #[k0m0]
  instanceTypes := #[]
  staticTypes := #[]
  resolved := Array.replicate 124 none
  statics := none }

def pool1 : Array CpInfo := pool [(2, .class_ 4), (1, u "java/lang/Object"), (0, u "<init>"), (0, u "()V"), (0, .methodref 8 9), (0, .class_ 10), (0, .nameAndType 11 12), (0, u "com/example/multinomial/multinomial/search/RankOrderCompareScoresPinLaw"), (0, u "roundToFloat"), (0, u "(J)J"), (0, .methodref 14 15), (0, .class_ 16), (0, .nameAndType 17 18), (0, u "com/example/multinomial/multinomial/search/RankOrder"), (0, u "compareScores"), (0, u "(DD)I"), (0, .methodref 8 20), (0, .nameAndType 21 12), (0, u "roundMagnitude"), (0, .long 16777216), (1, .long 2147483648), (1, .long 1073741824), (1, .long 536870912), (1, .long 268435456), (1, .long 134217728), (1, .long 67108864), (1, .long 33554432), (3, u "law"), (0, u "(IIII)Z")] 3

def k1m0 : Method := { name := "<init>", desc := "()V", sig := { parameters := [], returnType := none }, accessFlags := 2, code := none }
def k1c1 : Code := { maxStack := 5, maxLocals := 27, code := code, exceptionTable := #[], attributes := #[] }
def k1m1 : Method := { name := "law", desc := "(IIII)Z", sig := { parameters := [.int, .int, .int, .int], returnType := some .boolean }, accessFlags := 9, code := some k1c1 }
def k1c2 : Code := { maxStack := 4, maxLocals := 2, code := method_3_code, exceptionTable := #[], attributes := #[] }
def k1m2 : Method := { name := "roundToFloat", desc := "(J)J", sig := { parameters := [.long], returnType := some .long }, accessFlags := 10, code := some k1c2 }
def k1c3 : Code := { maxStack := 5, maxLocals := 9, code := method_4_code, exceptionTable := #[], attributes := #[] }
def k1m3 : Method := { name := "roundMagnitude", desc := "(J)J", sig := { parameters := [.long], returnType := some .long }, accessFlags := 10, code := some k1c3 }
/-- com/example/multinomial/multinomial/search/RankOrderCompareScoresPinLaw -/
def k1 : Class := { plain "com/example/multinomial/multinomial/search/RankOrderCompareScoresPinLaw" (some 0) with
  accessFlags := 49
  interfaces := #[]
  cf := some (fileOf pool1 8 #[] #[{ accessFlags := 2, nameIndex := 5, descriptorIndex := 6, attributes := #[] }, { accessFlags := 9, nameIndex := 40, descriptorIndex := 41, attributes := #[] }, { accessFlags := 10, nameIndex := 11, descriptorIndex := 12, attributes := #[] }, { accessFlags := 10, nameIndex := 21, descriptorIndex := 12, attributes := #[] }] 49 2 #[] #[])
  fields := #[]
  methods := #[k1m0, k1m1, k1m2, k1m3]
  instanceTypes := #[]
  staticTypes := #[]
  resolved := Array.replicate 45 none
  statics := none }

def pool2 : Array CpInfo := pool [(2, .class_ 4), (1, u "java/lang/Object"), (0, u "<init>"), (0, u "()V"), (7, .class_ 16), (1, u "com/example/multinomial/multinomial/search/RankOrder"), (0, u "compareScores"), (0, u "(DD)I")] 16

def k2m0 : Method := { name := "<init>", desc := "()V", sig := { parameters := [], returnType := none }, accessFlags := 2, code := none }
def k2c1 : Code := { maxStack := 2, maxLocals := 7, code := prog_42_method_2_code, exceptionTable := #[], attributes := #[] }
def k2m1 : Method := { name := "compareScores", desc := "(DD)I", sig := { parameters := [.double, .double], returnType := some .int }, accessFlags := 9, code := some k2c1 }
/-- com/example/multinomial/multinomial/search/RankOrder -/
def k2 : Class := { plain "com/example/multinomial/multinomial/search/RankOrder" (some 0) with
  accessFlags := 33
  interfaces := #[]
  cf := some (fileOf pool2 14 #[] #[{ accessFlags := 2, nameIndex := 5, descriptorIndex := 6, attributes := #[] }, { accessFlags := 9, nameIndex := 17, descriptorIndex := 18, attributes := #[] }] 33 2 #[] #[])
  fields := #[]
  methods := #[k2m0, k2m1]
  instanceTypes := #[]
  staticTypes := #[]
  resolved := Array.replicate 35 none
  statics := none }

def pool3 : Array CpInfo := pool [(1, u "java/lang/Cloneable"), (0, .class_ 1), (0, u "java/lang/Object"), (0, .class_ 3)] 3

/-- java/lang/Cloneable -/
def k3 : Class := { plain "java/lang/Cloneable" (some 0) with
  accessFlags := 1537
  interfaces := #[]
  cf := some (fileOf pool3 2 #[] #[] 1537 4 #[] #[])
  fields := #[]
  methods := #[]
  instanceTypes := #[]
  staticTypes := #[]
  resolved := Array.replicate 8 none
  statics := none }

def pool4 : Array CpInfo := pool [(1, u "java/io/Serializable"), (0, .class_ 1), (0, u "java/lang/Object"), (0, .class_ 3)] 3

/-- java/io/Serializable -/
def k4 : Class := { plain "java/io/Serializable" (some 0) with
  accessFlags := 1537
  interfaces := #[]
  cf := some (fileOf pool4 2 #[] #[] 1537 4 #[] #[])
  fields := #[]
  methods := #[]
  instanceTypes := #[]
  staticTypes := #[]
  resolved := Array.replicate 8 none
  statics := none }

/-- the primitive byte -/
def k5 : Class := { plain "byte" none with kind := .primitive 'B', accessFlags := 0x411 }
/-- [B -/
def k6 : Class := { plain "[B" (some 0) with kind := .array 5 .byte, interfaces := #[3, 4], accessFlags := 1041 }

/-- the primitive int -/
def k7 : Class := { plain "int" none with kind := .primitive 'I', accessFlags := 0x411 }
/-- [I -/
def k8 : Class := { plain "[I" (some 0) with kind := .array 7 .int, interfaces := #[3, 4], accessFlags := 1041 }

def heap : Heap := #[]
def classes : Array Class := #[k0, k1, k2, k3, k4, k5, k6, k7, k8]
def interned : List (Array UInt16 × Addr) := []
def slotsUsed : Nat := 0
def theMethod : MethodId := ⟨1, 1⟩
def args0 : Array Value := #[.int 100, .int 5, .int 7, .int 19]
def aboutOver (below : List Frame) : State where
  vm := { classes := classes, interned := interned.toArray }
  heap := heap
  slotsUsed := slotsUsed
  threads := #[{ frames := .invoking theMethod args0 :: below }]
def below0 : List Frame := [.native { method := ⟨0, 0⟩, args := #[] }]
def about1 : State := aboutOver below0
def p0 : Program := .bare "" "" ""
def e0 : Env := launch0.env 0 0 0
theorem w_frames : about1.frames = Frame.invoking theMethod args0 :: below0 := rfl
set_option maxRecDepth 65536 in
theorem w_args : argsFit about1.vm theMethod args0 = true := by decide +kernel
set_option maxRecDepth 65536 in
theorem w_heap : heapFits about1 = true := by decide +kernel
set_option maxRecDepth 65536 in
theorem w_runnable : about1.curStatus? = some .runnable := by decide +kernel
set_option maxRecDepth 65536 in
theorem w_alone : about1.alone = true := by decide +kernel
set_option maxRecDepth 65536 in
theorem w_named : about1.methodNamed? x = some theMethod := by decide +kernel
set_option maxRecDepth 65536 in
theorem w_hears : about1.hears theMethod below0 = true := by decide +kernel
set_option maxRecDepth 65536 in
theorem w_ripe : about1.ripe theMethod args0 below0 = true := by decide +kernel
theorem w_running : about1.status = .running := rfl
set_option maxRecDepth 65536 in
theorem w_room : about1.hasRoom e0.platform room_1 = true :=
  launch0.hasRoom_least _ room_1 (by decide +kernel) (by decide +kernel) (by decide +kernel) (by decide +kernel) (by decide +kernel) (by decide +kernel)
theorem allAtoms_all (ts : List Jvm.Cond) (a : Array Jvm.Value) (st : Jvm.State) : (allAtoms ts).before a st = ts.all (fun c => c.before a st) := by
  induction ts with
  | nil => rfl
  | cons c t ih =>
    show (Jvm.Cond.and c (allAtoms t)).before a st = _
    rw [Jvm.Cond.before_and, ih, List.all_cons]
def words1 : List Jvm.Cond := Jvm.Cond.code x code maxLocals ret :: tables_1
/-- a 'code' word, met by the world's own term for the bytes: nothing is compared byte by byte -/
theorem code_word {y : MethodName} {bytes : ByteArray} {mx : Nat} {rt : Option FieldType} {a : Array Value} {s : State} {m : MethodId} {meth : Method} {c : Code} (h1 : s.methodNamed? y = some m) (h2 : s.vm.method? m = some meth) (h3 : meth.code = some c) (h4 : c.code = bytes)
    (h5 : (c.maxLocals == mx && c.exceptionTable.isEmpty && decide (c.maxStack ≤ mostOperands) && decide (meth.sig.returnType = rt) && !meth.locks && decide (parseMethodDescriptor y.desc = some meth.sig)) = true) : (Jvm.Cond.code y bytes mx rt).before a s = true := by
  simp only [Bool.and_eq_true, beq_iff_eq, Bool.not_eq_true', decide_eq_true_eq] at h5
  obtain ⟨⟨⟨⟨⟨g1, g2⟩, g3⟩, g4⟩, g5⟩, g6⟩ := h5
  simp [Cond.before, Cond.holds, Cond.value, h1, h2, h3, h4, g1, g2, g3, g4, g5, g6]
def isCode : Jvm.Cond → Bool
  | .code _ _ _ _ => true
  | _ => false
theorem all_split {L : List Jvm.Cond} {P : Jvm.Cond → Bool} (h1 : L.all (fun c => isCode c || P c) = true) (h2 : ∀ c ∈ L.filter isCode, P c = true) : L.all P = true := by
  refine List.all_eq_true.mpr fun c hc => ?_
  have h := List.all_eq_true.mp h1 c hc
  rcases Bool.eq_false_or_eq_true (isCode c) with hi | hi
  · exact h2 c (List.mem_filter.mpr ⟨hc, hi⟩)
  · simpa [hi] using h
set_option maxRecDepth 65536 in
theorem w_c0 : (Jvm.Cond.code x code maxLocals ret).before args0 about1 = true := code_word (m := ⟨1, 1⟩) (meth := k1m1) (c := k1c1) (by decide +kernel) rfl rfl rfl (by decide +kernel)
set_option maxRecDepth 65536 in
theorem w_c1 : (Jvm.Cond.code ({ cls := "com/example/multinomial/multinomial/search/RankOrderCompareScoresPinLaw", name := "roundToFloat", desc := "(J)J" } : Jvm.MethodName) method_3_code (2 : Nat) (Option.some Jvm.ClassFile.FieldType.long)).before args0 about1 = true := code_word (m := ⟨1, 2⟩) (meth := k1m2) (c := k1c2) (by decide +kernel) rfl rfl rfl (by decide +kernel)
set_option maxRecDepth 65536 in
theorem w_c2 : (Jvm.Cond.code ({ cls := "com/example/multinomial/multinomial/search/RankOrderCompareScoresPinLaw", name := "roundMagnitude", desc := "(J)J" } : Jvm.MethodName) method_4_code (9 : Nat) (Option.some Jvm.ClassFile.FieldType.long)).before args0 about1 = true := code_word (m := ⟨1, 3⟩) (meth := k1m3) (c := k1c3) (by decide +kernel) rfl rfl rfl (by decide +kernel)
set_option maxRecDepth 65536 in
theorem w_c3 : (Jvm.Cond.code ({ cls := "com/example/multinomial/multinomial/search/RankOrder", name := "compareScores", desc := "(DD)I" } : Jvm.MethodName) prog_42_method_2_code (7 : Nat) (Option.some Jvm.ClassFile.FieldType.int)).before args0 about1 = true := code_word (m := ⟨2, 1⟩) (meth := k2m1) (c := k2c1) (by decide +kernel) rfl rfl rfl (by decide +kernel)
def codes1 : List Jvm.Cond := [Jvm.Cond.code x code maxLocals ret, Jvm.Cond.code ({ cls := "com/example/multinomial/multinomial/search/RankOrderCompareScoresPinLaw", name := "roundToFloat", desc := "(J)J" } : Jvm.MethodName) method_3_code (2 : Nat) (Option.some Jvm.ClassFile.FieldType.long), Jvm.Cond.code ({ cls := "com/example/multinomial/multinomial/search/RankOrderCompareScoresPinLaw", name := "roundMagnitude", desc := "(J)J" } : Jvm.MethodName) method_4_code (9 : Nat) (Option.some Jvm.ClassFile.FieldType.long), Jvm.Cond.code ({ cls := "com/example/multinomial/multinomial/search/RankOrder", name := "compareScores", desc := "(DD)I" } : Jvm.MethodName) prog_42_method_2_code (7 : Nat) (Option.some Jvm.ClassFile.FieldType.int)]
set_option maxRecDepth 65536 in
theorem codes_eq : words1.filter isCode = codes1 := rfl
theorem w_codes : ∀ c ∈ words1.filter isCode, c.before args0 about1 = true := by
  rw [codes_eq]
  intro c hc
  simp only [codes1, List.mem_cons, List.not_mem_nil, or_false] at hc
  rcases hc with rfl | rfl | rfl | rfl
  · exact w_c0
  · exact w_c1
  · exact w_c2
  · exact w_c3
set_option maxRecDepth 65536 in
theorem w_t1 : words1.all (fun c => isCode c || c.before args0 about1) = true := by decide +kernel
theorem w_tables : (allAtoms (Jvm.Cond.code x code maxLocals ret :: tables_1)).before args0 about1 = true := by
  rw [allAtoms_all]
  show words1.all (fun c => c.before args0 about1) = true
  refine all_split ?_ w_codes
  rw [w_t1]
set_option maxRecDepth 65536 in
theorem w_case : (Jvm.Cond.and given_1 narrow_1).before args0 about1 = true := by decide +kernel
theorem w_applies : (headSpec (Jvm.Cond.code x code maxLocals ret :: tables_1) room_1).applies x e0.platform about1 = true :=
  (Spec.applies_iff w_frames).mpr ⟨w_running, w_runnable, w_alone, w_named, w_hears, w_ripe, w_room, w_tables⟩
theorem atStart : AtStart classFile x code maxLocals ret World_1 tables_1 room_1 Calls_1 rest_1 Pre_1 launch0 p0 e0 about1 theMethod args0 below0 :=
  ⟨lists_1, trivial, launch0.admits_env _ _ _, launch0.least_env, fairChoices_fair.cas, fairChoices_fair.clock, w_frames, w_args, w_heap, w_applies, trivial, trivial, w_case⟩
end start1
theorem witness_1 : WitnessClaimed_1 := ⟨start1.p0, start1.e0, start1.about1, start1.theMethod, start1.args0, start1.below0, start1.atStart⟩
end Jvm.Pilot.@@N@@
