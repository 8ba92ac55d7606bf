import JvmDerived
import JvmDerived.Pilot.@@N@@Statement
import JvmDerived.Pilot.@@N@@Code
set_option linter.unusedVariables false
set_option linter.unusedSimpArgs false
namespace Jvm.OwnFp
open Jvm.FP.Core Op
/-! own: exact values. `Dyf f i k d`: the datum d is finite and worth i / 2^k. -/
def Dyf (f : Fmt) (i : Int) (k : Nat) (d : Datum) : Prop := (∃ s c q, d = .fin s c q) ∧ zval f d * 2 ^ k = i * 2 ^ (-f.qmin).toNat
theorem pw_pos (n : Nat) : (0 : Int) < 2 ^ n := Int.pow_pos (by decide)
theorem pw_cast (n : Nat) : ((2 ^ n : Nat) : Int) = 2 ^ n := by simp
theorem signed_abs (i : Int) : signed (decide (i < 0)) i.natAbs = i := by
  unfold signed
  by_cases h : i < 0 <;> simp [h] <;> omega
theorem signed_mulI (s : Bool) (c k : Nat) : signed s (c * 2 ^ k) = signed s c * 2 ^ k := by
  rw [signed_mul, pw_cast]
theorem vex {f : Fmt} (hf : Good f) {i : Int} {k : Nat} (hi : i.natAbs < 2 ^ f.p) (hk : (k : Int) ≤ -f.qmin) (hq : 0 ≤ f.qmax) :
    ∃ s c q, FP.Core.fits f (.fin s c q) ∧ zval f (.fin s c q) * 2 ^ k = i * 2 ^ (-f.qmin).toNat := by
  obtain ⟨c', q', h, hu⟩ := round_exact hf (decide (i < 0)) (c := i.natAbs) (q := -(k : Int)) hi (by omega) (by omega)
  refine ⟨_, c', q', h ▸ round_fits hf _, ?_⟩
  show signed (decide (i < 0)) (inUnits c' q' f.qmin) * 2 ^ k = _
  rw [hu]
  unfold inUnits
  rw [signed_mulI, signed_abs, Int.mul_assoc, ← Int.pow_add, show (-(k : Int) - f.qmin).toNat + k = (-f.qmin).toNat by omega]
theorem dyf_of_zval {f : Fmt} (hf : Good f) {s : Bool} {A B : Nat} {e : Int} {s' : Bool} {c' : Nat} {q' : Int} (hV : FP.Core.fits f (.fin s' c' q'))
    (hz : zval f (roundRatio f s A B e) = zval f (.fin s' c' q')) : ∃ s₀ c₀ q₀, roundRatio f s A B e = .fin s₀ c₀ q₀ := by
  rcases roundRatio_cases f s A B e with ⟨c, q, h⟩ | h
  · exact ⟨s, c, q, h⟩
  · exfalso
    rw [h] at hz
    have h1 := zmag_lt_top hf hV
    have h2 := congrArg Int.natAbs hz
    unfold zval at h2
    rw [natAbs_signed, natAbs_signed] at h2
    have h3 : zmag f (.inf s) = f.tails * 2 ^ (f.exps - 2) := rfl
    have h4 : zmag f (.fin s' c' q') = inUnits c' q' f.qmin := rfl
    omega
/-- an exact result that the format holds is not rounded -/
theorem rnd {f : Fmt} (hf : Good f) (hq : 0 ≤ f.qmax) {s : Bool} {c : Nat} {q e0 : Int} (h0 : e0 ≤ f.qmin) (h0e : e0 ≤ q) {i : Int} {k : Nat} (hi : i.natAbs < 2 ^ f.p) (hk : (k : Int) ≤ -f.qmin)
    (h : signed s (inUnits c q e0) * 2 ^ k = i * 2 ^ (-f.qmin).toNat * 2 ^ (f.qmin - e0).toNat) : Dyf f i k (round f (.fin s c q)) := by
  obtain ⟨s', c', q', hV, hv⟩ := vex hf hi hk hq
  have hn : Datum.fin s' c' q' ≠ .nan := nofun
  have he : zval f (.fin s' c' q') * ((2 ^ (f.qmin - e0).toNat : Nat) : Int) = signed s (inUnits c q e0) := by
    refine Int.eq_of_mul_eq_mul_right (Int.ne_of_gt (pw_pos k)) ?_
    rw [h, ← hv, pw_cast]; ac_rfl
  have hz : zval f (round f (.fin s c q)) = zval f (.fin s' c' q') :=
    Int.le_antisymm (zval_round_le hf hV hn h0 h0e (Int.le_of_eq he.symm)) (zval_round_ge hf hV hn h0 h0e (Int.le_of_eq he))
  exact ⟨dyf_of_zval hf hV hz, by rw [hz]; exact hv⟩
theorem Dyf.fit {f : Fmt} {i : Int} {k : Nat} {d : Datum} (h : Dyf f i k d) : ∃ s c q, d = .fin s c q := h.1
theorem Dyf.up {f : Fmt} {i : Int} {k : Nat} {d : Datum} (h : Dyf f i k d) (l : Nat) : Dyf f (i * 2 ^ l) (k + l) d :=
  ⟨h.1, by rw [Int.pow_add, ← Int.mul_assoc, h.2]; ac_rfl⟩
theorem Dyf.to {f : Fmt} {i j : Int} {k l : Nat} {d : Datum} (h : Dyf f i k d) (e : i * 2 ^ l = j * 2 ^ k) : Dyf f j l d := by
  refine ⟨h.1, Int.eq_of_mul_eq_mul_right (Int.ne_of_gt (pw_pos k)) ?_⟩
  calc zval f d * 2 ^ l * 2 ^ k = (zval f d * 2 ^ k) * 2 ^ l := by ac_rfl
    _ = (i * 2 ^ l) * 2 ^ (-f.qmin).toNat := by rw [h.2]; ac_rfl
    _ = j * 2 ^ (-f.qmin).toNat * 2 ^ k := by rw [e]; ac_rfl
theorem Dyf.sum {f : Fmt} (hf : Good f) (hq : 0 ≤ f.qmax) {i j : Int} {k : Nat} {x y : Datum} (fx : FP.Core.fits f x) (fy : FP.Core.fits f y) (hx : Dyf f i k x) (hy : Dyf f j k y) (hi : (i + j).natAbs < 2 ^ f.p) (hk : (k : Int) ≤ -f.qmin) :
    Dyf f (i + j) k (round f (exactSum x y)) := by
  obtain ⟨⟨s, c, q, rfl⟩, hx⟩ := hx
  obtain ⟨⟨t, d, r, rfl⟩, hy⟩ := hy
  obtain ⟨sg, n, e, he, hle, hu⟩ := sum_units fx fy
  rw [he]
  refine rnd hf hq (Int.le_refl _) hle hi hk ?_
  rw [hu, Int.add_mul, hx, hy, Int.add_mul, Int.sub_self]
  simp
theorem Dyf.neg {f : Fmt} {i : Int} {k : Nat} {x : Datum} (hx : Dyf f i k x) : Dyf f (-i) k (negate x) := by
  obtain ⟨⟨s, c, q, rfl⟩, hx⟩ := hx
  refine ⟨⟨_, _, _, rfl⟩, ?_⟩
  rw [zval_negate, Int.neg_mul, hx, Int.neg_mul]
theorem Dyf.prod {f : Fmt} (hf : Good f) (hq : 0 ≤ f.qmax) {i j : Int} {k l : Nat} {x y : Datum} (fx : FP.Core.fits f x) (fy : FP.Core.fits f y) (hx : Dyf f i k x) (hy : Dyf f j l y) (hi : (i * j).natAbs < 2 ^ f.p) (hk : ((k + l : Nat) : Int) ≤ -f.qmin) :
    Dyf f (i * j) (k + l) (round f (exactProduct x y)) := by
  obtain ⟨⟨s, c, q, rfl⟩, hx⟩ := hx
  obtain ⟨⟨t, d, r, rfl⟩, hy⟩ := hy
  obtain ⟨he, hle, hu⟩ := product_units fx fy
  rw [he]
  have hn := qmin_neg hf
  refine rnd hf hq (e0 := 2 * f.qmin) (by omega) hle hi hk ?_
  rw [hu, signed_xor, show (f.qmin - 2 * f.qmin).toNat = (-f.qmin).toNat by omega, Int.pow_add]
  calc zval f (.fin s c q) * zval f (.fin t d r) * (2 ^ k * 2 ^ l) = (zval f (.fin s c q) * 2 ^ k) * (zval f (.fin t d r) * 2 ^ l) := by ac_rfl
    _ = _ := by rw [hx, hy]; ac_rfl
theorem natAbs_pow (n : Nat) : ((2 : Int) ^ n).natAbs = 2 ^ n := by rw [Int.natAbs_pow]; rfl
theorem natAbs_zval (f : Fmt) (d : Datum) : (zval f d).natAbs = zmag f d := natAbs_signed _ _
/-- an exact quotient that the format holds is not rounded -/
theorem Dyf.quot {f : Fmt} (hf : Good f) (hq : 0 ≤ f.qmax) {i j n : Int} {k l m : Nat} {x y : Datum} (fx : FP.Core.fits f x) (fy : FP.Core.fits f y) (hx : Dyf f i k x) (hy : Dyf f j l y) (hj : j ≠ 0) (hi : n.natAbs < 2 ^ f.p) (hm : (m : Int) ≤ -f.qmin)
    (e : i * 2 ^ l * 2 ^ m = n * j * 2 ^ k) : Dyf f n m (quotient f x y) := by
  obtain ⟨⟨s, c, q, rfl⟩, hx⟩ := hx
  obtain ⟨⟨t, d, r, rfl⟩, hy⟩ := hy
  obtain ⟨s', c', q', hV, hv⟩ := vex hf hi hm hq
  have hn : Datum.fin s' c' q' ≠ .nan := nofun
  have hqm := qmin_neg hf
  have fx1 := fx.2.1
  have fy1 := fy.2.1
  -- the signed equation
  have hz : zval f (.fin s c q) * 2 ^ (-f.qmin).toNat = zval f (.fin s' c' q') * zval f (.fin t d r) := by
    refine Int.eq_of_mul_eq_mul_right (Int.ne_of_gt (Int.mul_pos (Int.mul_pos (pw_pos k) (pw_pos l)) (pw_pos m))) ?_
    calc zval f (.fin s c q) * 2 ^ (-f.qmin).toNat * (2 ^ k * 2 ^ l * 2 ^ m) = (zval f (.fin s c q) * 2 ^ k) * (2 ^ l * 2 ^ m) * 2 ^ (-f.qmin).toNat := by ac_rfl
      _ = (i * 2 ^ l * 2 ^ m) * 2 ^ (-f.qmin).toNat * 2 ^ (-f.qmin).toNat := by rw [hx]; ac_rfl
      _ = (n * 2 ^ (-f.qmin).toNat) * (j * 2 ^ (-f.qmin).toNat) * 2 ^ k := by rw [e]; ac_rfl
      _ = (zval f (.fin s' c' q') * 2 ^ m) * (zval f (.fin t d r) * 2 ^ l) * 2 ^ k := by rw [hv, hy]
      _ = _ := by ac_rfl
  have hzb : zval f (.fin t d r) ≠ 0 := by
    intro h0
    rw [h0, Int.zero_mul] at hy
    rcases Int.mul_eq_zero.mp hy.symm with h | h
    · exact hj h
    · exact absurd h (Int.ne_of_gt (pw_pos _))
  have hd : d ≠ 0 := by
    rintro rfl
    apply hzb
    show signed t (inUnits 0 r f.qmin) = 0
    unfold inUnits; rw [Nat.zero_mul, signed_zero]
  have hmag : zmag f (.fin s c q) * 2 ^ (-f.qmin).toNat = zmag f (.fin s' c' q') * zmag f (.fin t d r) := by
    have h2 := congrArg Int.natAbs hz
    rw [Int.natAbs_mul, Int.natAbs_mul, natAbs_pow, natAbs_zval, natAbs_zval, natAbs_zval] at h2
    exact h2
  have hun : inUnits c (q - r) (2 * f.qmin - r) = zmag f (.fin s' c' q') * 2 ^ (f.qmin - (2 * f.qmin - r)).toNat * d := by
    have a1 : inUnits c (q - r) (2 * f.qmin - r) = zmag f (.fin s c q) * 2 ^ (-f.qmin).toNat := by
      show c * 2 ^ _ = c * 2 ^ _ * 2 ^ _
      rw [Nat.mul_assoc, ← Nat.pow_add, show (q - r - (2 * f.qmin - r)).toNat = (q - f.qmin).toNat + (-f.qmin).toNat by omega]
    rw [a1, hmag, show (f.qmin - (2 * f.qmin - r)).toNat = (r - f.qmin).toNat by omega]
    show _ * (d * 2 ^ _) = _
    ac_rfl
  have hqt : quotient f (.fin s c q) (.fin t d r) = roundRatio f (s != t) c d (q - r) := by
    show (if d = 0 then _ else _) = _
    rw [if_neg hd]
  have hm2 : zmag f (roundRatio f (s != t) c d (q - r)) = zmag f (.fin s' c' q') :=
    Nat.le_antisymm (zmag_roundRatio_le hf (e0 := 2 * f.qmin - r) (Nat.pos_of_ne_zero hd) hV hn (by omega) (by omega) (Nat.le_of_eq hun))
      (zmag_roundRatio_ge hf (e0 := 2 * f.qmin - r) (Nat.pos_of_ne_zero hd) hV (by omega) (by omega) (Nat.le_of_eq hun.symm))
  have hsg : signed (s != t) (zmag f (.fin s' c' q')) = zval f (.fin s' c' q') := by
    have p0 : zmag f (.fin s c q) = inUnits c q f.qmin := rfl
    have hS : zval f (.fin s c q) * 2 ^ (-f.qmin).toNat * zval f (.fin t d r) = zval f (.fin s' c' q') * (zval f (.fin t d r) * zval f (.fin t d r)) := by rw [hz]; ac_rfl
    by_cases h0 : zmag f (.fin s' c' q') = 0
    · unfold zval; rw [h0, signed_zero, signed_zero]
    · have hbb : 0 < zval f (.fin t d r) * zval f (.fin t d r) := by
        rcases Int.lt_or_gt_of_ne hzb with h | h
        · exact Int.mul_pos_of_neg_of_neg h h
        · exact Int.mul_pos h h
      have hst : zval f (.fin s c q) * zval f (.fin t d r) = signed (s != t) (zmag f (.fin s c q) * zmag f (.fin t d r)) := by
        rw [signed_xor]; rfl
      have e1 : zval f (.fin s' c' q') * (zval f (.fin t d r) * zval f (.fin t d r)) = signed (s != t) (zmag f (.fin s c q) * zmag f (.fin t d r)) * 2 ^ (-f.qmin).toNat := by
        rw [← hS, ← hst]; ac_rfl
      have e2 : signed (s != t) (zmag f (.fin s c q) * zmag f (.fin t d r)) * 2 ^ (-f.qmin).toNat = signed (s != t) (zmag f (.fin s' c' q')) * (zval f (.fin t d r) * zval f (.fin t d r)) := by
        rw [← signed_mulI, show zmag f (.fin s c q) * zmag f (.fin t d r) * 2 ^ (-f.qmin).toNat = zmag f (.fin s' c' q') * (zmag f (.fin t d r) * zmag f (.fin t d r)) by rw [Nat.mul_right_comm, hmag]; ac_rfl, signed_mul]
        congr 1
        unfold zval
        rw [Int.natCast_mul]
        cases (sgn (.fin t d r)) <;> simp [signed, Int.neg_mul_neg]
      exact Int.eq_of_mul_eq_mul_right (Int.ne_of_gt hbb) (e2.symm.trans e1.symm)
  have hzz : zval f (roundRatio f (s != t) c d (q - r)) = zval f (.fin s' c' q') := by
    rw [← hsg]
    show signed (sgn (roundRatio f (s != t) c d (q - r))) (zmag f (roundRatio f (s != t) c d (q - r))) = _
    rw [sgn_roundRatio, hm2]
  rw [hqt]
  exact ⟨dyf_of_zval hf hV hzz, by rw [hzz]; exact hv⟩
theorem Dyf.ofInt {f : Fmt} (hf : Good f) (hq : 0 ≤ f.qmax) {i : Int} (hi : i.natAbs < 2 ^ f.p) : Dyf f i 0 (round f (FP.Core.ofInt i)) := by
  have hn := qmin_neg hf
  refine rnd hf hq (Int.le_refl _) (by omega) hi (by omega) ?_
  unfold inUnits
  rw [signed_mulI, signed_abs, Int.sub_self]
  simp
theorem Dyf.order {f : Fmt} (hf : Good f) {i j : Int} {k : Nat} {x y : Datum} (fx : FP.Core.fits f x) (fy : FP.Core.fits f y) (hx : Dyf f i k x) (hy : Dyf f j k y) : order x y = some (compare i j) := by
  obtain ⟨⟨s, c, q, rfl⟩, hx⟩ := hx
  obtain ⟨⟨t, d, r, rfl⟩, hy⟩ := hy
  rw [order_zval hf fx fy nofun nofun, ← compare_mul_pos _ _ _ (pw_pos k), hx, hy, compare_mul_pos _ _ _ (pw_pos _)]
/-! doubles -/
def Dy (i : Int) (k : Nat) (a : UInt64) : Prop := Dyf b64 i k (val64 a)
theorem qm64 : (0 : Int) ≤ b64.qmax := by decide
theorem Dy.fin {i : Int} {k : Nat} {a : UInt64} (h : Dy i k a) : DFin a := h.1
theorem Dy.nn {i : Int} {k : Nat} {a : UInt64} (h : Dy i k a) : Jvm.Free.Fl.NoNaN64 a := (Jvm.Free.Fl.fin64_core.mpr h.1).noNaN
theorem Dy.to {i j : Int} {k l : Nat} {a : UInt64} (h : Dy i k a) (e : i * 2 ^ l = j * 2 ^ k) : Dy j l a := Dyf.to h e
theorem Dy.up {i : Int} {k : Nat} {a : UInt64} (h : Dy i k a) (l : Nat) : Dy (i * 2 ^ l) (k + l) a := Dyf.up h l
theorem Dy.add {i j : Int} {k : Nat} {a b : UInt64} (ha : Dy i k a) (hb : Dy j k b) (hi : (i + j).natAbs < 9007199254740992) (hk : k ≤ 1074) : Dy (i + j) k (FP.dadd a b) := by
  show Dyf b64 _ _ (val64 (dadd a b))
  rw [val64_dadd]
  exact Dyf.sum good_b64 qm64 (val64_fits a) (val64_fits b) ha hb hi (by rw [qmin_b64]; omega)
theorem Dy.sub {i j : Int} {k : Nat} {a b : UInt64} (ha : Dy i k a) (hb : Dy j k b) (hi : (i - j).natAbs < 9007199254740992) (hk : k ≤ 1074) : Dy (i - j) k (FP.dsub a b) := by
  show Dyf b64 _ _ (val64 (dsub a b))
  rw [val64_dsub]
  exact Dyf.sum good_b64 qm64 (val64_fits a) (negate_fits (val64_fits b)) ha hb.neg hi (by rw [qmin_b64]; omega)
theorem Dy.mul {i j : Int} {k l : Nat} {a b : UInt64} (ha : Dy i k a) (hb : Dy j l b) (hi : (i * j).natAbs < 9007199254740992) (hk : k + l ≤ 1074) : Dy (i * j) (k + l) (FP.dmul a b) := by
  show Dyf b64 _ _ (val64 (dmul a b))
  rw [val64_dmul]
  exact Dyf.prod good_b64 qm64 (val64_fits a) (val64_fits b) ha hb hi (by rw [qmin_b64]; omega)
theorem Dy.div {i j n : Int} {k l m : Nat} {a b : UInt64} (ha : Dy i k a) (hb : Dy j l b) (hj : j ≠ 0) (hi : n.natAbs < 9007199254740992) (hk : m ≤ 1074) (e : i * 2 ^ l * 2 ^ m = n * j * 2 ^ k) : Dy n m (FP.ddiv a b) := by
  show Dyf b64 _ _ (val64 (ddiv a b))
  rw [val64_ddiv]
  exact Dyf.quot good_b64 qm64 (val64_fits a) (val64_fits b) ha hb hj hi (by rw [qmin_b64]; omega) e
theorem Dy.neg {i : Int} {k : Nat} {a : UInt64} (ha : Dy i k a) : Dy (-i) k (FP.dneg a) := by
  show Dyf b64 _ _ (val64 (FP.dneg a))
  rw [Jvm.FP.val64_dneg]
  exact Dyf.neg ha
theorem Dy.i2d (x : Int32) : Dy x.toInt 0 (FP.i2d x) := by
  show Dyf b64 _ _ (val64 (FP.Core.i2d x))
  rw [val64_i2d]
  exact Dyf.ofInt good_b64 qm64 (by have := int32_abs x; show _ < 2 ^ 53; omega)
theorem Dy.l2d {x : Int64} (h : x.toInt.natAbs < 9007199254740992) : Dy x.toInt 0 (FP.l2d x) := by
  show Dyf b64 _ _ (val64 (FP.Core.l2d x))
  rw [val64_l2d]
  exact Dyf.ofInt good_b64 qm64 h
theorem Dy.cmp {i j : Int} {k : Nat} {a b : UInt64} (ha : Dy i k a) (hb : Dy j k b) : FP.dcmp a b = some (compare i j) :=
  Dyf.order good_b64 (val64_fits a) (val64_fits b) ha hb
theorem Dy.cmp_eq {i j : Int} {k : Nat} {a b : UInt64} (ha : Dy i k a) (hb : Dy j k b) (e : i = j) (o : ClassFile.CmpOp) : cmpValue (FP.dcmp a b) o = 0 := by
  rw [ha.cmp hb, e, compare_self_int]; rfl
theorem Dy.cmp_lt {i j : Int} {k : Nat} {a b : UInt64} (ha : Dy i k a) (hb : Dy j k b) (e : i < j) (o : ClassFile.CmpOp) : cmpValue (FP.dcmp a b) o = -1 := by
  rw [ha.cmp hb, show compare i j = .lt by rw [compare_ite, if_pos e]]; rfl
theorem Dy.cmp_gt {i j : Int} {k : Nat} {a b : UInt64} (ha : Dy i k a) (hb : Dy j k b) (e : j < i) (o : ClassFile.CmpOp) : cmpValue (FP.dcmp a b) o = 1 := by
  rw [ha.cmp hb, show compare i j = .gt by rw [compare_ite, if_neg (by omega), if_neg (by omega)]]; rfl
theorem dy_of {i : Int} {k : Nat} {a : UInt64} {s : Bool} {c : Nat} {q : Int} (h : val64 a = .fin s c q) (e : zval b64 (.fin s c q) * 2 ^ k = i * 2 ^ 1074) : Dy i k a :=
  ⟨⟨s, c, q, h⟩, by rw [h, e]; rfl⟩
theorem dy0 (k : Nat) : Dy 0 k (0 : UInt64) := dy_of (s := false) (c := 0) (q := -1074) (by decide +kernel) (by
  rw [show zval b64 (.fin false 0 (-1074)) = 0 from rfl, Int.zero_mul, Int.zero_mul])
theorem dy1 (k : Nat) : Dy (2 ^ k) k (4607182418800017408 : UInt64) := dy_of (s := false) (c := 2 ^ 52) (q := -52) (by decide +kernel) (by
  rw [show zval b64 (.fin false (2 ^ 52) (-52)) = 2 ^ 1074 by decide +kernel, Int.mul_comm])
theorem Dy.ge {i j : Int} {k : Nat} {a b : UInt64} (ha : Dy i k a) (hb : Dy j k b) (e : j ≤ i) (o : ClassFile.CmpOp) : ¬ (cmpValue (FP.dcmp a b) o < (0 : Int32)) := by
  rcases Int.lt_or_eq_of_le e with h | h
  · rw [ha.cmp_gt hb h]; decide
  · rw [ha.cmp_eq hb h.symm]; decide
theorem Dy.le {i j : Int} {k : Nat} {a b : UInt64} (ha : Dy i k a) (hb : Dy j k b) (e : i ≤ j) (o : ClassFile.CmpOp) : ¬ ((0 : Int32) < cmpValue (FP.dcmp a b) o) := by
  rcases Int.lt_or_eq_of_le e with h | h
  · rw [ha.cmp_lt hb h]; decide
  · rw [ha.cmp_eq hb h]; decide
theorem Dy.lt_inf {i : Int} {k : Nat} {a : UInt64} (ha : Dy i k a) (o : ClassFile.CmpOp) : cmpValue (FP.dcmp a (9218868437227405312 : UInt64)) o < (0 : Int32) := by
  rw [Jvm.RoadKit.dcmp_pinf (Jvm.Free.Fl.fin64_core.mpr ha.1)]; decide
theorem isfin {a : UInt64} (h : DFin a) : ¬ ((0 : Int32) < cmpValue (FP.dcmp (a &&& 0x7fffffffffffffff) (9218868437227405311 : UInt64)) .g) := by
  have hn : dIsNaN a = false := (notNaN_iff a).mpr (by obtain ⟨s, c, q, e⟩ := h; rw [e]; exact nofun)
  rcases (le_max hn).mpr h with e | e <;> rw [show FP.dcmp (a &&& 0x7fffffffffffffff) (9218868437227405311 : UInt64) = _ from e] <;> decide
theorem since0 (s : State) : s.Since s.vm 0 := ⟨State.Warmed39.refl s, fun j p h1 h2 => by
  rw [Array.getElem?_eq_none h1] at h2; cases h2⟩
theorem i2d_nz {v : Int32} (h : v ≠ 0) : ¬ DZero (FP.i2d v) := fun q => i2d_ne_zero h ((zero_bits2 _).mp q)
theorem nn_of {x : UInt64} (h : dIsNaN x = false) : Jvm.Free.Fl.NoNaN64 x := Jvm.Free.Fl.noNaN64_no.mpr h
theorem no_of {x : UInt64} (h : Jvm.Free.Fl.NoNaN64 x) : dIsNaN x = false := Jvm.Free.Fl.noNaN64_no.mp h
theorem no_fin {x : UInt64} (h : DFin x) : dIsNaN x = false := (notNaN_iff x).mpr (by obtain ⟨s, c, q, e⟩ := h; rw [e]; exact nofun)
theorem nn_div {a : UInt64} {v : Int32} (ha : dIsNaN a = false) (h : v ≠ 0) : Jvm.Free.Fl.NoNaN64 (FP.ddiv a (FP.i2d v)) := nn_of (ddiv_out ha (i2d_fin v) (i2d_nz h))
theorem fin_div (a : Int32) {v : Int32} (h : v ≠ 0) : DFin (FP.ddiv (FP.i2d a) (FP.i2d v)) := by
  have h1 := i2d_mag a
  have h2 := i2d_big (v := v) (fun q => h (Int32.toInt_inj.mp q))
  exact fin_of_lt (ddiv_mag h1 h2.1 h2.2 (by decide) (by decide)) (by decide)
end Jvm.OwnFp
namespace Jvm.Pilot.@@N@@
open Jvm Jvm.ClassFile Sem Op Lib Jvm.Free Jvm.Stand Jvm.LawKit Jvm.RoadKit Bundle Jvm.Pilot.@@N@@.Jvm.D
open Jvm.OwnFp
theorem own_4 : Dy 4 0 (4616189618054758400 : UInt64) := dy_of (s := false) (c := 2 ^ 52) (q := -50) (by decide +kernel) (by decide +kernel)
theorem own_field (q : Int64) (p : Int32) : -2048 ≤ (((((q.toUInt64 >>> (((12 : Int32) * p) &&& 0x3f).toInt64.toUInt64).toInt64) &&& (4095 : Int64)).toInt32) - (2048 : Int32)).toInt ∧ (((((q.toUInt64 >>> (((12 : Int32) * p) &&& 0x3f).toInt64.toUInt64).toInt64) &&& (4095 : Int64)).toInt32) - (2048 : Int32)).toInt ≤ 2047 := by
  generalize hy : (q.toUInt64 >>> (((12 : Int32) * p) &&& 0x3f).toInt64.toUInt64).toInt64 = y
  have m := c_maskL y 4095 12 (by decide) (by decide)
  have i := c_l2i (y &&& 4095)
  have r := rng32 (y &&& 4095).toInt32
  have s := c_isub (y &&& 4095).toInt32 2048
  have t := rng32 ((y &&& 4095).toInt32 - 2048)
  rw [show (2048 : Int32).toInt = 2048 by decide] at s
  rw [m] at i
  omega
theorem own_absmul {x y : Int} {A B : Nat} (hx : x.natAbs ≤ A) (hy : y.natAbs ≤ B) : (x * y).natAbs ≤ A * B := by
  rw [Int.natAbs_mul]; exact Nat.mul_le_mul hx hy
theorem own_p {f p : Int} (B : -2048 ≤ f ∧ f ≤ 2047) (h : -2147483648 ≤ p ∧ p < 2147483648) : (f * p).natAbs ≤ 4398046511104 := own_absmul (A := 2048) (B := 2147483648) (by omega) (by omega)
theorem own_refb {f1 f2 f3 f4 f5 p1 p2 p3 p4 p5 : Int32} (B1 : -2048 ≤ f1.toInt ∧ f1.toInt ≤ 2047) (B2 : -2048 ≤ f2.toInt ∧ f2.toInt ≤ 2047) (B3 : -2048 ≤ f3.toInt ∧ f3.toInt ≤ 2047) (B4 : -2048 ≤ f4.toInt ∧ f4.toInt ≤ 2047) (B5 : -2048 ≤ f5.toInt ∧ f5.toInt ≤ 2047) :
    (f1.toInt * p1.toInt + f2.toInt * p2.toInt + f3.toInt * p3.toInt + f4.toInt * p4.toInt + f5.toInt * p5.toInt).natAbs < 9007199254740992 := by
  have a1 := own_p B1 (rng32 p1); have a2 := own_p B2 (rng32 p2); have a3 := own_p B3 (rng32 p3); have a4 := own_p B4 (rng32 p4); have a5 := own_p B5 (rng32 p5)
  omega
theorem own_ref {f1 f2 f3 f4 f5 p1 p2 p3 p4 p5 : Int32} (B1 : -2048 ≤ f1.toInt ∧ f1.toInt ≤ 2047) (B2 : -2048 ≤ f2.toInt ∧ f2.toInt ≤ 2047) (B3 : -2048 ≤ f3.toInt ∧ f3.toInt ≤ 2047) (B4 : -2048 ≤ f4.toInt ∧ f4.toInt ≤ 2047) (B5 : -2048 ≤ f5.toInt ∧ f5.toInt ≤ 2047) :
    (f1.toInt64 * p1.toInt64 + f2.toInt64 * p2.toInt64 + f3.toInt64 * p3.toInt64 + f4.toInt64 * p4.toInt64 + f5.toInt64 * p5.toInt64).toInt = f1.toInt * p1.toInt + f2.toInt * p2.toInt + f3.toInt * p3.toInt + f4.toInt * p4.toInt + f5.toInt * p5.toInt := by
  have a1 := own_p B1 (rng32 p1); have a2 := own_p B2 (rng32 p2); have a3 := own_p B3 (rng32 p3); have a4 := own_p B4 (rng32 p4); have a5 := own_p B5 (rng32 p5)
  have m1 := c_lmul f1.toInt64 p1.toInt64; have m2 := c_lmul f2.toInt64 p2.toInt64; have m3 := c_lmul f3.toInt64 p3.toInt64; have m4 := c_lmul f4.toInt64 p4.toInt64; have m5 := c_lmul f5.toInt64 p5.toInt64
  rw [c_i2l, c_i2l] at m1 m2 m3 m4 m5
  have s2 := c_ladd (f1.toInt64 * p1.toInt64) (f2.toInt64 * p2.toInt64)
  have s3 := c_ladd (f1.toInt64 * p1.toInt64 + f2.toInt64 * p2.toInt64) (f3.toInt64 * p3.toInt64)
  have s4 := c_ladd (f1.toInt64 * p1.toInt64 + f2.toInt64 * p2.toInt64 + f3.toInt64 * p3.toInt64) (f4.toInt64 * p4.toInt64)
  have s5 := c_ladd (f1.toInt64 * p1.toInt64 + f2.toInt64 * p2.toInt64 + f3.toInt64 * p3.toInt64 + f4.toInt64 * p4.toInt64) (f5.toInt64 * p5.toInt64)
  have r := rng64 (f1.toInt64 * p1.toInt64 + f2.toInt64 * p2.toInt64 + f3.toInt64 * p3.toInt64 + f4.toInt64 * p4.toInt64 + f5.toInt64 * p5.toInt64)
  omega
theorem own_omega {f1 f2 f3 f4 f5 p1 p2 p3 p4 p5 : Int} {u1 u2 u3 u4 u5 w1 w2 w3 w4 w5 : UInt64} (B1 : -2048 ≤ f1 ∧ f1 ≤ 2047) (B2 : -2048 ≤ f2 ∧ f2 ≤ 2047) (B3 : -2048 ≤ f3 ∧ f3 ≤ 2047) (B4 : -2048 ≤ f4 ∧ f4 ≤ 2047) (B5 : -2048 ≤ f5 ∧ f5 ≤ 2047)
    (r1 : -2147483648 ≤ p1 ∧ p1 < 2147483648) (r2 : -2147483648 ≤ p2 ∧ p2 < 2147483648) (r3 : -2147483648 ≤ p3 ∧ p3 < 2147483648) (r4 : -2147483648 ≤ p4 ∧ p4 < 2147483648) (r5 : -2147483648 ≤ p5 ∧ p5 < 2147483648)
    (d1 : Dy f1 2 u1) (d2 : Dy f2 2 u2) (d3 : Dy f3 2 u3) (d4 : Dy f4 2 u4) (d5 : Dy f5 2 u5) (e1 : Dy p1 0 w1) (e2 : Dy p2 0 w2) (e3 : Dy p3 0 w3) (e4 : Dy p4 0 w4) (e5 : Dy p5 0 w5) :
    Dy (f1 * p1) 2 (FP.dmul u1 w1) ∧ Dy (f2 * p2) 2 (FP.dmul u2 w2) ∧ Dy (f1 * p1 + f2 * p2) 2 (FP.dadd (FP.dmul u1 w1) (FP.dmul u2 w2)) ∧ Dy (f3 * p3) 2 (FP.dmul u3 w3) ∧ Dy (f1 * p1 + f2 * p2 + f3 * p3) 2 (FP.dadd (FP.dadd (FP.dmul u1 w1) (FP.dmul u2 w2)) (FP.dmul u3 w3)) ∧
    Dy (f4 * p4) 2 (FP.dmul u4 w4) ∧ Dy (f1 * p1 + f2 * p2 + f3 * p3 + f4 * p4) 2 (FP.dadd (FP.dadd (FP.dadd (FP.dmul u1 w1) (FP.dmul u2 w2)) (FP.dmul u3 w3)) (FP.dmul u4 w4)) ∧ Dy (f5 * p5) 2 (FP.dmul u5 w5) ∧
    Dy (f1 * p1 + f2 * p2 + f3 * p3 + f4 * p4 + f5 * p5) 2 (FP.dadd (FP.dadd (FP.dadd (FP.dadd (FP.dmul u1 w1) (FP.dmul u2 w2)) (FP.dmul u3 w3)) (FP.dmul u4 w4)) (FP.dmul u5 w5)) := by
  have a1 := own_p B1 r1; have a2 := own_p B2 r2; have a3 := own_p B3 r3; have a4 := own_p B4 r4; have a5 := own_p B5 r5
  have m1 : Dy (f1 * p1) 2 (FP.dmul u1 w1) := Dy.mul d1 e1 (by omega) (by decide)
  have m2 : Dy (f2 * p2) 2 (FP.dmul u2 w2) := Dy.mul d2 e2 (by omega) (by decide)
  have m3 : Dy (f3 * p3) 2 (FP.dmul u3 w3) := Dy.mul d3 e3 (by omega) (by decide)
  have m4 : Dy (f4 * p4) 2 (FP.dmul u4 w4) := Dy.mul d4 e4 (by omega) (by decide)
  have m5 : Dy (f5 * p5) 2 (FP.dmul u5 w5) := Dy.mul d5 e5 (by omega) (by decide)
  have s2 := Dy.add m1 m2 (by omega) (by decide)
  have s3 := Dy.add s2 m3 (by omega) (by decide)
  have s4 := Dy.add s3 m4 (by omega) (by decide)
  have s5 := Dy.add s4 m5 (by omega) (by decide)
  exact ⟨m1, m2, s2, m3, s3, m4, s4, m5, s5⟩
theorem ef_1_JI (m : MethodId) (x0 : Int64) (x1 : Int32) : entryFrame m #[(.long x0), (.int x1)] 3 = mkF m 0 #[.val (.long x0), .second, .val (.int x1)] [] := by first | (simp [entryFrame, mkF, argsToLocals, Value.category]; done) | rfl
theorem d1_0 : decode method_2_code 0 = .ok (.lload_n 0, 1) := by decide +kernel
theorem d1_1 : decode method_2_code 1 = .ok (.bipush 12, 2) := by decide +kernel
theorem d1_3 : decode method_2_code 3 = .ok (.iload_n 2, 1) := by decide +kernel
theorem d1_4 : decode method_2_code 4 = .ok (.imul, 1) := by decide +kernel
theorem d1_5 : decode method_2_code 5 = .ok (.lushr, 1) := by decide +kernel
theorem d1_6 : decode method_2_code 6 = .ok (.ldc2_w 7, 3) := by decide +kernel
theorem d1_9 : decode method_2_code 9 = .ok (.land, 1) := by decide +kernel
theorem d1_10 : decode method_2_code 10 = .ok (.l2i, 1) := by decide +kernel
theorem d1_11 : decode method_2_code 11 = .ok (.sipush 2048, 3) := by decide +kernel
theorem d1_14 : decode method_2_code 14 = .ok (.isub, 1) := by decide +kernel
theorem d1_15 : decode method_2_code 15 = .ok (.ireturn, 1) := by decide +kernel
def Q_rm1 (Z : State) (q1 : Int64) (p1 : Int32) (h0 : Heap) (n0 : Nat) (v : Option Value) (h : Heap) (L : List Loc) : Prop := v = some (.int (((((q1.toUInt64 >>> (((12 : Int32) * p1) &&& 0x3f).toInt64.toUInt64).toInt64) &&& (4095 : Int64)).toInt32) - (2048 : Int32))) ∧ Fr n0 L ∧ h = h0
theorem pn_com_2fexample_2fliblocus_2fliblocus_2fsentence_2fPartWeightsOmegaPinLaw : plainName "com/example/liblocus/liblocus/sentence/PartWeightsOmegaPinLaw" = true := by first | (simp [plainName, overriddenIn]; done) | decide +kernel
set_option maxRecDepth 65536 in
set_option maxHeartbeats 40000000 in
theorem rm1 (l : Launch) (Z : State) (a0 : Array Value) (hw : ∀ d ∈ tables_1, d.before a0 Z = true) (ws : List Jvm.Cond) (q1 : Int64) (p1 : Int32) (h0 : Heap) (n0 : Nat) (Z0 : n0 ≤ h0.size) :
    MetFree l (⟨"com/example/liblocus/liblocus/sentence/PartWeightsOmegaPinLaw", "field", "(JI)I"⟩ : MethodName) (head1 (Jvm.Cond.code (⟨"com/example/liblocus/liblocus/sentence/PartWeightsOmegaPinLaw", "field", "(JI)I"⟩ : MethodName) method_2_code 3 (some .int) :: ws) ({ frames := 0, cells := 0, slots := 0, locals := 0 } : Room)) (fun a U => a = #[(.long q1), (.int p1)] ∧ Z.Warmed39 U.vm ∧ U.heap = h0) (fun _ _ _ _ _ => True) (fun _ U o U' => ∃ v L, o = .returned v ∧ Q_rm1 Z q1 p1 h0 n0 v U'.heap L ∧ FrameEnd U o U' L ({ frames := 0, cells := 0, slots := 0, locals := 0 } : Room).cells ({ frames := 0, cells := 0, slots := 0, locals := 0 } : Room).slots) := by
  refine MetFree.of_bodySF (plainFor_of_name pn_com_2fexample_2fliblocus_2fliblocus_2fsentence_2fPartWeightsOmegaPinLaw) hisR ?_
  intro p e s m args below meth c s₁ Bd hml0 hP hK
  obtain ⟨rfl, hZ, hh⟩ := hP
  have hx := Bd.exec
  have hby := Bd.bytes
  have hml : c.maxLocals = 3 := hml0
  have hown : s.vm.findClass "com/example/liblocus/liblocus/sentence/PartWeightsOmegaPinLaw" = some m.cls := findClass_of_methodNamed Bd.named
  have hnm := (name_of_methodNamed Bd.named Bd.method).1
  have X0 : Stand p l e ({ frames := 0, cells := 0, slots := 0, locals := 0 } : Room) s m #[(.long q1), (.int p1)] below meth c s₁ [] 0 0 := Stand.of_body Bd
  have e0 : s₁.heap = h0 := by rw [← hh, Bd.state]; rfl
  have N0 := Fr.nil n0
  have k0 : ∀ t, Steps p.tables e below (s₁.setTop (mkF m 0 #[.val (.long q1), .second, .val (.int p1)] [])) t → Steps p.tables e below (s₁.setTop (entryFrame m #[(.long q1), (.int p1)] 3)) t := fun t k => castTop (ef_1_JI m q1 p1) k
  have k101 : ∀ t, Steps p.tables e below (s₁.setTop (mkF m 15 #[.val (.long q1), .second, .val (.int p1)] [(.int (((((q1.toUInt64 >>> (((12 : Int32) * p1) &&& 0x3f).toInt64.toUInt64).toInt64) &&& (4095 : Int64)).toInt32) - (2048 : Int32)))])) t → Steps p.tables e below (s₁.setTop (entryFrame m #[(.long q1), (.int p1)] 3)) t := fun t k => k0 t (by
    show Steps p.tables e below (s₁.setTop (mkF m 0 #[.val (.long q1), .second, .val (.int p1)] [])) _
    refine XS.lloadN X0.here hx rfl (hb hby d1_0) rfl ?_
    show Steps p.tables e below (s₁.setTop (mkF m 1 #[.val (.long q1), .second, .val (.int p1)] [(.long q1)])) _
    refine XS.bipush X0.here hx rfl (hb hby d1_1) ?_
    show Steps p.tables e below (s₁.setTop (mkF m 3 #[.val (.long q1), .second, .val (.int p1)] [(.int (12 : Int32)), (.long q1)])) _
    refine XS.iloadN X0.here hx rfl (hb hby d1_3) rfl ?_
    show Steps p.tables e below (s₁.setTop (mkF m 4 #[.val (.long q1), .second, .val (.int p1)] [(.int p1), (.int (12 : Int32)), (.long q1)])) _
    refine XS.imul X0.here hx rfl (hb hby d1_4) rfl ?_
    show Steps p.tables e below (s₁.setTop (mkF m 5 #[.val (.long q1), .second, .val (.int p1)] [(.int ((12 : Int32) * p1)), (.long q1)])) _
    refine XS.lushr X0.here hx rfl (hb hby d1_5) rfl ?_
    show Steps p.tables e below (s₁.setTop (mkF m 6 #[.val (.long q1), .second, .val (.int p1)] [(.long ((q1.toUInt64 >>> (((12 : Int32) * p1) &&& 0x3f).toInt64.toUInt64).toInt64))])) _
    refine X0.ldc2Long hx hown (mvT hZ (hw _ (List.mem_of_getElem? (i := 4) rfl))) (g := (mkF m 6 #[.val (.long q1), .second, .val (.int p1)] [(.long ((q1.toUInt64 >>> (((12 : Int32) * p1) &&& 0x3f).toInt64.toUInt64).toInt64))])) rfl (hb hby d1_6) _ ?_
    show Steps p.tables e below (s₁.setTop (mkF m 9 #[.val (.long q1), .second, .val (.int p1)] [(.long (4095 : Int64)), (.long ((q1.toUInt64 >>> (((12 : Int32) * p1) &&& 0x3f).toInt64.toUInt64).toInt64))])) _
    refine XS.land X0.here hx rfl (hb hby d1_9) rfl ?_
    show Steps p.tables e below (s₁.setTop (mkF m 10 #[.val (.long q1), .second, .val (.int p1)] [(.long (((q1.toUInt64 >>> (((12 : Int32) * p1) &&& 0x3f).toInt64.toUInt64).toInt64) &&& (4095 : Int64)))])) _
    refine XS.l2i X0.here hx rfl (hb hby d1_10) rfl ?_
    show Steps p.tables e below (s₁.setTop (mkF m 11 #[.val (.long q1), .second, .val (.int p1)] [(.int ((((q1.toUInt64 >>> (((12 : Int32) * p1) &&& 0x3f).toInt64.toUInt64).toInt64) &&& (4095 : Int64)).toInt32))])) _
    refine XS.sipush X0.here hx rfl (hb hby d1_11) ?_
    show Steps p.tables e below (s₁.setTop (mkF m 14 #[.val (.long q1), .second, .val (.int p1)] [(.int (2048 : Int32)), (.int ((((q1.toUInt64 >>> (((12 : Int32) * p1) &&& 0x3f).toInt64.toUInt64).toInt64) &&& (4095 : Int64)).toInt32))])) _
    refine XS.isub X0.here hx rfl (hb hby d1_14) rfl ?_
    exact k)
  obtain ⟨fs, hr, hrun, hended, hW, hsame⟩ := X0.leave (v := some (.int (((((q1.toUInt64 >>> (((12 : Int32) * p1) &&& 0x3f).toInt64.toUInt64).toInt64) &&& (4095 : Int64)).toInt32) - (2048 : Int32)))) (fun h => by rw [Bd.returns] at h; cases h)
  refine ⟨_, _, k101 _ (retOut X0 hx (t := .int) Bd.returns rfl (Or.inl ⟨rfl, Or.inl rfl, _, rfl⟩) (hb hby d1_15) hr), hrun, hended, _, _, rfl, ?_, ⟨_, rfl⟩, hW, hsame.mono (by decide) (by decide)⟩
  show Q_rm1 Z q1 p1 h0 n0 _ s₁.heap _
  rw [e0]
  exact ⟨rfl, N0, rfl⟩
theorem ef_3_R (m : MethodId) (x0 : Addr) : entryFrame m #[(.ref x0)] 1 = mkF m 0 #[.val (.ref x0)] [] := by first | (simp [entryFrame, mkF, argsToLocals, Value.category]; done) | rfl
theorem d3_0 : decode jdk_30_method_1_code 0 = .ok (.aload_n 0, 1) := by decide +kernel
theorem d3_1 : decode jdk_30_method_1_code 1 = .ok (.invokespecial 1, 3) := by decide +kernel
theorem d3_4 : decode jdk_30_method_1_code 4 = .ok (.return_, 1) := by decide +kernel
def Q_rm3 (Z : State) (a1 : Addr) (h0 : Heap) (n0 : Nat) (v : Option Value) (h : Heap) (L : List Loc) : Prop := v = none ∧ Fr n0 L ∧ h = h0
theorem pn_java_2flang_2fRecord : plainName "java/lang/Record" = true := by first | (simp [plainName, overriddenIn]; done) | decide +kernel
set_option maxRecDepth 65536 in
set_option maxHeartbeats 40000000 in
theorem rm3 (l : Launch) (Z : State) (a0 : Array Value) (hw : ∀ d ∈ tables_1, d.before a0 Z = true) (ws : List Jvm.Cond) (a1 : Addr) (h0 : Heap) (n0 : Nat) (Z0 : n0 ≤ h0.size) :
    MetFree l (⟨"java/lang/Record", "<init>", "()V"⟩ : MethodName) (head1 (Jvm.Cond.code (⟨"java/lang/Record", "<init>", "()V"⟩ : MethodName) jdk_30_method_1_code 1 none :: ws) ({ frames := 1, cells := 0, slots := 0, locals := 12 } : Room)) (fun a U => a = #[(.ref a1)] ∧ Z.Warmed39 U.vm ∧ U.heap = h0) (fun _ _ _ _ _ => True) (fun _ U o U' => ∃ v L, o = .returned v ∧ Q_rm3 Z a1 h0 n0 v U'.heap L ∧ FrameEnd U o U' L ({ frames := 1, cells := 0, slots := 0, locals := 12 } : Room).cells ({ frames := 1, cells := 0, slots := 0, locals := 12 } : Room).slots) := by
  refine MetFree.of_bodySF (plainFor_of_name pn_java_2flang_2fRecord) hisR ?_
  intro p e s m args below meth c s₁ Bd hml0 hP hK
  obtain ⟨rfl, hZ, hh⟩ := hP
  have hx := Bd.exec
  have hby := Bd.bytes
  have hml : c.maxLocals = 1 := hml0
  have hown : s.vm.findClass "java/lang/Record" = some m.cls := findClass_of_methodNamed Bd.named
  have hnm := (name_of_methodNamed Bd.named Bd.method).1
  have X0 : Stand p l e ({ frames := 1, cells := 0, slots := 0, locals := 12 } : Room) s m #[(.ref a1)] below meth c s₁ [] 0 0 := Stand.of_body Bd
  have e0 : s₁.heap = h0 := by rw [← hh, Bd.state]; rfl
  have N0 := Fr.nil n0
  have k0 : ∀ t, Steps p.tables e below (s₁.setTop (mkF m 0 #[.val (.ref a1)] [])) t → Steps p.tables e below (s₁.setTop (entryFrame m #[(.ref a1)] 1)) t := fun t k => castTop (ef_3_R m a1) k
  have k101 : ∀ t, Steps p.tables e below (s₁.setTop (mkF m 1 #[.val (.ref a1)] [(.ref a1)])) t → Steps p.tables e below (s₁.setTop (entryFrame m #[(.ref a1)] 1)) t := fun t k => k0 t (by
    show Steps p.tables e below (s₁.setTop (mkF m 0 #[.val (.ref a1)] [])) _
    refine XS.aloadN X0.here hx rfl (hb hby d3_0) rfl rfl ?_
    exact k)
  obtain ⟨T102, X102, e102, st102⟩ := initO X0 hx hZ hown (hw _ (List.mem_of_getElem? (i := 17) rfl)) (hw _ (List.mem_of_getElem? (i := 18) rfl)) (hw _ (List.mem_of_getElem? (i := 19) rfl)) e0 (g := (mkF m 1 #[.val (.ref a1)] [(.ref a1)])) rfl (by rw [hml]; rfl) rfl (hb hby d3_1) (by decide) (W := 0) (by show 2 * 0 + _ ≤ _; exact Nat.le_of_eq rfl) (by decide)
  have k103 : ∀ t, Steps p.tables e below (T102.setTop (mkF m 4 #[.val (.ref a1)] [])) t → Steps p.tables e below (s₁.setTop (entryFrame m #[(.ref a1)] 1)) t := fun t k => k101 t (st102 t k)
  obtain ⟨fs, hr, hrun, hended, hW, hsame⟩ := X102.leave (v := none) (fun _ => rfl)
  refine ⟨_, _, k103 _ (X102.returnOut hx Bd.returns (hb hby d3_4) hr), hrun, hended, _, _, rfl, ?_, ⟨_, rfl⟩, hW, hsame.mono (by decide) (by decide)⟩
  show Q_rm3 Z a1 h0 n0 _ T102.heap _
  rw [e102]
  exact ⟨rfl, N0, rfl⟩
theorem ef_5_D (m : MethodId) (x0 : UInt64) : entryFrame m #[(.double x0)] 2 = mkF m 0 #[.val (.double x0), .second] [] := by first | (simp [entryFrame, mkF, argsToLocals, Value.category]; done) | rfl
theorem d5_0 : decode jdk_117_method_8_code 0 = .ok (.dload_n 0, 1) := by decide +kernel
theorem d5_1 : decode jdk_117_method_8_code 1 = .ok (.invokestatic 38, 3) := by decide +kernel
theorem pd__28D_29D : parseMethodDescriptor "(D)D" = some ⟨[.double], some .double⟩ := by decide +kernel
theorem d5_4 : decode jdk_117_method_8_code 4 = .ok (.ldc2_w 111, 3) := by decide +kernel
theorem d5_7 : decode jdk_117_method_8_code 7 = .ok (.dcmp .g, 1) := by decide +kernel
theorem d5_8 : decode jdk_117_method_8_code 8 = .ok (.ifCond .gt 7, 3) := by decide +kernel
theorem d5_11 : decode jdk_117_method_8_code 11 = .ok (.iconst 1, 1) := by decide +kernel
theorem d5_12 : decode jdk_117_method_8_code 12 = .ok (.goto 4, 3) := by decide +kernel
theorem d5_16 : decode jdk_117_method_8_code 16 = .ok (.ireturn, 1) := by decide +kernel
def Q_rm5 (Z : State) (u1 : UInt64) (h0 : Heap) (n0 : Nat) (v : Option Value) (h : Heap) (L : List Loc) : Prop := v = some (.int 1) ∧ Fr n0 L ∧ h = h0
theorem pn_java_2flang_2fDouble : plainName "java/lang/Double" = true := by first | (simp [plainName, overriddenIn]; done) | decide +kernel
set_option maxRecDepth 65536 in
set_option maxHeartbeats 40000000 in
theorem rm5 (l : Launch) (Z : State) (a0 : Array Value) (hw : ∀ d ∈ tables_1, d.before a0 Z = true) (ws : List Jvm.Cond) (u1 : UInt64) (h0 : Heap) (n0 : Nat) (Z0 : n0 ≤ h0.size) (hf : Jvm.FP.Core.DFin u1) :
    MetFree l (⟨"java/lang/Double", "isFinite", "(D)Z"⟩ : MethodName) (head1 (Jvm.Cond.code (⟨"java/lang/Double", "isFinite", "(D)Z"⟩ : MethodName) jdk_117_method_8_code 2 (some .boolean) :: ws) ({ frames := 1, cells := 0, slots := 0, locals := 13 } : Room)) (fun a U => a = #[(.double u1)] ∧ Z.Warmed39 U.vm ∧ U.heap = h0) (fun _ _ _ _ _ => True) (fun _ U o U' => ∃ v L, o = .returned v ∧ Q_rm5 Z u1 h0 n0 v U'.heap L ∧ FrameEnd U o U' L ({ frames := 1, cells := 0, slots := 0, locals := 13 } : Room).cells ({ frames := 1, cells := 0, slots := 0, locals := 13 } : Room).slots) := by
  refine MetFree.of_bodySF (plainFor_of_name pn_java_2flang_2fDouble) hisR ?_
  intro p e s m args below meth c s₁ Bd hml0 hP hK
  obtain ⟨rfl, hZ, hh⟩ := hP
  have hx := Bd.exec
  have hby := Bd.bytes
  have hml : c.maxLocals = 2 := hml0
  have hown : s.vm.findClass "java/lang/Double" = some m.cls := findClass_of_methodNamed Bd.named
  have hnm := (name_of_methodNamed Bd.named Bd.method).1
  have X0 : Stand p l e ({ frames := 1, cells := 0, slots := 0, locals := 13 } : Room) s m #[(.double u1)] below meth c s₁ [] 0 0 := Stand.of_body Bd
  have e0 : s₁.heap = h0 := by rw [← hh, Bd.state]; rfl
  have N0 := Fr.nil n0
  have k0 : ∀ t, Steps p.tables e below (s₁.setTop (mkF m 0 #[.val (.double u1), .second] [])) t → Steps p.tables e below (s₁.setTop (entryFrame m #[(.double u1)] 2)) t := fun t k => castTop (ef_5_D m u1) k
  have k101 : ∀ t, Steps p.tables e below (s₁.setTop (mkF m 1 #[.val (.double u1), .second] [(.double u1)])) t → Steps p.tables e below (s₁.setTop (entryFrame m #[(.double u1)] 2)) t := fun t k => k0 t (by
    show Steps p.tables e below (s₁.setTop (mkF m 0 #[.val (.double u1), .second] [])) _
    refine XS.dloadN X0.here hx rfl (hb hby d5_0) rfl ?_
    exact k)
  obtain ⟨T102, X102, e102, st102⟩ := natS X0 hx hZ (y := Jvm.Free.Fl.Abs.absDN) hown (hw _ (List.mem_of_getElem? (i := 25) rfl)) (hw _ (List.mem_of_getElem? (i := 26) rfl)) (hw _ (List.mem_of_getElem? (i := 27) rfl)) (hw _ (List.mem_of_getElem? (i := 28) rfl)) (by decide) e0 (W := 0) (F := fun a' => a' = #[(.double u1)] ∧ Jvm.Free.Fl.NoNaN64 u1) (fun hq => Jvm.Free.Fl.Abs.absD_pays u1 hq (by decide) (by decide)) (g := (mkF m 1 #[.val (.double u1), .second] [(.double u1)])) rfl (by rw [hml]; rfl) (argsL := [(.double u1)]) (rest := []) (lenOf pd__28D_29D rfl) rfl (by show 2 * 0 + _ ≤ _; exact Nat.le_of_eq rfl) (hb hby d5_1) (by decide) (by decide) ⟨rfl, (Jvm.Free.Fl.fin64_core.mpr hf).noNaN⟩ rfl
  have k103 : ∀ t, Steps p.tables e below (T102.setTop (mkF m 4 #[.val (.double u1), .second] [(.double (u1 &&& 0x7fffffffffffffff))])) t → Steps p.tables e below (s₁.setTop (entryFrame m #[(.double u1)] 2)) t := fun t k => k101 t (st102 t k)
  have k104 : ∀ t, Steps p.tables e below (T102.setTop (mkF m 16 #[.val (.double u1), .second] [(.int (1 : Int32))])) t → Steps p.tables e below (s₁.setTop (entryFrame m #[(.double u1)] 2)) t := fun t k => k103 t (by
    show Steps p.tables e below (T102.setTop (mkF m 4 #[.val (.double u1), .second] [(.double (u1 &&& 0x7fffffffffffffff))])) _
    refine X102.ldc2DoubleC hx hown (mvT hZ (hw _ (List.mem_of_getElem? (i := 29) rfl))) (g := (mkF m 4 #[.val (.double u1), .second] [(.double (u1 &&& 0x7fffffffffffffff))])) rfl (hb hby d5_4) _ ?_
    show Steps p.tables e below (T102.setTop (mkF m 7 #[.val (.double u1), .second] [(.double (9218868437227405311 : UInt64)), (.double (u1 &&& 0x7fffffffffffffff))])) _
    refine XS.dcmpS X102.here hx rfl (hb hby d5_7) rfl rfl ?_
    show Steps p.tables e below (T102.setTop (mkF m 8 #[.val (.double u1), .second] [(.int (cmpValue (FP.dcmp (u1 &&& 0x7fffffffffffffff) (9218868437227405311 : UInt64)) .g))])) _
    refine XS.ifNo X102.here hx rfl (hb hby d5_8) rfl ((if0 _ _).trans (flt (Jvm.OwnFp.isfin hf)).2.2.1) ?_
    show Steps p.tables e below (T102.setTop (mkF m 11 #[.val (.double u1), .second] [])) _
    refine XS.iconst X102.here hx rfl (hb hby d5_11) ?_
    show Steps p.tables e below (T102.setTop (mkF m 12 #[.val (.double u1), .second] [(.int (1 : Int32))])) _
    refine XS.goto X102.here hx rfl (pc0 := 12) (pc' := 16) rfl (hb hby d5_12) (by decide) (by decide) ?_
    exact k)
  obtain ⟨fs, hr, hrun, hended, hW, hsame⟩ := X102.leave (v := some (.int (1 : Int32))) (fun h => by rw [Bd.returns] at h; cases h)
  refine ⟨_, _, k104 _ (retOut X102 hx (t := .boolean) Bd.returns rfl (Or.inl ⟨rfl, Or.inr (Or.inl rfl), _, rfl⟩) (hb hby d5_16) hr), hrun, hended, _, _, rfl, ?_, ⟨_, rfl⟩, hW, hsame.mono (by decide) (by decide)⟩
  show Q_rm5 Z u1 h0 n0 _ T102.heap _
  rw [e102]
  exact ⟨rfl, N0, rfl⟩
theorem ef_2_RDDDDD (m : MethodId) (x0 : Addr) (x1 : UInt64) (x2 : UInt64) (x3 : UInt64) (x4 : UInt64) (x5 : UInt64) : entryFrame m #[(.ref x0), (.double x1), (.double x2), (.double x3), (.double x4), (.double x5)] 16 = mkF m 0 #[.val (.ref x0), .val (.double x1), .second, .val (.double x2), .second, .val (.double x3), .second, .val (.double x4), .second, .val (.double x5), .second, .unset, .unset, .unset, .unset, .unset] [] := by first | (simp [entryFrame, mkF, argsToLocals, Value.category]; done) | rfl
theorem d2_0 : decode prog_118_method_1_code 0 = .ok (.aload_n 0, 1) := by decide +kernel
theorem d2_1 : decode prog_118_method_1_code 1 = .ok (.invokespecial 1, 3) := by decide +kernel
theorem pd__28_29V : parseMethodDescriptor "()V" = some ⟨[], none⟩ := by decide +kernel
theorem d2_4 : decode prog_118_method_1_code 4 = .ok (.iconst 5, 1) := by decide +kernel
theorem d2_5 : decode prog_118_method_1_code 5 = .ok (.newarray .double, 2) := by decide +kernel
theorem d2_7 : decode prog_118_method_1_code 7 = .ok (.dup, 1) := by decide +kernel
theorem d2_8 : decode prog_118_method_1_code 8 = .ok (.iconst 0, 1) := by decide +kernel
theorem d2_9 : decode prog_118_method_1_code 9 = .ok (.dload_n 1, 1) := by decide +kernel
theorem d2_10 : decode prog_118_method_1_code 10 = .ok (.dastore, 1) := by decide +kernel
theorem d2_11 : decode prog_118_method_1_code 11 = .ok (.dup, 1) := by decide +kernel
theorem d2_12 : decode prog_118_method_1_code 12 = .ok (.iconst 1, 1) := by decide +kernel
theorem d2_13 : decode prog_118_method_1_code 13 = .ok (.dload_n 3, 1) := by decide +kernel
theorem d2_14 : decode prog_118_method_1_code 14 = .ok (.dastore, 1) := by decide +kernel
theorem d2_15 : decode prog_118_method_1_code 15 = .ok (.dup, 1) := by decide +kernel
theorem d2_16 : decode prog_118_method_1_code 16 = .ok (.iconst 2, 1) := by decide +kernel
theorem d2_17 : decode prog_118_method_1_code 17 = .ok (.dload 5, 2) := by decide +kernel
theorem d2_19 : decode prog_118_method_1_code 19 = .ok (.dastore, 1) := by decide +kernel
theorem d2_20 : decode prog_118_method_1_code 20 = .ok (.dup, 1) := by decide +kernel
theorem d2_21 : decode prog_118_method_1_code 21 = .ok (.iconst 3, 1) := by decide +kernel
theorem d2_22 : decode prog_118_method_1_code 22 = .ok (.dload 7, 2) := by decide +kernel
theorem d2_24 : decode prog_118_method_1_code 24 = .ok (.dastore, 1) := by decide +kernel
theorem d2_25 : decode prog_118_method_1_code 25 = .ok (.dup, 1) := by decide +kernel
theorem d2_26 : decode prog_118_method_1_code 26 = .ok (.iconst 4, 1) := by decide +kernel
theorem d2_27 : decode prog_118_method_1_code 27 = .ok (.dload 9, 2) := by decide +kernel
theorem d2_29 : decode prog_118_method_1_code 29 = .ok (.dastore, 1) := by decide +kernel
theorem d2_30 : decode prog_118_method_1_code 30 = .ok (.astore 11, 2) := by decide +kernel
theorem d2_32 : decode prog_118_method_1_code 32 = .ok (.aload 11, 2) := by decide +kernel
theorem d2_34 : decode prog_118_method_1_code 34 = .ok (.arraylength, 1) := by decide +kernel
theorem d2_35 : decode prog_118_method_1_code 35 = .ok (.istore 12, 2) := by decide +kernel
theorem d2_37 : decode prog_118_method_1_code 37 = .ok (.iconst 0, 1) := by decide +kernel
theorem d2_38 : decode prog_118_method_1_code 38 = .ok (.istore 13, 2) := by decide +kernel
theorem d2_40 : decode prog_118_method_1_code 40 = .ok (.iload 13, 2) := by decide +kernel
theorem d2_42 : decode prog_118_method_1_code 42 = .ok (.iload 12, 2) := by decide +kernel
theorem d2_44 : decode prog_118_method_1_code 44 = .ok (.if_icmp .ge 39, 3) := by decide +kernel
theorem d2_47 : decode prog_118_method_1_code 47 = .ok (.aload 11, 2) := by decide +kernel
theorem d2_49 : decode prog_118_method_1_code 49 = .ok (.iload 13, 2) := by decide +kernel
theorem d2_51 : decode prog_118_method_1_code 51 = .ok (.daload, 1) := by decide +kernel
theorem d2_52 : decode prog_118_method_1_code 52 = .ok (.dstore 14, 2) := by decide +kernel
theorem d2_54 : decode prog_118_method_1_code 54 = .ok (.dload 14, 2) := by decide +kernel
theorem d2_56 : decode prog_118_method_1_code 56 = .ok (.invokestatic 7, 3) := by decide +kernel
theorem pd__28D_29Z : parseMethodDescriptor "(D)Z" = some ⟨[.double], some .boolean⟩ := by decide +kernel
theorem d2_59 : decode prog_118_method_1_code 59 = .ok (.ifCond .ne 18, 3) := by decide +kernel
theorem d2_77 : decode prog_118_method_1_code 77 = .ok (.iinc 13 1, 3) := by decide +kernel
theorem d2_80 : decode prog_118_method_1_code 80 = .ok (.goto (-40), 3) := by decide +kernel
theorem d2_83 : decode prog_118_method_1_code 83 = .ok (.aload_n 0, 1) := by decide +kernel
theorem d2_84 : decode prog_118_method_1_code 84 = .ok (.dload_n 1, 1) := by decide +kernel
theorem d2_85 : decode prog_118_method_1_code 85 = .ok (.putfield 22, 3) := by decide +kernel
theorem d2_88 : decode prog_118_method_1_code 88 = .ok (.aload_n 0, 1) := by decide +kernel
theorem d2_89 : decode prog_118_method_1_code 89 = .ok (.dload_n 3, 1) := by decide +kernel
theorem d2_90 : decode prog_118_method_1_code 90 = .ok (.putfield 28, 3) := by decide +kernel
theorem d2_93 : decode prog_118_method_1_code 93 = .ok (.aload_n 0, 1) := by decide +kernel
theorem d2_94 : decode prog_118_method_1_code 94 = .ok (.dload 5, 2) := by decide +kernel
theorem d2_96 : decode prog_118_method_1_code 96 = .ok (.putfield 31, 3) := by decide +kernel
theorem d2_99 : decode prog_118_method_1_code 99 = .ok (.aload_n 0, 1) := by decide +kernel
theorem d2_100 : decode prog_118_method_1_code 100 = .ok (.dload 7, 2) := by decide +kernel
theorem d2_102 : decode prog_118_method_1_code 102 = .ok (.putfield 34, 3) := by decide +kernel
theorem d2_105 : decode prog_118_method_1_code 105 = .ok (.aload_n 0, 1) := by decide +kernel
theorem d2_106 : decode prog_118_method_1_code 106 = .ok (.dload 9, 2) := by decide +kernel
theorem d2_108 : decode prog_118_method_1_code 108 = .ok (.putfield 37, 3) := by decide +kernel
theorem d2_111 : decode prog_118_method_1_code 111 = .ok (.return_, 1) := by decide +kernel
def Q_rm2 (Z : State) (a1 : Addr) (u1 : UInt64) (u2 : UInt64) (u3 : UInt64) (u4 : UInt64) (u5 : UInt64) (h0 : Heap) (n0 : Nat) (v : Option Value) (h : Heap) (L : List Loc) : Prop := v = none ∧ Fr n0 L ∧ Keep h0 h [a1] ∧ Exa Z h a1 "com/example/liblocus/liblocus/sentence/PartWeights" ∧ Fld Z h a1 "com/example/liblocus/liblocus/sentence/PartWeights" "title" "D" (.double u1) ∧ Fld Z h a1 "com/example/liblocus/liblocus/sentence/PartWeights" "description" "D" (.double u2) ∧ Fld Z h a1 "com/example/liblocus/liblocus/sentence/PartWeights" "positiveNarrative" "D" (.double u3) ∧ Fld Z h a1 "com/example/liblocus/liblocus/sentence/PartWeights" "sharedNegative" "D" (.double u4) ∧ Fld Z h a1 "com/example/liblocus/liblocus/sentence/PartWeights" "ownNegative" "D" (.double u5)
theorem pn_com_2fexample_2fliblocus_2fliblocus_2fsentence_2fPartWeights : plainName "com/example/liblocus/liblocus/sentence/PartWeights" = true := by first | (simp [plainName, overriddenIn]; done) | decide +kernel
set_option maxRecDepth 65536 in
set_option maxHeartbeats 40000000 in
theorem rm2 (l : Launch) (Z : State) (a0 : Array Value) (hw : ∀ d ∈ tables_1, d.before a0 Z = true) (ws : List Jvm.Cond) (a1 : Addr) (u1 : UInt64) (u2 : UInt64) (u3 : UInt64) (u4 : UInt64) (u5 : UInt64) (h0 : Heap) (n0 : Nat) (Z0 : n0 ≤ h0.size) (F0 : Fld Z h0 a1 "com/example/liblocus/liblocus/sentence/PartWeights" "title" "D" (.double (0 : UInt64))) (F1 : Fld Z h0 a1 "com/example/liblocus/liblocus/sentence/PartWeights" "description" "D" (.double (0 : UInt64))) (F2 : Fld Z h0 a1 "com/example/liblocus/liblocus/sentence/PartWeights" "positiveNarrative" "D" (.double (0 : UInt64))) (F3 : Fld Z h0 a1 "com/example/liblocus/liblocus/sentence/PartWeights" "sharedNegative" "D" (.double (0 : UInt64))) (F4 : Fld Z h0 a1 "com/example/liblocus/liblocus/sentence/PartWeights" "ownNegative" "D" (.double (0 : UInt64))) (E1 : Exa Z h0 a1 "com/example/liblocus/liblocus/sentence/PartWeights") (ga : n0 ≤ a1) (f_u1 : Jvm.FP.Core.DFin u1) (f_u2 : Jvm.FP.Core.DFin u2) (f_u3 : Jvm.FP.Core.DFin u3) (f_u4 : Jvm.FP.Core.DFin u4) (f_u5 : Jvm.FP.Core.DFin u5) :
    MetFree l (⟨"com/example/liblocus/liblocus/sentence/PartWeights", "<init>", "(DDDDD)V"⟩ : MethodName) (head1 (Jvm.Cond.code (⟨"com/example/liblocus/liblocus/sentence/PartWeights", "<init>", "(DDDDD)V"⟩ : MethodName) prog_118_method_1_code 16 none :: ws) ({ frames := 2, cells := 1, slots := 5, locals := 26 } : Room)) (fun a U => a = #[(.ref a1), (.double u1), (.double u2), (.double u3), (.double u4), (.double u5)] ∧ Z.Warmed39 U.vm ∧ U.heap = h0) (fun _ _ _ _ _ => True) (fun _ U o U' => ∃ v L, o = .returned v ∧ Q_rm2 Z a1 u1 u2 u3 u4 u5 h0 n0 v U'.heap L ∧ FrameEnd U o U' L ({ frames := 2, cells := 1, slots := 5, locals := 26 } : Room).cells ({ frames := 2, cells := 1, slots := 5, locals := 26 } : Room).slots) := by
  refine MetFree.of_bodySF (plainFor_of_name pn_com_2fexample_2fliblocus_2fliblocus_2fsentence_2fPartWeights) hisR ?_
  intro p e s m args below meth c s₁ Bd hml0 hP hK
  obtain ⟨rfl, hZ, hh⟩ := hP
  have hx := Bd.exec
  have hby := Bd.bytes
  have hml : c.maxLocals = 16 := hml0
  have hown : s.vm.findClass "com/example/liblocus/liblocus/sentence/PartWeights" = some m.cls := findClass_of_methodNamed Bd.named
  have hnm := (name_of_methodNamed Bd.named Bd.method).1
  have X0 : Stand p l e ({ frames := 2, cells := 1, slots := 5, locals := 26 } : Room) s m #[(.ref a1), (.double u1), (.double u2), (.double u3), (.double u4), (.double u5)] below meth c s₁ [] 0 0 := Stand.of_body Bd
  have e0 : s₁.heap = h0 := by rw [← hh, Bd.state]; rfl
  have N0 := Fr.nil n0
  have k0 : ∀ t, Steps p.tables e below (s₁.setTop (mkF m 0 #[.val (.ref a1), .val (.double u1), .second, .val (.double u2), .second, .val (.double u3), .second, .val (.double u4), .second, .val (.double u5), .second, .unset, .unset, .unset, .unset, .unset] [])) t → Steps p.tables e below (s₁.setTop (entryFrame m #[(.ref a1), (.double u1), (.double u2), (.double u3), (.double u4), (.double u5)] 16)) t := fun t k => castTop (ef_2_RDDDDD m a1 u1 u2 u3 u4 u5) k
  have K0 := Keep.refl h0 [a1]
  have k101 : ∀ t, Steps p.tables e below (s₁.setTop (mkF m 1 #[.val (.ref a1), .val (.double u1), .second, .val (.double u2), .second, .val (.double u3), .second, .val (.double u4), .second, .val (.double u5), .second, .unset, .unset, .unset, .unset, .unset] [(.ref a1)])) t → Steps p.tables e below (s₁.setTop (entryFrame m #[(.ref a1), (.double u1), (.double u2), (.double u3), (.double u4), (.double u5)] 16)) t := fun t k => k0 t (by
    show Steps p.tables e below (s₁.setTop (mkF m 0 #[.val (.ref a1), .val (.double u1), .second, .val (.double u2), .second, .val (.double u3), .second, .val (.double u4), .second, .val (.double u5), .second, .unset, .unset, .unset, .unset, .unset] [])) _
    refine XS.aloadN X0.here hx rfl (hb hby d2_0) rfl rfl ?_
    exact k)
  obtain ⟨_, _, ⟨T102, L102, k102, n102⟩, -, X102, ⟨Lc102, hQ102, l102, y102, z102⟩, st102⟩ := X0.specialBack hx (y := (⟨"java/lang/Record", "<init>", "()V"⟩ : MethodName)) rfl hown (mvT hZ (hw _ (List.mem_of_getElem? (i := 12) rfl))) (mvT hZ (hw _ (List.mem_of_getElem? (i := 13) rfl))) (mvT hZ (hw _ (List.mem_of_getElem? (i := 16) rfl))) (by decide) (backOf (W := 0) (rm3 l Z a0 hw [] a1 h0 n0 Z0 ) hZ (hw _ (List.mem_of_getElem? (i := 16) rfl)) (hw _ (List.mem_of_getElem? (i := 15) rfl)) (by decide) (by decide)) (g := (mkF m 1 #[.val (.ref a1), .val (.double u1), .second, .val (.double u2), .second, .val (.double u3), .second, .val (.double u4), .second, .val (.double u5), .second, .unset, .unset, .unset, .unset, .unset] [(.ref a1)])) rfl (by rw [hml]; rfl) (Steps.refl _) (a := a1) (argsL := []) (rest := []) (lenOf pd__28_29V rfl) rfl (by show 2 * 0 + _ ≤ _; exact Nat.le_of_eq rfl) (hb hby d2_1) (fun _ _ => ⟨rfl, e0, (by decide : 0 + 0 ≤ _), (by decide : 0 + 0 ≤ _)⟩)
  dsimp only [Pt.U, Pt.locs, Pt.cells, Pt.slots] at X102 l102 y102 z102 st102 hQ102
  subst l102 y102 z102
  obtain ⟨rfl, N102q, e102⟩ := hQ102
  have N103 := Fr.app N0 N102q
  have k104 : ∀ t, Steps p.tables e below (T102.setTop (mkF m 4 #[.val (.ref a1), .val (.double u1), .second, .val (.double u2), .second, .val (.double u3), .second, .val (.double u4), .second, .val (.double u5), .second, .unset, .unset, .unset, .unset, .unset] [])) t → Steps p.tables e below (s₁.setTop (entryFrame m #[(.ref a1), (.double u1), (.double u2), (.double u3), (.double u4), (.double u5)] 16)) t := fun t k => k101 t (st102.trans k)
  have k105 : ∀ t, Steps p.tables e below (T102.setTop (mkF m 5 #[.val (.ref a1), .val (.double u1), .second, .val (.double u2), .second, .val (.double u3), .second, .val (.double u4), .second, .val (.double u5), .second, .unset, .unset, .unset, .unset, .unset] [(.int (5 : Int32))])) t → Steps p.tables e below (s₁.setTop (entryFrame m #[(.ref a1), (.double u1), (.double u2), (.double u3), (.double u4), (.double u5)] 16)) t := fun t k => k104 t (by
    show Steps p.tables e below (T102.setTop (mkF m 4 #[.val (.ref a1), .val (.double u1), .second, .val (.double u2), .second, .val (.double u3), .second, .val (.double u4), .second, .val (.double u5), .second, .unset, .unset, .unset, .unset, .unset] [])) _
    refine XS.iconst X102.here hx rfl (hb hby d2_4) ?_
    exact k)
  obtain ⟨T106, h106, k106, X106, e106, E106, A106, st106⟩ := newP X102 hx hZ (hw _ (List.mem_of_getElem? (i := 20) rfl)) e102 (g := (mkF m 5 #[.val (.ref a1), .val (.double u1), .second, .val (.double u2), .second, .val (.double u3), .second, .val (.double u4), .second, .val (.double u5), .second, .unset, .unset, .unset, .unset, .unset] [(.int (5 : Int32))])) rfl (hb hby d2_5) rfl (by decide) (cap := 5) (by decide) (by decide) (by decide) (by decide)
  obtain ⟨b106, g106⟩ : ∃ z, z = h0.size := ⟨_, rfl⟩
  rw [← g106] at A106 st106
  have n107 : a1 ≠ b106 := Nat.ne_of_lt (Nat.lt_of_lt_of_le F0.lt (Nat.le_of_eq g106.symm))
  have g108 : n0 ≤ b106 := Nat.le_trans Z0 (Nat.le_of_eq g106.symm)
  have z109 : h0.size ≤ b106 := Nat.le_trans K0.1 (Nat.le_of_eq g106.symm)
  have F110 := F0.ext E106
  have F111 := F1.ext E106
  have F112 := F2.ext E106
  have F113 := F3.ext E106
  have F114 := F4.ext E106
  have F115 := E1.ext E106
  have Z116 : n0 ≤ h106.size := Nat.le_trans Z0 E106.1
  have K117 := K0.ext E106
  have V118 : Arv Z h106 b106 k106 .double (5 : Int32) [(.double (0 : UInt64)), (.double (0 : UInt64)), (.double (0 : UInt64)), (.double (0 : UInt64)), (.double (0 : UInt64))] (.double (0 : UInt64)) := (Arv.new A106 (by decide)).pad (pad_rep [] (.double (0 : UInt64)) 5)
  have k119 : ∀ t, Steps p.tables e below (T106.setTop (mkF m 7 #[.val (.ref a1), .val (.double u1), .second, .val (.double u2), .second, .val (.double u3), .second, .val (.double u4), .second, .val (.double u5), .second, .unset, .unset, .unset, .unset, .unset] [(.ref b106)])) t → Steps p.tables e below (s₁.setTop (entryFrame m #[(.ref a1), (.double u1), (.double u2), (.double u3), (.double u4), (.double u5)] 16)) t := fun t k => k105 t (st106 t k)
  have k120 : ∀ t, Steps p.tables e below (T106.setTop (mkF m 10 #[.val (.ref a1), .val (.double u1), .second, .val (.double u2), .second, .val (.double u3), .second, .val (.double u4), .second, .val (.double u5), .second, .unset, .unset, .unset, .unset, .unset] [(.double u1), (.int (0 : Int32)), (.ref b106), (.ref b106)])) t → Steps p.tables e below (s₁.setTop (entryFrame m #[(.ref a1), (.double u1), (.double u2), (.double u3), (.double u4), (.double u5)] 16)) t := fun t k => k119 t (by
    show Steps p.tables e below (T106.setTop (mkF m 7 #[.val (.ref a1), .val (.double u1), .second, .val (.double u2), .second, .val (.double u3), .second, .val (.double u4), .second, .val (.double u5), .second, .unset, .unset, .unset, .unset, .unset] [(.ref b106)])) _
    refine XS.dup X106.here hx rfl (hb hby d2_7) rfl rfl ?_
    show Steps p.tables e below (T106.setTop (mkF m 8 #[.val (.ref a1), .val (.double u1), .second, .val (.double u2), .second, .val (.double u3), .second, .val (.double u4), .second, .val (.double u5), .second, .unset, .unset, .unset, .unset, .unset] [(.ref b106), (.ref b106)])) _
    refine XS.iconst X106.here hx rfl (hb hby d2_8) ?_
    show Steps p.tables e below (T106.setTop (mkF m 9 #[.val (.ref a1), .val (.double u1), .second, .val (.double u2), .second, .val (.double u3), .second, .val (.double u4), .second, .val (.double u5), .second, .unset, .unset, .unset, .unset, .unset] [(.int (0 : Int32)), (.ref b106), (.ref b106)])) _
    refine XS.dloadN X106.here hx rfl (hb hby d2_9) rfl ?_
    exact k)
  obtain ⟨c121, Ar121, Aq121, As121, An121, Ah121, Ag121⟩ := id V118
  have hin121 : ¬ ((0 : Int32) < 0 ∨ c121.slots.size ≤ ((0 : Int32)).toNatClampNeg) := inb_of As121 ⟨by decide, by decide⟩
  obtain ⟨T121, h121, X121, e121, W121, st121⟩ := stD X106 hx hZ e106 Ar121 (j := (0 : Int32)) hin121 (g := (mkF m 10 #[.val (.ref a1), .val (.double u1), .second, .val (.double u2), .second, .val (.double u3), .second, .val (.double u4), .second, .val (.double u5), .second, .unset, .unset, .unset, .unset, .unset] [(.double u1), (.int (0 : Int32)), (.ref b106), (.ref b106)])) rfl rfl (hb hby d2_10)
  have V122 := Arv.set Ar121 Aq121 As121 An121 Ah121 Ag121 rfl W121 0 rfl (Nat.le_of_ble_eq_true rfl)
  have F123 := F110.other W121 (Or.inl n107)
  have F124 := F111.other W121 (Or.inl n107)
  have F125 := F112.other W121 (Or.inl n107)
  have F126 := F113.other W121 (Or.inl n107)
  have F127 := F114.other W121 (Or.inl n107)
  have F128 := F115.wr W121
  have Z129 : n0 ≤ h121.size := Nat.le_trans Z116 (Nat.le_of_eq W121.size.symm)
  have N130 := Fr.snoc X121 N103 g108
  have K131 := K117.wr W121 (Or.inr z109)
  have k132 : ∀ t, Steps p.tables e below (T121.setTop (mkF m 11 #[.val (.ref a1), .val (.double u1), .second, .val (.double u2), .second, .val (.double u3), .second, .val (.double u4), .second, .val (.double u5), .second, .unset, .unset, .unset, .unset, .unset] [(.ref b106)])) t → Steps p.tables e below (s₁.setTop (entryFrame m #[(.ref a1), (.double u1), (.double u2), (.double u3), (.double u4), (.double u5)] 16)) t := fun t k => k120 t (st121 t k)
  have k133 : ∀ t, Steps p.tables e below (T121.setTop (mkF m 14 #[.val (.ref a1), .val (.double u1), .second, .val (.double u2), .second, .val (.double u3), .second, .val (.double u4), .second, .val (.double u5), .second, .unset, .unset, .unset, .unset, .unset] [(.double u2), (.int (1 : Int32)), (.ref b106), (.ref b106)])) t → Steps p.tables e below (s₁.setTop (entryFrame m #[(.ref a1), (.double u1), (.double u2), (.double u3), (.double u4), (.double u5)] 16)) t := fun t k => k132 t (by
    show Steps p.tables e below (T121.setTop (mkF m 11 #[.val (.ref a1), .val (.double u1), .second, .val (.double u2), .second, .val (.double u3), .second, .val (.double u4), .second, .val (.double u5), .second, .unset, .unset, .unset, .unset, .unset] [(.ref b106)])) _
    refine XS.dup X121.here hx rfl (hb hby d2_11) rfl rfl ?_
    show Steps p.tables e below (T121.setTop (mkF m 12 #[.val (.ref a1), .val (.double u1), .second, .val (.double u2), .second, .val (.double u3), .second, .val (.double u4), .second, .val (.double u5), .second, .unset, .unset, .unset, .unset, .unset] [(.ref b106), (.ref b106)])) _
    refine XS.iconst X121.here hx rfl (hb hby d2_12) ?_
    show Steps p.tables e below (T121.setTop (mkF m 13 #[.val (.ref a1), .val (.double u1), .second, .val (.double u2), .second, .val (.double u3), .second, .val (.double u4), .second, .val (.double u5), .second, .unset, .unset, .unset, .unset, .unset] [(.int (1 : Int32)), (.ref b106), (.ref b106)])) _
    refine XS.dloadN X121.here hx rfl (hb hby d2_13) rfl ?_
    exact k)
  obtain ⟨c134, Ar134, Aq134, As134, An134, Ah134, Ag134⟩ := id V122
  have hin134 : ¬ ((1 : Int32) < 0 ∨ c134.slots.size ≤ ((1 : Int32)).toNatClampNeg) := inb_of As134 ⟨by decide, by decide⟩
  obtain ⟨T134, h134, X134, e134, W134, st134⟩ := stD X121 hx hZ e121 Ar134 (j := (1 : Int32)) hin134 (g := (mkF m 14 #[.val (.ref a1), .val (.double u1), .second, .val (.double u2), .second, .val (.double u3), .second, .val (.double u4), .second, .val (.double u5), .second, .unset, .unset, .unset, .unset, .unset] [(.double u2), (.int (1 : Int32)), (.ref b106), (.ref b106)])) rfl rfl (hb hby d2_14)
  have V135 := Arv.set Ar134 Aq134 As134 An134 Ah134 Ag134 rfl W134 1 rfl (Nat.le_of_ble_eq_true rfl)
  have F136 := F123.other W134 (Or.inl n107)
  have F137 := F124.other W134 (Or.inl n107)
  have F138 := F125.other W134 (Or.inl n107)
  have F139 := F126.other W134 (Or.inl n107)
  have F140 := F127.other W134 (Or.inl n107)
  have F141 := F128.wr W134
  have Z142 : n0 ≤ h134.size := Nat.le_trans Z129 (Nat.le_of_eq W134.size.symm)
  have N143 := Fr.snoc X134 N130 g108
  have K144 := K131.wr W134 (Or.inr z109)
  have k145 : ∀ t, Steps p.tables e below (T134.setTop (mkF m 15 #[.val (.ref a1), .val (.double u1), .second, .val (.double u2), .second, .val (.double u3), .second, .val (.double u4), .second, .val (.double u5), .second, .unset, .unset, .unset, .unset, .unset] [(.ref b106)])) t → Steps p.tables e below (s₁.setTop (entryFrame m #[(.ref a1), (.double u1), (.double u2), (.double u3), (.double u4), (.double u5)] 16)) t := fun t k => k133 t (st134 t k)
  have k146 : ∀ t, Steps p.tables e below (T134.setTop (mkF m 19 #[.val (.ref a1), .val (.double u1), .second, .val (.double u2), .second, .val (.double u3), .second, .val (.double u4), .second, .val (.double u5), .second, .unset, .unset, .unset, .unset, .unset] [(.double u3), (.int (2 : Int32)), (.ref b106), (.ref b106)])) t → Steps p.tables e below (s₁.setTop (entryFrame m #[(.ref a1), (.double u1), (.double u2), (.double u3), (.double u4), (.double u5)] 16)) t := fun t k => k145 t (by
    show Steps p.tables e below (T134.setTop (mkF m 15 #[.val (.ref a1), .val (.double u1), .second, .val (.double u2), .second, .val (.double u3), .second, .val (.double u4), .second, .val (.double u5), .second, .unset, .unset, .unset, .unset, .unset] [(.ref b106)])) _
    refine XS.dup X134.here hx rfl (hb hby d2_15) rfl rfl ?_
    show Steps p.tables e below (T134.setTop (mkF m 16 #[.val (.ref a1), .val (.double u1), .second, .val (.double u2), .second, .val (.double u3), .second, .val (.double u4), .second, .val (.double u5), .second, .unset, .unset, .unset, .unset, .unset] [(.ref b106), (.ref b106)])) _
    refine XS.iconst X134.here hx rfl (hb hby d2_16) ?_
    show Steps p.tables e below (T134.setTop (mkF m 17 #[.val (.ref a1), .val (.double u1), .second, .val (.double u2), .second, .val (.double u3), .second, .val (.double u4), .second, .val (.double u5), .second, .unset, .unset, .unset, .unset, .unset] [(.int (2 : Int32)), (.ref b106), (.ref b106)])) _
    refine XS.dload X134.here hx rfl (hb hby d2_17) rfl ?_
    exact k)
  obtain ⟨c147, Ar147, Aq147, As147, An147, Ah147, Ag147⟩ := id V135
  have hin147 : ¬ ((2 : Int32) < 0 ∨ c147.slots.size ≤ ((2 : Int32)).toNatClampNeg) := inb_of As147 ⟨by decide, by decide⟩
  obtain ⟨T147, h147, X147, e147, W147, st147⟩ := stD X134 hx hZ e134 Ar147 (j := (2 : Int32)) hin147 (g := (mkF m 19 #[.val (.ref a1), .val (.double u1), .second, .val (.double u2), .second, .val (.double u3), .second, .val (.double u4), .second, .val (.double u5), .second, .unset, .unset, .unset, .unset, .unset] [(.double u3), (.int (2 : Int32)), (.ref b106), (.ref b106)])) rfl rfl (hb hby d2_19)
  have V148 := Arv.set Ar147 Aq147 As147 An147 Ah147 Ag147 rfl W147 2 rfl (Nat.le_of_ble_eq_true rfl)
  have F149 := F136.other W147 (Or.inl n107)
  have F150 := F137.other W147 (Or.inl n107)
  have F151 := F138.other W147 (Or.inl n107)
  have F152 := F139.other W147 (Or.inl n107)
  have F153 := F140.other W147 (Or.inl n107)
  have F154 := F141.wr W147
  have Z155 : n0 ≤ h147.size := Nat.le_trans Z142 (Nat.le_of_eq W147.size.symm)
  have N156 := Fr.snoc X147 N143 g108
  have K157 := K144.wr W147 (Or.inr z109)
  have k158 : ∀ t, Steps p.tables e below (T147.setTop (mkF m 20 #[.val (.ref a1), .val (.double u1), .second, .val (.double u2), .second, .val (.double u3), .second, .val (.double u4), .second, .val (.double u5), .second, .unset, .unset, .unset, .unset, .unset] [(.ref b106)])) t → Steps p.tables e below (s₁.setTop (entryFrame m #[(.ref a1), (.double u1), (.double u2), (.double u3), (.double u4), (.double u5)] 16)) t := fun t k => k146 t (st147 t k)
  have k159 : ∀ t, Steps p.tables e below (T147.setTop (mkF m 24 #[.val (.ref a1), .val (.double u1), .second, .val (.double u2), .second, .val (.double u3), .second, .val (.double u4), .second, .val (.double u5), .second, .unset, .unset, .unset, .unset, .unset] [(.double u4), (.int (3 : Int32)), (.ref b106), (.ref b106)])) t → Steps p.tables e below (s₁.setTop (entryFrame m #[(.ref a1), (.double u1), (.double u2), (.double u3), (.double u4), (.double u5)] 16)) t := fun t k => k158 t (by
    show Steps p.tables e below (T147.setTop (mkF m 20 #[.val (.ref a1), .val (.double u1), .second, .val (.double u2), .second, .val (.double u3), .second, .val (.double u4), .second, .val (.double u5), .second, .unset, .unset, .unset, .unset, .unset] [(.ref b106)])) _
    refine XS.dup X147.here hx rfl (hb hby d2_20) rfl rfl ?_
    show Steps p.tables e below (T147.setTop (mkF m 21 #[.val (.ref a1), .val (.double u1), .second, .val (.double u2), .second, .val (.double u3), .second, .val (.double u4), .second, .val (.double u5), .second, .unset, .unset, .unset, .unset, .unset] [(.ref b106), (.ref b106)])) _
    refine XS.iconst X147.here hx rfl (hb hby d2_21) ?_
    show Steps p.tables e below (T147.setTop (mkF m 22 #[.val (.ref a1), .val (.double u1), .second, .val (.double u2), .second, .val (.double u3), .second, .val (.double u4), .second, .val (.double u5), .second, .unset, .unset, .unset, .unset, .unset] [(.int (3 : Int32)), (.ref b106), (.ref b106)])) _
    refine XS.dload X147.here hx rfl (hb hby d2_22) rfl ?_
    exact k)
  obtain ⟨c160, Ar160, Aq160, As160, An160, Ah160, Ag160⟩ := id V148
  have hin160 : ¬ ((3 : Int32) < 0 ∨ c160.slots.size ≤ ((3 : Int32)).toNatClampNeg) := inb_of As160 ⟨by decide, by decide⟩
  obtain ⟨T160, h160, X160, e160, W160, st160⟩ := stD X147 hx hZ e147 Ar160 (j := (3 : Int32)) hin160 (g := (mkF m 24 #[.val (.ref a1), .val (.double u1), .second, .val (.double u2), .second, .val (.double u3), .second, .val (.double u4), .second, .val (.double u5), .second, .unset, .unset, .unset, .unset, .unset] [(.double u4), (.int (3 : Int32)), (.ref b106), (.ref b106)])) rfl rfl (hb hby d2_24)
  have V161 := Arv.set Ar160 Aq160 As160 An160 Ah160 Ag160 rfl W160 3 rfl (Nat.le_of_ble_eq_true rfl)
  have F162 := F149.other W160 (Or.inl n107)
  have F163 := F150.other W160 (Or.inl n107)
  have F164 := F151.other W160 (Or.inl n107)
  have F165 := F152.other W160 (Or.inl n107)
  have F166 := F153.other W160 (Or.inl n107)
  have F167 := F154.wr W160
  have Z168 : n0 ≤ h160.size := Nat.le_trans Z155 (Nat.le_of_eq W160.size.symm)
  have N169 := Fr.snoc X160 N156 g108
  have K170 := K157.wr W160 (Or.inr z109)
  have k171 : ∀ t, Steps p.tables e below (T160.setTop (mkF m 25 #[.val (.ref a1), .val (.double u1), .second, .val (.double u2), .second, .val (.double u3), .second, .val (.double u4), .second, .val (.double u5), .second, .unset, .unset, .unset, .unset, .unset] [(.ref b106)])) t → Steps p.tables e below (s₁.setTop (entryFrame m #[(.ref a1), (.double u1), (.double u2), (.double u3), (.double u4), (.double u5)] 16)) t := fun t k => k159 t (st160 t k)
  have k172 : ∀ t, Steps p.tables e below (T160.setTop (mkF m 29 #[.val (.ref a1), .val (.double u1), .second, .val (.double u2), .second, .val (.double u3), .second, .val (.double u4), .second, .val (.double u5), .second, .unset, .unset, .unset, .unset, .unset] [(.double u5), (.int (4 : Int32)), (.ref b106), (.ref b106)])) t → Steps p.tables e below (s₁.setTop (entryFrame m #[(.ref a1), (.double u1), (.double u2), (.double u3), (.double u4), (.double u5)] 16)) t := fun t k => k171 t (by
    show Steps p.tables e below (T160.setTop (mkF m 25 #[.val (.ref a1), .val (.double u1), .second, .val (.double u2), .second, .val (.double u3), .second, .val (.double u4), .second, .val (.double u5), .second, .unset, .unset, .unset, .unset, .unset] [(.ref b106)])) _
    refine XS.dup X160.here hx rfl (hb hby d2_25) rfl rfl ?_
    show Steps p.tables e below (T160.setTop (mkF m 26 #[.val (.ref a1), .val (.double u1), .second, .val (.double u2), .second, .val (.double u3), .second, .val (.double u4), .second, .val (.double u5), .second, .unset, .unset, .unset, .unset, .unset] [(.ref b106), (.ref b106)])) _
    refine XS.iconst X160.here hx rfl (hb hby d2_26) ?_
    show Steps p.tables e below (T160.setTop (mkF m 27 #[.val (.ref a1), .val (.double u1), .second, .val (.double u2), .second, .val (.double u3), .second, .val (.double u4), .second, .val (.double u5), .second, .unset, .unset, .unset, .unset, .unset] [(.int (4 : Int32)), (.ref b106), (.ref b106)])) _
    refine XS.dload X160.here hx rfl (hb hby d2_27) rfl ?_
    exact k)
  obtain ⟨c173, Ar173, Aq173, As173, An173, Ah173, Ag173⟩ := id V161
  have hin173 : ¬ ((4 : Int32) < 0 ∨ c173.slots.size ≤ ((4 : Int32)).toNatClampNeg) := inb_of As173 ⟨by decide, by decide⟩
  obtain ⟨T173, h173, X173, e173, W173, st173⟩ := stD X160 hx hZ e160 Ar173 (j := (4 : Int32)) hin173 (g := (mkF m 29 #[.val (.ref a1), .val (.double u1), .second, .val (.double u2), .second, .val (.double u3), .second, .val (.double u4), .second, .val (.double u5), .second, .unset, .unset, .unset, .unset, .unset] [(.double u5), (.int (4 : Int32)), (.ref b106), (.ref b106)])) rfl rfl (hb hby d2_29)
  have V174 := Arv.set Ar173 Aq173 As173 An173 Ah173 Ag173 rfl W173 4 rfl (Nat.le_of_ble_eq_true rfl)
  have F175 := F162.other W173 (Or.inl n107)
  have F176 := F163.other W173 (Or.inl n107)
  have F177 := F164.other W173 (Or.inl n107)
  have F178 := F165.other W173 (Or.inl n107)
  have F179 := F166.other W173 (Or.inl n107)
  have F180 := F167.wr W173
  have Z181 : n0 ≤ h173.size := Nat.le_trans Z168 (Nat.le_of_eq W173.size.symm)
  have N182 := Fr.snoc X173 N169 g108
  have K183 := K170.wr W173 (Or.inr z109)
  have k184 : ∀ t, Steps p.tables e below (T173.setTop (mkF m 30 #[.val (.ref a1), .val (.double u1), .second, .val (.double u2), .second, .val (.double u3), .second, .val (.double u4), .second, .val (.double u5), .second, .unset, .unset, .unset, .unset, .unset] [(.ref b106)])) t → Steps p.tables e below (s₁.setTop (entryFrame m #[(.ref a1), (.double u1), (.double u2), (.double u3), (.double u4), (.double u5)] 16)) t := fun t k => k172 t (st173 t k)
  have k185 : ∀ t, Steps p.tables e below (T173.setTop (mkF m 34 #[.val (.ref a1), .val (.double u1), .second, .val (.double u2), .second, .val (.double u3), .second, .val (.double u4), .second, .val (.double u5), .second, .val (.ref b106), .unset, .unset, .unset, .unset] [(.ref b106)])) t → Steps p.tables e below (s₁.setTop (entryFrame m #[(.ref a1), (.double u1), (.double u2), (.double u3), (.double u4), (.double u5)] 16)) t := fun t k => k184 t (by
    show Steps p.tables e below (T173.setTop (mkF m 30 #[.val (.ref a1), .val (.double u1), .second, .val (.double u2), .second, .val (.double u3), .second, .val (.double u4), .second, .val (.double u5), .second, .unset, .unset, .unset, .unset, .unset] [(.ref b106)])) _
    refine XS.astore X173.here hx rfl (hb hby d2_30) rfl rfl (l' := #[.val (.ref a1), .val (.double u1), .second, .val (.double u2), .second, .val (.double u3), .second, .val (.double u4), .second, .val (.double u5), .second, .val (.ref b106), .unset, .unset, .unset, .unset]) rfl ?_
    show Steps p.tables e below (T173.setTop (mkF m 32 #[.val (.ref a1), .val (.double u1), .second, .val (.double u2), .second, .val (.double u3), .second, .val (.double u4), .second, .val (.double u5), .second, .val (.ref b106), .unset, .unset, .unset, .unset] [])) _
    refine XS.aload X173.here hx rfl (hb hby d2_32) rfl rfl ?_
    exact k)
  obtain ⟨c186, Ar186, -, As186, An186, -, -⟩ := id V174
  have k187 : ∀ t, Steps p.tables e below (T173.setTop (mkF m 51 #[.val (.ref a1), .val (.double u1), .second, .val (.double u2), .second, .val (.double u3), .second, .val (.double u4), .second, .val (.double u5), .second, .val (.ref b106), .val (.int (5 : Int32)), .val (.int (0 : Int32)), .unset, .unset] [(.int (0 : Int32)), (.ref b106)])) t → Steps p.tables e below (s₁.setTop (entryFrame m #[(.ref a1), (.double u1), (.double u2), (.double u3), (.double u4), (.double u5)] 16)) t := fun t k => k185 t (by
    show Steps p.tables e below (T173.setTop (mkF m 34 #[.val (.ref a1), .val (.double u1), .second, .val (.double u2), .second, .val (.double u3), .second, .val (.double u4), .second, .val (.double u5), .second, .val (.ref b106), .unset, .unset, .unset, .unset] [(.ref b106)])) _
    refine X173.arraylength hx (by rw [e173]; exact Ar186.1) (State.isArrayOf_alike hZ.alike Ar186.2.1) (g := (mkF m 34 #[.val (.ref a1), .val (.double u1), .second, .val (.double u2), .second, .val (.double u3), .second, .val (.double u4), .second, .val (.double u5), .second, .val (.ref b106), .unset, .unset, .unset, .unset] [(.ref b106)])) rfl rfl (hb hby d2_34) _ ?_
    rw [len_of As186 An186]
    show Steps p.tables e below (T173.setTop (mkF m 35 #[.val (.ref a1), .val (.double u1), .second, .val (.double u2), .second, .val (.double u3), .second, .val (.double u4), .second, .val (.double u5), .second, .val (.ref b106), .unset, .unset, .unset, .unset] [(.int (5 : Int32))])) _
    refine XS.istore X173.here hx rfl (hb hby d2_35) rfl (l' := #[.val (.ref a1), .val (.double u1), .second, .val (.double u2), .second, .val (.double u3), .second, .val (.double u4), .second, .val (.double u5), .second, .val (.ref b106), .val (.int (5 : Int32)), .unset, .unset, .unset]) rfl ?_
    show Steps p.tables e below (T173.setTop (mkF m 37 #[.val (.ref a1), .val (.double u1), .second, .val (.double u2), .second, .val (.double u3), .second, .val (.double u4), .second, .val (.double u5), .second, .val (.ref b106), .val (.int (5 : Int32)), .unset, .unset, .unset] [])) _
    refine XS.iconst X173.here hx rfl (hb hby d2_37) ?_
    show Steps p.tables e below (T173.setTop (mkF m 38 #[.val (.ref a1), .val (.double u1), .second, .val (.double u2), .second, .val (.double u3), .second, .val (.double u4), .second, .val (.double u5), .second, .val (.ref b106), .val (.int (5 : Int32)), .unset, .unset, .unset] [(.int (0 : Int32))])) _
    refine XS.istore X173.here hx rfl (hb hby d2_38) rfl (l' := #[.val (.ref a1), .val (.double u1), .second, .val (.double u2), .second, .val (.double u3), .second, .val (.double u4), .second, .val (.double u5), .second, .val (.ref b106), .val (.int (5 : Int32)), .val (.int (0 : Int32)), .unset, .unset]) rfl ?_
    show Steps p.tables e below (T173.setTop (mkF m 40 #[.val (.ref a1), .val (.double u1), .second, .val (.double u2), .second, .val (.double u3), .second, .val (.double u4), .second, .val (.double u5), .second, .val (.ref b106), .val (.int (5 : Int32)), .val (.int (0 : Int32)), .unset, .unset] [])) _
    refine XS.iload X173.here hx rfl (hb hby d2_40) rfl ?_
    show Steps p.tables e below (T173.setTop (mkF m 42 #[.val (.ref a1), .val (.double u1), .second, .val (.double u2), .second, .val (.double u3), .second, .val (.double u4), .second, .val (.double u5), .second, .val (.ref b106), .val (.int (5 : Int32)), .val (.int (0 : Int32)), .unset, .unset] [(.int (0 : Int32))])) _
    refine XS.iload X173.here hx rfl (hb hby d2_42) rfl ?_
    show Steps p.tables e below (T173.setTop (mkF m 44 #[.val (.ref a1), .val (.double u1), .second, .val (.double u2), .second, .val (.double u3), .second, .val (.double u4), .second, .val (.double u5), .second, .val (.ref b106), .val (.int (5 : Int32)), .val (.int (0 : Int32)), .unset, .unset] [(.int (5 : Int32)), (.int (0 : Int32))])) _
    refine XS.icmpNo X173.here hx rfl (hb hby d2_44) rfl (tlt (by decide)).2.1 ?_
    show Steps p.tables e below (T173.setTop (mkF m 47 #[.val (.ref a1), .val (.double u1), .second, .val (.double u2), .second, .val (.double u3), .second, .val (.double u4), .second, .val (.double u5), .second, .val (.ref b106), .val (.int (5 : Int32)), .val (.int (0 : Int32)), .unset, .unset] [])) _
    refine XS.aload X173.here hx rfl (hb hby d2_47) rfl rfl ?_
    show Steps p.tables e below (T173.setTop (mkF m 49 #[.val (.ref a1), .val (.double u1), .second, .val (.double u2), .second, .val (.double u3), .second, .val (.double u4), .second, .val (.double u5), .second, .val (.ref b106), .val (.int (5 : Int32)), .val (.int (0 : Int32)), .unset, .unset] [(.ref b106)])) _
    refine XS.iload X173.here hx rfl (hb hby d2_49) rfl ?_
    exact k)
  obtain ⟨c188, Ar188, -, As188, An188, Ah188, -⟩ := id V174
  have hin188 : ¬ ((0 : Int32) < 0 ∨ c188.slots.size ≤ ((0 : Int32)).toNatClampNeg) := inb_of As188 ⟨by decide, by decide⟩
  have hat188 : c188.slots[((0 : Int32)).toNatClampNeg]? = some (.double u1) := Has.at Ah188 hin188 rfl
  have k189 : ∀ t, Steps p.tables e below (T173.setTop (mkF m 56 #[.val (.ref a1), .val (.double u1), .second, .val (.double u2), .second, .val (.double u3), .second, .val (.double u4), .second, .val (.double u5), .second, .val (.ref b106), .val (.int (5 : Int32)), .val (.int (0 : Int32)), .val (.double u1), .second] [(.double u1)])) t → Steps p.tables e below (s₁.setTop (entryFrame m #[(.ref a1), (.double u1), (.double u2), (.double u3), (.double u4), (.double u5)] 16)) t := fun t k => k187 t (by
    show Steps p.tables e below (T173.setTop (mkF m 51 #[.val (.ref a1), .val (.double u1), .second, .val (.double u2), .second, .val (.double u3), .second, .val (.double u4), .second, .val (.double u5), .second, .val (.ref b106), .val (.int (5 : Int32)), .val (.int (0 : Int32)), .unset, .unset] [(.int (0 : Int32)), (.ref b106)])) _
    refine X173.daload hx (j := (0 : Int32)) (v := (.double u1)) (by rw [e173]; exact Ar188.1) (State.isArrayOf_alike hZ.alike Ar188.2.1) Ar188.2.2 hin188 hat188 (g := (mkF m 51 #[.val (.ref a1), .val (.double u1), .second, .val (.double u2), .second, .val (.double u3), .second, .val (.double u4), .second, .val (.double u5), .second, .val (.ref b106), .val (.int (5 : Int32)), .val (.int (0 : Int32)), .unset, .unset] [(.int (0 : Int32)), (.ref b106)])) rfl rfl (hb hby d2_51) _ ?_
    show Steps p.tables e below (T173.setTop (mkF m 52 #[.val (.ref a1), .val (.double u1), .second, .val (.double u2), .second, .val (.double u3), .second, .val (.double u4), .second, .val (.double u5), .second, .val (.ref b106), .val (.int (5 : Int32)), .val (.int (0 : Int32)), .unset, .unset] [(.double u1)])) _
    refine XS.dstore X173.here hx rfl (hb hby d2_52) rfl (l' := #[.val (.ref a1), .val (.double u1), .second, .val (.double u2), .second, .val (.double u3), .second, .val (.double u4), .second, .val (.double u5), .second, .val (.ref b106), .val (.int (5 : Int32)), .val (.int (0 : Int32)), .val (.double u1), .second]) rfl ?_
    show Steps p.tables e below (T173.setTop (mkF m 54 #[.val (.ref a1), .val (.double u1), .second, .val (.double u2), .second, .val (.double u3), .second, .val (.double u4), .second, .val (.double u5), .second, .val (.ref b106), .val (.int (5 : Int32)), .val (.int (0 : Int32)), .val (.double u1), .second] [])) _
    refine XS.dload X173.here hx rfl (hb hby d2_54) rfl ?_
    exact k)
  obtain ⟨_, _, ⟨T190, L190, k190, n190⟩, -, X190, ⟨Lc190, hQ190, l190, y190, z190⟩, st190⟩ := Jvm.LawKit.callS X173 hx (y := (⟨"java/lang/Double", "isFinite", "(D)Z"⟩ : MethodName)) hown (mvT hZ (hw _ (List.mem_of_getElem? (i := 21) rfl))) (mvT hZ (hw _ (List.mem_of_getElem? (i := 22) rfl))) (mvT hZ (hw _ (List.mem_of_getElem? (i := 23) rfl))) (mvT hZ (hw _ (List.mem_of_getElem? (i := 24) rfl))) (by decide) (backOf (W := 0) (rm5 l Z a0 hw [] u1 h173 n0 Z181 f_u1) hZ (hw _ (List.mem_of_getElem? (i := 24) rfl)) (hw _ (List.mem_of_getElem? (i := 23) rfl)) (by decide) (by decide)) (g := (mkF m 56 #[.val (.ref a1), .val (.double u1), .second, .val (.double u2), .second, .val (.double u3), .second, .val (.double u4), .second, .val (.double u5), .second, .val (.ref b106), .val (.int (5 : Int32)), .val (.int (0 : Int32)), .val (.double u1), .second] [(.double u1)])) rfl (by rw [hml]; rfl) (argsL := [(.double u1)]) (rest := []) (lenOf pd__28D_29Z rfl) rfl (by show 2 * 0 + _ ≤ _; exact Nat.le_of_eq rfl) (hb hby d2_56) (fun _ _ => ⟨rfl, e173, (by decide : 1 + 0 ≤ _), (by decide : 5 + 0 ≤ _)⟩)
  dsimp only [Pt.U, Pt.locs, Pt.cells, Pt.slots] at X190 l190 y190 z190 st190 hQ190
  subst l190 y190 z190
  obtain ⟨rfl, N190q, e190⟩ := hQ190
  have N191 := Fr.app N182 N190q
  have k192 : ∀ t, Steps p.tables e below (T190.setTop (mkF m 59 #[.val (.ref a1), .val (.double u1), .second, .val (.double u2), .second, .val (.double u3), .second, .val (.double u4), .second, .val (.double u5), .second, .val (.ref b106), .val (.int (5 : Int32)), .val (.int (0 : Int32)), .val (.double u1), .second] [(.int (1 : Int32))])) t → Steps p.tables e below (s₁.setTop (entryFrame m #[(.ref a1), (.double u1), (.double u2), (.double u3), (.double u4), (.double u5)] 16)) t := fun t k => k189 t (st190 t k)
  have k193 : ∀ t, Steps p.tables e below (T190.setTop (mkF m 51 #[.val (.ref a1), .val (.double u1), .second, .val (.double u2), .second, .val (.double u3), .second, .val (.double u4), .second, .val (.double u5), .second, .val (.ref b106), .val (.int (5 : Int32)), .val (.int (1 : Int32)), .val (.double u1), .second] [(.int (1 : Int32)), (.ref b106)])) t → Steps p.tables e below (s₁.setTop (entryFrame m #[(.ref a1), (.double u1), (.double u2), (.double u3), (.double u4), (.double u5)] 16)) t := fun t k => k192 t (by
    show Steps p.tables e below (T190.setTop (mkF m 59 #[.val (.ref a1), .val (.double u1), .second, .val (.double u2), .second, .val (.double u3), .second, .val (.double u4), .second, .val (.double u5), .second, .val (.ref b106), .val (.int (5 : Int32)), .val (.int (0 : Int32)), .val (.double u1), .second] [(.int (1 : Int32))])) _
    refine XS.ifYes X190.here hx rfl (pc0 := 59) (pc' := 77) rfl (hb hby d2_59) rfl ((if0 _ _).trans (feq (by decide)).2) (by decide) (by decide) ?_
    show Steps p.tables e below (T190.setTop (mkF m 77 #[.val (.ref a1), .val (.double u1), .second, .val (.double u2), .second, .val (.double u3), .second, .val (.double u4), .second, .val (.double u5), .second, .val (.ref b106), .val (.int (5 : Int32)), .val (.int (0 : Int32)), .val (.double u1), .second] [])) _
    refine XS.iinc X190.here hx rfl (hb hby d2_77) rfl (l' := #[.val (.ref a1), .val (.double u1), .second, .val (.double u2), .second, .val (.double u3), .second, .val (.double u4), .second, .val (.double u5), .second, .val (.ref b106), .val (.int (5 : Int32)), .val (.int (1 : Int32)), .val (.double u1), .second]) rfl ?_
    show Steps p.tables e below (T190.setTop (mkF m 80 #[.val (.ref a1), .val (.double u1), .second, .val (.double u2), .second, .val (.double u3), .second, .val (.double u4), .second, .val (.double u5), .second, .val (.ref b106), .val (.int (5 : Int32)), .val (.int (1 : Int32)), .val (.double u1), .second] [])) _
    refine XS.goto X190.here hx rfl (pc0 := 80) (pc' := 40) rfl (hb hby d2_80) (by decide) (by decide) ?_
    show Steps p.tables e below (T190.setTop (mkF m 40 #[.val (.ref a1), .val (.double u1), .second, .val (.double u2), .second, .val (.double u3), .second, .val (.double u4), .second, .val (.double u5), .second, .val (.ref b106), .val (.int (5 : Int32)), .val (.int (1 : Int32)), .val (.double u1), .second] [])) _
    refine XS.iload X190.here hx rfl (hb hby d2_40) rfl ?_
    show Steps p.tables e below (T190.setTop (mkF m 42 #[.val (.ref a1), .val (.double u1), .second, .val (.double u2), .second, .val (.double u3), .second, .val (.double u4), .second, .val (.double u5), .second, .val (.ref b106), .val (.int (5 : Int32)), .val (.int (1 : Int32)), .val (.double u1), .second] [(.int (1 : Int32))])) _
    refine XS.iload X190.here hx rfl (hb hby d2_42) rfl ?_
    show Steps p.tables e below (T190.setTop (mkF m 44 #[.val (.ref a1), .val (.double u1), .second, .val (.double u2), .second, .val (.double u3), .second, .val (.double u4), .second, .val (.double u5), .second, .val (.ref b106), .val (.int (5 : Int32)), .val (.int (1 : Int32)), .val (.double u1), .second] [(.int (5 : Int32)), (.int (1 : Int32))])) _
    refine XS.icmpNo X190.here hx rfl (hb hby d2_44) rfl (tlt (by decide)).2.1 ?_
    show Steps p.tables e below (T190.setTop (mkF m 47 #[.val (.ref a1), .val (.double u1), .second, .val (.double u2), .second, .val (.double u3), .second, .val (.double u4), .second, .val (.double u5), .second, .val (.ref b106), .val (.int (5 : Int32)), .val (.int (1 : Int32)), .val (.double u1), .second] [])) _
    refine XS.aload X190.here hx rfl (hb hby d2_47) rfl rfl ?_
    show Steps p.tables e below (T190.setTop (mkF m 49 #[.val (.ref a1), .val (.double u1), .second, .val (.double u2), .second, .val (.double u3), .second, .val (.double u4), .second, .val (.double u5), .second, .val (.ref b106), .val (.int (5 : Int32)), .val (.int (1 : Int32)), .val (.double u1), .second] [(.ref b106)])) _
    refine XS.iload X190.here hx rfl (hb hby d2_49) rfl ?_
    exact k)
  obtain ⟨c194, Ar194, -, As194, An194, Ah194, -⟩ := id V174
  have hin194 : ¬ ((1 : Int32) < 0 ∨ c194.slots.size ≤ ((1 : Int32)).toNatClampNeg) := inb_of As194 ⟨by decide, by decide⟩
  have hat194 : c194.slots[((1 : Int32)).toNatClampNeg]? = some (.double u2) := Has.at Ah194 hin194 rfl
  have k195 : ∀ t, Steps p.tables e below (T190.setTop (mkF m 56 #[.val (.ref a1), .val (.double u1), .second, .val (.double u2), .second, .val (.double u3), .second, .val (.double u4), .second, .val (.double u5), .second, .val (.ref b106), .val (.int (5 : Int32)), .val (.int (1 : Int32)), .val (.double u2), .second] [(.double u2)])) t → Steps p.tables e below (s₁.setTop (entryFrame m #[(.ref a1), (.double u1), (.double u2), (.double u3), (.double u4), (.double u5)] 16)) t := fun t k => k193 t (by
    show Steps p.tables e below (T190.setTop (mkF m 51 #[.val (.ref a1), .val (.double u1), .second, .val (.double u2), .second, .val (.double u3), .second, .val (.double u4), .second, .val (.double u5), .second, .val (.ref b106), .val (.int (5 : Int32)), .val (.int (1 : Int32)), .val (.double u1), .second] [(.int (1 : Int32)), (.ref b106)])) _
    refine X190.daload hx (j := (1 : Int32)) (v := (.double u2)) (by rw [e190]; exact Ar194.1) (State.isArrayOf_alike hZ.alike Ar194.2.1) Ar194.2.2 hin194 hat194 (g := (mkF m 51 #[.val (.ref a1), .val (.double u1), .second, .val (.double u2), .second, .val (.double u3), .second, .val (.double u4), .second, .val (.double u5), .second, .val (.ref b106), .val (.int (5 : Int32)), .val (.int (1 : Int32)), .val (.double u1), .second] [(.int (1 : Int32)), (.ref b106)])) rfl rfl (hb hby d2_51) _ ?_
    show Steps p.tables e below (T190.setTop (mkF m 52 #[.val (.ref a1), .val (.double u1), .second, .val (.double u2), .second, .val (.double u3), .second, .val (.double u4), .second, .val (.double u5), .second, .val (.ref b106), .val (.int (5 : Int32)), .val (.int (1 : Int32)), .val (.double u1), .second] [(.double u2)])) _
    refine XS.dstore X190.here hx rfl (hb hby d2_52) rfl (l' := #[.val (.ref a1), .val (.double u1), .second, .val (.double u2), .second, .val (.double u3), .second, .val (.double u4), .second, .val (.double u5), .second, .val (.ref b106), .val (.int (5 : Int32)), .val (.int (1 : Int32)), .val (.double u2), .second]) rfl ?_
    show Steps p.tables e below (T190.setTop (mkF m 54 #[.val (.ref a1), .val (.double u1), .second, .val (.double u2), .second, .val (.double u3), .second, .val (.double u4), .second, .val (.double u5), .second, .val (.ref b106), .val (.int (5 : Int32)), .val (.int (1 : Int32)), .val (.double u2), .second] [])) _
    refine XS.dload X190.here hx rfl (hb hby d2_54) rfl ?_
    exact k)
  obtain ⟨_, _, ⟨T196, L196, k196, n196⟩, -, X196, ⟨Lc196, hQ196, l196, y196, z196⟩, st196⟩ := Jvm.LawKit.callS X190 hx (y := (⟨"java/lang/Double", "isFinite", "(D)Z"⟩ : MethodName)) hown (mvT hZ (hw _ (List.mem_of_getElem? (i := 21) rfl))) (mvT hZ (hw _ (List.mem_of_getElem? (i := 22) rfl))) (mvT hZ (hw _ (List.mem_of_getElem? (i := 23) rfl))) (mvT hZ (hw _ (List.mem_of_getElem? (i := 24) rfl))) (by decide) (backOf (W := 0) (rm5 l Z a0 hw [] u2 h173 n0 Z181 f_u2) hZ (hw _ (List.mem_of_getElem? (i := 24) rfl)) (hw _ (List.mem_of_getElem? (i := 23) rfl)) (by decide) (by decide)) (g := (mkF m 56 #[.val (.ref a1), .val (.double u1), .second, .val (.double u2), .second, .val (.double u3), .second, .val (.double u4), .second, .val (.double u5), .second, .val (.ref b106), .val (.int (5 : Int32)), .val (.int (1 : Int32)), .val (.double u2), .second] [(.double u2)])) rfl (by rw [hml]; rfl) (argsL := [(.double u2)]) (rest := []) (lenOf pd__28D_29Z rfl) rfl (by show 2 * 0 + _ ≤ _; exact Nat.le_of_eq rfl) (hb hby d2_56) (fun _ _ => ⟨rfl, e190, (by decide : 1 + 0 ≤ _), (by decide : 5 + 0 ≤ _)⟩)
  dsimp only [Pt.U, Pt.locs, Pt.cells, Pt.slots] at X196 l196 y196 z196 st196 hQ196
  subst l196 y196 z196
  obtain ⟨rfl, N196q, e196⟩ := hQ196
  have N197 := Fr.app N191 N196q
  have k198 : ∀ t, Steps p.tables e below (T196.setTop (mkF m 59 #[.val (.ref a1), .val (.double u1), .second, .val (.double u2), .second, .val (.double u3), .second, .val (.double u4), .second, .val (.double u5), .second, .val (.ref b106), .val (.int (5 : Int32)), .val (.int (1 : Int32)), .val (.double u2), .second] [(.int (1 : Int32))])) t → Steps p.tables e below (s₁.setTop (entryFrame m #[(.ref a1), (.double u1), (.double u2), (.double u3), (.double u4), (.double u5)] 16)) t := fun t k => k195 t (st196 t k)
  have k199 : ∀ t, Steps p.tables e below (T196.setTop (mkF m 51 #[.val (.ref a1), .val (.double u1), .second, .val (.double u2), .second, .val (.double u3), .second, .val (.double u4), .second, .val (.double u5), .second, .val (.ref b106), .val (.int (5 : Int32)), .val (.int (2 : Int32)), .val (.double u2), .second] [(.int (2 : Int32)), (.ref b106)])) t → Steps p.tables e below (s₁.setTop (entryFrame m #[(.ref a1), (.double u1), (.double u2), (.double u3), (.double u4), (.double u5)] 16)) t := fun t k => k198 t (by
    show Steps p.tables e below (T196.setTop (mkF m 59 #[.val (.ref a1), .val (.double u1), .second, .val (.double u2), .second, .val (.double u3), .second, .val (.double u4), .second, .val (.double u5), .second, .val (.ref b106), .val (.int (5 : Int32)), .val (.int (1 : Int32)), .val (.double u2), .second] [(.int (1 : Int32))])) _
    refine XS.ifYes X196.here hx rfl (pc0 := 59) (pc' := 77) rfl (hb hby d2_59) rfl ((if0 _ _).trans (feq (by decide)).2) (by decide) (by decide) ?_
    show Steps p.tables e below (T196.setTop (mkF m 77 #[.val (.ref a1), .val (.double u1), .second, .val (.double u2), .second, .val (.double u3), .second, .val (.double u4), .second, .val (.double u5), .second, .val (.ref b106), .val (.int (5 : Int32)), .val (.int (1 : Int32)), .val (.double u2), .second] [])) _
    refine XS.iinc X196.here hx rfl (hb hby d2_77) rfl (l' := #[.val (.ref a1), .val (.double u1), .second, .val (.double u2), .second, .val (.double u3), .second, .val (.double u4), .second, .val (.double u5), .second, .val (.ref b106), .val (.int (5 : Int32)), .val (.int (2 : Int32)), .val (.double u2), .second]) rfl ?_
    show Steps p.tables e below (T196.setTop (mkF m 80 #[.val (.ref a1), .val (.double u1), .second, .val (.double u2), .second, .val (.double u3), .second, .val (.double u4), .second, .val (.double u5), .second, .val (.ref b106), .val (.int (5 : Int32)), .val (.int (2 : Int32)), .val (.double u2), .second] [])) _
    refine XS.goto X196.here hx rfl (pc0 := 80) (pc' := 40) rfl (hb hby d2_80) (by decide) (by decide) ?_
    show Steps p.tables e below (T196.setTop (mkF m 40 #[.val (.ref a1), .val (.double u1), .second, .val (.double u2), .second, .val (.double u3), .second, .val (.double u4), .second, .val (.double u5), .second, .val (.ref b106), .val (.int (5 : Int32)), .val (.int (2 : Int32)), .val (.double u2), .second] [])) _
    refine XS.iload X196.here hx rfl (hb hby d2_40) rfl ?_
    show Steps p.tables e below (T196.setTop (mkF m 42 #[.val (.ref a1), .val (.double u1), .second, .val (.double u2), .second, .val (.double u3), .second, .val (.double u4), .second, .val (.double u5), .second, .val (.ref b106), .val (.int (5 : Int32)), .val (.int (2 : Int32)), .val (.double u2), .second] [(.int (2 : Int32))])) _
    refine XS.iload X196.here hx rfl (hb hby d2_42) rfl ?_
    show Steps p.tables e below (T196.setTop (mkF m 44 #[.val (.ref a1), .val (.double u1), .second, .val (.double u2), .second, .val (.double u3), .second, .val (.double u4), .second, .val (.double u5), .second, .val (.ref b106), .val (.int (5 : Int32)), .val (.int (2 : Int32)), .val (.double u2), .second] [(.int (5 : Int32)), (.int (2 : Int32))])) _
    refine XS.icmpNo X196.here hx rfl (hb hby d2_44) rfl (tlt (by decide)).2.1 ?_
    show Steps p.tables e below (T196.setTop (mkF m 47 #[.val (.ref a1), .val (.double u1), .second, .val (.double u2), .second, .val (.double u3), .second, .val (.double u4), .second, .val (.double u5), .second, .val (.ref b106), .val (.int (5 : Int32)), .val (.int (2 : Int32)), .val (.double u2), .second] [])) _
    refine XS.aload X196.here hx rfl (hb hby d2_47) rfl rfl ?_
    show Steps p.tables e below (T196.setTop (mkF m 49 #[.val (.ref a1), .val (.double u1), .second, .val (.double u2), .second, .val (.double u3), .second, .val (.double u4), .second, .val (.double u5), .second, .val (.ref b106), .val (.int (5 : Int32)), .val (.int (2 : Int32)), .val (.double u2), .second] [(.ref b106)])) _
    refine XS.iload X196.here hx rfl (hb hby d2_49) rfl ?_
    exact k)
  obtain ⟨c200, Ar200, -, As200, An200, Ah200, -⟩ := id V174
  have hin200 : ¬ ((2 : Int32) < 0 ∨ c200.slots.size ≤ ((2 : Int32)).toNatClampNeg) := inb_of As200 ⟨by decide, by decide⟩
  have hat200 : c200.slots[((2 : Int32)).toNatClampNeg]? = some (.double u3) := Has.at Ah200 hin200 rfl
  have k201 : ∀ t, Steps p.tables e below (T196.setTop (mkF m 56 #[.val (.ref a1), .val (.double u1), .second, .val (.double u2), .second, .val (.double u3), .second, .val (.double u4), .second, .val (.double u5), .second, .val (.ref b106), .val (.int (5 : Int32)), .val (.int (2 : Int32)), .val (.double u3), .second] [(.double u3)])) t → Steps p.tables e below (s₁.setTop (entryFrame m #[(.ref a1), (.double u1), (.double u2), (.double u3), (.double u4), (.double u5)] 16)) t := fun t k => k199 t (by
    show Steps p.tables e below (T196.setTop (mkF m 51 #[.val (.ref a1), .val (.double u1), .second, .val (.double u2), .second, .val (.double u3), .second, .val (.double u4), .second, .val (.double u5), .second, .val (.ref b106), .val (.int (5 : Int32)), .val (.int (2 : Int32)), .val (.double u2), .second] [(.int (2 : Int32)), (.ref b106)])) _
    refine X196.daload hx (j := (2 : Int32)) (v := (.double u3)) (by rw [e196]; exact Ar200.1) (State.isArrayOf_alike hZ.alike Ar200.2.1) Ar200.2.2 hin200 hat200 (g := (mkF m 51 #[.val (.ref a1), .val (.double u1), .second, .val (.double u2), .second, .val (.double u3), .second, .val (.double u4), .second, .val (.double u5), .second, .val (.ref b106), .val (.int (5 : Int32)), .val (.int (2 : Int32)), .val (.double u2), .second] [(.int (2 : Int32)), (.ref b106)])) rfl rfl (hb hby d2_51) _ ?_
    show Steps p.tables e below (T196.setTop (mkF m 52 #[.val (.ref a1), .val (.double u1), .second, .val (.double u2), .second, .val (.double u3), .second, .val (.double u4), .second, .val (.double u5), .second, .val (.ref b106), .val (.int (5 : Int32)), .val (.int (2 : Int32)), .val (.double u2), .second] [(.double u3)])) _
    refine XS.dstore X196.here hx rfl (hb hby d2_52) rfl (l' := #[.val (.ref a1), .val (.double u1), .second, .val (.double u2), .second, .val (.double u3), .second, .val (.double u4), .second, .val (.double u5), .second, .val (.ref b106), .val (.int (5 : Int32)), .val (.int (2 : Int32)), .val (.double u3), .second]) rfl ?_
    show Steps p.tables e below (T196.setTop (mkF m 54 #[.val (.ref a1), .val (.double u1), .second, .val (.double u2), .second, .val (.double u3), .second, .val (.double u4), .second, .val (.double u5), .second, .val (.ref b106), .val (.int (5 : Int32)), .val (.int (2 : Int32)), .val (.double u3), .second] [])) _
    refine XS.dload X196.here hx rfl (hb hby d2_54) rfl ?_
    exact k)
  obtain ⟨_, _, ⟨T202, L202, k202, n202⟩, -, X202, ⟨Lc202, hQ202, l202, y202, z202⟩, st202⟩ := Jvm.LawKit.callS X196 hx (y := (⟨"java/lang/Double", "isFinite", "(D)Z"⟩ : MethodName)) hown (mvT hZ (hw _ (List.mem_of_getElem? (i := 21) rfl))) (mvT hZ (hw _ (List.mem_of_getElem? (i := 22) rfl))) (mvT hZ (hw _ (List.mem_of_getElem? (i := 23) rfl))) (mvT hZ (hw _ (List.mem_of_getElem? (i := 24) rfl))) (by decide) (backOf (W := 0) (rm5 l Z a0 hw [] u3 h173 n0 Z181 f_u3) hZ (hw _ (List.mem_of_getElem? (i := 24) rfl)) (hw _ (List.mem_of_getElem? (i := 23) rfl)) (by decide) (by decide)) (g := (mkF m 56 #[.val (.ref a1), .val (.double u1), .second, .val (.double u2), .second, .val (.double u3), .second, .val (.double u4), .second, .val (.double u5), .second, .val (.ref b106), .val (.int (5 : Int32)), .val (.int (2 : Int32)), .val (.double u3), .second] [(.double u3)])) rfl (by rw [hml]; rfl) (argsL := [(.double u3)]) (rest := []) (lenOf pd__28D_29Z rfl) rfl (by show 2 * 0 + _ ≤ _; exact Nat.le_of_eq rfl) (hb hby d2_56) (fun _ _ => ⟨rfl, e196, (by decide : 1 + 0 ≤ _), (by decide : 5 + 0 ≤ _)⟩)
  dsimp only [Pt.U, Pt.locs, Pt.cells, Pt.slots] at X202 l202 y202 z202 st202 hQ202
  subst l202 y202 z202
  obtain ⟨rfl, N202q, e202⟩ := hQ202
  have N203 := Fr.app N197 N202q
  have k204 : ∀ t, Steps p.tables e below (T202.setTop (mkF m 59 #[.val (.ref a1), .val (.double u1), .second, .val (.double u2), .second, .val (.double u3), .second, .val (.double u4), .second, .val (.double u5), .second, .val (.ref b106), .val (.int (5 : Int32)), .val (.int (2 : Int32)), .val (.double u3), .second] [(.int (1 : Int32))])) t → Steps p.tables e below (s₁.setTop (entryFrame m #[(.ref a1), (.double u1), (.double u2), (.double u3), (.double u4), (.double u5)] 16)) t := fun t k => k201 t (st202 t k)
  have k205 : ∀ t, Steps p.tables e below (T202.setTop (mkF m 51 #[.val (.ref a1), .val (.double u1), .second, .val (.double u2), .second, .val (.double u3), .second, .val (.double u4), .second, .val (.double u5), .second, .val (.ref b106), .val (.int (5 : Int32)), .val (.int (3 : Int32)), .val (.double u3), .second] [(.int (3 : Int32)), (.ref b106)])) t → Steps p.tables e below (s₁.setTop (entryFrame m #[(.ref a1), (.double u1), (.double u2), (.double u3), (.double u4), (.double u5)] 16)) t := fun t k => k204 t (by
    show Steps p.tables e below (T202.setTop (mkF m 59 #[.val (.ref a1), .val (.double u1), .second, .val (.double u2), .second, .val (.double u3), .second, .val (.double u4), .second, .val (.double u5), .second, .val (.ref b106), .val (.int (5 : Int32)), .val (.int (2 : Int32)), .val (.double u3), .second] [(.int (1 : Int32))])) _
    refine XS.ifYes X202.here hx rfl (pc0 := 59) (pc' := 77) rfl (hb hby d2_59) rfl ((if0 _ _).trans (feq (by decide)).2) (by decide) (by decide) ?_
    show Steps p.tables e below (T202.setTop (mkF m 77 #[.val (.ref a1), .val (.double u1), .second, .val (.double u2), .second, .val (.double u3), .second, .val (.double u4), .second, .val (.double u5), .second, .val (.ref b106), .val (.int (5 : Int32)), .val (.int (2 : Int32)), .val (.double u3), .second] [])) _
    refine XS.iinc X202.here hx rfl (hb hby d2_77) rfl (l' := #[.val (.ref a1), .val (.double u1), .second, .val (.double u2), .second, .val (.double u3), .second, .val (.double u4), .second, .val (.double u5), .second, .val (.ref b106), .val (.int (5 : Int32)), .val (.int (3 : Int32)), .val (.double u3), .second]) rfl ?_
    show Steps p.tables e below (T202.setTop (mkF m 80 #[.val (.ref a1), .val (.double u1), .second, .val (.double u2), .second, .val (.double u3), .second, .val (.double u4), .second, .val (.double u5), .second, .val (.ref b106), .val (.int (5 : Int32)), .val (.int (3 : Int32)), .val (.double u3), .second] [])) _
    refine XS.goto X202.here hx rfl (pc0 := 80) (pc' := 40) rfl (hb hby d2_80) (by decide) (by decide) ?_
    show Steps p.tables e below (T202.setTop (mkF m 40 #[.val (.ref a1), .val (.double u1), .second, .val (.double u2), .second, .val (.double u3), .second, .val (.double u4), .second, .val (.double u5), .second, .val (.ref b106), .val (.int (5 : Int32)), .val (.int (3 : Int32)), .val (.double u3), .second] [])) _
    refine XS.iload X202.here hx rfl (hb hby d2_40) rfl ?_
    show Steps p.tables e below (T202.setTop (mkF m 42 #[.val (.ref a1), .val (.double u1), .second, .val (.double u2), .second, .val (.double u3), .second, .val (.double u4), .second, .val (.double u5), .second, .val (.ref b106), .val (.int (5 : Int32)), .val (.int (3 : Int32)), .val (.double u3), .second] [(.int (3 : Int32))])) _
    refine XS.iload X202.here hx rfl (hb hby d2_42) rfl ?_
    show Steps p.tables e below (T202.setTop (mkF m 44 #[.val (.ref a1), .val (.double u1), .second, .val (.double u2), .second, .val (.double u3), .second, .val (.double u4), .second, .val (.double u5), .second, .val (.ref b106), .val (.int (5 : Int32)), .val (.int (3 : Int32)), .val (.double u3), .second] [(.int (5 : Int32)), (.int (3 : Int32))])) _
    refine XS.icmpNo X202.here hx rfl (hb hby d2_44) rfl (tlt (by decide)).2.1 ?_
    show Steps p.tables e below (T202.setTop (mkF m 47 #[.val (.ref a1), .val (.double u1), .second, .val (.double u2), .second, .val (.double u3), .second, .val (.double u4), .second, .val (.double u5), .second, .val (.ref b106), .val (.int (5 : Int32)), .val (.int (3 : Int32)), .val (.double u3), .second] [])) _
    refine XS.aload X202.here hx rfl (hb hby d2_47) rfl rfl ?_
    show Steps p.tables e below (T202.setTop (mkF m 49 #[.val (.ref a1), .val (.double u1), .second, .val (.double u2), .second, .val (.double u3), .second, .val (.double u4), .second, .val (.double u5), .second, .val (.ref b106), .val (.int (5 : Int32)), .val (.int (3 : Int32)), .val (.double u3), .second] [(.ref b106)])) _
    refine XS.iload X202.here hx rfl (hb hby d2_49) rfl ?_
    exact k)
  obtain ⟨c206, Ar206, -, As206, An206, Ah206, -⟩ := id V174
  have hin206 : ¬ ((3 : Int32) < 0 ∨ c206.slots.size ≤ ((3 : Int32)).toNatClampNeg) := inb_of As206 ⟨by decide, by decide⟩
  have hat206 : c206.slots[((3 : Int32)).toNatClampNeg]? = some (.double u4) := Has.at Ah206 hin206 rfl
  have k207 : ∀ t, Steps p.tables e below (T202.setTop (mkF m 56 #[.val (.ref a1), .val (.double u1), .second, .val (.double u2), .second, .val (.double u3), .second, .val (.double u4), .second, .val (.double u5), .second, .val (.ref b106), .val (.int (5 : Int32)), .val (.int (3 : Int32)), .val (.double u4), .second] [(.double u4)])) t → Steps p.tables e below (s₁.setTop (entryFrame m #[(.ref a1), (.double u1), (.double u2), (.double u3), (.double u4), (.double u5)] 16)) t := fun t k => k205 t (by
    show Steps p.tables e below (T202.setTop (mkF m 51 #[.val (.ref a1), .val (.double u1), .second, .val (.double u2), .second, .val (.double u3), .second, .val (.double u4), .second, .val (.double u5), .second, .val (.ref b106), .val (.int (5 : Int32)), .val (.int (3 : Int32)), .val (.double u3), .second] [(.int (3 : Int32)), (.ref b106)])) _
    refine X202.daload hx (j := (3 : Int32)) (v := (.double u4)) (by rw [e202]; exact Ar206.1) (State.isArrayOf_alike hZ.alike Ar206.2.1) Ar206.2.2 hin206 hat206 (g := (mkF m 51 #[.val (.ref a1), .val (.double u1), .second, .val (.double u2), .second, .val (.double u3), .second, .val (.double u4), .second, .val (.double u5), .second, .val (.ref b106), .val (.int (5 : Int32)), .val (.int (3 : Int32)), .val (.double u3), .second] [(.int (3 : Int32)), (.ref b106)])) rfl rfl (hb hby d2_51) _ ?_
    show Steps p.tables e below (T202.setTop (mkF m 52 #[.val (.ref a1), .val (.double u1), .second, .val (.double u2), .second, .val (.double u3), .second, .val (.double u4), .second, .val (.double u5), .second, .val (.ref b106), .val (.int (5 : Int32)), .val (.int (3 : Int32)), .val (.double u3), .second] [(.double u4)])) _
    refine XS.dstore X202.here hx rfl (hb hby d2_52) rfl (l' := #[.val (.ref a1), .val (.double u1), .second, .val (.double u2), .second, .val (.double u3), .second, .val (.double u4), .second, .val (.double u5), .second, .val (.ref b106), .val (.int (5 : Int32)), .val (.int (3 : Int32)), .val (.double u4), .second]) rfl ?_
    show Steps p.tables e below (T202.setTop (mkF m 54 #[.val (.ref a1), .val (.double u1), .second, .val (.double u2), .second, .val (.double u3), .second, .val (.double u4), .second, .val (.double u5), .second, .val (.ref b106), .val (.int (5 : Int32)), .val (.int (3 : Int32)), .val (.double u4), .second] [])) _
    refine XS.dload X202.here hx rfl (hb hby d2_54) rfl ?_
    exact k)
  obtain ⟨_, _, ⟨T208, L208, k208, n208⟩, -, X208, ⟨Lc208, hQ208, l208, y208, z208⟩, st208⟩ := Jvm.LawKit.callS X202 hx (y := (⟨"java/lang/Double", "isFinite", "(D)Z"⟩ : MethodName)) hown (mvT hZ (hw _ (List.mem_of_getElem? (i := 21) rfl))) (mvT hZ (hw _ (List.mem_of_getElem? (i := 22) rfl))) (mvT hZ (hw _ (List.mem_of_getElem? (i := 23) rfl))) (mvT hZ (hw _ (List.mem_of_getElem? (i := 24) rfl))) (by decide) (backOf (W := 0) (rm5 l Z a0 hw [] u4 h173 n0 Z181 f_u4) hZ (hw _ (List.mem_of_getElem? (i := 24) rfl)) (hw _ (List.mem_of_getElem? (i := 23) rfl)) (by decide) (by decide)) (g := (mkF m 56 #[.val (.ref a1), .val (.double u1), .second, .val (.double u2), .second, .val (.double u3), .second, .val (.double u4), .second, .val (.double u5), .second, .val (.ref b106), .val (.int (5 : Int32)), .val (.int (3 : Int32)), .val (.double u4), .second] [(.double u4)])) rfl (by rw [hml]; rfl) (argsL := [(.double u4)]) (rest := []) (lenOf pd__28D_29Z rfl) rfl (by show 2 * 0 + _ ≤ _; exact Nat.le_of_eq rfl) (hb hby d2_56) (fun _ _ => ⟨rfl, e202, (by decide : 1 + 0 ≤ _), (by decide : 5 + 0 ≤ _)⟩)
  dsimp only [Pt.U, Pt.locs, Pt.cells, Pt.slots] at X208 l208 y208 z208 st208 hQ208
  subst l208 y208 z208
  obtain ⟨rfl, N208q, e208⟩ := hQ208
  have N209 := Fr.app N203 N208q
  have k210 : ∀ t, Steps p.tables e below (T208.setTop (mkF m 59 #[.val (.ref a1), .val (.double u1), .second, .val (.double u2), .second, .val (.double u3), .second, .val (.double u4), .second, .val (.double u5), .second, .val (.ref b106), .val (.int (5 : Int32)), .val (.int (3 : Int32)), .val (.double u4), .second] [(.int (1 : Int32))])) t → Steps p.tables e below (s₁.setTop (entryFrame m #[(.ref a1), (.double u1), (.double u2), (.double u3), (.double u4), (.double u5)] 16)) t := fun t k => k207 t (st208 t k)
  have k211 : ∀ t, Steps p.tables e below (T208.setTop (mkF m 51 #[.val (.ref a1), .val (.double u1), .second, .val (.double u2), .second, .val (.double u3), .second, .val (.double u4), .second, .val (.double u5), .second, .val (.ref b106), .val (.int (5 : Int32)), .val (.int (4 : Int32)), .val (.double u4), .second] [(.int (4 : Int32)), (.ref b106)])) t → Steps p.tables e below (s₁.setTop (entryFrame m #[(.ref a1), (.double u1), (.double u2), (.double u3), (.double u4), (.double u5)] 16)) t := fun t k => k210 t (by
    show Steps p.tables e below (T208.setTop (mkF m 59 #[.val (.ref a1), .val (.double u1), .second, .val (.double u2), .second, .val (.double u3), .second, .val (.double u4), .second, .val (.double u5), .second, .val (.ref b106), .val (.int (5 : Int32)), .val (.int (3 : Int32)), .val (.double u4), .second] [(.int (1 : Int32))])) _
    refine XS.ifYes X208.here hx rfl (pc0 := 59) (pc' := 77) rfl (hb hby d2_59) rfl ((if0 _ _).trans (feq (by decide)).2) (by decide) (by decide) ?_
    show Steps p.tables e below (T208.setTop (mkF m 77 #[.val (.ref a1), .val (.double u1), .second, .val (.double u2), .second, .val (.double u3), .second, .val (.double u4), .second, .val (.double u5), .second, .val (.ref b106), .val (.int (5 : Int32)), .val (.int (3 : Int32)), .val (.double u4), .second] [])) _
    refine XS.iinc X208.here hx rfl (hb hby d2_77) rfl (l' := #[.val (.ref a1), .val (.double u1), .second, .val (.double u2), .second, .val (.double u3), .second, .val (.double u4), .second, .val (.double u5), .second, .val (.ref b106), .val (.int (5 : Int32)), .val (.int (4 : Int32)), .val (.double u4), .second]) rfl ?_
    show Steps p.tables e below (T208.setTop (mkF m 80 #[.val (.ref a1), .val (.double u1), .second, .val (.double u2), .second, .val (.double u3), .second, .val (.double u4), .second, .val (.double u5), .second, .val (.ref b106), .val (.int (5 : Int32)), .val (.int (4 : Int32)), .val (.double u4), .second] [])) _
    refine XS.goto X208.here hx rfl (pc0 := 80) (pc' := 40) rfl (hb hby d2_80) (by decide) (by decide) ?_
    show Steps p.tables e below (T208.setTop (mkF m 40 #[.val (.ref a1), .val (.double u1), .second, .val (.double u2), .second, .val (.double u3), .second, .val (.double u4), .second, .val (.double u5), .second, .val (.ref b106), .val (.int (5 : Int32)), .val (.int (4 : Int32)), .val (.double u4), .second] [])) _
    refine XS.iload X208.here hx rfl (hb hby d2_40) rfl ?_
    show Steps p.tables e below (T208.setTop (mkF m 42 #[.val (.ref a1), .val (.double u1), .second, .val (.double u2), .second, .val (.double u3), .second, .val (.double u4), .second, .val (.double u5), .second, .val (.ref b106), .val (.int (5 : Int32)), .val (.int (4 : Int32)), .val (.double u4), .second] [(.int (4 : Int32))])) _
    refine XS.iload X208.here hx rfl (hb hby d2_42) rfl ?_
    show Steps p.tables e below (T208.setTop (mkF m 44 #[.val (.ref a1), .val (.double u1), .second, .val (.double u2), .second, .val (.double u3), .second, .val (.double u4), .second, .val (.double u5), .second, .val (.ref b106), .val (.int (5 : Int32)), .val (.int (4 : Int32)), .val (.double u4), .second] [(.int (5 : Int32)), (.int (4 : Int32))])) _
    refine XS.icmpNo X208.here hx rfl (hb hby d2_44) rfl (tlt (by decide)).2.1 ?_
    show Steps p.tables e below (T208.setTop (mkF m 47 #[.val (.ref a1), .val (.double u1), .second, .val (.double u2), .second, .val (.double u3), .second, .val (.double u4), .second, .val (.double u5), .second, .val (.ref b106), .val (.int (5 : Int32)), .val (.int (4 : Int32)), .val (.double u4), .second] [])) _
    refine XS.aload X208.here hx rfl (hb hby d2_47) rfl rfl ?_
    show Steps p.tables e below (T208.setTop (mkF m 49 #[.val (.ref a1), .val (.double u1), .second, .val (.double u2), .second, .val (.double u3), .second, .val (.double u4), .second, .val (.double u5), .second, .val (.ref b106), .val (.int (5 : Int32)), .val (.int (4 : Int32)), .val (.double u4), .second] [(.ref b106)])) _
    refine XS.iload X208.here hx rfl (hb hby d2_49) rfl ?_
    exact k)
  obtain ⟨c212, Ar212, -, As212, An212, Ah212, -⟩ := id V174
  have hin212 : ¬ ((4 : Int32) < 0 ∨ c212.slots.size ≤ ((4 : Int32)).toNatClampNeg) := inb_of As212 ⟨by decide, by decide⟩
  have hat212 : c212.slots[((4 : Int32)).toNatClampNeg]? = some (.double u5) := Has.at Ah212 hin212 rfl
  have k213 : ∀ t, Steps p.tables e below (T208.setTop (mkF m 56 #[.val (.ref a1), .val (.double u1), .second, .val (.double u2), .second, .val (.double u3), .second, .val (.double u4), .second, .val (.double u5), .second, .val (.ref b106), .val (.int (5 : Int32)), .val (.int (4 : Int32)), .val (.double u5), .second] [(.double u5)])) t → Steps p.tables e below (s₁.setTop (entryFrame m #[(.ref a1), (.double u1), (.double u2), (.double u3), (.double u4), (.double u5)] 16)) t := fun t k => k211 t (by
    show Steps p.tables e below (T208.setTop (mkF m 51 #[.val (.ref a1), .val (.double u1), .second, .val (.double u2), .second, .val (.double u3), .second, .val (.double u4), .second, .val (.double u5), .second, .val (.ref b106), .val (.int (5 : Int32)), .val (.int (4 : Int32)), .val (.double u4), .second] [(.int (4 : Int32)), (.ref b106)])) _
    refine X208.daload hx (j := (4 : Int32)) (v := (.double u5)) (by rw [e208]; exact Ar212.1) (State.isArrayOf_alike hZ.alike Ar212.2.1) Ar212.2.2 hin212 hat212 (g := (mkF m 51 #[.val (.ref a1), .val (.double u1), .second, .val (.double u2), .second, .val (.double u3), .second, .val (.double u4), .second, .val (.double u5), .second, .val (.ref b106), .val (.int (5 : Int32)), .val (.int (4 : Int32)), .val (.double u4), .second] [(.int (4 : Int32)), (.ref b106)])) rfl rfl (hb hby d2_51) _ ?_
    show Steps p.tables e below (T208.setTop (mkF m 52 #[.val (.ref a1), .val (.double u1), .second, .val (.double u2), .second, .val (.double u3), .second, .val (.double u4), .second, .val (.double u5), .second, .val (.ref b106), .val (.int (5 : Int32)), .val (.int (4 : Int32)), .val (.double u4), .second] [(.double u5)])) _
    refine XS.dstore X208.here hx rfl (hb hby d2_52) rfl (l' := #[.val (.ref a1), .val (.double u1), .second, .val (.double u2), .second, .val (.double u3), .second, .val (.double u4), .second, .val (.double u5), .second, .val (.ref b106), .val (.int (5 : Int32)), .val (.int (4 : Int32)), .val (.double u5), .second]) rfl ?_
    show Steps p.tables e below (T208.setTop (mkF m 54 #[.val (.ref a1), .val (.double u1), .second, .val (.double u2), .second, .val (.double u3), .second, .val (.double u4), .second, .val (.double u5), .second, .val (.ref b106), .val (.int (5 : Int32)), .val (.int (4 : Int32)), .val (.double u5), .second] [])) _
    refine XS.dload X208.here hx rfl (hb hby d2_54) rfl ?_
    exact k)
  obtain ⟨_, _, ⟨T214, L214, k214, n214⟩, -, X214, ⟨Lc214, hQ214, l214, y214, z214⟩, st214⟩ := Jvm.LawKit.callS X208 hx (y := (⟨"java/lang/Double", "isFinite", "(D)Z"⟩ : MethodName)) hown (mvT hZ (hw _ (List.mem_of_getElem? (i := 21) rfl))) (mvT hZ (hw _ (List.mem_of_getElem? (i := 22) rfl))) (mvT hZ (hw _ (List.mem_of_getElem? (i := 23) rfl))) (mvT hZ (hw _ (List.mem_of_getElem? (i := 24) rfl))) (by decide) (backOf (W := 0) (rm5 l Z a0 hw [] u5 h173 n0 Z181 f_u5) hZ (hw _ (List.mem_of_getElem? (i := 24) rfl)) (hw _ (List.mem_of_getElem? (i := 23) rfl)) (by decide) (by decide)) (g := (mkF m 56 #[.val (.ref a1), .val (.double u1), .second, .val (.double u2), .second, .val (.double u3), .second, .val (.double u4), .second, .val (.double u5), .second, .val (.ref b106), .val (.int (5 : Int32)), .val (.int (4 : Int32)), .val (.double u5), .second] [(.double u5)])) rfl (by rw [hml]; rfl) (argsL := [(.double u5)]) (rest := []) (lenOf pd__28D_29Z rfl) rfl (by show 2 * 0 + _ ≤ _; exact Nat.le_of_eq rfl) (hb hby d2_56) (fun _ _ => ⟨rfl, e208, (by decide : 1 + 0 ≤ _), (by decide : 5 + 0 ≤ _)⟩)
  dsimp only [Pt.U, Pt.locs, Pt.cells, Pt.slots] at X214 l214 y214 z214 st214 hQ214
  subst l214 y214 z214
  obtain ⟨rfl, N214q, e214⟩ := hQ214
  have N215 := Fr.app N209 N214q
  have k216 : ∀ t, Steps p.tables e below (T214.setTop (mkF m 59 #[.val (.ref a1), .val (.double u1), .second, .val (.double u2), .second, .val (.double u3), .second, .val (.double u4), .second, .val (.double u5), .second, .val (.ref b106), .val (.int (5 : Int32)), .val (.int (4 : Int32)), .val (.double u5), .second] [(.int (1 : Int32))])) t → Steps p.tables e below (s₁.setTop (entryFrame m #[(.ref a1), (.double u1), (.double u2), (.double u3), (.double u4), (.double u5)] 16)) t := fun t k => k213 t (st214 t k)
  have k217 : ∀ t, Steps p.tables e below (T214.setTop (mkF m 85 #[.val (.ref a1), .val (.double u1), .second, .val (.double u2), .second, .val (.double u3), .second, .val (.double u4), .second, .val (.double u5), .second, .val (.ref b106), .val (.int (5 : Int32)), .val (.int (5 : Int32)), .val (.double u5), .second] [(.double u1), (.ref a1)])) t → Steps p.tables e below (s₁.setTop (entryFrame m #[(.ref a1), (.double u1), (.double u2), (.double u3), (.double u4), (.double u5)] 16)) t := fun t k => k216 t (by
    show Steps p.tables e below (T214.setTop (mkF m 59 #[.val (.ref a1), .val (.double u1), .second, .val (.double u2), .second, .val (.double u3), .second, .val (.double u4), .second, .val (.double u5), .second, .val (.ref b106), .val (.int (5 : Int32)), .val (.int (4 : Int32)), .val (.double u5), .second] [(.int (1 : Int32))])) _
    refine XS.ifYes X214.here hx rfl (pc0 := 59) (pc' := 77) rfl (hb hby d2_59) rfl ((if0 _ _).trans (feq (by decide)).2) (by decide) (by decide) ?_
    show Steps p.tables e below (T214.setTop (mkF m 77 #[.val (.ref a1), .val (.double u1), .second, .val (.double u2), .second, .val (.double u3), .second, .val (.double u4), .second, .val (.double u5), .second, .val (.ref b106), .val (.int (5 : Int32)), .val (.int (4 : Int32)), .val (.double u5), .second] [])) _
    refine XS.iinc X214.here hx rfl (hb hby d2_77) rfl (l' := #[.val (.ref a1), .val (.double u1), .second, .val (.double u2), .second, .val (.double u3), .second, .val (.double u4), .second, .val (.double u5), .second, .val (.ref b106), .val (.int (5 : Int32)), .val (.int (5 : Int32)), .val (.double u5), .second]) rfl ?_
    show Steps p.tables e below (T214.setTop (mkF m 80 #[.val (.ref a1), .val (.double u1), .second, .val (.double u2), .second, .val (.double u3), .second, .val (.double u4), .second, .val (.double u5), .second, .val (.ref b106), .val (.int (5 : Int32)), .val (.int (5 : Int32)), .val (.double u5), .second] [])) _
    refine XS.goto X214.here hx rfl (pc0 := 80) (pc' := 40) rfl (hb hby d2_80) (by decide) (by decide) ?_
    show Steps p.tables e below (T214.setTop (mkF m 40 #[.val (.ref a1), .val (.double u1), .second, .val (.double u2), .second, .val (.double u3), .second, .val (.double u4), .second, .val (.double u5), .second, .val (.ref b106), .val (.int (5 : Int32)), .val (.int (5 : Int32)), .val (.double u5), .second] [])) _
    refine XS.iload X214.here hx rfl (hb hby d2_40) rfl ?_
    show Steps p.tables e below (T214.setTop (mkF m 42 #[.val (.ref a1), .val (.double u1), .second, .val (.double u2), .second, .val (.double u3), .second, .val (.double u4), .second, .val (.double u5), .second, .val (.ref b106), .val (.int (5 : Int32)), .val (.int (5 : Int32)), .val (.double u5), .second] [(.int (5 : Int32))])) _
    refine XS.iload X214.here hx rfl (hb hby d2_42) rfl ?_
    show Steps p.tables e below (T214.setTop (mkF m 44 #[.val (.ref a1), .val (.double u1), .second, .val (.double u2), .second, .val (.double u3), .second, .val (.double u4), .second, .val (.double u5), .second, .val (.ref b106), .val (.int (5 : Int32)), .val (.int (5 : Int32)), .val (.double u5), .second] [(.int (5 : Int32)), (.int (5 : Int32))])) _
    refine XS.icmpYes X214.here hx rfl (pc0 := 44) (pc' := 83) rfl (hb hby d2_44) rfl (flt (by decide)).2.1 (by decide) (by decide) ?_
    show Steps p.tables e below (T214.setTop (mkF m 83 #[.val (.ref a1), .val (.double u1), .second, .val (.double u2), .second, .val (.double u3), .second, .val (.double u4), .second, .val (.double u5), .second, .val (.ref b106), .val (.int (5 : Int32)), .val (.int (5 : Int32)), .val (.double u5), .second] [])) _
    refine XS.aloadN X214.here hx rfl (hb hby d2_83) rfl rfl ?_
    show Steps p.tables e below (T214.setTop (mkF m 84 #[.val (.ref a1), .val (.double u1), .second, .val (.double u2), .second, .val (.double u3), .second, .val (.double u4), .second, .val (.double u5), .second, .val (.ref b106), .val (.int (5 : Int32)), .val (.int (5 : Int32)), .val (.double u5), .second] [(.ref a1)])) _
    refine XS.dloadN X214.here hx rfl (hb hby d2_84) rfl ?_
    exact k)
  obtain ⟨T218, h218, X218, e218, W218, st218⟩ := putF X214 hx hZ hown (host := "") (Or.inl (hw _ (List.mem_of_getElem? (i := 30) rfl))) Via.refl e214 F175 F180 (Or.inr ⟨(hw _ (List.mem_of_getElem? (i := 31) rfl)), rfl, hnm⟩) (hw _ (List.mem_of_getElem? (i := 6) rfl)) (ty := .double) (by decide) rfl rfl (g := (mkF m 85 #[.val (.ref a1), .val (.double u1), .second, .val (.double u2), .second, .val (.double u3), .second, .val (.double u4), .second, .val (.double u5), .second, .val (.ref b106), .val (.int (5 : Int32)), .val (.int (5 : Int32)), .val (.double u5), .second] [(.double u1), (.ref a1)])) rfl rfl (hb hby d2_85)
  have F219 := F175.same W218
  have F220 := F176.other W218 (Or.inr (slot_ne (Or.inr (hw _ (List.mem_of_getElem? (i := 33) rfl))) (Or.inr (hw _ (List.mem_of_getElem? (i := 31) rfl))) (by decide) (t := .double) (t' := .double) (by decide) (by decide)))
  have F221 := F177.other W218 (Or.inr (slot_ne (Or.inr (hw _ (List.mem_of_getElem? (i := 35) rfl))) (Or.inr (hw _ (List.mem_of_getElem? (i := 31) rfl))) (by decide) (t := .double) (t' := .double) (by decide) (by decide)))
  have F222 := F178.other W218 (Or.inr (slot_ne (Or.inr (hw _ (List.mem_of_getElem? (i := 37) rfl))) (Or.inr (hw _ (List.mem_of_getElem? (i := 31) rfl))) (by decide) (t := .double) (t' := .double) (by decide) (by decide)))
  have F223 := F179.other W218 (Or.inr (slot_ne (Or.inr (hw _ (List.mem_of_getElem? (i := 39) rfl))) (Or.inr (hw _ (List.mem_of_getElem? (i := 31) rfl))) (by decide) (t := .double) (t' := .double) (by decide) (by decide)))
  have F224 := F180.wr W218
  have F225 := V174.other W218 (Ne.symm n107)
  have Z226 : n0 ≤ h218.size := Nat.le_trans Z181 (Nat.le_of_eq W218.size.symm)
  have N227 := Fr.snoc X218 N215 ga
  have K228 := K183.wr W218 (Or.inl (List.mem_of_getElem? (i := 0) rfl))
  have k229 : ∀ t, Steps p.tables e below (T218.setTop (mkF m 88 #[.val (.ref a1), .val (.double u1), .second, .val (.double u2), .second, .val (.double u3), .second, .val (.double u4), .second, .val (.double u5), .second, .val (.ref b106), .val (.int (5 : Int32)), .val (.int (5 : Int32)), .val (.double u5), .second] [])) t → Steps p.tables e below (s₁.setTop (entryFrame m #[(.ref a1), (.double u1), (.double u2), (.double u3), (.double u4), (.double u5)] 16)) t := fun t k => k217 t (st218 t k)
  have k230 : ∀ t, Steps p.tables e below (T218.setTop (mkF m 90 #[.val (.ref a1), .val (.double u1), .second, .val (.double u2), .second, .val (.double u3), .second, .val (.double u4), .second, .val (.double u5), .second, .val (.ref b106), .val (.int (5 : Int32)), .val (.int (5 : Int32)), .val (.double u5), .second] [(.double u2), (.ref a1)])) t → Steps p.tables e below (s₁.setTop (entryFrame m #[(.ref a1), (.double u1), (.double u2), (.double u3), (.double u4), (.double u5)] 16)) t := fun t k => k229 t (by
    show Steps p.tables e below (T218.setTop (mkF m 88 #[.val (.ref a1), .val (.double u1), .second, .val (.double u2), .second, .val (.double u3), .second, .val (.double u4), .second, .val (.double u5), .second, .val (.ref b106), .val (.int (5 : Int32)), .val (.int (5 : Int32)), .val (.double u5), .second] [])) _
    refine XS.aloadN X218.here hx rfl (hb hby d2_88) rfl rfl ?_
    show Steps p.tables e below (T218.setTop (mkF m 89 #[.val (.ref a1), .val (.double u1), .second, .val (.double u2), .second, .val (.double u3), .second, .val (.double u4), .second, .val (.double u5), .second, .val (.ref b106), .val (.int (5 : Int32)), .val (.int (5 : Int32)), .val (.double u5), .second] [(.ref a1)])) _
    refine XS.dloadN X218.here hx rfl (hb hby d2_89) rfl ?_
    exact k)
  obtain ⟨T231, h231, X231, e231, W231, st231⟩ := putF X218 hx hZ hown (host := "") (Or.inl (hw _ (List.mem_of_getElem? (i := 32) rfl))) Via.refl e218 F220 F224 (Or.inr ⟨(hw _ (List.mem_of_getElem? (i := 33) rfl)), rfl, hnm⟩) (hw _ (List.mem_of_getElem? (i := 6) rfl)) (ty := .double) (by decide) rfl rfl (g := (mkF m 90 #[.val (.ref a1), .val (.double u1), .second, .val (.double u2), .second, .val (.double u3), .second, .val (.double u4), .second, .val (.double u5), .second, .val (.ref b106), .val (.int (5 : Int32)), .val (.int (5 : Int32)), .val (.double u5), .second] [(.double u2), (.ref a1)])) rfl rfl (hb hby d2_90)
  have F232 := F220.same W231
  have F233 := F221.other W231 (Or.inr (slot_ne (Or.inr (hw _ (List.mem_of_getElem? (i := 35) rfl))) (Or.inr (hw _ (List.mem_of_getElem? (i := 33) rfl))) (by decide) (t := .double) (t' := .double) (by decide) (by decide)))
  have F234 := F222.other W231 (Or.inr (slot_ne (Or.inr (hw _ (List.mem_of_getElem? (i := 37) rfl))) (Or.inr (hw _ (List.mem_of_getElem? (i := 33) rfl))) (by decide) (t := .double) (t' := .double) (by decide) (by decide)))
  have F235 := F223.other W231 (Or.inr (slot_ne (Or.inr (hw _ (List.mem_of_getElem? (i := 39) rfl))) (Or.inr (hw _ (List.mem_of_getElem? (i := 33) rfl))) (by decide) (t := .double) (t' := .double) (by decide) (by decide)))
  have F236 := F224.wr W231
  have F237 := F225.other W231 (Ne.symm n107)
  have F238 := F219.other W231 (Or.inr (slot_ne (Or.inr (hw _ (List.mem_of_getElem? (i := 31) rfl))) (Or.inr (hw _ (List.mem_of_getElem? (i := 33) rfl))) (by decide) (t := .double) (t' := .double) (by decide) (by decide)))
  have Z239 : n0 ≤ h231.size := Nat.le_trans Z226 (Nat.le_of_eq W231.size.symm)
  have N240 := Fr.snoc X231 N227 ga
  have K241 := K228.wr W231 (Or.inl (List.mem_of_getElem? (i := 0) rfl))
  have k242 : ∀ t, Steps p.tables e below (T231.setTop (mkF m 93 #[.val (.ref a1), .val (.double u1), .second, .val (.double u2), .second, .val (.double u3), .second, .val (.double u4), .second, .val (.double u5), .second, .val (.ref b106), .val (.int (5 : Int32)), .val (.int (5 : Int32)), .val (.double u5), .second] [])) t → Steps p.tables e below (s₁.setTop (entryFrame m #[(.ref a1), (.double u1), (.double u2), (.double u3), (.double u4), (.double u5)] 16)) t := fun t k => k230 t (st231 t k)
  have k243 : ∀ t, Steps p.tables e below (T231.setTop (mkF m 96 #[.val (.ref a1), .val (.double u1), .second, .val (.double u2), .second, .val (.double u3), .second, .val (.double u4), .second, .val (.double u5), .second, .val (.ref b106), .val (.int (5 : Int32)), .val (.int (5 : Int32)), .val (.double u5), .second] [(.double u3), (.ref a1)])) t → Steps p.tables e below (s₁.setTop (entryFrame m #[(.ref a1), (.double u1), (.double u2), (.double u3), (.double u4), (.double u5)] 16)) t := fun t k => k242 t (by
    show Steps p.tables e below (T231.setTop (mkF m 93 #[.val (.ref a1), .val (.double u1), .second, .val (.double u2), .second, .val (.double u3), .second, .val (.double u4), .second, .val (.double u5), .second, .val (.ref b106), .val (.int (5 : Int32)), .val (.int (5 : Int32)), .val (.double u5), .second] [])) _
    refine XS.aloadN X231.here hx rfl (hb hby d2_93) rfl rfl ?_
    show Steps p.tables e below (T231.setTop (mkF m 94 #[.val (.ref a1), .val (.double u1), .second, .val (.double u2), .second, .val (.double u3), .second, .val (.double u4), .second, .val (.double u5), .second, .val (.ref b106), .val (.int (5 : Int32)), .val (.int (5 : Int32)), .val (.double u5), .second] [(.ref a1)])) _
    refine XS.dload X231.here hx rfl (hb hby d2_94) rfl ?_
    exact k)
  obtain ⟨T244, h244, X244, e244, W244, st244⟩ := putF X231 hx hZ hown (host := "") (Or.inl (hw _ (List.mem_of_getElem? (i := 34) rfl))) Via.refl e231 F233 F236 (Or.inr ⟨(hw _ (List.mem_of_getElem? (i := 35) rfl)), rfl, hnm⟩) (hw _ (List.mem_of_getElem? (i := 6) rfl)) (ty := .double) (by decide) rfl rfl (g := (mkF m 96 #[.val (.ref a1), .val (.double u1), .second, .val (.double u2), .second, .val (.double u3), .second, .val (.double u4), .second, .val (.double u5), .second, .val (.ref b106), .val (.int (5 : Int32)), .val (.int (5 : Int32)), .val (.double u5), .second] [(.double u3), (.ref a1)])) rfl rfl (hb hby d2_96)
  have F245 := F233.same W244
  have F246 := F234.other W244 (Or.inr (slot_ne (Or.inr (hw _ (List.mem_of_getElem? (i := 37) rfl))) (Or.inr (hw _ (List.mem_of_getElem? (i := 35) rfl))) (by decide) (t := .double) (t' := .double) (by decide) (by decide)))
  have F247 := F235.other W244 (Or.inr (slot_ne (Or.inr (hw _ (List.mem_of_getElem? (i := 39) rfl))) (Or.inr (hw _ (List.mem_of_getElem? (i := 35) rfl))) (by decide) (t := .double) (t' := .double) (by decide) (by decide)))
  have F248 := F236.wr W244
  have F249 := F237.other W244 (Ne.symm n107)
  have F250 := F238.other W244 (Or.inr (slot_ne (Or.inr (hw _ (List.mem_of_getElem? (i := 31) rfl))) (Or.inr (hw _ (List.mem_of_getElem? (i := 35) rfl))) (by decide) (t := .double) (t' := .double) (by decide) (by decide)))
  have F251 := F232.other W244 (Or.inr (slot_ne (Or.inr (hw _ (List.mem_of_getElem? (i := 33) rfl))) (Or.inr (hw _ (List.mem_of_getElem? (i := 35) rfl))) (by decide) (t := .double) (t' := .double) (by decide) (by decide)))
  have Z252 : n0 ≤ h244.size := Nat.le_trans Z239 (Nat.le_of_eq W244.size.symm)
  have N253 := Fr.snoc X244 N240 ga
  have K254 := K241.wr W244 (Or.inl (List.mem_of_getElem? (i := 0) rfl))
  have k255 : ∀ t, Steps p.tables e below (T244.setTop (mkF m 99 #[.val (.ref a1), .val (.double u1), .second, .val (.double u2), .second, .val (.double u3), .second, .val (.double u4), .second, .val (.double u5), .second, .val (.ref b106), .val (.int (5 : Int32)), .val (.int (5 : Int32)), .val (.double u5), .second] [])) t → Steps p.tables e below (s₁.setTop (entryFrame m #[(.ref a1), (.double u1), (.double u2), (.double u3), (.double u4), (.double u5)] 16)) t := fun t k => k243 t (st244 t k)
  have k256 : ∀ t, Steps p.tables e below (T244.setTop (mkF m 102 #[.val (.ref a1), .val (.double u1), .second, .val (.double u2), .second, .val (.double u3), .second, .val (.double u4), .second, .val (.double u5), .second, .val (.ref b106), .val (.int (5 : Int32)), .val (.int (5 : Int32)), .val (.double u5), .second] [(.double u4), (.ref a1)])) t → Steps p.tables e below (s₁.setTop (entryFrame m #[(.ref a1), (.double u1), (.double u2), (.double u3), (.double u4), (.double u5)] 16)) t := fun t k => k255 t (by
    show Steps p.tables e below (T244.setTop (mkF m 99 #[.val (.ref a1), .val (.double u1), .second, .val (.double u2), .second, .val (.double u3), .second, .val (.double u4), .second, .val (.double u5), .second, .val (.ref b106), .val (.int (5 : Int32)), .val (.int (5 : Int32)), .val (.double u5), .second] [])) _
    refine XS.aloadN X244.here hx rfl (hb hby d2_99) rfl rfl ?_
    show Steps p.tables e below (T244.setTop (mkF m 100 #[.val (.ref a1), .val (.double u1), .second, .val (.double u2), .second, .val (.double u3), .second, .val (.double u4), .second, .val (.double u5), .second, .val (.ref b106), .val (.int (5 : Int32)), .val (.int (5 : Int32)), .val (.double u5), .second] [(.ref a1)])) _
    refine XS.dload X244.here hx rfl (hb hby d2_100) rfl ?_
    exact k)
  obtain ⟨T257, h257, X257, e257, W257, st257⟩ := putF X244 hx hZ hown (host := "") (Or.inl (hw _ (List.mem_of_getElem? (i := 36) rfl))) Via.refl e244 F246 F248 (Or.inr ⟨(hw _ (List.mem_of_getElem? (i := 37) rfl)), rfl, hnm⟩) (hw _ (List.mem_of_getElem? (i := 6) rfl)) (ty := .double) (by decide) rfl rfl (g := (mkF m 102 #[.val (.ref a1), .val (.double u1), .second, .val (.double u2), .second, .val (.double u3), .second, .val (.double u4), .second, .val (.double u5), .second, .val (.ref b106), .val (.int (5 : Int32)), .val (.int (5 : Int32)), .val (.double u5), .second] [(.double u4), (.ref a1)])) rfl rfl (hb hby d2_102)
  have F258 := F246.same W257
  have F259 := F247.other W257 (Or.inr (slot_ne (Or.inr (hw _ (List.mem_of_getElem? (i := 39) rfl))) (Or.inr (hw _ (List.mem_of_getElem? (i := 37) rfl))) (by decide) (t := .double) (t' := .double) (by decide) (by decide)))
  have F260 := F248.wr W257
  have F261 := F249.other W257 (Ne.symm n107)
  have F262 := F250.other W257 (Or.inr (slot_ne (Or.inr (hw _ (List.mem_of_getElem? (i := 31) rfl))) (Or.inr (hw _ (List.mem_of_getElem? (i := 37) rfl))) (by decide) (t := .double) (t' := .double) (by decide) (by decide)))
  have F263 := F251.other W257 (Or.inr (slot_ne (Or.inr (hw _ (List.mem_of_getElem? (i := 33) rfl))) (Or.inr (hw _ (List.mem_of_getElem? (i := 37) rfl))) (by decide) (t := .double) (t' := .double) (by decide) (by decide)))
  have F264 := F245.other W257 (Or.inr (slot_ne (Or.inr (hw _ (List.mem_of_getElem? (i := 35) rfl))) (Or.inr (hw _ (List.mem_of_getElem? (i := 37) rfl))) (by decide) (t := .double) (t' := .double) (by decide) (by decide)))
  have Z265 : n0 ≤ h257.size := Nat.le_trans Z252 (Nat.le_of_eq W257.size.symm)
  have N266 := Fr.snoc X257 N253 ga
  have K267 := K254.wr W257 (Or.inl (List.mem_of_getElem? (i := 0) rfl))
  have k268 : ∀ t, Steps p.tables e below (T257.setTop (mkF m 105 #[.val (.ref a1), .val (.double u1), .second, .val (.double u2), .second, .val (.double u3), .second, .val (.double u4), .second, .val (.double u5), .second, .val (.ref b106), .val (.int (5 : Int32)), .val (.int (5 : Int32)), .val (.double u5), .second] [])) t → Steps p.tables e below (s₁.setTop (entryFrame m #[(.ref a1), (.double u1), (.double u2), (.double u3), (.double u4), (.double u5)] 16)) t := fun t k => k256 t (st257 t k)
  have k269 : ∀ t, Steps p.tables e below (T257.setTop (mkF m 108 #[.val (.ref a1), .val (.double u1), .second, .val (.double u2), .second, .val (.double u3), .second, .val (.double u4), .second, .val (.double u5), .second, .val (.ref b106), .val (.int (5 : Int32)), .val (.int (5 : Int32)), .val (.double u5), .second] [(.double u5), (.ref a1)])) t → Steps p.tables e below (s₁.setTop (entryFrame m #[(.ref a1), (.double u1), (.double u2), (.double u3), (.double u4), (.double u5)] 16)) t := fun t k => k268 t (by
    show Steps p.tables e below (T257.setTop (mkF m 105 #[.val (.ref a1), .val (.double u1), .second, .val (.double u2), .second, .val (.double u3), .second, .val (.double u4), .second, .val (.double u5), .second, .val (.ref b106), .val (.int (5 : Int32)), .val (.int (5 : Int32)), .val (.double u5), .second] [])) _
    refine XS.aloadN X257.here hx rfl (hb hby d2_105) rfl rfl ?_
    show Steps p.tables e below (T257.setTop (mkF m 106 #[.val (.ref a1), .val (.double u1), .second, .val (.double u2), .second, .val (.double u3), .second, .val (.double u4), .second, .val (.double u5), .second, .val (.ref b106), .val (.int (5 : Int32)), .val (.int (5 : Int32)), .val (.double u5), .second] [(.ref a1)])) _
    refine XS.dload X257.here hx rfl (hb hby d2_106) rfl ?_
    exact k)
  obtain ⟨T270, h270, X270, e270, W270, st270⟩ := putF X257 hx hZ hown (host := "") (Or.inl (hw _ (List.mem_of_getElem? (i := 38) rfl))) Via.refl e257 F259 F260 (Or.inr ⟨(hw _ (List.mem_of_getElem? (i := 39) rfl)), rfl, hnm⟩) (hw _ (List.mem_of_getElem? (i := 6) rfl)) (ty := .double) (by decide) rfl rfl (g := (mkF m 108 #[.val (.ref a1), .val (.double u1), .second, .val (.double u2), .second, .val (.double u3), .second, .val (.double u4), .second, .val (.double u5), .second, .val (.ref b106), .val (.int (5 : Int32)), .val (.int (5 : Int32)), .val (.double u5), .second] [(.double u5), (.ref a1)])) rfl rfl (hb hby d2_108)
  have F271 := F259.same W270
  have F272 := F260.wr W270
  have F273 := F261.other W270 (Ne.symm n107)
  have F274 := F262.other W270 (Or.inr (slot_ne (Or.inr (hw _ (List.mem_of_getElem? (i := 31) rfl))) (Or.inr (hw _ (List.mem_of_getElem? (i := 39) rfl))) (by decide) (t := .double) (t' := .double) (by decide) (by decide)))
  have F275 := F263.other W270 (Or.inr (slot_ne (Or.inr (hw _ (List.mem_of_getElem? (i := 33) rfl))) (Or.inr (hw _ (List.mem_of_getElem? (i := 39) rfl))) (by decide) (t := .double) (t' := .double) (by decide) (by decide)))
  have F276 := F264.other W270 (Or.inr (slot_ne (Or.inr (hw _ (List.mem_of_getElem? (i := 35) rfl))) (Or.inr (hw _ (List.mem_of_getElem? (i := 39) rfl))) (by decide) (t := .double) (t' := .double) (by decide) (by decide)))
  have F277 := F258.other W270 (Or.inr (slot_ne (Or.inr (hw _ (List.mem_of_getElem? (i := 37) rfl))) (Or.inr (hw _ (List.mem_of_getElem? (i := 39) rfl))) (by decide) (t := .double) (t' := .double) (by decide) (by decide)))
  have Z278 : n0 ≤ h270.size := Nat.le_trans Z265 (Nat.le_of_eq W270.size.symm)
  have N279 := Fr.snoc X270 N266 ga
  have K280 := K267.wr W270 (Or.inl (List.mem_of_getElem? (i := 0) rfl))
  have k281 : ∀ t, Steps p.tables e below (T270.setTop (mkF m 111 #[.val (.ref a1), .val (.double u1), .second, .val (.double u2), .second, .val (.double u3), .second, .val (.double u4), .second, .val (.double u5), .second, .val (.ref b106), .val (.int (5 : Int32)), .val (.int (5 : Int32)), .val (.double u5), .second] [])) t → Steps p.tables e below (s₁.setTop (entryFrame m #[(.ref a1), (.double u1), (.double u2), (.double u3), (.double u4), (.double u5)] 16)) t := fun t k => k269 t (st270 t k)
  obtain ⟨fs, hr, hrun, hended, hW, hsame⟩ := X270.leave (v := none) (fun _ => rfl)
  refine ⟨_, _, k281 _ (X270.returnOut hx Bd.returns (hb hby d2_111) hr), hrun, hended, _, _, rfl, ?_, ⟨_, rfl⟩, hW, hsame.mono (by decide) (by decide)⟩
  show Q_rm2 Z a1 u1 u2 u3 u4 u5 h0 n0 _ T270.heap _
  rw [e270]
  exact ⟨rfl, N279, K280, F272, F274, F275, F276, F277, F271⟩
theorem ef_7_RIIIII (m : MethodId) (x0 : Addr) (x1 : Int32) (x2 : Int32) (x3 : Int32) (x4 : Int32) (x5 : Int32) : entryFrame m #[(.ref x0), (.int x1), (.int x2), (.int x3), (.int x4), (.int x5)] 6 = mkF m 0 #[.val (.ref x0), .val (.int x1), .val (.int x2), .val (.int x3), .val (.int x4), .val (.int x5)] [] := by first | (simp [entryFrame, mkF, argsToLocals, Value.category]; done) | rfl
theorem d7_0 : decode prog_118_method_2_code 0 = .ok (.aload_n 0, 1) := by decide +kernel
theorem d7_1 : decode prog_118_method_2_code 1 = .ok (.getfield 22, 3) := by decide +kernel
theorem d7_4 : decode prog_118_method_2_code 4 = .ok (.iload_n 1, 1) := by decide +kernel
theorem d7_5 : decode prog_118_method_2_code 5 = .ok (.i2d, 1) := by decide +kernel
theorem d7_6 : decode prog_118_method_2_code 6 = .ok (.dmul, 1) := by decide +kernel
theorem d7_7 : decode prog_118_method_2_code 7 = .ok (.aload_n 0, 1) := by decide +kernel
theorem d7_8 : decode prog_118_method_2_code 8 = .ok (.getfield 28, 3) := by decide +kernel
theorem d7_11 : decode prog_118_method_2_code 11 = .ok (.iload_n 2, 1) := by decide +kernel
theorem d7_12 : decode prog_118_method_2_code 12 = .ok (.i2d, 1) := by decide +kernel
theorem d7_13 : decode prog_118_method_2_code 13 = .ok (.dmul, 1) := by decide +kernel
theorem d7_14 : decode prog_118_method_2_code 14 = .ok (.dadd, 1) := by decide +kernel
theorem d7_15 : decode prog_118_method_2_code 15 = .ok (.aload_n 0, 1) := by decide +kernel
theorem d7_16 : decode prog_118_method_2_code 16 = .ok (.getfield 31, 3) := by decide +kernel
theorem d7_19 : decode prog_118_method_2_code 19 = .ok (.iload_n 3, 1) := by decide +kernel
theorem d7_20 : decode prog_118_method_2_code 20 = .ok (.i2d, 1) := by decide +kernel
theorem d7_21 : decode prog_118_method_2_code 21 = .ok (.dmul, 1) := by decide +kernel
theorem d7_22 : decode prog_118_method_2_code 22 = .ok (.dadd, 1) := by decide +kernel
theorem d7_23 : decode prog_118_method_2_code 23 = .ok (.aload_n 0, 1) := by decide +kernel
theorem d7_24 : decode prog_118_method_2_code 24 = .ok (.getfield 34, 3) := by decide +kernel
theorem d7_27 : decode prog_118_method_2_code 27 = .ok (.iload 4, 2) := by decide +kernel
theorem d7_29 : decode prog_118_method_2_code 29 = .ok (.i2d, 1) := by decide +kernel
theorem d7_30 : decode prog_118_method_2_code 30 = .ok (.dmul, 1) := by decide +kernel
theorem d7_31 : decode prog_118_method_2_code 31 = .ok (.dadd, 1) := by decide +kernel
theorem d7_32 : decode prog_118_method_2_code 32 = .ok (.aload_n 0, 1) := by decide +kernel
theorem d7_33 : decode prog_118_method_2_code 33 = .ok (.getfield 37, 3) := by decide +kernel
theorem d7_36 : decode prog_118_method_2_code 36 = .ok (.iload 5, 2) := by decide +kernel
theorem d7_38 : decode prog_118_method_2_code 38 = .ok (.i2d, 1) := by decide +kernel
theorem d7_39 : decode prog_118_method_2_code 39 = .ok (.dmul, 1) := by decide +kernel
theorem d7_40 : decode prog_118_method_2_code 40 = .ok (.dadd, 1) := by decide +kernel
theorem d7_41 : decode prog_118_method_2_code 41 = .ok (.dreturn, 1) := by decide +kernel
def Q_rm7 (Z : State) (a1 : Addr) (p1 : Int32) (p2 : Int32) (p3 : Int32) (p4 : Int32) (p5 : Int32) (u1 : UInt64) (u2 : UInt64) (u3 : UInt64) (u4 : UInt64) (u5 : UInt64) (h0 : Heap) (n0 : Nat) (v : Option Value) (h : Heap) (L : List Loc) : Prop := v = some (.double (FP.dadd (FP.dadd (FP.dadd (FP.dadd (FP.dmul u1 (FP.i2d p1)) (FP.dmul u2 (FP.i2d p2))) (FP.dmul u3 (FP.i2d p3))) (FP.dmul u4 (FP.i2d p4))) (FP.dmul u5 (FP.i2d p5)))) ∧ Fr n0 L ∧ h = h0
set_option maxRecDepth 65536 in
set_option maxHeartbeats 40000000 in
theorem rm7 (l : Launch) (Z : State) (a0 : Array Value) (hw : ∀ d ∈ tables_1, d.before a0 Z = true) (ws : List Jvm.Cond) (a1 : Addr) (p1 : Int32) (p2 : Int32) (p3 : Int32) (p4 : Int32) (p5 : Int32) (u1 : UInt64) (u2 : UInt64) (u3 : UInt64) (u4 : UInt64) (u5 : UInt64) (h0 : Heap) (n0 : Nat) (Z0 : n0 ≤ h0.size) (F0 : Fld Z h0 a1 "com/example/liblocus/liblocus/sentence/PartWeights" "title" "D" (.double u1)) (F1 : Fld Z h0 a1 "com/example/liblocus/liblocus/sentence/PartWeights" "description" "D" (.double u2)) (F2 : Fld Z h0 a1 "com/example/liblocus/liblocus/sentence/PartWeights" "positiveNarrative" "D" (.double u3)) (F3 : Fld Z h0 a1 "com/example/liblocus/liblocus/sentence/PartWeights" "sharedNegative" "D" (.double u4)) (F4 : Fld Z h0 a1 "com/example/liblocus/liblocus/sentence/PartWeights" "ownNegative" "D" (.double u5)) (nn6 : Jvm.Free.Fl.NoNaN64 (FP.dmul u1 (FP.i2d p1))) (nn13 : Jvm.Free.Fl.NoNaN64 (FP.dmul u2 (FP.i2d p2))) (nn14 : Jvm.Free.Fl.NoNaN64 (FP.dadd (FP.dmul u1 (FP.i2d p1)) (FP.dmul u2 (FP.i2d p2)))) (nn21 : Jvm.Free.Fl.NoNaN64 (FP.dmul u3 (FP.i2d p3))) (nn22 : Jvm.Free.Fl.NoNaN64 (FP.dadd (FP.dadd (FP.dmul u1 (FP.i2d p1)) (FP.dmul u2 (FP.i2d p2))) (FP.dmul u3 (FP.i2d p3)))) (nn30 : Jvm.Free.Fl.NoNaN64 (FP.dmul u4 (FP.i2d p4))) (nn31 : Jvm.Free.Fl.NoNaN64 (FP.dadd (FP.dadd (FP.dadd (FP.dmul u1 (FP.i2d p1)) (FP.dmul u2 (FP.i2d p2))) (FP.dmul u3 (FP.i2d p3))) (FP.dmul u4 (FP.i2d p4)))) (nn39 : Jvm.Free.Fl.NoNaN64 (FP.dmul u5 (FP.i2d p5))) (nn40 : Jvm.Free.Fl.NoNaN64 (FP.dadd (FP.dadd (FP.dadd (FP.dadd (FP.dmul u1 (FP.i2d p1)) (FP.dmul u2 (FP.i2d p2))) (FP.dmul u3 (FP.i2d p3))) (FP.dmul u4 (FP.i2d p4))) (FP.dmul u5 (FP.i2d p5)))) :
    MetFree l (⟨"com/example/liblocus/liblocus/sentence/PartWeights", "omega", "(IIIII)D"⟩ : MethodName) (head1 (Jvm.Cond.code (⟨"com/example/liblocus/liblocus/sentence/PartWeights", "omega", "(IIIII)D"⟩ : MethodName) prog_118_method_2_code 6 (some .double) :: ws) ({ frames := 0, cells := 0, slots := 0, locals := 0 } : Room)) (fun a U => a = #[(.ref a1), (.int p1), (.int p2), (.int p3), (.int p4), (.int p5)] ∧ Z.Warmed39 U.vm ∧ U.heap = h0) (fun _ _ _ _ _ => True) (fun _ U o U' => ∃ v L, o = .returned v ∧ Q_rm7 Z a1 p1 p2 p3 p4 p5 u1 u2 u3 u4 u5 h0 n0 v U'.heap L ∧ FrameEnd U o U' L ({ frames := 0, cells := 0, slots := 0, locals := 0 } : Room).cells ({ frames := 0, cells := 0, slots := 0, locals := 0 } : Room).slots) := by
  refine MetFree.of_bodySF (plainFor_of_name pn_com_2fexample_2fliblocus_2fliblocus_2fsentence_2fPartWeights) hisR ?_
  intro p e s m args below meth c s₁ Bd hml0 hP hK
  obtain ⟨rfl, hZ, hh⟩ := hP
  have hx := Bd.exec
  have hby := Bd.bytes
  have hml : c.maxLocals = 6 := hml0
  have hown : s.vm.findClass "com/example/liblocus/liblocus/sentence/PartWeights" = some m.cls := findClass_of_methodNamed Bd.named
  have hnm := (name_of_methodNamed Bd.named Bd.method).1
  have X0 : Stand p l e ({ frames := 0, cells := 0, slots := 0, locals := 0 } : Room) s m #[(.ref a1), (.int p1), (.int p2), (.int p3), (.int p4), (.int p5)] below meth c s₁ [] 0 0 := Stand.of_body Bd
  have e0 : s₁.heap = h0 := by rw [← hh, Bd.state]; rfl
  have N0 := Fr.nil n0
  have k0 : ∀ t, Steps p.tables e below (s₁.setTop (mkF m 0 #[.val (.ref a1), .val (.int p1), .val (.int p2), .val (.int p3), .val (.int p4), .val (.int p5)] [])) t → Steps p.tables e below (s₁.setTop (entryFrame m #[(.ref a1), (.int p1), (.int p2), (.int p3), (.int p4), (.int p5)] 6)) t := fun t k => castTop (ef_7_RIIIII m a1 p1 p2 p3 p4 p5) k
  have k101 : ∀ t, Steps p.tables e below (s₁.setTop (mkF m 1 #[.val (.ref a1), .val (.int p1), .val (.int p2), .val (.int p3), .val (.int p4), .val (.int p5)] [(.ref a1)])) t → Steps p.tables e below (s₁.setTop (entryFrame m #[(.ref a1), (.int p1), (.int p2), (.int p3), (.int p4), (.int p5)] 6)) t := fun t k => k0 t (by
    show Steps p.tables e below (s₁.setTop (mkF m 0 #[.val (.ref a1), .val (.int p1), .val (.int p2), .val (.int p3), .val (.int p4), .val (.int p5)] [])) _
    refine XS.aloadN X0.here hx rfl (hb hby d7_0) rfl rfl ?_
    exact k)
  obtain ⟨T102, X102, e102, st102⟩ := getF X0 hx hZ hown (host := "") (Or.inl (hw _ (List.mem_of_getElem? (i := 30) rfl))) Via.refl e0 F0 (g := (mkF m 1 #[.val (.ref a1), .val (.int p1), .val (.int p2), .val (.int p3), .val (.int p4), .val (.int p5)] [(.ref a1)])) rfl rfl (hb hby d7_1)
  have k103 : ∀ t, Steps p.tables e below (T102.setTop (mkF m 4 #[.val (.ref a1), .val (.int p1), .val (.int p2), .val (.int p3), .val (.int p4), .val (.int p5)] [(.double u1)])) t → Steps p.tables e below (s₁.setTop (entryFrame m #[(.ref a1), (.int p1), (.int p2), (.int p3), (.int p4), (.int p5)] 6)) t := fun t k => k101 t (st102 t k)
  have k104 : ∀ t, Steps p.tables e below (T102.setTop (mkF m 8 #[.val (.ref a1), .val (.int p1), .val (.int p2), .val (.int p3), .val (.int p4), .val (.int p5)] [(.ref a1), (.double (FP.dmul u1 (FP.i2d p1)))])) t → Steps p.tables e below (s₁.setTop (entryFrame m #[(.ref a1), (.int p1), (.int p2), (.int p3), (.int p4), (.int p5)] 6)) t := fun t k => k103 t (by
    show Steps p.tables e below (T102.setTop (mkF m 4 #[.val (.ref a1), .val (.int p1), .val (.int p2), .val (.int p3), .val (.int p4), .val (.int p5)] [(.double u1)])) _
    refine XS.iloadN X102.here hx rfl (hb hby d7_4) rfl ?_
    show Steps p.tables e below (T102.setTop (mkF m 5 #[.val (.ref a1), .val (.int p1), .val (.int p2), .val (.int p3), .val (.int p4), .val (.int p5)] [(.int p1), (.double u1)])) _
    refine XS.i2dS X102.here hx rfl (hb hby d7_5) rfl rfl ?_
    show Steps p.tables e below (T102.setTop (mkF m 6 #[.val (.ref a1), .val (.int p1), .val (.int p2), .val (.int p3), .val (.int p4), .val (.int p5)] [(.double (FP.i2d p1)), (.double u1)])) _
    refine XS.dmulS X102.here hx rfl (hb hby d7_6) rfl (nn6) rfl ?_
    show Steps p.tables e below (T102.setTop (mkF m 7 #[.val (.ref a1), .val (.int p1), .val (.int p2), .val (.int p3), .val (.int p4), .val (.int p5)] [(.double (FP.dmul u1 (FP.i2d p1)))])) _
    refine XS.aloadN X102.here hx rfl (hb hby d7_7) rfl rfl ?_
    exact k)
  obtain ⟨T105, X105, e105, st105⟩ := getF X102 hx hZ hown (host := "") (Or.inl (hw _ (List.mem_of_getElem? (i := 32) rfl))) Via.refl e102 F1 (g := (mkF m 8 #[.val (.ref a1), .val (.int p1), .val (.int p2), .val (.int p3), .val (.int p4), .val (.int p5)] [(.ref a1), (.double (FP.dmul u1 (FP.i2d p1)))])) rfl rfl (hb hby d7_8)
  have k106 : ∀ t, Steps p.tables e below (T105.setTop (mkF m 11 #[.val (.ref a1), .val (.int p1), .val (.int p2), .val (.int p3), .val (.int p4), .val (.int p5)] [(.double u2), (.double (FP.dmul u1 (FP.i2d p1)))])) t → Steps p.tables e below (s₁.setTop (entryFrame m #[(.ref a1), (.int p1), (.int p2), (.int p3), (.int p4), (.int p5)] 6)) t := fun t k => k104 t (st105 t k)
  have k107 : ∀ t, Steps p.tables e below (T105.setTop (mkF m 16 #[.val (.ref a1), .val (.int p1), .val (.int p2), .val (.int p3), .val (.int p4), .val (.int p5)] [(.ref a1), (.double (FP.dadd (FP.dmul u1 (FP.i2d p1)) (FP.dmul u2 (FP.i2d p2))))])) t → Steps p.tables e below (s₁.setTop (entryFrame m #[(.ref a1), (.int p1), (.int p2), (.int p3), (.int p4), (.int p5)] 6)) t := fun t k => k106 t (by
    show Steps p.tables e below (T105.setTop (mkF m 11 #[.val (.ref a1), .val (.int p1), .val (.int p2), .val (.int p3), .val (.int p4), .val (.int p5)] [(.double u2), (.double (FP.dmul u1 (FP.i2d p1)))])) _
    refine XS.iloadN X105.here hx rfl (hb hby d7_11) rfl ?_
    show Steps p.tables e below (T105.setTop (mkF m 12 #[.val (.ref a1), .val (.int p1), .val (.int p2), .val (.int p3), .val (.int p4), .val (.int p5)] [(.int p2), (.double u2), (.double (FP.dmul u1 (FP.i2d p1)))])) _
    refine XS.i2dS X105.here hx rfl (hb hby d7_12) rfl rfl ?_
    show Steps p.tables e below (T105.setTop (mkF m 13 #[.val (.ref a1), .val (.int p1), .val (.int p2), .val (.int p3), .val (.int p4), .val (.int p5)] [(.double (FP.i2d p2)), (.double u2), (.double (FP.dmul u1 (FP.i2d p1)))])) _
    refine XS.dmulS X105.here hx rfl (hb hby d7_13) rfl (nn13) rfl ?_
    show Steps p.tables e below (T105.setTop (mkF m 14 #[.val (.ref a1), .val (.int p1), .val (.int p2), .val (.int p3), .val (.int p4), .val (.int p5)] [(.double (FP.dmul u2 (FP.i2d p2))), (.double (FP.dmul u1 (FP.i2d p1)))])) _
    refine XS.daddS X105.here hx rfl (hb hby d7_14) rfl (nn14) rfl ?_
    show Steps p.tables e below (T105.setTop (mkF m 15 #[.val (.ref a1), .val (.int p1), .val (.int p2), .val (.int p3), .val (.int p4), .val (.int p5)] [(.double (FP.dadd (FP.dmul u1 (FP.i2d p1)) (FP.dmul u2 (FP.i2d p2))))])) _
    refine XS.aloadN X105.here hx rfl (hb hby d7_15) rfl rfl ?_
    exact k)
  obtain ⟨T108, X108, e108, st108⟩ := getF X105 hx hZ hown (host := "") (Or.inl (hw _ (List.mem_of_getElem? (i := 34) rfl))) Via.refl e105 F2 (g := (mkF m 16 #[.val (.ref a1), .val (.int p1), .val (.int p2), .val (.int p3), .val (.int p4), .val (.int p5)] [(.ref a1), (.double (FP.dadd (FP.dmul u1 (FP.i2d p1)) (FP.dmul u2 (FP.i2d p2))))])) rfl rfl (hb hby d7_16)
  have k109 : ∀ t, Steps p.tables e below (T108.setTop (mkF m 19 #[.val (.ref a1), .val (.int p1), .val (.int p2), .val (.int p3), .val (.int p4), .val (.int p5)] [(.double u3), (.double (FP.dadd (FP.dmul u1 (FP.i2d p1)) (FP.dmul u2 (FP.i2d p2))))])) t → Steps p.tables e below (s₁.setTop (entryFrame m #[(.ref a1), (.int p1), (.int p2), (.int p3), (.int p4), (.int p5)] 6)) t := fun t k => k107 t (st108 t k)
  have k110 : ∀ t, Steps p.tables e below (T108.setTop (mkF m 24 #[.val (.ref a1), .val (.int p1), .val (.int p2), .val (.int p3), .val (.int p4), .val (.int p5)] [(.ref a1), (.double (FP.dadd (FP.dadd (FP.dmul u1 (FP.i2d p1)) (FP.dmul u2 (FP.i2d p2))) (FP.dmul u3 (FP.i2d p3))))])) t → Steps p.tables e below (s₁.setTop (entryFrame m #[(.ref a1), (.int p1), (.int p2), (.int p3), (.int p4), (.int p5)] 6)) t := fun t k => k109 t (by
    show Steps p.tables e below (T108.setTop (mkF m 19 #[.val (.ref a1), .val (.int p1), .val (.int p2), .val (.int p3), .val (.int p4), .val (.int p5)] [(.double u3), (.double (FP.dadd (FP.dmul u1 (FP.i2d p1)) (FP.dmul u2 (FP.i2d p2))))])) _
    refine XS.iloadN X108.here hx rfl (hb hby d7_19) rfl ?_
    show Steps p.tables e below (T108.setTop (mkF m 20 #[.val (.ref a1), .val (.int p1), .val (.int p2), .val (.int p3), .val (.int p4), .val (.int p5)] [(.int p3), (.double u3), (.double (FP.dadd (FP.dmul u1 (FP.i2d p1)) (FP.dmul u2 (FP.i2d p2))))])) _
    refine XS.i2dS X108.here hx rfl (hb hby d7_20) rfl rfl ?_
    show Steps p.tables e below (T108.setTop (mkF m 21 #[.val (.ref a1), .val (.int p1), .val (.int p2), .val (.int p3), .val (.int p4), .val (.int p5)] [(.double (FP.i2d p3)), (.double u3), (.double (FP.dadd (FP.dmul u1 (FP.i2d p1)) (FP.dmul u2 (FP.i2d p2))))])) _
    refine XS.dmulS X108.here hx rfl (hb hby d7_21) rfl (nn21) rfl ?_
    show Steps p.tables e below (T108.setTop (mkF m 22 #[.val (.ref a1), .val (.int p1), .val (.int p2), .val (.int p3), .val (.int p4), .val (.int p5)] [(.double (FP.dmul u3 (FP.i2d p3))), (.double (FP.dadd (FP.dmul u1 (FP.i2d p1)) (FP.dmul u2 (FP.i2d p2))))])) _
    refine XS.daddS X108.here hx rfl (hb hby d7_22) rfl (nn22) rfl ?_
    show Steps p.tables e below (T108.setTop (mkF m 23 #[.val (.ref a1), .val (.int p1), .val (.int p2), .val (.int p3), .val (.int p4), .val (.int p5)] [(.double (FP.dadd (FP.dadd (FP.dmul u1 (FP.i2d p1)) (FP.dmul u2 (FP.i2d p2))) (FP.dmul u3 (FP.i2d p3))))])) _
    refine XS.aloadN X108.here hx rfl (hb hby d7_23) rfl rfl ?_
    exact k)
  obtain ⟨T111, X111, e111, st111⟩ := getF X108 hx hZ hown (host := "") (Or.inl (hw _ (List.mem_of_getElem? (i := 36) rfl))) Via.refl e108 F3 (g := (mkF m 24 #[.val (.ref a1), .val (.int p1), .val (.int p2), .val (.int p3), .val (.int p4), .val (.int p5)] [(.ref a1), (.double (FP.dadd (FP.dadd (FP.dmul u1 (FP.i2d p1)) (FP.dmul u2 (FP.i2d p2))) (FP.dmul u3 (FP.i2d p3))))])) rfl rfl (hb hby d7_24)
  have k112 : ∀ t, Steps p.tables e below (T111.setTop (mkF m 27 #[.val (.ref a1), .val (.int p1), .val (.int p2), .val (.int p3), .val (.int p4), .val (.int p5)] [(.double u4), (.double (FP.dadd (FP.dadd (FP.dmul u1 (FP.i2d p1)) (FP.dmul u2 (FP.i2d p2))) (FP.dmul u3 (FP.i2d p3))))])) t → Steps p.tables e below (s₁.setTop (entryFrame m #[(.ref a1), (.int p1), (.int p2), (.int p3), (.int p4), (.int p5)] 6)) t := fun t k => k110 t (st111 t k)
  have k113 : ∀ t, Steps p.tables e below (T111.setTop (mkF m 33 #[.val (.ref a1), .val (.int p1), .val (.int p2), .val (.int p3), .val (.int p4), .val (.int p5)] [(.ref a1), (.double (FP.dadd (FP.dadd (FP.dadd (FP.dmul u1 (FP.i2d p1)) (FP.dmul u2 (FP.i2d p2))) (FP.dmul u3 (FP.i2d p3))) (FP.dmul u4 (FP.i2d p4))))])) t → Steps p.tables e below (s₁.setTop (entryFrame m #[(.ref a1), (.int p1), (.int p2), (.int p3), (.int p4), (.int p5)] 6)) t := fun t k => k112 t (by
    show Steps p.tables e below (T111.setTop (mkF m 27 #[.val (.ref a1), .val (.int p1), .val (.int p2), .val (.int p3), .val (.int p4), .val (.int p5)] [(.double u4), (.double (FP.dadd (FP.dadd (FP.dmul u1 (FP.i2d p1)) (FP.dmul u2 (FP.i2d p2))) (FP.dmul u3 (FP.i2d p3))))])) _
    refine XS.iload X111.here hx rfl (hb hby d7_27) rfl ?_
    show Steps p.tables e below (T111.setTop (mkF m 29 #[.val (.ref a1), .val (.int p1), .val (.int p2), .val (.int p3), .val (.int p4), .val (.int p5)] [(.int p4), (.double u4), (.double (FP.dadd (FP.dadd (FP.dmul u1 (FP.i2d p1)) (FP.dmul u2 (FP.i2d p2))) (FP.dmul u3 (FP.i2d p3))))])) _
    refine XS.i2dS X111.here hx rfl (hb hby d7_29) rfl rfl ?_
    show Steps p.tables e below (T111.setTop (mkF m 30 #[.val (.ref a1), .val (.int p1), .val (.int p2), .val (.int p3), .val (.int p4), .val (.int p5)] [(.double (FP.i2d p4)), (.double u4), (.double (FP.dadd (FP.dadd (FP.dmul u1 (FP.i2d p1)) (FP.dmul u2 (FP.i2d p2))) (FP.dmul u3 (FP.i2d p3))))])) _
    refine XS.dmulS X111.here hx rfl (hb hby d7_30) rfl (nn30) rfl ?_
    show Steps p.tables e below (T111.setTop (mkF m 31 #[.val (.ref a1), .val (.int p1), .val (.int p2), .val (.int p3), .val (.int p4), .val (.int p5)] [(.double (FP.dmul u4 (FP.i2d p4))), (.double (FP.dadd (FP.dadd (FP.dmul u1 (FP.i2d p1)) (FP.dmul u2 (FP.i2d p2))) (FP.dmul u3 (FP.i2d p3))))])) _
    refine XS.daddS X111.here hx rfl (hb hby d7_31) rfl (nn31) rfl ?_
    show Steps p.tables e below (T111.setTop (mkF m 32 #[.val (.ref a1), .val (.int p1), .val (.int p2), .val (.int p3), .val (.int p4), .val (.int p5)] [(.double (FP.dadd (FP.dadd (FP.dadd (FP.dmul u1 (FP.i2d p1)) (FP.dmul u2 (FP.i2d p2))) (FP.dmul u3 (FP.i2d p3))) (FP.dmul u4 (FP.i2d p4))))])) _
    refine XS.aloadN X111.here hx rfl (hb hby d7_32) rfl rfl ?_
    exact k)
  obtain ⟨T114, X114, e114, st114⟩ := getF X111 hx hZ hown (host := "") (Or.inl (hw _ (List.mem_of_getElem? (i := 38) rfl))) Via.refl e111 F4 (g := (mkF m 33 #[.val (.ref a1), .val (.int p1), .val (.int p2), .val (.int p3), .val (.int p4), .val (.int p5)] [(.ref a1), (.double (FP.dadd (FP.dadd (FP.dadd (FP.dmul u1 (FP.i2d p1)) (FP.dmul u2 (FP.i2d p2))) (FP.dmul u3 (FP.i2d p3))) (FP.dmul u4 (FP.i2d p4))))])) rfl rfl (hb hby d7_33)
  have k115 : ∀ t, Steps p.tables e below (T114.setTop (mkF m 36 #[.val (.ref a1), .val (.int p1), .val (.int p2), .val (.int p3), .val (.int p4), .val (.int p5)] [(.double u5), (.double (FP.dadd (FP.dadd (FP.dadd (FP.dmul u1 (FP.i2d p1)) (FP.dmul u2 (FP.i2d p2))) (FP.dmul u3 (FP.i2d p3))) (FP.dmul u4 (FP.i2d p4))))])) t → Steps p.tables e below (s₁.setTop (entryFrame m #[(.ref a1), (.int p1), (.int p2), (.int p3), (.int p4), (.int p5)] 6)) t := fun t k => k113 t (st114 t k)
  have k116 : ∀ t, Steps p.tables e below (T114.setTop (mkF m 41 #[.val (.ref a1), .val (.int p1), .val (.int p2), .val (.int p3), .val (.int p4), .val (.int p5)] [(.double (FP.dadd (FP.dadd (FP.dadd (FP.dadd (FP.dmul u1 (FP.i2d p1)) (FP.dmul u2 (FP.i2d p2))) (FP.dmul u3 (FP.i2d p3))) (FP.dmul u4 (FP.i2d p4))) (FP.dmul u5 (FP.i2d p5))))])) t → Steps p.tables e below (s₁.setTop (entryFrame m #[(.ref a1), (.int p1), (.int p2), (.int p3), (.int p4), (.int p5)] 6)) t := fun t k => k115 t (by
    show Steps p.tables e below (T114.setTop (mkF m 36 #[.val (.ref a1), .val (.int p1), .val (.int p2), .val (.int p3), .val (.int p4), .val (.int p5)] [(.double u5), (.double (FP.dadd (FP.dadd (FP.dadd (FP.dmul u1 (FP.i2d p1)) (FP.dmul u2 (FP.i2d p2))) (FP.dmul u3 (FP.i2d p3))) (FP.dmul u4 (FP.i2d p4))))])) _
    refine XS.iload X114.here hx rfl (hb hby d7_36) rfl ?_
    show Steps p.tables e below (T114.setTop (mkF m 38 #[.val (.ref a1), .val (.int p1), .val (.int p2), .val (.int p3), .val (.int p4), .val (.int p5)] [(.int p5), (.double u5), (.double (FP.dadd (FP.dadd (FP.dadd (FP.dmul u1 (FP.i2d p1)) (FP.dmul u2 (FP.i2d p2))) (FP.dmul u3 (FP.i2d p3))) (FP.dmul u4 (FP.i2d p4))))])) _
    refine XS.i2dS X114.here hx rfl (hb hby d7_38) rfl rfl ?_
    show Steps p.tables e below (T114.setTop (mkF m 39 #[.val (.ref a1), .val (.int p1), .val (.int p2), .val (.int p3), .val (.int p4), .val (.int p5)] [(.double (FP.i2d p5)), (.double u5), (.double (FP.dadd (FP.dadd (FP.dadd (FP.dmul u1 (FP.i2d p1)) (FP.dmul u2 (FP.i2d p2))) (FP.dmul u3 (FP.i2d p3))) (FP.dmul u4 (FP.i2d p4))))])) _
    refine XS.dmulS X114.here hx rfl (hb hby d7_39) rfl (nn39) rfl ?_
    show Steps p.tables e below (T114.setTop (mkF m 40 #[.val (.ref a1), .val (.int p1), .val (.int p2), .val (.int p3), .val (.int p4), .val (.int p5)] [(.double (FP.dmul u5 (FP.i2d p5))), (.double (FP.dadd (FP.dadd (FP.dadd (FP.dmul u1 (FP.i2d p1)) (FP.dmul u2 (FP.i2d p2))) (FP.dmul u3 (FP.i2d p3))) (FP.dmul u4 (FP.i2d p4))))])) _
    refine XS.daddS X114.here hx rfl (hb hby d7_40) rfl (nn40) rfl ?_
    exact k)
  obtain ⟨fs, hr, hrun, hended, hW, hsame⟩ := X114.leave (v := some (.double (FP.dadd (FP.dadd (FP.dadd (FP.dadd (FP.dmul u1 (FP.i2d p1)) (FP.dmul u2 (FP.i2d p2))) (FP.dmul u3 (FP.i2d p3))) (FP.dmul u4 (FP.i2d p4))) (FP.dmul u5 (FP.i2d p5))))) (fun h => by rw [Bd.returns] at h; cases h)
  refine ⟨_, _, k116 _ (retOut X114 hx (t := .double) Bd.returns rfl (Or.inr (Or.inr (Or.inl ⟨rfl, rfl, _, rfl⟩))) (hb hby d7_41) hr), hrun, hended, _, _, rfl, ?_, ⟨_, rfl⟩, hW, hsame.mono (by decide) (by decide)⟩
  show Q_rm7 Z a1 p1 p2 p3 p4 p5 u1 u2 u3 u4 u5 h0 n0 _ T114.heap _
  rw [e114]
  exact ⟨rfl, N0, rfl⟩
theorem ef_0_JIIIII (m : MethodId) (x0 : Int64) (x1 : Int32) (x2 : Int32) (x3 : Int32) (x4 : Int32) (x5 : Int32) : entryFrame m #[(.long x0), (.int x1), (.int x2), (.int x3), (.int x4), (.int x5)] maxLocals = mkF m 0 #[.val (.long x0), .second, .val (.int x1), .val (.int x2), .val (.int x3), .val (.int x4), .val (.int x5), .unset, .unset, .unset, .unset, .unset, .unset, .unset, .unset, .unset, .unset] [] := by first | (simp [entryFrame, mkF, argsToLocals, Value.category, maxLocals]; done) | rfl
theorem pd__28JI_29I : parseMethodDescriptor "(JI)I" = some ⟨[.long, .int], some .int⟩ := by decide +kernel
theorem pd__28DDDDD_29V : parseMethodDescriptor "(DDDDD)V" = some ⟨[.double, .double, .double, .double, .double], none⟩ := by decide +kernel
theorem pd__28IIIII_29D : parseMethodDescriptor "(IIIII)D" = some ⟨[.int, .int, .int, .int, .int], some .double⟩ := by decide +kernel
def Q_rm0 (Z : State) (q0 : Int64) (p1 : Int32) (p2 : Int32) (p3 : Int32) (p4 : Int32) (p5 : Int32) (h0 : Heap) (n0 : Nat) (v : Option Value) (h : Heap) (L : List Loc) : Prop := v = some (.int 1) ∧ Fr n0 L
set_option maxRecDepth 65536 in
set_option maxHeartbeats 40000000 in
theorem rm0 (l : Launch) (Z : State) (a0 : Array Value) (hw : ∀ d ∈ tables_1, d.before a0 Z = true) (ws : List Jvm.Cond) (q0 : Int64) (p1 : Int32) (p2 : Int32) (p3 : Int32) (p4 : Int32) (p5 : Int32) (h0 : Heap) (n0 : Nat) (Z0 : n0 ≤ h0.size) :
    MetFree l x (head1 (Jvm.Cond.code x code maxLocals ret :: ws) room_1) (fun a U => a = #[(.long q0), (.int p1), (.int p2), (.int p3), (.int p4), (.int p5)] ∧ Z.Warmed39 U.vm ∧ U.heap = h0) (fun _ _ _ _ _ => True) (fun _ U o U' => ∃ v L, o = .returned v ∧ Q_rm0 Z q0 p1 p2 p3 p4 p5 h0 n0 v U'.heap L ∧ FrameEnd U o U' L room_1.cells room_1.slots) := by
  refine MetFree.of_bodySF (plainFor_of_name pn_com_2fexample_2fliblocus_2fliblocus_2fsentence_2fPartWeightsOmegaPinLaw) hisR ?_
  intro p e s m args below meth c s₁ Bd hml0 hP hK
  obtain ⟨rfl, hZ, hh⟩ := hP
  have hx := Bd.exec
  have hby := Bd.bytes
  have hml : c.maxLocals = 17 := hml0
  have hown : s.vm.findClass "com/example/liblocus/liblocus/sentence/PartWeightsOmegaPinLaw" = some m.cls := findClass_of_methodNamed Bd.named
  have hnm := (name_of_methodNamed Bd.named Bd.method).1
  have X0 : Stand p l e room_1 s m #[(.long q0), (.int p1), (.int p2), (.int p3), (.int p4), (.int p5)] below meth c s₁ [] 0 0 := Stand.of_body Bd
  have e0 : s₁.heap = h0 := by rw [← hh, Bd.state]; rfl
  have N0 := Fr.nil n0
  have k0 : ∀ t, Steps p.tables e below (s₁.setTop (mkF m 0 #[.val (.long q0), .second, .val (.int p1), .val (.int p2), .val (.int p3), .val (.int p4), .val (.int p5), .unset, .unset, .unset, .unset, .unset, .unset, .unset, .unset, .unset, .unset] [])) t → Steps p.tables e below (s₁.setTop (entryFrame m #[(.long q0), (.int p1), (.int p2), (.int p3), (.int p4), (.int p5)] maxLocals)) t := fun t k => castTop (ef_0_JIIIII m q0 p1 p2 p3 p4 p5) k
  have k101 : ∀ t, Steps p.tables e below (s₁.setTop (mkF m 2 #[.val (.long q0), .second, .val (.int p1), .val (.int p2), .val (.int p3), .val (.int p4), .val (.int p5), .unset, .unset, .unset, .unset, .unset, .unset, .unset, .unset, .unset, .unset] [(.int (0 : Int32)), (.long q0)])) t → Steps p.tables e below (s₁.setTop (entryFrame m #[(.long q0), (.int p1), (.int p2), (.int p3), (.int p4), (.int p5)] maxLocals)) t := fun t k => k0 t (by
    show Steps p.tables e below (s₁.setTop (mkF m 0 #[.val (.long q0), .second, .val (.int p1), .val (.int p2), .val (.int p3), .val (.int p4), .val (.int p5), .unset, .unset, .unset, .unset, .unset, .unset, .unset, .unset, .unset, .unset] [])) _
    refine XS.lloadN X0.here hx rfl (hb hby at_0) rfl ?_
    show Steps p.tables e below (s₁.setTop (mkF m 1 #[.val (.long q0), .second, .val (.int p1), .val (.int p2), .val (.int p3), .val (.int p4), .val (.int p5), .unset, .unset, .unset, .unset, .unset, .unset, .unset, .unset, .unset, .unset] [(.long q0)])) _
    refine XS.iconst X0.here hx rfl (hb hby at_1) ?_
    exact k)
  obtain ⟨_, _, ⟨T102, L102, k102, n102⟩, -, X102, ⟨Lc102, hQ102, l102, y102, z102⟩, st102⟩ := Jvm.LawKit.callS X0 hx (y := (⟨"com/example/liblocus/liblocus/sentence/PartWeightsOmegaPinLaw", "field", "(JI)I"⟩ : MethodName)) hown (mvT hZ (hw _ (List.mem_of_getElem? (i := 0) rfl))) (mvT hZ (hw _ (List.mem_of_getElem? (i := 1) rfl))) (mvT hZ (hw _ (List.mem_of_getElem? (i := 2) rfl))) (mvT hZ (hw _ (List.mem_of_getElem? (i := 3) rfl))) (by decide) (backOf (W := 0) (rm1 l Z a0 hw [] q0 (0 : Int32) h0 n0 Z0 ) hZ (hw _ (List.mem_of_getElem? (i := 3) rfl)) (hw _ (List.mem_of_getElem? (i := 2) rfl)) (by decide) (by decide)) (g := (mkF m 2 #[.val (.long q0), .second, .val (.int p1), .val (.int p2), .val (.int p3), .val (.int p4), .val (.int p5), .unset, .unset, .unset, .unset, .unset, .unset, .unset, .unset, .unset, .unset] [(.int (0 : Int32)), (.long q0)])) rfl (by rw [hml]; rfl) (argsL := [(.long q0), (.int (0 : Int32))]) (rest := []) (lenOf pd__28JI_29I rfl) rfl (by show 2 * 0 + _ ≤ _; exact Nat.le_of_eq rfl) (hb hby at_2) (fun _ _ => ⟨rfl, e0, (by decide : 0 + 0 ≤ _), (by decide : 0 + 0 ≤ _)⟩)
  dsimp only [Pt.U, Pt.locs, Pt.cells, Pt.slots] at X102 l102 y102 z102 st102 hQ102
  subst l102 y102 z102
  obtain ⟨rfl, N102q, e102⟩ := hQ102
  have N103 := Fr.app N0 N102q
  have k104 : ∀ t, Steps p.tables e below (T102.setTop (mkF m 5 #[.val (.long q0), .second, .val (.int p1), .val (.int p2), .val (.int p3), .val (.int p4), .val (.int p5), .unset, .unset, .unset, .unset, .unset, .unset, .unset, .unset, .unset, .unset] [(.int (((((q0.toUInt64 >>> (((12 : Int32) * (0 : Int32)) &&& 0x3f).toInt64.toUInt64).toInt64) &&& (4095 : Int64)).toInt32) - (2048 : Int32)))])) t → Steps p.tables e below (s₁.setTop (entryFrame m #[(.long q0), (.int p1), (.int p2), (.int p3), (.int p4), (.int p5)] maxLocals)) t := fun t k => k101 t (st102 t k)
  obtain ⟨f1, hf1⟩ : ∃ z : Int32, z = (((((q0.toUInt64 >>> (((12 : Int32) * (0 : Int32)) &&& 0x3f).toInt64.toUInt64).toInt64) &&& (4095 : Int64)).toInt32) - (2048 : Int32)) := ⟨_, rfl⟩
  have k105 : ∀ t, Steps p.tables e below (T102.setTop (mkF m 9 #[.val (.long q0), .second, .val (.int p1), .val (.int p2), .val (.int p3), .val (.int p4), .val (.int p5), .val (.int f1), .unset, .unset, .unset, .unset, .unset, .unset, .unset, .unset, .unset] [(.int (1 : Int32)), (.long q0)])) t → Steps p.tables e below (s₁.setTop (entryFrame m #[(.long q0), (.int p1), (.int p2), (.int p3), (.int p4), (.int p5)] maxLocals)) t := fun t k => k104 t (by
    show Steps p.tables e below (T102.setTop (mkF m 5 #[.val (.long q0), .second, .val (.int p1), .val (.int p2), .val (.int p3), .val (.int p4), .val (.int p5), .unset, .unset, .unset, .unset, .unset, .unset, .unset, .unset, .unset, .unset] [(.int (((((q0.toUInt64 >>> (((12 : Int32) * (0 : Int32)) &&& 0x3f).toInt64.toUInt64).toInt64) &&& (4095 : Int64)).toInt32) - (2048 : Int32)))])) _
    refine castTop (g' := (mkF m 5 #[.val (.long q0), .second, .val (.int p1), .val (.int p2), .val (.int p3), .val (.int p4), .val (.int p5), .unset, .unset, .unset, .unset, .unset, .unset, .unset, .unset, .unset, .unset] [(.int f1)])) (by rw [hf1]) ?_
    show Steps p.tables e below (T102.setTop (mkF m 5 #[.val (.long q0), .second, .val (.int p1), .val (.int p2), .val (.int p3), .val (.int p4), .val (.int p5), .unset, .unset, .unset, .unset, .unset, .unset, .unset, .unset, .unset, .unset] [(.int f1)])) _
    refine XS.istore X102.here hx rfl (hb hby at_5) rfl (l' := #[.val (.long q0), .second, .val (.int p1), .val (.int p2), .val (.int p3), .val (.int p4), .val (.int p5), .val (.int f1), .unset, .unset, .unset, .unset, .unset, .unset, .unset, .unset, .unset]) rfl ?_
    show Steps p.tables e below (T102.setTop (mkF m 7 #[.val (.long q0), .second, .val (.int p1), .val (.int p2), .val (.int p3), .val (.int p4), .val (.int p5), .val (.int f1), .unset, .unset, .unset, .unset, .unset, .unset, .unset, .unset, .unset] [])) _
    refine XS.lloadN X102.here hx rfl (hb hby at_7) rfl ?_
    show Steps p.tables e below (T102.setTop (mkF m 8 #[.val (.long q0), .second, .val (.int p1), .val (.int p2), .val (.int p3), .val (.int p4), .val (.int p5), .val (.int f1), .unset, .unset, .unset, .unset, .unset, .unset, .unset, .unset, .unset] [(.long q0)])) _
    refine XS.iconst X102.here hx rfl (hb hby at_8) ?_
    exact k)
  obtain ⟨_, _, ⟨T106, L106, k106, n106⟩, -, X106, ⟨Lc106, hQ106, l106, y106, z106⟩, st106⟩ := Jvm.LawKit.callS X102 hx (y := (⟨"com/example/liblocus/liblocus/sentence/PartWeightsOmegaPinLaw", "field", "(JI)I"⟩ : MethodName)) hown (mvT hZ (hw _ (List.mem_of_getElem? (i := 0) rfl))) (mvT hZ (hw _ (List.mem_of_getElem? (i := 1) rfl))) (mvT hZ (hw _ (List.mem_of_getElem? (i := 2) rfl))) (mvT hZ (hw _ (List.mem_of_getElem? (i := 3) rfl))) (by decide) (backOf (W := 0) (rm1 l Z a0 hw [] q0 (1 : Int32) h0 n0 Z0 ) hZ (hw _ (List.mem_of_getElem? (i := 3) rfl)) (hw _ (List.mem_of_getElem? (i := 2) rfl)) (by decide) (by decide)) (g := (mkF m 9 #[.val (.long q0), .second, .val (.int p1), .val (.int p2), .val (.int p3), .val (.int p4), .val (.int p5), .val (.int f1), .unset, .unset, .unset, .unset, .unset, .unset, .unset, .unset, .unset] [(.int (1 : Int32)), (.long q0)])) rfl (by rw [hml]; rfl) (argsL := [(.long q0), (.int (1 : Int32))]) (rest := []) (lenOf pd__28JI_29I rfl) rfl (by show 2 * 0 + _ ≤ _; exact Nat.le_of_eq rfl) (hb hby at_9) (fun _ _ => ⟨rfl, e102, (by decide : 0 + 0 ≤ _), (by decide : 0 + 0 ≤ _)⟩)
  dsimp only [Pt.U, Pt.locs, Pt.cells, Pt.slots] at X106 l106 y106 z106 st106 hQ106
  subst l106 y106 z106
  obtain ⟨rfl, N106q, e106⟩ := hQ106
  have N107 := Fr.app N103 N106q
  have k108 : ∀ t, Steps p.tables e below (T106.setTop (mkF m 12 #[.val (.long q0), .second, .val (.int p1), .val (.int p2), .val (.int p3), .val (.int p4), .val (.int p5), .val (.int f1), .unset, .unset, .unset, .unset, .unset, .unset, .unset, .unset, .unset] [(.int (((((q0.toUInt64 >>> (((12 : Int32) * (1 : Int32)) &&& 0x3f).toInt64.toUInt64).toInt64) &&& (4095 : Int64)).toInt32) - (2048 : Int32)))])) t → Steps p.tables e below (s₁.setTop (entryFrame m #[(.long q0), (.int p1), (.int p2), (.int p3), (.int p4), (.int p5)] maxLocals)) t := fun t k => k105 t (st106 t k)
  obtain ⟨f2, hf2⟩ : ∃ z : Int32, z = (((((q0.toUInt64 >>> (((12 : Int32) * (1 : Int32)) &&& 0x3f).toInt64.toUInt64).toInt64) &&& (4095 : Int64)).toInt32) - (2048 : Int32)) := ⟨_, rfl⟩
  have k109 : ∀ t, Steps p.tables e below (T106.setTop (mkF m 16 #[.val (.long q0), .second, .val (.int p1), .val (.int p2), .val (.int p3), .val (.int p4), .val (.int p5), .val (.int f1), .val (.int f2), .unset, .unset, .unset, .unset, .unset, .unset, .unset, .unset] [(.int (2 : Int32)), (.long q0)])) t → Steps p.tables e below (s₁.setTop (entryFrame m #[(.long q0), (.int p1), (.int p2), (.int p3), (.int p4), (.int p5)] maxLocals)) t := fun t k => k108 t (by
    show Steps p.tables e below (T106.setTop (mkF m 12 #[.val (.long q0), .second, .val (.int p1), .val (.int p2), .val (.int p3), .val (.int p4), .val (.int p5), .val (.int f1), .unset, .unset, .unset, .unset, .unset, .unset, .unset, .unset, .unset] [(.int (((((q0.toUInt64 >>> (((12 : Int32) * (1 : Int32)) &&& 0x3f).toInt64.toUInt64).toInt64) &&& (4095 : Int64)).toInt32) - (2048 : Int32)))])) _
    refine castTop (g' := (mkF m 12 #[.val (.long q0), .second, .val (.int p1), .val (.int p2), .val (.int p3), .val (.int p4), .val (.int p5), .val (.int f1), .unset, .unset, .unset, .unset, .unset, .unset, .unset, .unset, .unset] [(.int f2)])) (by rw [hf2]) ?_
    show Steps p.tables e below (T106.setTop (mkF m 12 #[.val (.long q0), .second, .val (.int p1), .val (.int p2), .val (.int p3), .val (.int p4), .val (.int p5), .val (.int f1), .unset, .unset, .unset, .unset, .unset, .unset, .unset, .unset, .unset] [(.int f2)])) _
    refine XS.istore X106.here hx rfl (hb hby at_12) rfl (l' := #[.val (.long q0), .second, .val (.int p1), .val (.int p2), .val (.int p3), .val (.int p4), .val (.int p5), .val (.int f1), .val (.int f2), .unset, .unset, .unset, .unset, .unset, .unset, .unset, .unset]) rfl ?_
    show Steps p.tables e below (T106.setTop (mkF m 14 #[.val (.long q0), .second, .val (.int p1), .val (.int p2), .val (.int p3), .val (.int p4), .val (.int p5), .val (.int f1), .val (.int f2), .unset, .unset, .unset, .unset, .unset, .unset, .unset, .unset] [])) _
    refine XS.lloadN X106.here hx rfl (hb hby at_14) rfl ?_
    show Steps p.tables e below (T106.setTop (mkF m 15 #[.val (.long q0), .second, .val (.int p1), .val (.int p2), .val (.int p3), .val (.int p4), .val (.int p5), .val (.int f1), .val (.int f2), .unset, .unset, .unset, .unset, .unset, .unset, .unset, .unset] [(.long q0)])) _
    refine XS.iconst X106.here hx rfl (hb hby at_15) ?_
    exact k)
  obtain ⟨_, _, ⟨T110, L110, k110, n110⟩, -, X110, ⟨Lc110, hQ110, l110, y110, z110⟩, st110⟩ := Jvm.LawKit.callS X106 hx (y := (⟨"com/example/liblocus/liblocus/sentence/PartWeightsOmegaPinLaw", "field", "(JI)I"⟩ : MethodName)) hown (mvT hZ (hw _ (List.mem_of_getElem? (i := 0) rfl))) (mvT hZ (hw _ (List.mem_of_getElem? (i := 1) rfl))) (mvT hZ (hw _ (List.mem_of_getElem? (i := 2) rfl))) (mvT hZ (hw _ (List.mem_of_getElem? (i := 3) rfl))) (by decide) (backOf (W := 0) (rm1 l Z a0 hw [] q0 (2 : Int32) h0 n0 Z0 ) hZ (hw _ (List.mem_of_getElem? (i := 3) rfl)) (hw _ (List.mem_of_getElem? (i := 2) rfl)) (by decide) (by decide)) (g := (mkF m 16 #[.val (.long q0), .second, .val (.int p1), .val (.int p2), .val (.int p3), .val (.int p4), .val (.int p5), .val (.int f1), .val (.int f2), .unset, .unset, .unset, .unset, .unset, .unset, .unset, .unset] [(.int (2 : Int32)), (.long q0)])) rfl (by rw [hml]; rfl) (argsL := [(.long q0), (.int (2 : Int32))]) (rest := []) (lenOf pd__28JI_29I rfl) rfl (by show 2 * 0 + _ ≤ _; exact Nat.le_of_eq rfl) (hb hby at_16) (fun _ _ => ⟨rfl, e106, (by decide : 0 + 0 ≤ _), (by decide : 0 + 0 ≤ _)⟩)
  dsimp only [Pt.U, Pt.locs, Pt.cells, Pt.slots] at X110 l110 y110 z110 st110 hQ110
  subst l110 y110 z110
  obtain ⟨rfl, N110q, e110⟩ := hQ110
  have N111 := Fr.app N107 N110q
  have k112 : ∀ t, Steps p.tables e below (T110.setTop (mkF m 19 #[.val (.long q0), .second, .val (.int p1), .val (.int p2), .val (.int p3), .val (.int p4), .val (.int p5), .val (.int f1), .val (.int f2), .unset, .unset, .unset, .unset, .unset, .unset, .unset, .unset] [(.int (((((q0.toUInt64 >>> (((12 : Int32) * (2 : Int32)) &&& 0x3f).toInt64.toUInt64).toInt64) &&& (4095 : Int64)).toInt32) - (2048 : Int32)))])) t → Steps p.tables e below (s₁.setTop (entryFrame m #[(.long q0), (.int p1), (.int p2), (.int p3), (.int p4), (.int p5)] maxLocals)) t := fun t k => k109 t (st110 t k)
  obtain ⟨f3, hf3⟩ : ∃ z : Int32, z = (((((q0.toUInt64 >>> (((12 : Int32) * (2 : Int32)) &&& 0x3f).toInt64.toUInt64).toInt64) &&& (4095 : Int64)).toInt32) - (2048 : Int32)) := ⟨_, rfl⟩
  have k113 : ∀ t, Steps p.tables e below (T110.setTop (mkF m 23 #[.val (.long q0), .second, .val (.int p1), .val (.int p2), .val (.int p3), .val (.int p4), .val (.int p5), .val (.int f1), .val (.int f2), .val (.int f3), .unset, .unset, .unset, .unset, .unset, .unset, .unset] [(.int (3 : Int32)), (.long q0)])) t → Steps p.tables e below (s₁.setTop (entryFrame m #[(.long q0), (.int p1), (.int p2), (.int p3), (.int p4), (.int p5)] maxLocals)) t := fun t k => k112 t (by
    show Steps p.tables e below (T110.setTop (mkF m 19 #[.val (.long q0), .second, .val (.int p1), .val (.int p2), .val (.int p3), .val (.int p4), .val (.int p5), .val (.int f1), .val (.int f2), .unset, .unset, .unset, .unset, .unset, .unset, .unset, .unset] [(.int (((((q0.toUInt64 >>> (((12 : Int32) * (2 : Int32)) &&& 0x3f).toInt64.toUInt64).toInt64) &&& (4095 : Int64)).toInt32) - (2048 : Int32)))])) _
    refine castTop (g' := (mkF m 19 #[.val (.long q0), .second, .val (.int p1), .val (.int p2), .val (.int p3), .val (.int p4), .val (.int p5), .val (.int f1), .val (.int f2), .unset, .unset, .unset, .unset, .unset, .unset, .unset, .unset] [(.int f3)])) (by rw [hf3]) ?_
    show Steps p.tables e below (T110.setTop (mkF m 19 #[.val (.long q0), .second, .val (.int p1), .val (.int p2), .val (.int p3), .val (.int p4), .val (.int p5), .val (.int f1), .val (.int f2), .unset, .unset, .unset, .unset, .unset, .unset, .unset, .unset] [(.int f3)])) _
    refine XS.istore X110.here hx rfl (hb hby at_19) rfl (l' := #[.val (.long q0), .second, .val (.int p1), .val (.int p2), .val (.int p3), .val (.int p4), .val (.int p5), .val (.int f1), .val (.int f2), .val (.int f3), .unset, .unset, .unset, .unset, .unset, .unset, .unset]) rfl ?_
    show Steps p.tables e below (T110.setTop (mkF m 21 #[.val (.long q0), .second, .val (.int p1), .val (.int p2), .val (.int p3), .val (.int p4), .val (.int p5), .val (.int f1), .val (.int f2), .val (.int f3), .unset, .unset, .unset, .unset, .unset, .unset, .unset] [])) _
    refine XS.lloadN X110.here hx rfl (hb hby at_21) rfl ?_
    show Steps p.tables e below (T110.setTop (mkF m 22 #[.val (.long q0), .second, .val (.int p1), .val (.int p2), .val (.int p3), .val (.int p4), .val (.int p5), .val (.int f1), .val (.int f2), .val (.int f3), .unset, .unset, .unset, .unset, .unset, .unset, .unset] [(.long q0)])) _
    refine XS.iconst X110.here hx rfl (hb hby at_22) ?_
    exact k)
  obtain ⟨_, _, ⟨T114, L114, k114, n114⟩, -, X114, ⟨Lc114, hQ114, l114, y114, z114⟩, st114⟩ := Jvm.LawKit.callS X110 hx (y := (⟨"com/example/liblocus/liblocus/sentence/PartWeightsOmegaPinLaw", "field", "(JI)I"⟩ : MethodName)) hown (mvT hZ (hw _ (List.mem_of_getElem? (i := 0) rfl))) (mvT hZ (hw _ (List.mem_of_getElem? (i := 1) rfl))) (mvT hZ (hw _ (List.mem_of_getElem? (i := 2) rfl))) (mvT hZ (hw _ (List.mem_of_getElem? (i := 3) rfl))) (by decide) (backOf (W := 0) (rm1 l Z a0 hw [] q0 (3 : Int32) h0 n0 Z0 ) hZ (hw _ (List.mem_of_getElem? (i := 3) rfl)) (hw _ (List.mem_of_getElem? (i := 2) rfl)) (by decide) (by decide)) (g := (mkF m 23 #[.val (.long q0), .second, .val (.int p1), .val (.int p2), .val (.int p3), .val (.int p4), .val (.int p5), .val (.int f1), .val (.int f2), .val (.int f3), .unset, .unset, .unset, .unset, .unset, .unset, .unset] [(.int (3 : Int32)), (.long q0)])) rfl (by rw [hml]; rfl) (argsL := [(.long q0), (.int (3 : Int32))]) (rest := []) (lenOf pd__28JI_29I rfl) rfl (by show 2 * 0 + _ ≤ _; exact Nat.le_of_eq rfl) (hb hby at_23) (fun _ _ => ⟨rfl, e110, (by decide : 0 + 0 ≤ _), (by decide : 0 + 0 ≤ _)⟩)
  dsimp only [Pt.U, Pt.locs, Pt.cells, Pt.slots] at X114 l114 y114 z114 st114 hQ114
  subst l114 y114 z114
  obtain ⟨rfl, N114q, e114⟩ := hQ114
  have N115 := Fr.app N111 N114q
  have k116 : ∀ t, Steps p.tables e below (T114.setTop (mkF m 26 #[.val (.long q0), .second, .val (.int p1), .val (.int p2), .val (.int p3), .val (.int p4), .val (.int p5), .val (.int f1), .val (.int f2), .val (.int f3), .unset, .unset, .unset, .unset, .unset, .unset, .unset] [(.int (((((q0.toUInt64 >>> (((12 : Int32) * (3 : Int32)) &&& 0x3f).toInt64.toUInt64).toInt64) &&& (4095 : Int64)).toInt32) - (2048 : Int32)))])) t → Steps p.tables e below (s₁.setTop (entryFrame m #[(.long q0), (.int p1), (.int p2), (.int p3), (.int p4), (.int p5)] maxLocals)) t := fun t k => k113 t (st114 t k)
  obtain ⟨f4, hf4⟩ : ∃ z : Int32, z = (((((q0.toUInt64 >>> (((12 : Int32) * (3 : Int32)) &&& 0x3f).toInt64.toUInt64).toInt64) &&& (4095 : Int64)).toInt32) - (2048 : Int32)) := ⟨_, rfl⟩
  have k117 : ∀ t, Steps p.tables e below (T114.setTop (mkF m 30 #[.val (.long q0), .second, .val (.int p1), .val (.int p2), .val (.int p3), .val (.int p4), .val (.int p5), .val (.int f1), .val (.int f2), .val (.int f3), .val (.int f4), .unset, .unset, .unset, .unset, .unset, .unset] [(.int (4 : Int32)), (.long q0)])) t → Steps p.tables e below (s₁.setTop (entryFrame m #[(.long q0), (.int p1), (.int p2), (.int p3), (.int p4), (.int p5)] maxLocals)) t := fun t k => k116 t (by
    show Steps p.tables e below (T114.setTop (mkF m 26 #[.val (.long q0), .second, .val (.int p1), .val (.int p2), .val (.int p3), .val (.int p4), .val (.int p5), .val (.int f1), .val (.int f2), .val (.int f3), .unset, .unset, .unset, .unset, .unset, .unset, .unset] [(.int (((((q0.toUInt64 >>> (((12 : Int32) * (3 : Int32)) &&& 0x3f).toInt64.toUInt64).toInt64) &&& (4095 : Int64)).toInt32) - (2048 : Int32)))])) _
    refine castTop (g' := (mkF m 26 #[.val (.long q0), .second, .val (.int p1), .val (.int p2), .val (.int p3), .val (.int p4), .val (.int p5), .val (.int f1), .val (.int f2), .val (.int f3), .unset, .unset, .unset, .unset, .unset, .unset, .unset] [(.int f4)])) (by rw [hf4]) ?_
    show Steps p.tables e below (T114.setTop (mkF m 26 #[.val (.long q0), .second, .val (.int p1), .val (.int p2), .val (.int p3), .val (.int p4), .val (.int p5), .val (.int f1), .val (.int f2), .val (.int f3), .unset, .unset, .unset, .unset, .unset, .unset, .unset] [(.int f4)])) _
    refine XS.istore X114.here hx rfl (hb hby at_26) rfl (l' := #[.val (.long q0), .second, .val (.int p1), .val (.int p2), .val (.int p3), .val (.int p4), .val (.int p5), .val (.int f1), .val (.int f2), .val (.int f3), .val (.int f4), .unset, .unset, .unset, .unset, .unset, .unset]) rfl ?_
    show Steps p.tables e below (T114.setTop (mkF m 28 #[.val (.long q0), .second, .val (.int p1), .val (.int p2), .val (.int p3), .val (.int p4), .val (.int p5), .val (.int f1), .val (.int f2), .val (.int f3), .val (.int f4), .unset, .unset, .unset, .unset, .unset, .unset] [])) _
    refine XS.lloadN X114.here hx rfl (hb hby at_28) rfl ?_
    show Steps p.tables e below (T114.setTop (mkF m 29 #[.val (.long q0), .second, .val (.int p1), .val (.int p2), .val (.int p3), .val (.int p4), .val (.int p5), .val (.int f1), .val (.int f2), .val (.int f3), .val (.int f4), .unset, .unset, .unset, .unset, .unset, .unset] [(.long q0)])) _
    refine XS.iconst X114.here hx rfl (hb hby at_29) ?_
    exact k)
  obtain ⟨_, _, ⟨T118, L118, k118, n118⟩, -, X118, ⟨Lc118, hQ118, l118, y118, z118⟩, st118⟩ := Jvm.LawKit.callS X114 hx (y := (⟨"com/example/liblocus/liblocus/sentence/PartWeightsOmegaPinLaw", "field", "(JI)I"⟩ : MethodName)) hown (mvT hZ (hw _ (List.mem_of_getElem? (i := 0) rfl))) (mvT hZ (hw _ (List.mem_of_getElem? (i := 1) rfl))) (mvT hZ (hw _ (List.mem_of_getElem? (i := 2) rfl))) (mvT hZ (hw _ (List.mem_of_getElem? (i := 3) rfl))) (by decide) (backOf (W := 0) (rm1 l Z a0 hw [] q0 (4 : Int32) h0 n0 Z0 ) hZ (hw _ (List.mem_of_getElem? (i := 3) rfl)) (hw _ (List.mem_of_getElem? (i := 2) rfl)) (by decide) (by decide)) (g := (mkF m 30 #[.val (.long q0), .second, .val (.int p1), .val (.int p2), .val (.int p3), .val (.int p4), .val (.int p5), .val (.int f1), .val (.int f2), .val (.int f3), .val (.int f4), .unset, .unset, .unset, .unset, .unset, .unset] [(.int (4 : Int32)), (.long q0)])) rfl (by rw [hml]; rfl) (argsL := [(.long q0), (.int (4 : Int32))]) (rest := []) (lenOf pd__28JI_29I rfl) rfl (by show 2 * 0 + _ ≤ _; exact Nat.le_of_eq rfl) (hb hby at_30) (fun _ _ => ⟨rfl, e114, (by decide : 0 + 0 ≤ _), (by decide : 0 + 0 ≤ _)⟩)
  dsimp only [Pt.U, Pt.locs, Pt.cells, Pt.slots] at X118 l118 y118 z118 st118 hQ118
  subst l118 y118 z118
  obtain ⟨rfl, N118q, e118⟩ := hQ118
  have N119 := Fr.app N115 N118q
  have k120 : ∀ t, Steps p.tables e below (T118.setTop (mkF m 33 #[.val (.long q0), .second, .val (.int p1), .val (.int p2), .val (.int p3), .val (.int p4), .val (.int p5), .val (.int f1), .val (.int f2), .val (.int f3), .val (.int f4), .unset, .unset, .unset, .unset, .unset, .unset] [(.int (((((q0.toUInt64 >>> (((12 : Int32) * (4 : Int32)) &&& 0x3f).toInt64.toUInt64).toInt64) &&& (4095 : Int64)).toInt32) - (2048 : Int32)))])) t → Steps p.tables e below (s₁.setTop (entryFrame m #[(.long q0), (.int p1), (.int p2), (.int p3), (.int p4), (.int p5)] maxLocals)) t := fun t k => k117 t (st118 t k)
  obtain ⟨f5, hf5⟩ : ∃ z : Int32, z = (((((q0.toUInt64 >>> (((12 : Int32) * (4 : Int32)) &&& 0x3f).toInt64.toUInt64).toInt64) &&& (4095 : Int64)).toInt32) - (2048 : Int32)) := ⟨_, rfl⟩
  have k121 : ∀ t, Steps p.tables e below (T118.setTop (mkF m 35 #[.val (.long q0), .second, .val (.int p1), .val (.int p2), .val (.int p3), .val (.int p4), .val (.int p5), .val (.int f1), .val (.int f2), .val (.int f3), .val (.int f4), .val (.int f5), .unset, .unset, .unset, .unset, .unset] [])) t → Steps p.tables e below (s₁.setTop (entryFrame m #[(.long q0), (.int p1), (.int p2), (.int p3), (.int p4), (.int p5)] maxLocals)) t := fun t k => k120 t (by
    show Steps p.tables e below (T118.setTop (mkF m 33 #[.val (.long q0), .second, .val (.int p1), .val (.int p2), .val (.int p3), .val (.int p4), .val (.int p5), .val (.int f1), .val (.int f2), .val (.int f3), .val (.int f4), .unset, .unset, .unset, .unset, .unset, .unset] [(.int (((((q0.toUInt64 >>> (((12 : Int32) * (4 : Int32)) &&& 0x3f).toInt64.toUInt64).toInt64) &&& (4095 : Int64)).toInt32) - (2048 : Int32)))])) _
    refine castTop (g' := (mkF m 33 #[.val (.long q0), .second, .val (.int p1), .val (.int p2), .val (.int p3), .val (.int p4), .val (.int p5), .val (.int f1), .val (.int f2), .val (.int f3), .val (.int f4), .unset, .unset, .unset, .unset, .unset, .unset] [(.int f5)])) (by rw [hf5]) ?_
    show Steps p.tables e below (T118.setTop (mkF m 33 #[.val (.long q0), .second, .val (.int p1), .val (.int p2), .val (.int p3), .val (.int p4), .val (.int p5), .val (.int f1), .val (.int f2), .val (.int f3), .val (.int f4), .unset, .unset, .unset, .unset, .unset, .unset] [(.int f5)])) _
    refine XS.istore X118.here hx rfl (hb hby at_33) rfl (l' := #[.val (.long q0), .second, .val (.int p1), .val (.int p2), .val (.int p3), .val (.int p4), .val (.int p5), .val (.int f1), .val (.int f2), .val (.int f3), .val (.int f4), .val (.int f5), .unset, .unset, .unset, .unset, .unset]) rfl ?_
    exact k)
  have B1 : -2048 ≤ f1.toInt ∧ f1.toInt ≤ 2047 := by rw [hf1]; exact own_field _ _
  have B2 : -2048 ≤ f2.toInt ∧ f2.toInt ≤ 2047 := by rw [hf2]; exact own_field _ _
  have B3 : -2048 ≤ f3.toInt ∧ f3.toInt ≤ 2047 := by rw [hf3]; exact own_field _ _
  have B4 : -2048 ≤ f4.toInt ∧ f4.toInt ≤ 2047 := by rw [hf4]; exact own_field _ _
  have B5 : -2048 ≤ f5.toInt ∧ f5.toInt ≤ 2047 := by rw [hf5]; exact own_field _ _
  obtain ⟨T122, h122, X122, e122, E122, A122, D122, -, st122⟩ := newO X118 hx hZ hown (hw _ (List.mem_of_getElem? (i := 5) rfl)) (hw _ (List.mem_of_getElem? (i := 6) rfl)) (hw _ (List.mem_of_getElem? (i := 7) rfl)) e118 (g := (mkF m 35 #[.val (.long q0), .second, .val (.int p1), .val (.int p2), .val (.int p3), .val (.int p4), .val (.int p5), .val (.int f1), .val (.int f2), .val (.int f3), .val (.int f4), .val (.int f5), .unset, .unset, .unset, .unset, .unset] [])) rfl (hb hby at_35) (by decide) (by decide)
  obtain ⟨b122, g122⟩ : ∃ z, z = h0.size := ⟨_, rfl⟩
  rw [← g122] at A122 D122 st122
  have g123 : n0 ≤ b122 := Nat.le_trans Z0 (Nat.le_of_eq g122.symm)
  have Z124 : n0 ≤ h122.size := Nat.le_trans Z0 E122.1
  have F125 : Fld Z h122 b122 "com/example/liblocus/liblocus/sentence/PartWeights" "title" "D" (.double (0 : UInt64)) := D122 (Or.inr (hw _ (List.mem_of_getElem? (i := 31) rfl))) (ty := .double) (by decide)
  have F126 : Fld Z h122 b122 "com/example/liblocus/liblocus/sentence/PartWeights" "description" "D" (.double (0 : UInt64)) := D122 (Or.inr (hw _ (List.mem_of_getElem? (i := 33) rfl))) (ty := .double) (by decide)
  have F127 : Fld Z h122 b122 "com/example/liblocus/liblocus/sentence/PartWeights" "positiveNarrative" "D" (.double (0 : UInt64)) := D122 (Or.inr (hw _ (List.mem_of_getElem? (i := 35) rfl))) (ty := .double) (by decide)
  have F128 : Fld Z h122 b122 "com/example/liblocus/liblocus/sentence/PartWeights" "sharedNegative" "D" (.double (0 : UInt64)) := D122 (Or.inr (hw _ (List.mem_of_getElem? (i := 37) rfl))) (ty := .double) (by decide)
  have F129 : Fld Z h122 b122 "com/example/liblocus/liblocus/sentence/PartWeights" "ownNegative" "D" (.double (0 : UInt64)) := D122 (Or.inr (hw _ (List.mem_of_getElem? (i := 39) rfl))) (ty := .double) (by decide)
  have k130 : ∀ t, Steps p.tables e below (T122.setTop (mkF m 38 #[.val (.long q0), .second, .val (.int p1), .val (.int p2), .val (.int p3), .val (.int p4), .val (.int p5), .val (.int f1), .val (.int f2), .val (.int f3), .val (.int f4), .val (.int f5), .unset, .unset, .unset, .unset, .unset] [(.ref b122)])) t → Steps p.tables e below (s₁.setTop (entryFrame m #[(.long q0), (.int p1), (.int p2), (.int p3), (.int p4), (.int p5)] maxLocals)) t := fun t k => k121 t (st122 t k)
  obtain ⟨x1, hx1⟩ : ∃ z : UInt64, FP.i2d f1 = z := ⟨_, rfl⟩
  have Dx1 : Dy (f1.toInt) (0) x1 := by rw [← hx1]; exact Dy.i2d _
  obtain ⟨u1, hu1⟩ : ∃ z : UInt64, FP.ddiv x1 (4616189618054758400 : UInt64) = z := ⟨_, rfl⟩
  have Du1 : Dy (f1.toInt) (2) u1 := by rw [← hu1]; exact Dy.div Dx1 own_4 (by decide) (by omega) (by decide) (by omega)
  obtain ⟨x2, hx2⟩ : ∃ z : UInt64, FP.i2d f2 = z := ⟨_, rfl⟩
  have Dx2 : Dy (f2.toInt) (0) x2 := by rw [← hx2]; exact Dy.i2d _
  obtain ⟨u2, hu2⟩ : ∃ z : UInt64, FP.ddiv x2 (4616189618054758400 : UInt64) = z := ⟨_, rfl⟩
  have Du2 : Dy (f2.toInt) (2) u2 := by rw [← hu2]; exact Dy.div Dx2 own_4 (by decide) (by omega) (by decide) (by omega)
  obtain ⟨x3, hx3⟩ : ∃ z : UInt64, FP.i2d f3 = z := ⟨_, rfl⟩
  have Dx3 : Dy (f3.toInt) (0) x3 := by rw [← hx3]; exact Dy.i2d _
  obtain ⟨u3, hu3⟩ : ∃ z : UInt64, FP.ddiv x3 (4616189618054758400 : UInt64) = z := ⟨_, rfl⟩
  have Du3 : Dy (f3.toInt) (2) u3 := by rw [← hu3]; exact Dy.div Dx3 own_4 (by decide) (by omega) (by decide) (by omega)
  obtain ⟨x4, hx4⟩ : ∃ z : UInt64, FP.i2d f4 = z := ⟨_, rfl⟩
  have Dx4 : Dy (f4.toInt) (0) x4 := by rw [← hx4]; exact Dy.i2d _
  obtain ⟨u4, hu4⟩ : ∃ z : UInt64, FP.ddiv x4 (4616189618054758400 : UInt64) = z := ⟨_, rfl⟩
  have Du4 : Dy (f4.toInt) (2) u4 := by rw [← hu4]; exact Dy.div Dx4 own_4 (by decide) (by omega) (by decide) (by omega)
  obtain ⟨x5, hx5⟩ : ∃ z : UInt64, FP.i2d f5 = z := ⟨_, rfl⟩
  have Dx5 : Dy (f5.toInt) (0) x5 := by rw [← hx5]; exact Dy.i2d _
  obtain ⟨u5, hu5⟩ : ∃ z : UInt64, FP.ddiv x5 (4616189618054758400 : UInt64) = z := ⟨_, rfl⟩
  have Du5 : Dy (f5.toInt) (2) u5 := by rw [← hu5]; exact Dy.div Dx5 own_4 (by decide) (by omega) (by decide) (by omega)
  have k131 : ∀ t, Steps p.tables e below (T122.setTop (mkF m 74 #[.val (.long q0), .second, .val (.int p1), .val (.int p2), .val (.int p3), .val (.int p4), .val (.int p5), .val (.int f1), .val (.int f2), .val (.int f3), .val (.int f4), .val (.int f5), .unset, .unset, .unset, .unset, .unset] [(.double u5), (.double u4), (.double u3), (.double u2), (.double u1), (.ref b122), (.ref b122)])) t → Steps p.tables e below (s₁.setTop (entryFrame m #[(.long q0), (.int p1), (.int p2), (.int p3), (.int p4), (.int p5)] maxLocals)) t := fun t k => k130 t (by
    show Steps p.tables e below (T122.setTop (mkF m 38 #[.val (.long q0), .second, .val (.int p1), .val (.int p2), .val (.int p3), .val (.int p4), .val (.int p5), .val (.int f1), .val (.int f2), .val (.int f3), .val (.int f4), .val (.int f5), .unset, .unset, .unset, .unset, .unset] [(.ref b122)])) _
    refine XS.dup X122.here hx rfl (hb hby at_38) rfl rfl ?_
    show Steps p.tables e below (T122.setTop (mkF m 39 #[.val (.long q0), .second, .val (.int p1), .val (.int p2), .val (.int p3), .val (.int p4), .val (.int p5), .val (.int f1), .val (.int f2), .val (.int f3), .val (.int f4), .val (.int f5), .unset, .unset, .unset, .unset, .unset] [(.ref b122), (.ref b122)])) _
    refine XS.iload X122.here hx rfl (hb hby at_39) rfl ?_
    show Steps p.tables e below (T122.setTop (mkF m 41 #[.val (.long q0), .second, .val (.int p1), .val (.int p2), .val (.int p3), .val (.int p4), .val (.int p5), .val (.int f1), .val (.int f2), .val (.int f3), .val (.int f4), .val (.int f5), .unset, .unset, .unset, .unset, .unset] [(.int f1), (.ref b122), (.ref b122)])) _
    refine XS.i2dS X122.here hx rfl (hb hby at_41) rfl hx1 ?_
    show Steps p.tables e below (T122.setTop (mkF m 42 #[.val (.long q0), .second, .val (.int p1), .val (.int p2), .val (.int p3), .val (.int p4), .val (.int p5), .val (.int f1), .val (.int f2), .val (.int f3), .val (.int f4), .val (.int f5), .unset, .unset, .unset, .unset, .unset] [(.double x1), (.ref b122), (.ref b122)])) _
    refine X122.ldc2DoubleC hx hown (mvT hZ (hw _ (List.mem_of_getElem? (i := 8) rfl))) (g := (mkF m 42 #[.val (.long q0), .second, .val (.int p1), .val (.int p2), .val (.int p3), .val (.int p4), .val (.int p5), .val (.int f1), .val (.int f2), .val (.int f3), .val (.int f4), .val (.int f5), .unset, .unset, .unset, .unset, .unset] [(.double x1), (.ref b122), (.ref b122)])) rfl (hb hby at_42) _ ?_
    show Steps p.tables e below (T122.setTop (mkF m 45 #[.val (.long q0), .second, .val (.int p1), .val (.int p2), .val (.int p3), .val (.int p4), .val (.int p5), .val (.int f1), .val (.int f2), .val (.int f3), .val (.int f4), .val (.int f5), .unset, .unset, .unset, .unset, .unset] [(.double (4616189618054758400 : UInt64)), (.double x1), (.ref b122), (.ref b122)])) _
    refine XS.ddivS X122.here hx rfl (hb hby at_45) rfl (by rw [hu1]; exact Du1.nn) hu1 ?_
    show Steps p.tables e below (T122.setTop (mkF m 46 #[.val (.long q0), .second, .val (.int p1), .val (.int p2), .val (.int p3), .val (.int p4), .val (.int p5), .val (.int f1), .val (.int f2), .val (.int f3), .val (.int f4), .val (.int f5), .unset, .unset, .unset, .unset, .unset] [(.double u1), (.ref b122), (.ref b122)])) _
    refine XS.iload X122.here hx rfl (hb hby at_46) rfl ?_
    show Steps p.tables e below (T122.setTop (mkF m 48 #[.val (.long q0), .second, .val (.int p1), .val (.int p2), .val (.int p3), .val (.int p4), .val (.int p5), .val (.int f1), .val (.int f2), .val (.int f3), .val (.int f4), .val (.int f5), .unset, .unset, .unset, .unset, .unset] [(.int f2), (.double u1), (.ref b122), (.ref b122)])) _
    refine XS.i2dS X122.here hx rfl (hb hby at_48) rfl hx2 ?_
    show Steps p.tables e below (T122.setTop (mkF m 49 #[.val (.long q0), .second, .val (.int p1), .val (.int p2), .val (.int p3), .val (.int p4), .val (.int p5), .val (.int f1), .val (.int f2), .val (.int f3), .val (.int f4), .val (.int f5), .unset, .unset, .unset, .unset, .unset] [(.double x2), (.double u1), (.ref b122), (.ref b122)])) _
    refine X122.ldc2DoubleC hx hown (mvT hZ (hw _ (List.mem_of_getElem? (i := 8) rfl))) (g := (mkF m 49 #[.val (.long q0), .second, .val (.int p1), .val (.int p2), .val (.int p3), .val (.int p4), .val (.int p5), .val (.int f1), .val (.int f2), .val (.int f3), .val (.int f4), .val (.int f5), .unset, .unset, .unset, .unset, .unset] [(.double x2), (.double u1), (.ref b122), (.ref b122)])) rfl (hb hby at_49) _ ?_
    show Steps p.tables e below (T122.setTop (mkF m 52 #[.val (.long q0), .second, .val (.int p1), .val (.int p2), .val (.int p3), .val (.int p4), .val (.int p5), .val (.int f1), .val (.int f2), .val (.int f3), .val (.int f4), .val (.int f5), .unset, .unset, .unset, .unset, .unset] [(.double (4616189618054758400 : UInt64)), (.double x2), (.double u1), (.ref b122), (.ref b122)])) _
    refine XS.ddivS X122.here hx rfl (hb hby at_52) rfl (by rw [hu2]; exact Du2.nn) hu2 ?_
    show Steps p.tables e below (T122.setTop (mkF m 53 #[.val (.long q0), .second, .val (.int p1), .val (.int p2), .val (.int p3), .val (.int p4), .val (.int p5), .val (.int f1), .val (.int f2), .val (.int f3), .val (.int f4), .val (.int f5), .unset, .unset, .unset, .unset, .unset] [(.double u2), (.double u1), (.ref b122), (.ref b122)])) _
    refine XS.iload X122.here hx rfl (hb hby at_53) rfl ?_
    show Steps p.tables e below (T122.setTop (mkF m 55 #[.val (.long q0), .second, .val (.int p1), .val (.int p2), .val (.int p3), .val (.int p4), .val (.int p5), .val (.int f1), .val (.int f2), .val (.int f3), .val (.int f4), .val (.int f5), .unset, .unset, .unset, .unset, .unset] [(.int f3), (.double u2), (.double u1), (.ref b122), (.ref b122)])) _
    refine XS.i2dS X122.here hx rfl (hb hby at_55) rfl hx3 ?_
    show Steps p.tables e below (T122.setTop (mkF m 56 #[.val (.long q0), .second, .val (.int p1), .val (.int p2), .val (.int p3), .val (.int p4), .val (.int p5), .val (.int f1), .val (.int f2), .val (.int f3), .val (.int f4), .val (.int f5), .unset, .unset, .unset, .unset, .unset] [(.double x3), (.double u2), (.double u1), (.ref b122), (.ref b122)])) _
    refine X122.ldc2DoubleC hx hown (mvT hZ (hw _ (List.mem_of_getElem? (i := 8) rfl))) (g := (mkF m 56 #[.val (.long q0), .second, .val (.int p1), .val (.int p2), .val (.int p3), .val (.int p4), .val (.int p5), .val (.int f1), .val (.int f2), .val (.int f3), .val (.int f4), .val (.int f5), .unset, .unset, .unset, .unset, .unset] [(.double x3), (.double u2), (.double u1), (.ref b122), (.ref b122)])) rfl (hb hby at_56) _ ?_
    show Steps p.tables e below (T122.setTop (mkF m 59 #[.val (.long q0), .second, .val (.int p1), .val (.int p2), .val (.int p3), .val (.int p4), .val (.int p5), .val (.int f1), .val (.int f2), .val (.int f3), .val (.int f4), .val (.int f5), .unset, .unset, .unset, .unset, .unset] [(.double (4616189618054758400 : UInt64)), (.double x3), (.double u2), (.double u1), (.ref b122), (.ref b122)])) _
    refine XS.ddivS X122.here hx rfl (hb hby at_59) rfl (by rw [hu3]; exact Du3.nn) hu3 ?_
    show Steps p.tables e below (T122.setTop (mkF m 60 #[.val (.long q0), .second, .val (.int p1), .val (.int p2), .val (.int p3), .val (.int p4), .val (.int p5), .val (.int f1), .val (.int f2), .val (.int f3), .val (.int f4), .val (.int f5), .unset, .unset, .unset, .unset, .unset] [(.double u3), (.double u2), (.double u1), (.ref b122), (.ref b122)])) _
    refine XS.iload X122.here hx rfl (hb hby at_60) rfl ?_
    show Steps p.tables e below (T122.setTop (mkF m 62 #[.val (.long q0), .second, .val (.int p1), .val (.int p2), .val (.int p3), .val (.int p4), .val (.int p5), .val (.int f1), .val (.int f2), .val (.int f3), .val (.int f4), .val (.int f5), .unset, .unset, .unset, .unset, .unset] [(.int f4), (.double u3), (.double u2), (.double u1), (.ref b122), (.ref b122)])) _
    refine XS.i2dS X122.here hx rfl (hb hby at_62) rfl hx4 ?_
    show Steps p.tables e below (T122.setTop (mkF m 63 #[.val (.long q0), .second, .val (.int p1), .val (.int p2), .val (.int p3), .val (.int p4), .val (.int p5), .val (.int f1), .val (.int f2), .val (.int f3), .val (.int f4), .val (.int f5), .unset, .unset, .unset, .unset, .unset] [(.double x4), (.double u3), (.double u2), (.double u1), (.ref b122), (.ref b122)])) _
    refine X122.ldc2DoubleC hx hown (mvT hZ (hw _ (List.mem_of_getElem? (i := 8) rfl))) (g := (mkF m 63 #[.val (.long q0), .second, .val (.int p1), .val (.int p2), .val (.int p3), .val (.int p4), .val (.int p5), .val (.int f1), .val (.int f2), .val (.int f3), .val (.int f4), .val (.int f5), .unset, .unset, .unset, .unset, .unset] [(.double x4), (.double u3), (.double u2), (.double u1), (.ref b122), (.ref b122)])) rfl (hb hby at_63) _ ?_
    show Steps p.tables e below (T122.setTop (mkF m 66 #[.val (.long q0), .second, .val (.int p1), .val (.int p2), .val (.int p3), .val (.int p4), .val (.int p5), .val (.int f1), .val (.int f2), .val (.int f3), .val (.int f4), .val (.int f5), .unset, .unset, .unset, .unset, .unset] [(.double (4616189618054758400 : UInt64)), (.double x4), (.double u3), (.double u2), (.double u1), (.ref b122), (.ref b122)])) _
    refine XS.ddivS X122.here hx rfl (hb hby at_66) rfl (by rw [hu4]; exact Du4.nn) hu4 ?_
    show Steps p.tables e below (T122.setTop (mkF m 67 #[.val (.long q0), .second, .val (.int p1), .val (.int p2), .val (.int p3), .val (.int p4), .val (.int p5), .val (.int f1), .val (.int f2), .val (.int f3), .val (.int f4), .val (.int f5), .unset, .unset, .unset, .unset, .unset] [(.double u4), (.double u3), (.double u2), (.double u1), (.ref b122), (.ref b122)])) _
    refine XS.iload X122.here hx rfl (hb hby at_67) rfl ?_
    show Steps p.tables e below (T122.setTop (mkF m 69 #[.val (.long q0), .second, .val (.int p1), .val (.int p2), .val (.int p3), .val (.int p4), .val (.int p5), .val (.int f1), .val (.int f2), .val (.int f3), .val (.int f4), .val (.int f5), .unset, .unset, .unset, .unset, .unset] [(.int f5), (.double u4), (.double u3), (.double u2), (.double u1), (.ref b122), (.ref b122)])) _
    refine XS.i2dS X122.here hx rfl (hb hby at_69) rfl hx5 ?_
    show Steps p.tables e below (T122.setTop (mkF m 70 #[.val (.long q0), .second, .val (.int p1), .val (.int p2), .val (.int p3), .val (.int p4), .val (.int p5), .val (.int f1), .val (.int f2), .val (.int f3), .val (.int f4), .val (.int f5), .unset, .unset, .unset, .unset, .unset] [(.double x5), (.double u4), (.double u3), (.double u2), (.double u1), (.ref b122), (.ref b122)])) _
    refine X122.ldc2DoubleC hx hown (mvT hZ (hw _ (List.mem_of_getElem? (i := 8) rfl))) (g := (mkF m 70 #[.val (.long q0), .second, .val (.int p1), .val (.int p2), .val (.int p3), .val (.int p4), .val (.int p5), .val (.int f1), .val (.int f2), .val (.int f3), .val (.int f4), .val (.int f5), .unset, .unset, .unset, .unset, .unset] [(.double x5), (.double u4), (.double u3), (.double u2), (.double u1), (.ref b122), (.ref b122)])) rfl (hb hby at_70) _ ?_
    show Steps p.tables e below (T122.setTop (mkF m 73 #[.val (.long q0), .second, .val (.int p1), .val (.int p2), .val (.int p3), .val (.int p4), .val (.int p5), .val (.int f1), .val (.int f2), .val (.int f3), .val (.int f4), .val (.int f5), .unset, .unset, .unset, .unset, .unset] [(.double (4616189618054758400 : UInt64)), (.double x5), (.double u4), (.double u3), (.double u2), (.double u1), (.ref b122), (.ref b122)])) _
    refine XS.ddivS X122.here hx rfl (hb hby at_73) rfl (by rw [hu5]; exact Du5.nn) hu5 ?_
    exact k)
  obtain ⟨_, _, ⟨T132, L132, k132, n132⟩, -, X132, ⟨Lc132, hQ132, l132, y132, z132⟩, st132⟩ := X122.specialBack hx (y := (⟨"com/example/liblocus/liblocus/sentence/PartWeights", "<init>", "(DDDDD)V"⟩ : MethodName)) rfl hown (mvT hZ (hw _ (List.mem_of_getElem? (i := 9) rfl))) (mvT hZ (hw _ (List.mem_of_getElem? (i := 10) rfl))) (mvT hZ (hw _ (List.mem_of_getElem? (i := 11) rfl))) (by decide) (backOf (W := 1) (rm2 l Z a0 hw [] b122 u1 u2 u3 u4 u5 h122 n0 Z124 F125 F126 F127 F128 F129 A122 g123 Du1.fin Du2.fin Du3.fin Du4.fin Du5.fin) hZ (hw _ (List.mem_of_getElem? (i := 11) rfl)) (hw _ (List.mem_of_getElem? (i := 7) rfl)) (by decide) (by decide)) (g := (mkF m 74 #[.val (.long q0), .second, .val (.int p1), .val (.int p2), .val (.int p3), .val (.int p4), .val (.int p5), .val (.int f1), .val (.int f2), .val (.int f3), .val (.int f4), .val (.int f5), .unset, .unset, .unset, .unset, .unset] [(.double u5), (.double u4), (.double u3), (.double u2), (.double u1), (.ref b122), (.ref b122)])) rfl (by rw [hml]; rfl) (Steps.refl _) (a := b122) (argsL := [(.double u1), (.double u2), (.double u3), (.double u4), (.double u5)]) (rest := [(.ref b122)]) (lenOf pd__28DDDDD_29V rfl) rfl (by show 2 * 0 + _ ≤ _; exact Nat.le_of_eq rfl) (hb hby at_74) (fun _ _ => ⟨rfl, e122, (by decide : 1 + 1 ≤ _), (by decide : 5 + 5 ≤ _)⟩)
  dsimp only [Pt.U, Pt.locs, Pt.cells, Pt.slots] at X132 l132 y132 z132 st132 hQ132
  subst l132 y132 z132
  obtain ⟨h132, e132⟩ : ∃ h', T132.heap = h' := ⟨_, rfl⟩
  rw [e132] at hQ132
  obtain ⟨rfl, N132q, K132, G132e, G132a, G132b, G132c, G132d, G132f⟩ := hQ132
  have N133 := Fr.app N119 N132q
  have k134 : ∀ t, Steps p.tables e below (T132.setTop (mkF m 77 #[.val (.long q0), .second, .val (.int p1), .val (.int p2), .val (.int p3), .val (.int p4), .val (.int p5), .val (.int f1), .val (.int f2), .val (.int f3), .val (.int f4), .val (.int f5), .unset, .unset, .unset, .unset, .unset] [(.ref b122)])) t → Steps p.tables e below (s₁.setTop (entryFrame m #[(.long q0), (.int p1), (.int p2), (.int p3), (.int p4), (.int p5)] maxLocals)) t := fun t k => k131 t (st132.trans k)
  have F135 := A122.keep K132
  have Z136 : n0 ≤ h132.size := Nat.le_trans Z124 K132.1
  obtain ⟨O1, O2, O3, O4, O5, O6, O7, O8, O9⟩ := own_omega B1 B2 B3 B4 B5 (rng32 p1) (rng32 p2) (rng32 p3) (rng32 p4) (rng32 p5) Du1 Du2 Du3 Du4 Du5 (Dy.i2d p1) (Dy.i2d p2) (Dy.i2d p3) (Dy.i2d p4) (Dy.i2d p5)
  have k137 : ∀ t, Steps p.tables e below (T132.setTop (mkF m 89 #[.val (.long q0), .second, .val (.int p1), .val (.int p2), .val (.int p3), .val (.int p4), .val (.int p5), .val (.int f1), .val (.int f2), .val (.int f3), .val (.int f4), .val (.int f5), .val (.ref b122), .unset, .unset, .unset, .unset] [(.int p5), (.int p4), (.int p3), (.int p2), (.int p1), (.ref b122)])) t → Steps p.tables e below (s₁.setTop (entryFrame m #[(.long q0), (.int p1), (.int p2), (.int p3), (.int p4), (.int p5)] maxLocals)) t := fun t k => k134 t (by
    show Steps p.tables e below (T132.setTop (mkF m 77 #[.val (.long q0), .second, .val (.int p1), .val (.int p2), .val (.int p3), .val (.int p4), .val (.int p5), .val (.int f1), .val (.int f2), .val (.int f3), .val (.int f4), .val (.int f5), .unset, .unset, .unset, .unset, .unset] [(.ref b122)])) _
    refine XS.astore X132.here hx rfl (hb hby at_77) rfl rfl (l' := #[.val (.long q0), .second, .val (.int p1), .val (.int p2), .val (.int p3), .val (.int p4), .val (.int p5), .val (.int f1), .val (.int f2), .val (.int f3), .val (.int f4), .val (.int f5), .val (.ref b122), .unset, .unset, .unset, .unset]) rfl ?_
    show Steps p.tables e below (T132.setTop (mkF m 79 #[.val (.long q0), .second, .val (.int p1), .val (.int p2), .val (.int p3), .val (.int p4), .val (.int p5), .val (.int f1), .val (.int f2), .val (.int f3), .val (.int f4), .val (.int f5), .val (.ref b122), .unset, .unset, .unset, .unset] [])) _
    refine XS.aload X132.here hx rfl (hb hby at_79) rfl rfl ?_
    show Steps p.tables e below (T132.setTop (mkF m 81 #[.val (.long q0), .second, .val (.int p1), .val (.int p2), .val (.int p3), .val (.int p4), .val (.int p5), .val (.int f1), .val (.int f2), .val (.int f3), .val (.int f4), .val (.int f5), .val (.ref b122), .unset, .unset, .unset, .unset] [(.ref b122)])) _
    refine XS.iloadN X132.here hx rfl (hb hby at_81) rfl ?_
    show Steps p.tables e below (T132.setTop (mkF m 82 #[.val (.long q0), .second, .val (.int p1), .val (.int p2), .val (.int p3), .val (.int p4), .val (.int p5), .val (.int f1), .val (.int f2), .val (.int f3), .val (.int f4), .val (.int f5), .val (.ref b122), .unset, .unset, .unset, .unset] [(.int p1), (.ref b122)])) _
    refine XS.iloadN X132.here hx rfl (hb hby at_82) rfl ?_
    show Steps p.tables e below (T132.setTop (mkF m 83 #[.val (.long q0), .second, .val (.int p1), .val (.int p2), .val (.int p3), .val (.int p4), .val (.int p5), .val (.int f1), .val (.int f2), .val (.int f3), .val (.int f4), .val (.int f5), .val (.ref b122), .unset, .unset, .unset, .unset] [(.int p2), (.int p1), (.ref b122)])) _
    refine XS.iload X132.here hx rfl (hb hby at_83) rfl ?_
    show Steps p.tables e below (T132.setTop (mkF m 85 #[.val (.long q0), .second, .val (.int p1), .val (.int p2), .val (.int p3), .val (.int p4), .val (.int p5), .val (.int f1), .val (.int f2), .val (.int f3), .val (.int f4), .val (.int f5), .val (.ref b122), .unset, .unset, .unset, .unset] [(.int p3), (.int p2), (.int p1), (.ref b122)])) _
    refine XS.iload X132.here hx rfl (hb hby at_85) rfl ?_
    show Steps p.tables e below (T132.setTop (mkF m 87 #[.val (.long q0), .second, .val (.int p1), .val (.int p2), .val (.int p3), .val (.int p4), .val (.int p5), .val (.int f1), .val (.int f2), .val (.int f3), .val (.int f4), .val (.int f5), .val (.ref b122), .unset, .unset, .unset, .unset] [(.int p4), (.int p3), (.int p2), (.int p1), (.ref b122)])) _
    refine XS.iload X132.here hx rfl (hb hby at_87) rfl ?_
    exact k)
  obtain ⟨cq138, kq138, q138a, q138b, q138c⟩ := isOf hZ e132 G132e
  obtain ⟨_, _, ⟨T138, L138, k138, n138⟩, -, X138, ⟨Lc138, hQ138, l138, y138, z138⟩, st138⟩ := X132.virtualBack hx (y := (⟨"com/example/liblocus/liblocus/sentence/PartWeights", "omega", "(IIIII)D"⟩ : MethodName)) (z := (⟨"com/example/liblocus/liblocus/sentence/PartWeights", "omega", "(IIIII)D"⟩ : MethodName)) hown (mvT hZ (hw _ (List.mem_of_getElem? (i := 40) rfl))) (mvT hZ (hw _ (List.mem_of_getElem? (i := 41) rfl))) (notFace_of_selects (args := #[]) (mvT hZ (hw _ (List.mem_of_getElem? (i := 43) rfl)))) (mvT hZ (hw _ (List.mem_of_getElem? (i := 43) rfl))) (mvT hZ (hw _ (List.mem_of_getElem? (i := 42) rfl))) (by decide) (backOf (W := 0) (rm7 l Z a0 hw [] b122 p1 p2 p3 p4 p5 u1 u2 u3 u4 u5 h132 n0 Z136 G132a G132b G132c G132d G132f O1.nn O2.nn O3.nn O4.nn O5.nn O6.nn O7.nn O8.nn O9.nn) hZ (hw _ (List.mem_of_getElem? (i := 44) rfl)) (hw _ (List.mem_of_getElem? (i := 7) rfl)) (by decide) (by decide)) q138a q138c (g := (mkF m 89 #[.val (.long q0), .second, .val (.int p1), .val (.int p2), .val (.int p3), .val (.int p4), .val (.int p5), .val (.int f1), .val (.int f2), .val (.int f3), .val (.int f4), .val (.int f5), .val (.ref b122), .unset, .unset, .unset, .unset] [(.int p5), (.int p4), (.int p3), (.int p2), (.int p1), (.ref b122)])) rfl (by rw [hml]; rfl) (Steps.refl _) (argsL := [(.int p1), (.int p2), (.int p3), (.int p4), (.int p5)]) (rest := []) (lenOf pd__28IIIII_29D rfl) rfl (by show 2 * 0 + _ ≤ _; exact Nat.le_of_eq rfl) (hb hby at_89) (fun _ _ => ⟨rfl, e132, (by decide : 2 + 0 ≤ _), (by decide : 10 + 0 ≤ _)⟩)
  dsimp only [Pt.U, Pt.locs, Pt.cells, Pt.slots] at X138 l138 y138 z138 st138 hQ138
  subst l138 y138 z138
  obtain ⟨rfl, N138q, e138⟩ := hQ138
  have N139 := Fr.app N133 N138q
  have k140 : ∀ t, Steps p.tables e below (T138.setTop (mkF m 92 #[.val (.long q0), .second, .val (.int p1), .val (.int p2), .val (.int p3), .val (.int p4), .val (.int p5), .val (.int f1), .val (.int f2), .val (.int f3), .val (.int f4), .val (.int f5), .val (.ref b122), .unset, .unset, .unset, .unset] [(.double (FP.dadd (FP.dadd (FP.dadd (FP.dadd (FP.dmul u1 (FP.i2d p1)) (FP.dmul u2 (FP.i2d p2))) (FP.dmul u3 (FP.i2d p3))) (FP.dmul u4 (FP.i2d p4))) (FP.dmul u5 (FP.i2d p5))))])) t → Steps p.tables e below (s₁.setTop (entryFrame m #[(.long q0), (.int p1), (.int p2), (.int p3), (.int p4), (.int p5)] maxLocals)) t := fun t k => k137 t (st138.trans k)
  obtain ⟨got, hgot⟩ : ∃ z : UInt64, z = (FP.dadd (FP.dadd (FP.dadd (FP.dadd (FP.dmul u1 (FP.i2d p1)) (FP.dmul u2 (FP.i2d p2))) (FP.dmul u3 (FP.i2d p3))) (FP.dmul u4 (FP.i2d p4))) (FP.dmul u5 (FP.i2d p5))) := ⟨_, rfl⟩
  obtain ⟨ref, href⟩ : ∃ z : Int64, z = ((((((f1.toInt64) * (p1.toInt64)) + ((f2.toInt64) * (p2.toInt64))) + ((f3.toInt64) * (p3.toInt64))) + ((f4.toInt64) * (p4.toInt64))) + ((f5.toInt64) * (p5.toInt64))) := ⟨_, rfl⟩
  have k141 : ∀ t, Steps p.tables e below (T138.setTop (mkF m 133 #[.val (.long q0), .second, .val (.int p1), .val (.int p2), .val (.int p3), .val (.int p4), .val (.int p5), .val (.int f1), .val (.int f2), .val (.int f3), .val (.int f4), .val (.int f5), .val (.ref b122), .val (.double got), .second, .val (.long ref), .second] [])) t → Steps p.tables e below (s₁.setTop (entryFrame m #[(.long q0), (.int p1), (.int p2), (.int p3), (.int p4), (.int p5)] maxLocals)) t := fun t k => k140 t (by
    show Steps p.tables e below (T138.setTop (mkF m 92 #[.val (.long q0), .second, .val (.int p1), .val (.int p2), .val (.int p3), .val (.int p4), .val (.int p5), .val (.int f1), .val (.int f2), .val (.int f3), .val (.int f4), .val (.int f5), .val (.ref b122), .unset, .unset, .unset, .unset] [(.double (FP.dadd (FP.dadd (FP.dadd (FP.dadd (FP.dmul u1 (FP.i2d p1)) (FP.dmul u2 (FP.i2d p2))) (FP.dmul u3 (FP.i2d p3))) (FP.dmul u4 (FP.i2d p4))) (FP.dmul u5 (FP.i2d p5))))])) _
    refine castTop (g' := (mkF m 92 #[.val (.long q0), .second, .val (.int p1), .val (.int p2), .val (.int p3), .val (.int p4), .val (.int p5), .val (.int f1), .val (.int f2), .val (.int f3), .val (.int f4), .val (.int f5), .val (.ref b122), .unset, .unset, .unset, .unset] [(.double got)])) (by rw [hgot]) ?_
    show Steps p.tables e below (T138.setTop (mkF m 92 #[.val (.long q0), .second, .val (.int p1), .val (.int p2), .val (.int p3), .val (.int p4), .val (.int p5), .val (.int f1), .val (.int f2), .val (.int f3), .val (.int f4), .val (.int f5), .val (.ref b122), .unset, .unset, .unset, .unset] [(.double got)])) _
    refine XS.dstore X138.here hx rfl (hb hby at_92) rfl (l' := #[.val (.long q0), .second, .val (.int p1), .val (.int p2), .val (.int p3), .val (.int p4), .val (.int p5), .val (.int f1), .val (.int f2), .val (.int f3), .val (.int f4), .val (.int f5), .val (.ref b122), .val (.double got), .second, .unset, .unset]) rfl ?_
    show Steps p.tables e below (T138.setTop (mkF m 94 #[.val (.long q0), .second, .val (.int p1), .val (.int p2), .val (.int p3), .val (.int p4), .val (.int p5), .val (.int f1), .val (.int f2), .val (.int f3), .val (.int f4), .val (.int f5), .val (.ref b122), .val (.double got), .second, .unset, .unset] [])) _
    refine XS.iload X138.here hx rfl (hb hby at_94) rfl ?_
    show Steps p.tables e below (T138.setTop (mkF m 96 #[.val (.long q0), .second, .val (.int p1), .val (.int p2), .val (.int p3), .val (.int p4), .val (.int p5), .val (.int f1), .val (.int f2), .val (.int f3), .val (.int f4), .val (.int f5), .val (.ref b122), .val (.double got), .second, .unset, .unset] [(.int f1)])) _
    refine XS.i2l X138.here hx rfl (hb hby at_96) rfl ?_
    show Steps p.tables e below (T138.setTop (mkF m 97 #[.val (.long q0), .second, .val (.int p1), .val (.int p2), .val (.int p3), .val (.int p4), .val (.int p5), .val (.int f1), .val (.int f2), .val (.int f3), .val (.int f4), .val (.int f5), .val (.ref b122), .val (.double got), .second, .unset, .unset] [(.long (f1.toInt64))])) _
    refine XS.iloadN X138.here hx rfl (hb hby at_97) rfl ?_
    show Steps p.tables e below (T138.setTop (mkF m 98 #[.val (.long q0), .second, .val (.int p1), .val (.int p2), .val (.int p3), .val (.int p4), .val (.int p5), .val (.int f1), .val (.int f2), .val (.int f3), .val (.int f4), .val (.int f5), .val (.ref b122), .val (.double got), .second, .unset, .unset] [(.int p1), (.long (f1.toInt64))])) _
    refine XS.i2l X138.here hx rfl (hb hby at_98) rfl ?_
    show Steps p.tables e below (T138.setTop (mkF m 99 #[.val (.long q0), .second, .val (.int p1), .val (.int p2), .val (.int p3), .val (.int p4), .val (.int p5), .val (.int f1), .val (.int f2), .val (.int f3), .val (.int f4), .val (.int f5), .val (.ref b122), .val (.double got), .second, .unset, .unset] [(.long (p1.toInt64)), (.long (f1.toInt64))])) _
    refine XS.lmul X138.here hx rfl (hb hby at_99) rfl ?_
    show Steps p.tables e below (T138.setTop (mkF m 100 #[.val (.long q0), .second, .val (.int p1), .val (.int p2), .val (.int p3), .val (.int p4), .val (.int p5), .val (.int f1), .val (.int f2), .val (.int f3), .val (.int f4), .val (.int f5), .val (.ref b122), .val (.double got), .second, .unset, .unset] [(.long ((f1.toInt64) * (p1.toInt64)))])) _
    refine XS.iload X138.here hx rfl (hb hby at_100) rfl ?_
    show Steps p.tables e below (T138.setTop (mkF m 102 #[.val (.long q0), .second, .val (.int p1), .val (.int p2), .val (.int p3), .val (.int p4), .val (.int p5), .val (.int f1), .val (.int f2), .val (.int f3), .val (.int f4), .val (.int f5), .val (.ref b122), .val (.double got), .second, .unset, .unset] [(.int f2), (.long ((f1.toInt64) * (p1.toInt64)))])) _
    refine XS.i2l X138.here hx rfl (hb hby at_102) rfl ?_
    show Steps p.tables e below (T138.setTop (mkF m 103 #[.val (.long q0), .second, .val (.int p1), .val (.int p2), .val (.int p3), .val (.int p4), .val (.int p5), .val (.int f1), .val (.int f2), .val (.int f3), .val (.int f4), .val (.int f5), .val (.ref b122), .val (.double got), .second, .unset, .unset] [(.long (f2.toInt64)), (.long ((f1.toInt64) * (p1.toInt64)))])) _
    refine XS.iloadN X138.here hx rfl (hb hby at_103) rfl ?_
    show Steps p.tables e below (T138.setTop (mkF m 104 #[.val (.long q0), .second, .val (.int p1), .val (.int p2), .val (.int p3), .val (.int p4), .val (.int p5), .val (.int f1), .val (.int f2), .val (.int f3), .val (.int f4), .val (.int f5), .val (.ref b122), .val (.double got), .second, .unset, .unset] [(.int p2), (.long (f2.toInt64)), (.long ((f1.toInt64) * (p1.toInt64)))])) _
    refine XS.i2l X138.here hx rfl (hb hby at_104) rfl ?_
    show Steps p.tables e below (T138.setTop (mkF m 105 #[.val (.long q0), .second, .val (.int p1), .val (.int p2), .val (.int p3), .val (.int p4), .val (.int p5), .val (.int f1), .val (.int f2), .val (.int f3), .val (.int f4), .val (.int f5), .val (.ref b122), .val (.double got), .second, .unset, .unset] [(.long (p2.toInt64)), (.long (f2.toInt64)), (.long ((f1.toInt64) * (p1.toInt64)))])) _
    refine XS.lmul X138.here hx rfl (hb hby at_105) rfl ?_
    show Steps p.tables e below (T138.setTop (mkF m 106 #[.val (.long q0), .second, .val (.int p1), .val (.int p2), .val (.int p3), .val (.int p4), .val (.int p5), .val (.int f1), .val (.int f2), .val (.int f3), .val (.int f4), .val (.int f5), .val (.ref b122), .val (.double got), .second, .unset, .unset] [(.long ((f2.toInt64) * (p2.toInt64))), (.long ((f1.toInt64) * (p1.toInt64)))])) _
    refine XS.ladd X138.here hx rfl (hb hby at_106) rfl ?_
    show Steps p.tables e below (T138.setTop (mkF m 107 #[.val (.long q0), .second, .val (.int p1), .val (.int p2), .val (.int p3), .val (.int p4), .val (.int p5), .val (.int f1), .val (.int f2), .val (.int f3), .val (.int f4), .val (.int f5), .val (.ref b122), .val (.double got), .second, .unset, .unset] [(.long (((f1.toInt64) * (p1.toInt64)) + ((f2.toInt64) * (p2.toInt64))))])) _
    refine XS.iload X138.here hx rfl (hb hby at_107) rfl ?_
    show Steps p.tables e below (T138.setTop (mkF m 109 #[.val (.long q0), .second, .val (.int p1), .val (.int p2), .val (.int p3), .val (.int p4), .val (.int p5), .val (.int f1), .val (.int f2), .val (.int f3), .val (.int f4), .val (.int f5), .val (.ref b122), .val (.double got), .second, .unset, .unset] [(.int f3), (.long (((f1.toInt64) * (p1.toInt64)) + ((f2.toInt64) * (p2.toInt64))))])) _
    refine XS.i2l X138.here hx rfl (hb hby at_109) rfl ?_
    show Steps p.tables e below (T138.setTop (mkF m 110 #[.val (.long q0), .second, .val (.int p1), .val (.int p2), .val (.int p3), .val (.int p4), .val (.int p5), .val (.int f1), .val (.int f2), .val (.int f3), .val (.int f4), .val (.int f5), .val (.ref b122), .val (.double got), .second, .unset, .unset] [(.long (f3.toInt64)), (.long (((f1.toInt64) * (p1.toInt64)) + ((f2.toInt64) * (p2.toInt64))))])) _
    refine XS.iload X138.here hx rfl (hb hby at_110) rfl ?_
    show Steps p.tables e below (T138.setTop (mkF m 112 #[.val (.long q0), .second, .val (.int p1), .val (.int p2), .val (.int p3), .val (.int p4), .val (.int p5), .val (.int f1), .val (.int f2), .val (.int f3), .val (.int f4), .val (.int f5), .val (.ref b122), .val (.double got), .second, .unset, .unset] [(.int p3), (.long (f3.toInt64)), (.long (((f1.toInt64) * (p1.toInt64)) + ((f2.toInt64) * (p2.toInt64))))])) _
    refine XS.i2l X138.here hx rfl (hb hby at_112) rfl ?_
    show Steps p.tables e below (T138.setTop (mkF m 113 #[.val (.long q0), .second, .val (.int p1), .val (.int p2), .val (.int p3), .val (.int p4), .val (.int p5), .val (.int f1), .val (.int f2), .val (.int f3), .val (.int f4), .val (.int f5), .val (.ref b122), .val (.double got), .second, .unset, .unset] [(.long (p3.toInt64)), (.long (f3.toInt64)), (.long (((f1.toInt64) * (p1.toInt64)) + ((f2.toInt64) * (p2.toInt64))))])) _
    refine XS.lmul X138.here hx rfl (hb hby at_113) rfl ?_
    show Steps p.tables e below (T138.setTop (mkF m 114 #[.val (.long q0), .second, .val (.int p1), .val (.int p2), .val (.int p3), .val (.int p4), .val (.int p5), .val (.int f1), .val (.int f2), .val (.int f3), .val (.int f4), .val (.int f5), .val (.ref b122), .val (.double got), .second, .unset, .unset] [(.long ((f3.toInt64) * (p3.toInt64))), (.long (((f1.toInt64) * (p1.toInt64)) + ((f2.toInt64) * (p2.toInt64))))])) _
    refine XS.ladd X138.here hx rfl (hb hby at_114) rfl ?_
    show Steps p.tables e below (T138.setTop (mkF m 115 #[.val (.long q0), .second, .val (.int p1), .val (.int p2), .val (.int p3), .val (.int p4), .val (.int p5), .val (.int f1), .val (.int f2), .val (.int f3), .val (.int f4), .val (.int f5), .val (.ref b122), .val (.double got), .second, .unset, .unset] [(.long ((((f1.toInt64) * (p1.toInt64)) + ((f2.toInt64) * (p2.toInt64))) + ((f3.toInt64) * (p3.toInt64))))])) _
    refine XS.iload X138.here hx rfl (hb hby at_115) rfl ?_
    show Steps p.tables e below (T138.setTop (mkF m 117 #[.val (.long q0), .second, .val (.int p1), .val (.int p2), .val (.int p3), .val (.int p4), .val (.int p5), .val (.int f1), .val (.int f2), .val (.int f3), .val (.int f4), .val (.int f5), .val (.ref b122), .val (.double got), .second, .unset, .unset] [(.int f4), (.long ((((f1.toInt64) * (p1.toInt64)) + ((f2.toInt64) * (p2.toInt64))) + ((f3.toInt64) * (p3.toInt64))))])) _
    refine XS.i2l X138.here hx rfl (hb hby at_117) rfl ?_
    show Steps p.tables e below (T138.setTop (mkF m 118 #[.val (.long q0), .second, .val (.int p1), .val (.int p2), .val (.int p3), .val (.int p4), .val (.int p5), .val (.int f1), .val (.int f2), .val (.int f3), .val (.int f4), .val (.int f5), .val (.ref b122), .val (.double got), .second, .unset, .unset] [(.long (f4.toInt64)), (.long ((((f1.toInt64) * (p1.toInt64)) + ((f2.toInt64) * (p2.toInt64))) + ((f3.toInt64) * (p3.toInt64))))])) _
    refine XS.iload X138.here hx rfl (hb hby at_118) rfl ?_
    show Steps p.tables e below (T138.setTop (mkF m 120 #[.val (.long q0), .second, .val (.int p1), .val (.int p2), .val (.int p3), .val (.int p4), .val (.int p5), .val (.int f1), .val (.int f2), .val (.int f3), .val (.int f4), .val (.int f5), .val (.ref b122), .val (.double got), .second, .unset, .unset] [(.int p4), (.long (f4.toInt64)), (.long ((((f1.toInt64) * (p1.toInt64)) + ((f2.toInt64) * (p2.toInt64))) + ((f3.toInt64) * (p3.toInt64))))])) _
    refine XS.i2l X138.here hx rfl (hb hby at_120) rfl ?_
    show Steps p.tables e below (T138.setTop (mkF m 121 #[.val (.long q0), .second, .val (.int p1), .val (.int p2), .val (.int p3), .val (.int p4), .val (.int p5), .val (.int f1), .val (.int f2), .val (.int f3), .val (.int f4), .val (.int f5), .val (.ref b122), .val (.double got), .second, .unset, .unset] [(.long (p4.toInt64)), (.long (f4.toInt64)), (.long ((((f1.toInt64) * (p1.toInt64)) + ((f2.toInt64) * (p2.toInt64))) + ((f3.toInt64) * (p3.toInt64))))])) _
    refine XS.lmul X138.here hx rfl (hb hby at_121) rfl ?_
    show Steps p.tables e below (T138.setTop (mkF m 122 #[.val (.long q0), .second, .val (.int p1), .val (.int p2), .val (.int p3), .val (.int p4), .val (.int p5), .val (.int f1), .val (.int f2), .val (.int f3), .val (.int f4), .val (.int f5), .val (.ref b122), .val (.double got), .second, .unset, .unset] [(.long ((f4.toInt64) * (p4.toInt64))), (.long ((((f1.toInt64) * (p1.toInt64)) + ((f2.toInt64) * (p2.toInt64))) + ((f3.toInt64) * (p3.toInt64))))])) _
    refine XS.ladd X138.here hx rfl (hb hby at_122) rfl ?_
    show Steps p.tables e below (T138.setTop (mkF m 123 #[.val (.long q0), .second, .val (.int p1), .val (.int p2), .val (.int p3), .val (.int p4), .val (.int p5), .val (.int f1), .val (.int f2), .val (.int f3), .val (.int f4), .val (.int f5), .val (.ref b122), .val (.double got), .second, .unset, .unset] [(.long (((((f1.toInt64) * (p1.toInt64)) + ((f2.toInt64) * (p2.toInt64))) + ((f3.toInt64) * (p3.toInt64))) + ((f4.toInt64) * (p4.toInt64))))])) _
    refine XS.iload X138.here hx rfl (hb hby at_123) rfl ?_
    show Steps p.tables e below (T138.setTop (mkF m 125 #[.val (.long q0), .second, .val (.int p1), .val (.int p2), .val (.int p3), .val (.int p4), .val (.int p5), .val (.int f1), .val (.int f2), .val (.int f3), .val (.int f4), .val (.int f5), .val (.ref b122), .val (.double got), .second, .unset, .unset] [(.int f5), (.long (((((f1.toInt64) * (p1.toInt64)) + ((f2.toInt64) * (p2.toInt64))) + ((f3.toInt64) * (p3.toInt64))) + ((f4.toInt64) * (p4.toInt64))))])) _
    refine XS.i2l X138.here hx rfl (hb hby at_125) rfl ?_
    show Steps p.tables e below (T138.setTop (mkF m 126 #[.val (.long q0), .second, .val (.int p1), .val (.int p2), .val (.int p3), .val (.int p4), .val (.int p5), .val (.int f1), .val (.int f2), .val (.int f3), .val (.int f4), .val (.int f5), .val (.ref b122), .val (.double got), .second, .unset, .unset] [(.long (f5.toInt64)), (.long (((((f1.toInt64) * (p1.toInt64)) + ((f2.toInt64) * (p2.toInt64))) + ((f3.toInt64) * (p3.toInt64))) + ((f4.toInt64) * (p4.toInt64))))])) _
    refine XS.iload X138.here hx rfl (hb hby at_126) rfl ?_
    show Steps p.tables e below (T138.setTop (mkF m 128 #[.val (.long q0), .second, .val (.int p1), .val (.int p2), .val (.int p3), .val (.int p4), .val (.int p5), .val (.int f1), .val (.int f2), .val (.int f3), .val (.int f4), .val (.int f5), .val (.ref b122), .val (.double got), .second, .unset, .unset] [(.int p5), (.long (f5.toInt64)), (.long (((((f1.toInt64) * (p1.toInt64)) + ((f2.toInt64) * (p2.toInt64))) + ((f3.toInt64) * (p3.toInt64))) + ((f4.toInt64) * (p4.toInt64))))])) _
    refine XS.i2l X138.here hx rfl (hb hby at_128) rfl ?_
    show Steps p.tables e below (T138.setTop (mkF m 129 #[.val (.long q0), .second, .val (.int p1), .val (.int p2), .val (.int p3), .val (.int p4), .val (.int p5), .val (.int f1), .val (.int f2), .val (.int f3), .val (.int f4), .val (.int f5), .val (.ref b122), .val (.double got), .second, .unset, .unset] [(.long (p5.toInt64)), (.long (f5.toInt64)), (.long (((((f1.toInt64) * (p1.toInt64)) + ((f2.toInt64) * (p2.toInt64))) + ((f3.toInt64) * (p3.toInt64))) + ((f4.toInt64) * (p4.toInt64))))])) _
    refine XS.lmul X138.here hx rfl (hb hby at_129) rfl ?_
    show Steps p.tables e below (T138.setTop (mkF m 130 #[.val (.long q0), .second, .val (.int p1), .val (.int p2), .val (.int p3), .val (.int p4), .val (.int p5), .val (.int f1), .val (.int f2), .val (.int f3), .val (.int f4), .val (.int f5), .val (.ref b122), .val (.double got), .second, .unset, .unset] [(.long ((f5.toInt64) * (p5.toInt64))), (.long (((((f1.toInt64) * (p1.toInt64)) + ((f2.toInt64) * (p2.toInt64))) + ((f3.toInt64) * (p3.toInt64))) + ((f4.toInt64) * (p4.toInt64))))])) _
    refine XS.ladd X138.here hx rfl (hb hby at_130) rfl ?_
    show Steps p.tables e below (T138.setTop (mkF m 131 #[.val (.long q0), .second, .val (.int p1), .val (.int p2), .val (.int p3), .val (.int p4), .val (.int p5), .val (.int f1), .val (.int f2), .val (.int f3), .val (.int f4), .val (.int f5), .val (.ref b122), .val (.double got), .second, .unset, .unset] [(.long ((((((f1.toInt64) * (p1.toInt64)) + ((f2.toInt64) * (p2.toInt64))) + ((f3.toInt64) * (p3.toInt64))) + ((f4.toInt64) * (p4.toInt64))) + ((f5.toInt64) * (p5.toInt64))))])) _
    refine castTop (g' := (mkF m 131 #[.val (.long q0), .second, .val (.int p1), .val (.int p2), .val (.int p3), .val (.int p4), .val (.int p5), .val (.int f1), .val (.int f2), .val (.int f3), .val (.int f4), .val (.int f5), .val (.ref b122), .val (.double got), .second, .unset, .unset] [(.long ref)])) (by rw [href]) ?_
    show Steps p.tables e below (T138.setTop (mkF m 131 #[.val (.long q0), .second, .val (.int p1), .val (.int p2), .val (.int p3), .val (.int p4), .val (.int p5), .val (.int f1), .val (.int f2), .val (.int f3), .val (.int f4), .val (.int f5), .val (.ref b122), .val (.double got), .second, .unset, .unset] [(.long ref)])) _
    refine XS.lstore X138.here hx rfl (hb hby at_131) rfl (l' := #[.val (.long q0), .second, .val (.int p1), .val (.int p2), .val (.int p3), .val (.int p4), .val (.int p5), .val (.int f1), .val (.int f2), .val (.int f3), .val (.int f4), .val (.int f5), .val (.ref b122), .val (.double got), .second, .val (.long ref), .second]) rfl ?_
    exact k)
  have hr : ref.toInt = f1.toInt * p1.toInt + f2.toInt * p2.toInt + f3.toInt * p3.toInt + f4.toInt * p4.toInt + f5.toInt * p5.toInt := by rw [href]; exact own_ref B1 B2 B3 B4 B5
  have hrb : ref.toInt.natAbs < 9007199254740992 := by rw [hr]; exact own_refb B1 B2 B3 B4 B5
  obtain ⟨vr, hvr⟩ : ∃ z : UInt64, FP.l2d ref = z := ⟨_, rfl⟩
  have Dvr : Dy (ref.toInt) (0) vr := by rw [← hvr]; exact Dy.l2d hrb
  obtain ⟨want, hwant⟩ : ∃ z : UInt64, FP.ddiv vr (4616189618054758400 : UInt64) = z := ⟨_, rfl⟩
  have Dwant : Dy (ref.toInt) (2) want := by rw [← hwant]; exact Dy.div Dvr own_4 (by decide) hrb (by decide) (by omega)
  have hfin : cmpValue (FP.dcmp got want) .l = (0 : Int32) := by rw [hgot]; exact Dy.cmp_eq O9 Dwant hr.symm .l
  have k142 : ∀ t, Steps p.tables e below (T138.setTop (mkF m 151 #[.val (.long q0), .second, .val (.int p1), .val (.int p2), .val (.int p3), .val (.int p4), .val (.int p5), .val (.int f1), .val (.int f2), .val (.int f3), .val (.int f4), .val (.int f5), .val (.ref b122), .val (.double got), .second, .val (.long ref), .second] [(.int (1 : Int32))])) t → Steps p.tables e below (s₁.setTop (entryFrame m #[(.long q0), (.int p1), (.int p2), (.int p3), (.int p4), (.int p5)] maxLocals)) t := fun t k => k141 t (by
    show Steps p.tables e below (T138.setTop (mkF m 133 #[.val (.long q0), .second, .val (.int p1), .val (.int p2), .val (.int p3), .val (.int p4), .val (.int p5), .val (.int f1), .val (.int f2), .val (.int f3), .val (.int f4), .val (.int f5), .val (.ref b122), .val (.double got), .second, .val (.long ref), .second] [])) _
    refine XS.dload X138.here hx rfl (hb hby at_133) rfl ?_
    show Steps p.tables e below (T138.setTop (mkF m 135 #[.val (.long q0), .second, .val (.int p1), .val (.int p2), .val (.int p3), .val (.int p4), .val (.int p5), .val (.int f1), .val (.int f2), .val (.int f3), .val (.int f4), .val (.int f5), .val (.ref b122), .val (.double got), .second, .val (.long ref), .second] [(.double got)])) _
    refine XS.lload X138.here hx rfl (hb hby at_135) rfl ?_
    show Steps p.tables e below (T138.setTop (mkF m 137 #[.val (.long q0), .second, .val (.int p1), .val (.int p2), .val (.int p3), .val (.int p4), .val (.int p5), .val (.int f1), .val (.int f2), .val (.int f3), .val (.int f4), .val (.int f5), .val (.ref b122), .val (.double got), .second, .val (.long ref), .second] [(.long ref), (.double got)])) _
    refine XS.l2dS X138.here hx rfl (hb hby at_137) rfl hvr ?_
    show Steps p.tables e below (T138.setTop (mkF m 138 #[.val (.long q0), .second, .val (.int p1), .val (.int p2), .val (.int p3), .val (.int p4), .val (.int p5), .val (.int f1), .val (.int f2), .val (.int f3), .val (.int f4), .val (.int f5), .val (.ref b122), .val (.double got), .second, .val (.long ref), .second] [(.double vr), (.double got)])) _
    refine X138.ldc2DoubleC hx hown (mvT hZ (hw _ (List.mem_of_getElem? (i := 8) rfl))) (g := (mkF m 138 #[.val (.long q0), .second, .val (.int p1), .val (.int p2), .val (.int p3), .val (.int p4), .val (.int p5), .val (.int f1), .val (.int f2), .val (.int f3), .val (.int f4), .val (.int f5), .val (.ref b122), .val (.double got), .second, .val (.long ref), .second] [(.double vr), (.double got)])) rfl (hb hby at_138) _ ?_
    show Steps p.tables e below (T138.setTop (mkF m 141 #[.val (.long q0), .second, .val (.int p1), .val (.int p2), .val (.int p3), .val (.int p4), .val (.int p5), .val (.int f1), .val (.int f2), .val (.int f3), .val (.int f4), .val (.int f5), .val (.ref b122), .val (.double got), .second, .val (.long ref), .second] [(.double (4616189618054758400 : UInt64)), (.double vr), (.double got)])) _
    refine XS.ddivS X138.here hx rfl (hb hby at_141) rfl (by rw [hwant]; exact Dwant.nn) hwant ?_
    show Steps p.tables e below (T138.setTop (mkF m 142 #[.val (.long q0), .second, .val (.int p1), .val (.int p2), .val (.int p3), .val (.int p4), .val (.int p5), .val (.int f1), .val (.int f2), .val (.int f3), .val (.int f4), .val (.int f5), .val (.ref b122), .val (.double got), .second, .val (.long ref), .second] [(.double want), (.double got)])) _
    refine XS.dcmpS X138.here hx rfl (hb hby at_142) rfl rfl ?_
    show Steps p.tables e below (T138.setTop (mkF m 143 #[.val (.long q0), .second, .val (.int p1), .val (.int p2), .val (.int p3), .val (.int p4), .val (.int p5), .val (.int f1), .val (.int f2), .val (.int f3), .val (.int f4), .val (.int f5), .val (.ref b122), .val (.double got), .second, .val (.long ref), .second] [(.int (cmpValue (FP.dcmp got want) .l))])) _
    refine XS.ifNo X138.here hx rfl (hb hby at_143) rfl ((if0 _ _).trans (teq hfin).2) ?_
    show Steps p.tables e below (T138.setTop (mkF m 146 #[.val (.long q0), .second, .val (.int p1), .val (.int p2), .val (.int p3), .val (.int p4), .val (.int p5), .val (.int f1), .val (.int f2), .val (.int f3), .val (.int f4), .val (.int f5), .val (.ref b122), .val (.double got), .second, .val (.long ref), .second] [])) _
    refine XS.iconst X138.here hx rfl (hb hby at_146) ?_
    show Steps p.tables e below (T138.setTop (mkF m 147 #[.val (.long q0), .second, .val (.int p1), .val (.int p2), .val (.int p3), .val (.int p4), .val (.int p5), .val (.int f1), .val (.int f2), .val (.int f3), .val (.int f4), .val (.int f5), .val (.ref b122), .val (.double got), .second, .val (.long ref), .second] [(.int (1 : Int32))])) _
    refine XS.goto X138.here hx rfl (pc0 := 147) (pc' := 151) rfl (hb hby at_147) (by decide) (by decide) ?_
    exact k)
  obtain ⟨fs, hr, hrun, hended, hW, hsame⟩ := X138.leave (v := some (.int (1 : Int32))) (fun h => by rw [Bd.returns] at h; cases h)
  refine ⟨_, _, k142 _ (retOut X138 hx (t := .boolean) Bd.returns rfl (Or.inl ⟨rfl, Or.inr (Or.inl rfl), _, rfl⟩) (hb hby at_151) hr), hrun, hended, _, _, rfl, ?_, ⟨_, rfl⟩, hW, hsame.mono (by decide) (by decide)⟩
  show Q_rm0 Z q0 p1 p2 p3 p4 p5 h0 n0 _ T138.heap _
  rw [e138]
  exact ⟨rfl, N139⟩
set_option maxRecDepth 65536 in
set_option maxHeartbeats 40000000 in
theorem comes_1 {Post : Tables → Env → Array Value → State → Outcome → State → Prop} (hpost : ∀ tb e args s v u, (limb_1_1.after args s (.returned v) u = true ∧ limb_1_2.after args s (.returned v) u = true ∧ True) → FrameEnd s (.returned v) u (Jvm.fieldLocs frame_1_writes args s ++ Jvm.arrayLocs frame_1_arrays args s ++ Jvm.staticLocs frame_1_statics s) 16 128 → Post tb e args s (.returned v) u) :
    ArmFor flags0 classFile x code maxLocals ret World_1 tables_1 room_1 Calls_1 rest_1 Pre_1 Post := by
  intro l hfl _ _ p e ha hc hk s m args below hf hA hF happ hP
  obtain ⟨hcalls, hrest, hpre⟩ := hP
  obtain ⟨-, -, -, hnamed, -, -, -, hat⟩ := (Spec.applies_iff hf).mp happ
  obtain ⟨hg, hn⟩ := and_e (Cond.before_iff.mp (show (Jvm.Cond.and given_1 narrow_1).before args s = true from hpre))
  obtain ⟨g1, g2⟩ := and_e hg
  obtain ⟨g3, g4⟩ := and_e g2
  obtain ⟨g5, g6⟩ := and_e g4
  obtain ⟨g7, g8⟩ := and_e g6
  obtain ⟨g9, g10⟩ := and_e g8
  obtain ⟨g11, g12⟩ := and_e g10
  obtain ⟨w0, w1, w2, w3, w4, w5, rfl⟩ : ∃ w0 w1 w2 w3 w4 w5 : Value, args = #[w0, w1, w2, w3, w4, w5] := by
    have hs : args.size = 6 := by simpa [Cond.value, given_1] using g1
    obtain ⟨L⟩ := args
    match L, hs with
    | [w0, w1, w2, w3, w4, w5], _ => exact ⟨w0, w1, w2, w3, w4, w5, rfl⟩
  have hw := fun d (hd : d ∈ tables_1) => atoms_spec (ws := Jvm.Cond.code x code maxLocals ret :: tables_1) hat d (List.mem_cons_of_mem _ hd)
  obtain ⟨i0, ei0⟩ := isL_v g3
  obtain rfl : w0 = (.long i0) := Option.some.inj ei0
  obtain ⟨i1, ei1⟩ := is_v g5
  obtain rfl : w1 = (.int i1) := Option.some.inj ei1
  obtain ⟨i2, ei2⟩ := is_v g7
  obtain rfl : w2 = (.int i2) := Option.some.inj ei2
  obtain ⟨i3, ei3⟩ := is_v g9
  obtain rfl : w3 = (.int i3) := Option.some.inj ei3
  obtain ⟨i4, ei4⟩ := is_v g11
  obtain rfl : w4 = (.int i4) := Option.some.inj ei4
  obtain ⟨i5, ei5⟩ := is_v g12
  obtain rfl : w5 = (.int i5) := Option.some.inj ei5
  obtain ⟨n, o, h1, h2, h3, _, L, rfl, ⟨rfl, N⟩, hq⟩ := rm0 l s _ hw tables_1 i0 i1 i2 i3 i4 i5 s.heap s.heap.size (Nat.le_refl _) p e ha hc hk s m _ below hf ((Spec.applies_iff_loose hf).mp happ).1 ⟨rfl, State.Warmed39.refl s, rfl⟩ trivial
  refine ⟨n, _, h1, h2, h3, hpost _ _ _ _ _ _ ⟨Cond.after_iff.mpr rfl, Cond.after_iff.mpr (eq_i res_at (Term.int_eval (1)) rfl), trivial⟩ ⟨hq.1, hq.2.1, (hq.2.2.sift fun y hy => Or.inr (N y hy)).mono (by decide) (by decide)⟩⟩
theorem main_1_1 : Claimed_1_1 := comes_1 fun _ _ _ _ _ _ h hF => ⟨h.1, hF⟩
theorem main_1_2 : Claimed_1_2 := comes_1 fun _ _ _ _ _ _ h hF => ⟨h.2.1, hF⟩
end Jvm.Pilot.@@N@@
namespace Jvm.Pilot.@@N@@
open Jvm Jvm.ClassFile Sem Op Lib Jvm.Free Jvm.Stand Jvm.Pilot.@@N@@.Jvm.D
/-! MADE BY PROGRAM (witnessworld.py) out of the Statement's table words and the real class files: 18 classes; the members and pool entries that the words name. The judged class is class 1, her method 2. -/
namespace start1
open Jvm.ClassFile
def u (s : String) : CpInfo := .utf8 (stringToUtf16 s)
/-- a pool by its gaps: so many unusable entries, then the entry; so many at the end -/
def gap : Nat → List CpInfo → List CpInfo
  | 0, r => r
  | n + 1, r => .unusable :: gap n r
def poolList (es : List (Nat × CpInfo)) (last : Nat) : List CpInfo := es.foldr (fun e r => gap e.1 (e.2 :: r)) (gap last [])
def pool (es : List (Nat × CpInfo)) (last : Nat) : Array CpInfo := ⟨poolList es last⟩
def fileOf (pool : Array CpInfo) (this : Nat) (attrs : Array Attribute := #[]) (ms : Array MethodInfo := #[]) (fl : Nat := 33) (sup : Nat := 0) (ifs : Array Nat := #[]) (fds : Array FieldInfo := #[]) : ClassFile where
  minorVersion := 0
  majorVersion := 65
  constantPool := pool
  accessFlags := fl
  thisClass := this
  superClass := sup
  interfaces := ifs
  fields := fds
  methods := ms
  attributes := attrs
def plain (name : String) (sup : Option ClassId) : Class where
  name := name
  kind := .ordinary
  loader := none
  accessFlags := 33
  super := sup
  interfaces := #[]
  cf := none
  fields := #[]
  methods := #[]
  instanceTypes := #[]
  staticTypes := #[]
  resolved := #[]
  callSites := []
  init := .initialized
  statics := none
  mirror := none

def pool0 : Array CpInfo := pool [(5, u "<init>"), (0, u "()V"), (1, .class_ 10), (1, u "java/lang/Object")] 113

def k0c0 : Code := { maxStack := 0, maxLocals := 1, code := object_method_1_code, exceptionTable := #[], attributes := #[] }
def k0m0 : Method := { name := "<init>", desc := "()V", sig := { parameters := [], returnType := none }, accessFlags := 1, code := some k0c0 }
/-- java/lang/Object -/
def k0 : Class := { plain "java/lang/Object" none with
  accessFlags := 33
  interfaces := #[]
  cf := some (fileOf pool0 8 #[] #[{ accessFlags := 1, nameIndex := 5, descriptorIndex := 6, attributes := #[] }] 33 0 #[] #[])
  fields := #[]
  methods := #[k0m0]
  instanceTypes := #[]
  staticTypes := #[]
  resolved := Array.replicate 124 none
  statics := none }

def pool1 : Array CpInfo := pool [(2, .class_ 4), (1, u "java/lang/Object"), (0, u "<init>"), (0, u "()V"), (0, .long 4095), (1, .methodref 10 11), (0, .class_ 12), (0, .nameAndType 13 14), (0, u "com/example/liblocus/liblocus/sentence/PartWeightsOmegaPinLaw"), (0, u "field"), (0, u "(JI)I"), (0, .class_ 16), (0, u "com/example/liblocus/liblocus/sentence/PartWeights"), (0, .double 4616189618054758400), (1, .methodref 15 20), (0, .nameAndType 5 21), (0, u "(DDDDD)V"), (0, .methodref 15 23), (0, .nameAndType 24 25), (0, u "omega"), (0, u "(IIIII)D"), (2, u "law"), (0, u "(JIIIII)Z")] 3

def k1m0 : Method := { name := "<init>", desc := "()V", sig := { parameters := [], returnType := none }, accessFlags := 1, code := none }
def k1c1 : Code := { maxStack := 4, maxLocals := 3, code := method_2_code, exceptionTable := #[], attributes := #[] }
def k1m1 : Method := { name := "field", desc := "(JI)I", sig := { parameters := [.long, .int], returnType := some .int }, accessFlags := 10, code := some k1c1 }
def k1c2 : Code := { maxStack := 14, maxLocals := 17, code := code, exceptionTable := #[], attributes := #[] }
def k1m2 : Method := { name := "law", desc := "(JIIIII)Z", sig := { parameters := [.long, .int, .int, .int, .int, .int], returnType := some .boolean }, accessFlags := 9, code := some k1c2 }
/-- com/example/liblocus/liblocus/sentence/PartWeightsOmegaPinLaw -/
def k1 : Class := { plain "com/example/liblocus/liblocus/sentence/PartWeightsOmegaPinLaw" (some 0) with
  accessFlags := 49
  interfaces := #[]
  cf := some (fileOf pool1 10 #[] #[{ accessFlags := 1, nameIndex := 5, descriptorIndex := 6, attributes := #[] }, { accessFlags := 10, nameIndex := 13, descriptorIndex := 14, attributes := #[] }, { accessFlags := 9, nameIndex := 28, descriptorIndex := 29, attributes := #[] }] 49 2 #[] #[])
  fields := #[]
  methods := #[k1m0, k1m1, k1m2]
  instanceTypes := #[]
  staticTypes := #[]
  resolved := Array.replicate 33 none
  statics := none }

def pool2 : Array CpInfo := pool [(1, .methodref 2 3), (0, .class_ 4), (0, .nameAndType 5 6), (0, u "java/lang/Object"), (0, u "<init>"), (0, u "()V"), (0, .class_ 8), (0, u "java/lang/Record")] 13

def k2c0 : Code := { maxStack := 1, maxLocals := 1, code := jdk_30_method_1_code, exceptionTable := #[], attributes := #[] }
def k2m0 : Method := { name := "<init>", desc := "()V", sig := { parameters := [], returnType := none }, accessFlags := 4, code := some k2c0 }
/-- java/lang/Record -/
def k2 : Class := { plain "java/lang/Record" (some 0) with
  accessFlags := 1057
  interfaces := #[]
  cf := some (fileOf pool2 7 #[] #[{ accessFlags := 4, nameIndex := 5, descriptorIndex := 6, attributes := #[] }] 1057 2 #[] #[])
  fields := #[]
  methods := #[k2m0]
  instanceTypes := #[]
  staticTypes := #[]
  resolved := Array.replicate 22 none
  statics := none }

def pool3 : Array CpInfo := pool [(1, .methodref 2 3), (0, .class_ 4), (0, .nameAndType 5 6), (0, u "java/lang/Record"), (0, u "<init>"), (0, u "()V"), (0, .methodref 8 9), (0, .class_ 10), (0, .nameAndType 11 12), (0, u "java/lang/Double"), (0, u "isFinite"), (0, u "(D)Z"), (9, .fieldref 23 24), (0, .class_ 25), (0, .nameAndType 26 27), (0, u "com/example/liblocus/liblocus/sentence/PartWeights"), (0, u "title"), (0, u "D"), (0, .fieldref 23 29), (0, .nameAndType 30 27), (0, u "description"), (0, .fieldref 23 32), (0, .nameAndType 33 27), (0, u "positiveNarrative"), (0, .fieldref 23 35), (0, .nameAndType 36 27), (0, u "sharedNegative"), (0, .fieldref 23 38), (0, .nameAndType 39 27), (0, u "ownNegative"), (18, u "(DDDDD)V"), (2, u "DEFAULT"), (0, u "Lcom/example/liblocus/liblocus/sentence/PartWeights;"), (6, u "omega"), (0, u "(IIIII)D")] 37

def k3c0 : Code := { maxStack := 5, maxLocals := 16, code := prog_118_method_1_code, exceptionTable := #[], attributes := #[] }
def k3m0 : Method := { name := "<init>", desc := "(DDDDD)V", sig := { parameters := [.double, .double, .double, .double, .double], returnType := none }, accessFlags := 1, code := some k3c0 }
def k3c1 : Code := { maxStack := 6, maxLocals := 6, code := prog_118_method_2_code, exceptionTable := #[], attributes := #[] }
def k3m1 : Method := { name := "omega", desc := "(IIIII)D", sig := { parameters := [.int, .int, .int, .int, .int], returnType := some .double }, accessFlags := 1, code := some k3c1 }
/-- com/example/liblocus/liblocus/sentence/PartWeights -/
def k3 : Class := { plain "com/example/liblocus/liblocus/sentence/PartWeights" (some 2) with
  accessFlags := 49
  interfaces := #[]
  cf := some (fileOf pool3 23 #[] #[{ accessFlags := 1, nameIndex := 5, descriptorIndex := 58, attributes := #[] }, { accessFlags := 1, nameIndex := 69, descriptorIndex := 70, attributes := #[] }] 49 2 #[] #[{ accessFlags := 18, nameIndex := 26, descriptorIndex := 27, attributes := #[] }, { accessFlags := 18, nameIndex := 30, descriptorIndex := 27, attributes := #[] }, { accessFlags := 18, nameIndex := 33, descriptorIndex := 27, attributes := #[] }, { accessFlags := 18, nameIndex := 36, descriptorIndex := 27, attributes := #[] }, { accessFlags := 18, nameIndex := 39, descriptorIndex := 27, attributes := #[] }, { accessFlags := 25, nameIndex := 61, descriptorIndex := 62, attributes := #[] }])
  fields := #[{ name := "title", type := .double, accessFlags := 18, slot := 0, constantValue := 0 }, { name := "description", type := .double, accessFlags := 18, slot := 1, constantValue := 0 }, { name := "positiveNarrative", type := .double, accessFlags := 18, slot := 2, constantValue := 0 }, { name := "sharedNegative", type := .double, accessFlags := 18, slot := 3, constantValue := 0 }, { name := "ownNegative", type := .double, accessFlags := 18, slot := 4, constantValue := 0 }, { name := "DEFAULT", type := (.object "com/example/liblocus/liblocus/sentence/PartWeights"), accessFlags := 25, slot := 0, constantValue := 0 }]
  methods := #[k3m0, k3m1]
  instanceTypes := #[.double, .double, .double, .double, .double]
  staticTypes := #[(.object "com/example/liblocus/liblocus/sentence/PartWeights")]
  resolved := Array.replicate 108 none
  statics := none }

def pool4 : Array CpInfo := pool [(1, .class_ 2), (0, u "java/io/Serializable"), (0, .class_ 4), (0, u "java/lang/Object")] 2

/-- java/io/Serializable -/
def k4 : Class := { plain "java/io/Serializable" (some 0) with
  accessFlags := 1537
  interfaces := #[]
  cf := some (fileOf pool4 1 #[] #[] 1537 3 #[] #[])
  fields := #[]
  methods := #[]
  instanceTypes := #[]
  staticTypes := #[]
  resolved := Array.replicate 7 none
  statics := none }

def pool5 : Array CpInfo := pool [(2, .class_ 4), (1, u "java/lang/Object"), (0, u "<init>"), (0, u "()V"), (1, .class_ 10), (1, u "java/lang/Number"), (2, .class_ 14), (0, u "java/io/Serializable"), (0, u "serialVersionUID"), (0, u "J")] 20

def k5m0 : Method := { name := "<init>", desc := "()V", sig := { parameters := [], returnType := none }, accessFlags := 1, code := none }
/-- java/lang/Number -/
def k5 : Class := { plain "java/lang/Number" (some 0) with
  accessFlags := 1057
  interfaces := #[4]
  cf := some (fileOf pool5 8 #[] #[{ accessFlags := 1, nameIndex := 5, descriptorIndex := 6, attributes := #[] }] 1057 2 #[13] #[{ accessFlags := 26, nameIndex := 15, descriptorIndex := 16, attributes := #[] }])
  fields := #[{ name := "serialVersionUID", type := .long, accessFlags := 26, slot := 0, constantValue := 0 }]
  methods := #[k5m0]
  instanceTypes := #[]
  staticTypes := #[.long]
  resolved := Array.replicate 37 none
  statics := none }

def pool6 : Array CpInfo := pool [(1, .class_ 2), (0, u "java/lang/Comparable"), (0, .class_ 4), (0, u "java/lang/Object")] 7

/-- java/lang/Comparable -/
def k6 : Class := { plain "java/lang/Comparable" (some 0) with
  accessFlags := 1537
  interfaces := #[]
  cf := some (fileOf pool6 1 #[] #[] 1537 3 #[] #[])
  fields := #[]
  methods := #[]
  instanceTypes := #[]
  staticTypes := #[]
  resolved := Array.replicate 12 none
  statics := none }

def pool7 : Array CpInfo := pool [(1, .class_ 2), (0, u "java/lang/constant/Constable"), (0, .class_ 4), (0, u "java/lang/Object")] 6

/-- java/lang/constant/Constable -/
def k7 : Class := { plain "java/lang/constant/Constable" (some 0) with
  accessFlags := 1537
  interfaces := #[]
  cf := some (fileOf pool7 1 #[] #[] 1537 3 #[] #[])
  fields := #[]
  methods := #[]
  instanceTypes := #[]
  staticTypes := #[]
  resolved := Array.replicate 11 none
  statics := none }

def pool8 : Array CpInfo := pool [(1, .class_ 2), (0, u "java/lang/constant/ConstantDesc"), (0, .class_ 4), (0, u "java/lang/Object")] 32

/-- java/lang/constant/ConstantDesc -/
def k8 : Class := { plain "java/lang/constant/ConstantDesc" (some 0) with
  accessFlags := 1537
  interfaces := #[]
  cf := some (fileOf pool8 1 #[] #[] 1537 3 #[] #[])
  fields := #[]
  methods := #[]
  instanceTypes := #[]
  staticTypes := #[]
  resolved := Array.replicate 37 none
  statics := none }

def pool9 : Array CpInfo := pool [(1, .class_ 2), (0, u "java/lang/Double"), (10, u "isFinite"), (0, u "(D)Z"), (8, .class_ 25), (1, u "java/lang/Math"), (12, .methodref 23 39), (0, .nameAndType 40 41), (0, u "abs"), (0, u "(D)D"), (69, .double 9218868437227405311), (2, .class_ 116), (1, u "java/lang/Number"), (3, u "value"), (0, u "D"), (51, u "TYPE"), (0, u "Ljava/lang/Class;"), (0, .class_ 176), (0, u "java/lang/Comparable"), (0, .class_ 178), (0, u "java/lang/constant/Constable"), (0, .class_ 180), (0, u "java/lang/constant/ConstantDesc"), (0, u "POSITIVE_INFINITY"), (3, u "NEGATIVE_INFINITY"), (2, u "NaN"), (2, u "MAX_VALUE"), (0, u "MIN_NORMAL"), (0, u "MIN_VALUE"), (2, u "SIZE"), (0, u "I"), (1, u "PRECISION"), (1, u "MAX_EXPONENT"), (1, u "MIN_EXPONENT"), (1, u "BYTES"), (3, u "serialVersionUID"), (0, u "J")] 79

def k9c0 : Code := { maxStack := 4, maxLocals := 2, code := jdk_117_method_8_code, exceptionTable := #[], attributes := #[] }
def k9m0 : Method := { name := "isFinite", desc := "(D)Z", sig := { parameters := [.double], returnType := some .boolean }, accessFlags := 9, code := some k9c0 }
/-- java/lang/Double -/
def k9 : Class := { plain "java/lang/Double" (some 5) with
  accessFlags := 49
  interfaces := #[6, 7, 8]
  cf := some (fileOf pool9 1 #[] #[{ accessFlags := 9, nameIndex := 13, descriptorIndex := 14, attributes := #[] }] 49 114 #[175, 177, 179] #[{ accessFlags := 25, nameIndex := 181, descriptorIndex := 121, attributes := #[] }, { accessFlags := 25, nameIndex := 185, descriptorIndex := 121, attributes := #[] }, { accessFlags := 25, nameIndex := 188, descriptorIndex := 121, attributes := #[] }, { accessFlags := 25, nameIndex := 191, descriptorIndex := 121, attributes := #[] }, { accessFlags := 25, nameIndex := 192, descriptorIndex := 121, attributes := #[] }, { accessFlags := 25, nameIndex := 193, descriptorIndex := 121, attributes := #[] }, { accessFlags := 25, nameIndex := 196, descriptorIndex := 197, attributes := #[] }, { accessFlags := 25, nameIndex := 199, descriptorIndex := 197, attributes := #[] }, { accessFlags := 25, nameIndex := 201, descriptorIndex := 197, attributes := #[] }, { accessFlags := 25, nameIndex := 203, descriptorIndex := 197, attributes := #[] }, { accessFlags := 25, nameIndex := 205, descriptorIndex := 197, attributes := #[] }, { accessFlags := 25, nameIndex := 173, descriptorIndex := 174, attributes := #[] }, { accessFlags := 18, nameIndex := 120, descriptorIndex := 121, attributes := #[] }, { accessFlags := 26, nameIndex := 209, descriptorIndex := 210, attributes := #[] }])
  fields := #[{ name := "POSITIVE_INFINITY", type := .double, accessFlags := 25, slot := 0, constantValue := 0 }, { name := "NEGATIVE_INFINITY", type := .double, accessFlags := 25, slot := 1, constantValue := 0 }, { name := "NaN", type := .double, accessFlags := 25, slot := 2, constantValue := 0 }, { name := "MAX_VALUE", type := .double, accessFlags := 25, slot := 3, constantValue := 0 }, { name := "MIN_NORMAL", type := .double, accessFlags := 25, slot := 4, constantValue := 0 }, { name := "MIN_VALUE", type := .double, accessFlags := 25, slot := 5, constantValue := 0 }, { name := "SIZE", type := .int, accessFlags := 25, slot := 6, constantValue := 0 }, { name := "PRECISION", type := .int, accessFlags := 25, slot := 7, constantValue := 0 }, { name := "MAX_EXPONENT", type := .int, accessFlags := 25, slot := 8, constantValue := 0 }, { name := "MIN_EXPONENT", type := .int, accessFlags := 25, slot := 9, constantValue := 0 }, { name := "BYTES", type := .int, accessFlags := 25, slot := 10, constantValue := 0 }, { name := "TYPE", type := (.object "java/lang/Class"), accessFlags := 25, slot := 11, constantValue := 0 }, { name := "value", type := .double, accessFlags := 18, slot := 0, constantValue := 0 }, { name := "serialVersionUID", type := .long, accessFlags := 26, slot := 12, constantValue := 0 }]
  methods := #[k9m0]
  instanceTypes := #[.double]
  staticTypes := #[.double, .double, .double, .double, .double, .double, .int, .int, .int, .int, .int, (.object "java/lang/Class"), .long]
  resolved := Array.replicate 290 none
  statics := none }

def pool10 : Array CpInfo := pool [(1, .class_ 2), (0, u "java/lang/Math"), (1, .class_ 6), (1, u "java/lang/Object"), (0, u "<init>"), (0, u "()V"), (5, u "(D)D"), (83, .class_ 100), (1, u "java/lang/Math$RandomNumberGeneratorHolder"), (23, u "abs"), (47, u "negativeZeroFloatBits"), (0, u "J"), (2, u "negativeZeroDoubleBits"), (68, u "$assertionsDisabled"), (0, u "Z"), (91, u "twoToTheDoubleScaleDown"), (0, u "D"), (4, u "twoToTheDoubleScaleUp"), (9, u "E"), (3, u "PI"), (2, u "TAU"), (2, u "DEGREES_TO_RADIANS"), (0, u "RADIANS_TO_DEGREES")] 94

def k10m0 : Method := { name := "<init>", desc := "()V", sig := { parameters := [], returnType := none }, accessFlags := 2, code := none }
def k10c1 : Code := { maxStack := 4, maxLocals := 2, code := jdk_29_method_64_code, exceptionTable := #[], attributes := #[] }
def k10m1 : Method := { name := "abs", desc := "(D)D", sig := { parameters := [.double], returnType := some .double }, accessFlags := 9, code := some k10c1 }
/-- java/lang/Math -/
def k10 : Class := { plain "java/lang/Math" (some 0) with
  accessFlags := 49
  interfaces := #[]
  cf := some (fileOf pool10 1 #[.nestMembers #[98]] #[{ accessFlags := 2, nameIndex := 7, descriptorIndex := 8, attributes := #[] }, { accessFlags := 9, nameIndex := 124, descriptorIndex := 14, attributes := #[] }] 49 4 #[] #[{ accessFlags := 25, nameIndex := 354, descriptorIndex := 339, attributes := #[] }, { accessFlags := 25, nameIndex := 358, descriptorIndex := 339, attributes := #[] }, { accessFlags := 25, nameIndex := 361, descriptorIndex := 339, attributes := #[] }, { accessFlags := 26, nameIndex := 364, descriptorIndex := 339, attributes := #[] }, { accessFlags := 26, nameIndex := 365, descriptorIndex := 339, attributes := #[] }, { accessFlags := 26, nameIndex := 172, descriptorIndex := 173, attributes := #[] }, { accessFlags := 26, nameIndex := 176, descriptorIndex := 173, attributes := #[] }, { accessFlags := 8, nameIndex := 344, descriptorIndex := 339, attributes := #[] }, { accessFlags := 8, nameIndex := 338, descriptorIndex := 339, attributes := #[] }, { accessFlags := 4120, nameIndex := 245, descriptorIndex := 246, attributes := #[] }])
  fields := #[{ name := "E", type := .double, accessFlags := 25, slot := 0, constantValue := 0 }, { name := "PI", type := .double, accessFlags := 25, slot := 1, constantValue := 0 }, { name := "TAU", type := .double, accessFlags := 25, slot := 2, constantValue := 0 }, { name := "DEGREES_TO_RADIANS", type := .double, accessFlags := 26, slot := 3, constantValue := 0 }, { name := "RADIANS_TO_DEGREES", type := .double, accessFlags := 26, slot := 4, constantValue := 0 }, { name := "negativeZeroFloatBits", type := .long, accessFlags := 26, slot := 5, constantValue := 0 }, { name := "negativeZeroDoubleBits", type := .long, accessFlags := 26, slot := 6, constantValue := 0 }, { name := "twoToTheDoubleScaleUp", type := .double, accessFlags := 8, slot := 7, constantValue := 0 }, { name := "twoToTheDoubleScaleDown", type := .double, accessFlags := 8, slot := 8, constantValue := 0 }, { name := "$assertionsDisabled", type := .boolean, accessFlags := 4120, slot := 9, constantValue := 0 }]
  methods := #[k10m0, k10m1]
  instanceTypes := #[]
  staticTypes := #[.double, .double, .double, .double, .double, .long, .long, .double, .double, .boolean]
  resolved := Array.replicate 460 none
  statics := none }

def pool11 : Array CpInfo := pool [(1, u "java/lang/Cloneable"), (0, .class_ 1), (0, u "java/lang/Object"), (0, .class_ 3)] 3

/-- java/lang/Cloneable -/
def k11 : Class := { plain "java/lang/Cloneable" (some 0) with
  accessFlags := 1537
  interfaces := #[]
  cf := some (fileOf pool11 2 #[] #[] 1537 4 #[] #[])
  fields := #[]
  methods := #[]
  instanceTypes := #[]
  staticTypes := #[]
  resolved := Array.replicate 8 none
  statics := none }

/-- the primitive byte -/
def k12 : Class := { plain "byte" none with kind := .primitive 'B', accessFlags := 0x411 }
/-- [B -/
def k13 : Class := { plain "[B" (some 0) with kind := .array 12 .byte, interfaces := #[11, 4], accessFlags := 1041 }

/-- the primitive double -/
def k14 : Class := { plain "double" none with kind := .primitive 'D', accessFlags := 0x411 }
/-- [D -/
def k15 : Class := { plain "[D" (some 0) with kind := .array 14 .double, interfaces := #[11, 4], accessFlags := 1041 }

/-- the primitive int -/
def k16 : Class := { plain "int" none with kind := .primitive 'I', accessFlags := 0x411 }
/-- [I -/
def k17 : Class := { plain "[I" (some 0) with kind := .array 16 .int, interfaces := #[11, 4], accessFlags := 1041 }

def heap : Heap := #[]
def classes : Array Class := #[k0, k1, k2, k3, k4, k5, k6, k7, k8, k9, k10, k11, k12, k13, k14, k15, k16, k17]
def interned : List (Array UInt16 × Addr) := []
def slotsUsed : Nat := 0
def theMethod : MethodId := ⟨1, 2⟩
def args0 : Array Value := #[.long 1234567890123, .int 3, .int 5, .int 7, .int 11, .int 13]
def aboutOver (below : List Frame) : State where
  vm := { classes := classes, interned := interned.toArray }
  heap := heap
  slotsUsed := slotsUsed
  threads := #[{ frames := .invoking theMethod args0 :: below }]
def below0 : List Frame := [.native { method := ⟨0, 0⟩, args := #[] }]
def about1 : State := aboutOver below0
def p0 : Program := .bare "" "" ""
def e0 : Env := launch0.env 0 0 0
theorem w_frames : about1.frames = Frame.invoking theMethod args0 :: below0 := rfl
set_option maxRecDepth 65536 in
theorem w_args : argsFit about1.vm theMethod args0 = true := by decide +kernel
set_option maxRecDepth 65536 in
theorem w_heap : heapFits about1 = true := by decide +kernel
set_option maxRecDepth 65536 in
theorem w_runnable : about1.curStatus? = some .runnable := by decide +kernel
set_option maxRecDepth 65536 in
theorem w_alone : about1.alone = true := by decide +kernel
set_option maxRecDepth 65536 in
theorem w_named : about1.methodNamed? x = some theMethod := by decide +kernel
set_option maxRecDepth 65536 in
theorem w_hears : about1.hears theMethod below0 = true := by decide +kernel
set_option maxRecDepth 65536 in
theorem w_ripe : about1.ripe theMethod args0 below0 = true := by decide +kernel
theorem w_running : about1.status = .running := rfl
set_option maxRecDepth 65536 in
theorem w_room : about1.hasRoom e0.platform room_1 = true :=
  launch0.hasRoom_least _ room_1 (by decide +kernel) (by decide +kernel) (by decide +kernel) (by decide +kernel) (by decide +kernel) (by decide +kernel)
theorem allAtoms_all (ts : List Jvm.Cond) (a : Array Jvm.Value) (st : Jvm.State) : (allAtoms ts).before a st = ts.all (fun c => c.before a st) := by
  induction ts with
  | nil => rfl
  | cons c t ih =>
    show (Jvm.Cond.and c (allAtoms t)).before a st = _
    rw [Jvm.Cond.before_and, ih, List.all_cons]
def words1 : List Jvm.Cond := Jvm.Cond.code x code maxLocals ret :: tables_1
/-- a 'code' word, met by the world's own term for the bytes: nothing is compared byte by byte -/
theorem code_word {y : MethodName} {bytes : ByteArray} {mx : Nat} {rt : Option FieldType} {a : Array Value} {s : State} {m : MethodId} {meth : Method} {c : Code} (h1 : s.methodNamed? y = some m) (h2 : s.vm.method? m = some meth) (h3 : meth.code = some c) (h4 : c.code = bytes)
    (h5 : (c.maxLocals == mx && c.exceptionTable.isEmpty && decide (c.maxStack ≤ mostOperands) && decide (meth.sig.returnType = rt) && !meth.locks && decide (parseMethodDescriptor y.desc = some meth.sig)) = true) : (Jvm.Cond.code y bytes mx rt).before a s = true := by
  simp only [Bool.and_eq_true, beq_iff_eq, Bool.not_eq_true', decide_eq_true_eq] at h5
  obtain ⟨⟨⟨⟨⟨g1, g2⟩, g3⟩, g4⟩, g5⟩, g6⟩ := h5
  simp [Cond.before, Cond.holds, Cond.value, h1, h2, h3, h4, g1, g2, g3, g4, g5, g6]
def isCode : Jvm.Cond → Bool
  | .code _ _ _ _ => true
  | _ => false
theorem all_split {L : List Jvm.Cond} {P : Jvm.Cond → Bool} (h1 : L.all (fun c => isCode c || P c) = true) (h2 : ∀ c ∈ L.filter isCode, P c = true) : L.all P = true := by
  refine List.all_eq_true.mpr fun c hc => ?_
  have h := List.all_eq_true.mp h1 c hc
  rcases Bool.eq_false_or_eq_true (isCode c) with hi | hi
  · exact h2 c (List.mem_filter.mpr ⟨hc, hi⟩)
  · simpa [hi] using h
set_option maxRecDepth 65536 in
theorem w_c0 : (Jvm.Cond.code x code maxLocals ret).before args0 about1 = true := code_word (m := ⟨1, 2⟩) (meth := k1m2) (c := k1c2) (by decide +kernel) rfl rfl rfl (by decide +kernel)
set_option maxRecDepth 65536 in
theorem w_c1 : (Jvm.Cond.code ({ cls := "com/example/liblocus/liblocus/sentence/PartWeightsOmegaPinLaw", name := "field", desc := "(JI)I" } : Jvm.MethodName) method_2_code (3 : Nat) (Option.some Jvm.ClassFile.FieldType.int)).before args0 about1 = true := code_word (m := ⟨1, 1⟩) (meth := k1m1) (c := k1c1) (by decide +kernel) rfl rfl rfl (by decide +kernel)
set_option maxRecDepth 65536 in
theorem w_c2 : (Jvm.Cond.code ({ cls := "com/example/liblocus/liblocus/sentence/PartWeights", name := "<init>", desc := "(DDDDD)V" } : Jvm.MethodName) prog_118_method_1_code (16 : Nat) (Option.none : Option Jvm.ClassFile.FieldType)).before args0 about1 = true := code_word (m := ⟨3, 0⟩) (meth := k3m0) (c := k3c0) (by decide +kernel) rfl rfl rfl (by decide +kernel)
set_option maxRecDepth 65536 in
theorem w_c3 : (Jvm.Cond.code ({ cls := "java/lang/Record", name := "<init>", desc := "()V" } : Jvm.MethodName) jdk_30_method_1_code (1 : Nat) (Option.none : Option Jvm.ClassFile.FieldType)).before args0 about1 = true := code_word (m := ⟨2, 0⟩) (meth := k2m0) (c := k2c0) (by decide +kernel) rfl rfl rfl (by decide +kernel)
set_option maxRecDepth 65536 in
theorem w_c4 : (Jvm.Cond.code ({ cls := "java/lang/Object", name := "<init>", desc := "()V" } : Jvm.MethodName) object_method_1_code (1 : Nat) (Option.none : Option Jvm.ClassFile.FieldType)).before args0 about1 = true := code_word (m := ⟨0, 0⟩) (meth := k0m0) (c := k0c0) (by decide +kernel) rfl rfl rfl (by decide +kernel)
set_option maxRecDepth 65536 in
theorem w_c5 : (Jvm.Cond.code ({ cls := "java/lang/Double", name := "isFinite", desc := "(D)Z" } : Jvm.MethodName) jdk_117_method_8_code (2 : Nat) (Option.some Jvm.ClassFile.FieldType.boolean)).before args0 about1 = true := code_word (m := ⟨9, 0⟩) (meth := k9m0) (c := k9c0) (by decide +kernel) rfl rfl rfl (by decide +kernel)
set_option maxRecDepth 65536 in
theorem w_c6 : (Jvm.Cond.code ({ cls := "java/lang/Math", name := "abs", desc := "(D)D" } : Jvm.MethodName) jdk_29_method_64_code (2 : Nat) (Option.some Jvm.ClassFile.FieldType.double)).before args0 about1 = true := code_word (m := ⟨10, 1⟩) (meth := k10m1) (c := k10c1) (by decide +kernel) rfl rfl rfl (by decide +kernel)
set_option maxRecDepth 65536 in
theorem w_c7 : (Jvm.Cond.code ({ cls := "com/example/liblocus/liblocus/sentence/PartWeights", name := "omega", desc := "(IIIII)D" } : Jvm.MethodName) prog_118_method_2_code (6 : Nat) (Option.some Jvm.ClassFile.FieldType.double)).before args0 about1 = true := code_word (m := ⟨3, 1⟩) (meth := k3m1) (c := k3c1) (by decide +kernel) rfl rfl rfl (by decide +kernel)
def codes1 : List Jvm.Cond := [Jvm.Cond.code x code maxLocals ret, Jvm.Cond.code ({ cls := "com/example/liblocus/liblocus/sentence/PartWeightsOmegaPinLaw", name := "field", desc := "(JI)I" } : Jvm.MethodName) method_2_code (3 : Nat) (Option.some Jvm.ClassFile.FieldType.int), Jvm.Cond.code ({ cls := "com/example/liblocus/liblocus/sentence/PartWeights", name := "<init>", desc := "(DDDDD)V" } : Jvm.MethodName) prog_118_method_1_code (16 : Nat) (Option.none : Option Jvm.ClassFile.FieldType), Jvm.Cond.code ({ cls := "java/lang/Record", name := "<init>", desc := "()V" } : Jvm.MethodName) jdk_30_method_1_code (1 : Nat) (Option.none : Option Jvm.ClassFile.FieldType), Jvm.Cond.code ({ cls := "java/lang/Object", name := "<init>", desc := "()V" } : Jvm.MethodName) object_method_1_code (1 : Nat) (Option.none : Option Jvm.ClassFile.FieldType), Jvm.Cond.code ({ cls := "java/lang/Double", name := "isFinite", desc := "(D)Z" } : Jvm.MethodName) jdk_117_method_8_code (2 : Nat) (Option.some Jvm.ClassFile.FieldType.boolean), Jvm.Cond.code ({ cls := "java/lang/Math", name := "abs", desc := "(D)D" } : Jvm.MethodName) jdk_29_method_64_code (2 : Nat) (Option.some Jvm.ClassFile.FieldType.double), Jvm.Cond.code ({ cls := "com/example/liblocus/liblocus/sentence/PartWeights", name := "omega", desc := "(IIIII)D" } : Jvm.MethodName) prog_118_method_2_code (6 : Nat) (Option.some Jvm.ClassFile.FieldType.double)]
set_option maxRecDepth 65536 in
theorem codes_eq : words1.filter isCode = codes1 := rfl
theorem w_codes : ∀ c ∈ words1.filter isCode, c.before args0 about1 = true := by
  rw [codes_eq]
  intro c hc
  simp only [codes1, List.mem_cons, List.not_mem_nil, or_false] at hc
  rcases hc with rfl | rfl | rfl | rfl | rfl | rfl | rfl | rfl
  · exact w_c0
  · exact w_c1
  · exact w_c2
  · exact w_c3
  · exact w_c4
  · exact w_c5
  · exact w_c6
  · exact w_c7
set_option maxRecDepth 65536 in
theorem w_t1 : (words1.take 24).all (fun c => isCode c || c.before args0 about1) = true := by decide +kernel
set_option maxRecDepth 65536 in
theorem w_t2 : (words1.drop 24).all (fun c => isCode c || c.before args0 about1) = true := by decide +kernel
theorem w_tables : (allAtoms (Jvm.Cond.code x code maxLocals ret :: tables_1)).before args0 about1 = true := by
  rw [allAtoms_all]
  show words1.all (fun c => c.before args0 about1) = true
  refine all_split ?_ w_codes
  rw [← List.take_append_drop 24 words1, List.all_append, w_t1, w_t2]
  rfl
set_option maxRecDepth 65536 in
theorem w_case : (Jvm.Cond.and given_1 narrow_1).before args0 about1 = true := by decide +kernel
theorem w_applies : (headSpec (Jvm.Cond.code x code maxLocals ret :: tables_1) room_1).applies x e0.platform about1 = true :=
  (Spec.applies_iff w_frames).mpr ⟨w_running, w_runnable, w_alone, w_named, w_hears, w_ripe, w_room, w_tables⟩
theorem atStart : AtStart classFile x code maxLocals ret World_1 tables_1 room_1 Calls_1 rest_1 Pre_1 launch0 p0 e0 about1 theMethod args0 below0 :=
  ⟨lists_1, trivial, launch0.admits_env _ _ _, launch0.least_env, fairChoices_fair.cas, fairChoices_fair.clock, w_frames, w_args, w_heap, w_applies, trivial, trivial, w_case⟩
end start1
theorem witness_1 : WitnessClaimed_1 := ⟨start1.p0, start1.e0, start1.about1, start1.theMethod, start1.args0, start1.below0, start1.atStart⟩
end Jvm.Pilot.@@N@@
