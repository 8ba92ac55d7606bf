import JvmDerived
import JvmDerived.Pilot.@@N@@Statement
import JvmDerived.Pilot.@@N@@Code
set_option linter.unusedVariables false
set_option linter.unusedSimpArgs false
namespace Jvm.OwnFp
open Jvm.FP.Core Op
/-! own: exact values. `Dyf f i k d`: the datum d is finite and worth i / 2^k. -/
def Dyf (f : Fmt) (i : Int) (k : Nat) (d : Datum) : Prop := (∃ s c q, d = .fin s c q) ∧ zval f d * 2 ^ k = i * 2 ^ (-f.qmin).toNat
theorem pw_pos (n : Nat) : (0 : Int) < 2 ^ n := Int.pow_pos (by decide)
theorem pw_cast (n : Nat) : ((2 ^ n : Nat) : Int) = 2 ^ n := by simp
theorem signed_abs (i : Int) : signed (decide (i < 0)) i.natAbs = i := by
  unfold signed
  by_cases h : i < 0 <;> simp [h] <;> omega
theorem signed_mulI (s : Bool) (c k : Nat) : signed s (c * 2 ^ k) = signed s c * 2 ^ k := by
  rw [signed_mul, pw_cast]
theorem vex {f : Fmt} (hf : Good f) {i : Int} {k : Nat} (hi : i.natAbs < 2 ^ f.p) (hk : (k : Int) ≤ -f.qmin) (hq : 0 ≤ f.qmax) :
    ∃ s c q, FP.Core.fits f (.fin s c q) ∧ zval f (.fin s c q) * 2 ^ k = i * 2 ^ (-f.qmin).toNat := by
  obtain ⟨c', q', h, hu⟩ := round_exact hf (decide (i < 0)) (c := i.natAbs) (q := -(k : Int)) hi (by omega) (by omega)
  refine ⟨_, c', q', h ▸ round_fits hf _, ?_⟩
  show signed (decide (i < 0)) (inUnits c' q' f.qmin) * 2 ^ k = _
  rw [hu]
  unfold inUnits
  rw [signed_mulI, signed_abs, Int.mul_assoc, ← Int.pow_add, show (-(k : Int) - f.qmin).toNat + k = (-f.qmin).toNat by omega]
theorem dyf_of_zval {f : Fmt} (hf : Good f) {s : Bool} {A B : Nat} {e : Int} {s' : Bool} {c' : Nat} {q' : Int} (hV : FP.Core.fits f (.fin s' c' q'))
    (hz : zval f (roundRatio f s A B e) = zval f (.fin s' c' q')) : ∃ s₀ c₀ q₀, roundRatio f s A B e = .fin s₀ c₀ q₀ := by
  rcases roundRatio_cases f s A B e with ⟨c, q, h⟩ | h
  · exact ⟨s, c, q, h⟩
  · exfalso
    rw [h] at hz
    have h1 := zmag_lt_top hf hV
    have h2 := congrArg Int.natAbs hz
    unfold zval at h2
    rw [natAbs_signed, natAbs_signed] at h2
    have h3 : zmag f (.inf s) = f.tails * 2 ^ (f.exps - 2) := rfl
    have h4 : zmag f (.fin s' c' q') = inUnits c' q' f.qmin := rfl
    omega
/-- an exact result that the format holds is not rounded -/
theorem rnd {f : Fmt} (hf : Good f) (hq : 0 ≤ f.qmax) {s : Bool} {c : Nat} {q e0 : Int} (h0 : e0 ≤ f.qmin) (h0e : e0 ≤ q) {i : Int} {k : Nat} (hi : i.natAbs < 2 ^ f.p) (hk : (k : Int) ≤ -f.qmin)
    (h : signed s (inUnits c q e0) * 2 ^ k = i * 2 ^ (-f.qmin).toNat * 2 ^ (f.qmin - e0).toNat) : Dyf f i k (round f (.fin s c q)) := by
  obtain ⟨s', c', q', hV, hv⟩ := vex hf hi hk hq
  have hn : Datum.fin s' c' q' ≠ .nan := nofun
  have he : zval f (.fin s' c' q') * ((2 ^ (f.qmin - e0).toNat : Nat) : Int) = signed s (inUnits c q e0) := by
    refine Int.eq_of_mul_eq_mul_right (Int.ne_of_gt (pw_pos k)) ?_
    rw [h, ← hv, pw_cast]; ac_rfl
  have hz : zval f (round f (.fin s c q)) = zval f (.fin s' c' q') :=
    Int.le_antisymm (zval_round_le hf hV hn h0 h0e (Int.le_of_eq he.symm)) (zval_round_ge hf hV hn h0 h0e (Int.le_of_eq he))
  exact ⟨dyf_of_zval hf hV hz, by rw [hz]; exact hv⟩
theorem Dyf.fit {f : Fmt} {i : Int} {k : Nat} {d : Datum} (h : Dyf f i k d) : ∃ s c q, d = .fin s c q := h.1
theorem Dyf.up {f : Fmt} {i : Int} {k : Nat} {d : Datum} (h : Dyf f i k d) (l : Nat) : Dyf f (i * 2 ^ l) (k + l) d :=
  ⟨h.1, by rw [Int.pow_add, ← Int.mul_assoc, h.2]; ac_rfl⟩
theorem Dyf.to {f : Fmt} {i j : Int} {k l : Nat} {d : Datum} (h : Dyf f i k d) (e : i * 2 ^ l = j * 2 ^ k) : Dyf f j l d := by
  refine ⟨h.1, Int.eq_of_mul_eq_mul_right (Int.ne_of_gt (pw_pos k)) ?_⟩
  calc zval f d * 2 ^ l * 2 ^ k = (zval f d * 2 ^ k) * 2 ^ l := by ac_rfl
    _ = (i * 2 ^ l) * 2 ^ (-f.qmin).toNat := by rw [h.2]; ac_rfl
    _ = j * 2 ^ (-f.qmin).toNat * 2 ^ k := by rw [e]; ac_rfl
theorem Dyf.sum {f : Fmt} (hf : Good f) (hq : 0 ≤ f.qmax) {i j : Int} {k : Nat} {x y : Datum} (fx : FP.Core.fits f x) (fy : FP.Core.fits f y) (hx : Dyf f i k x) (hy : Dyf f j k y) (hi : (i + j).natAbs < 2 ^ f.p) (hk : (k : Int) ≤ -f.qmin) :
    Dyf f (i + j) k (round f (exactSum x y)) := by
  obtain ⟨⟨s, c, q, rfl⟩, hx⟩ := hx
  obtain ⟨⟨t, d, r, rfl⟩, hy⟩ := hy
  obtain ⟨sg, n, e, he, hle, hu⟩ := sum_units fx fy
  rw [he]
  refine rnd hf hq (Int.le_refl _) hle hi hk ?_
  rw [hu, Int.add_mul, hx, hy, Int.add_mul, Int.sub_self]
  simp
theorem Dyf.neg {f : Fmt} {i : Int} {k : Nat} {x : Datum} (hx : Dyf f i k x) : Dyf f (-i) k (negate x) := by
  obtain ⟨⟨s, c, q, rfl⟩, hx⟩ := hx
  refine ⟨⟨_, _, _, rfl⟩, ?_⟩
  rw [zval_negate, Int.neg_mul, hx, Int.neg_mul]
theorem Dyf.prod {f : Fmt} (hf : Good f) (hq : 0 ≤ f.qmax) {i j : Int} {k l : Nat} {x y : Datum} (fx : FP.Core.fits f x) (fy : FP.Core.fits f y) (hx : Dyf f i k x) (hy : Dyf f j l y) (hi : (i * j).natAbs < 2 ^ f.p) (hk : ((k + l : Nat) : Int) ≤ -f.qmin) :
    Dyf f (i * j) (k + l) (round f (exactProduct x y)) := by
  obtain ⟨⟨s, c, q, rfl⟩, hx⟩ := hx
  obtain ⟨⟨t, d, r, rfl⟩, hy⟩ := hy
  obtain ⟨he, hle, hu⟩ := product_units fx fy
  rw [he]
  have hn := qmin_neg hf
  refine rnd hf hq (e0 := 2 * f.qmin) (by omega) hle hi hk ?_
  rw [hu, signed_xor, show (f.qmin - 2 * f.qmin).toNat = (-f.qmin).toNat by omega, Int.pow_add]
  calc zval f (.fin s c q) * zval f (.fin t d r) * (2 ^ k * 2 ^ l) = (zval f (.fin s c q) * 2 ^ k) * (zval f (.fin t d r) * 2 ^ l) := by ac_rfl
    _ = _ := by rw [hx, hy]; ac_rfl
theorem natAbs_pow (n : Nat) : ((2 : Int) ^ n).natAbs = 2 ^ n := by rw [Int.natAbs_pow]; rfl
theorem natAbs_zval (f : Fmt) (d : Datum) : (zval f d).natAbs = zmag f d := natAbs_signed _ _
/-- an exact quotient that the format holds is not rounded -/
theorem Dyf.quot {f : Fmt} (hf : Good f) (hq : 0 ≤ f.qmax) {i j n : Int} {k l m : Nat} {x y : Datum} (fx : FP.Core.fits f x) (fy : FP.Core.fits f y) (hx : Dyf f i k x) (hy : Dyf f j l y) (hj : j ≠ 0) (hi : n.natAbs < 2 ^ f.p) (hm : (m : Int) ≤ -f.qmin)
    (e : i * 2 ^ l * 2 ^ m = n * j * 2 ^ k) : Dyf f n m (quotient f x y) := by
  obtain ⟨⟨s, c, q, rfl⟩, hx⟩ := hx
  obtain ⟨⟨t, d, r, rfl⟩, hy⟩ := hy
  obtain ⟨s', c', q', hV, hv⟩ := vex hf hi hm hq
  have hn : Datum.fin s' c' q' ≠ .nan := nofun
  have hqm := qmin_neg hf
  have fx1 := fx.2.1
  have fy1 := fy.2.1
  -- the signed equation
  have hz : zval f (.fin s c q) * 2 ^ (-f.qmin).toNat = zval f (.fin s' c' q') * zval f (.fin t d r) := by
    refine Int.eq_of_mul_eq_mul_right (Int.ne_of_gt (Int.mul_pos (Int.mul_pos (pw_pos k) (pw_pos l)) (pw_pos m))) ?_
    calc zval f (.fin s c q) * 2 ^ (-f.qmin).toNat * (2 ^ k * 2 ^ l * 2 ^ m) = (zval f (.fin s c q) * 2 ^ k) * (2 ^ l * 2 ^ m) * 2 ^ (-f.qmin).toNat := by ac_rfl
      _ = (i * 2 ^ l * 2 ^ m) * 2 ^ (-f.qmin).toNat * 2 ^ (-f.qmin).toNat := by rw [hx]; ac_rfl
      _ = (n * 2 ^ (-f.qmin).toNat) * (j * 2 ^ (-f.qmin).toNat) * 2 ^ k := by rw [e]; ac_rfl
      _ = (zval f (.fin s' c' q') * 2 ^ m) * (zval f (.fin t d r) * 2 ^ l) * 2 ^ k := by rw [hv, hy]
      _ = _ := by ac_rfl
  have hzb : zval f (.fin t d r) ≠ 0 := by
    intro h0
    rw [h0, Int.zero_mul] at hy
    rcases Int.mul_eq_zero.mp hy.symm with h | h
    · exact hj h
    · exact absurd h (Int.ne_of_gt (pw_pos _))
  have hd : d ≠ 0 := by
    rintro rfl
    apply hzb
    show signed t (inUnits 0 r f.qmin) = 0
    unfold inUnits; rw [Nat.zero_mul, signed_zero]
  have hmag : zmag f (.fin s c q) * 2 ^ (-f.qmin).toNat = zmag f (.fin s' c' q') * zmag f (.fin t d r) := by
    have h2 := congrArg Int.natAbs hz
    rw [Int.natAbs_mul, Int.natAbs_mul, natAbs_pow, natAbs_zval, natAbs_zval, natAbs_zval] at h2
    exact h2
  have hun : inUnits c (q - r) (2 * f.qmin - r) = zmag f (.fin s' c' q') * 2 ^ (f.qmin - (2 * f.qmin - r)).toNat * d := by
    have a1 : inUnits c (q - r) (2 * f.qmin - r) = zmag f (.fin s c q) * 2 ^ (-f.qmin).toNat := by
      show c * 2 ^ _ = c * 2 ^ _ * 2 ^ _
      rw [Nat.mul_assoc, ← Nat.pow_add, show (q - r - (2 * f.qmin - r)).toNat = (q - f.qmin).toNat + (-f.qmin).toNat by omega]
    rw [a1, hmag, show (f.qmin - (2 * f.qmin - r)).toNat = (r - f.qmin).toNat by omega]
    show _ * (d * 2 ^ _) = _
    ac_rfl
  have hqt : quotient f (.fin s c q) (.fin t d r) = roundRatio f (s != t) c d (q - r) := by
    show (if d = 0 then _ else _) = _
    rw [if_neg hd]
  have hm2 : zmag f (roundRatio f (s != t) c d (q - r)) = zmag f (.fin s' c' q') :=
    Nat.le_antisymm (zmag_roundRatio_le hf (e0 := 2 * f.qmin - r) (Nat.pos_of_ne_zero hd) hV hn (by omega) (by omega) (Nat.le_of_eq hun))
      (zmag_roundRatio_ge hf (e0 := 2 * f.qmin - r) (Nat.pos_of_ne_zero hd) hV (by omega) (by omega) (Nat.le_of_eq hun.symm))
  have hsg : signed (s != t) (zmag f (.fin s' c' q')) = zval f (.fin s' c' q') := by
    have p0 : zmag f (.fin s c q) = inUnits c q f.qmin := rfl
    have hS : zval f (.fin s c q) * 2 ^ (-f.qmin).toNat * zval f (.fin t d r) = zval f (.fin s' c' q') * (zval f (.fin t d r) * zval f (.fin t d r)) := by rw [hz]; ac_rfl
    by_cases h0 : zmag f (.fin s' c' q') = 0
    · unfold zval; rw [h0, signed_zero, signed_zero]
    · have hbb : 0 < zval f (.fin t d r) * zval f (.fin t d r) := by
        rcases Int.lt_or_gt_of_ne hzb with h | h
        · exact Int.mul_pos_of_neg_of_neg h h
        · exact Int.mul_pos h h
      have hst : zval f (.fin s c q) * zval f (.fin t d r) = signed (s != t) (zmag f (.fin s c q) * zmag f (.fin t d r)) := by
        rw [signed_xor]; rfl
      have e1 : zval f (.fin s' c' q') * (zval f (.fin t d r) * zval f (.fin t d r)) = signed (s != t) (zmag f (.fin s c q) * zmag f (.fin t d r)) * 2 ^ (-f.qmin).toNat := by
        rw [← hS, ← hst]; ac_rfl
      have e2 : signed (s != t) (zmag f (.fin s c q) * zmag f (.fin t d r)) * 2 ^ (-f.qmin).toNat = signed (s != t) (zmag f (.fin s' c' q')) * (zval f (.fin t d r) * zval f (.fin t d r)) := by
        rw [← signed_mulI, show zmag f (.fin s c q) * zmag f (.fin t d r) * 2 ^ (-f.qmin).toNat = zmag f (.fin s' c' q') * (zmag f (.fin t d r) * zmag f (.fin t d r)) by rw [Nat.mul_right_comm, hmag]; ac_rfl, signed_mul]
        congr 1
        unfold zval
        rw [Int.natCast_mul]
        cases (sgn (.fin t d r)) <;> simp [signed, Int.neg_mul_neg]
      exact Int.eq_of_mul_eq_mul_right (Int.ne_of_gt hbb) (e2.symm.trans e1.symm)
  have hzz : zval f (roundRatio f (s != t) c d (q - r)) = zval f (.fin s' c' q') := by
    rw [← hsg]
    show signed (sgn (roundRatio f (s != t) c d (q - r))) (zmag f (roundRatio f (s != t) c d (q - r))) = _
    rw [sgn_roundRatio, hm2]
  rw [hqt]
  exact ⟨dyf_of_zval hf hV hzz, by rw [hzz]; exact hv⟩
theorem Dyf.ofInt {f : Fmt} (hf : Good f) (hq : 0 ≤ f.qmax) {i : Int} (hi : i.natAbs < 2 ^ f.p) : Dyf f i 0 (round f (FP.Core.ofInt i)) := by
  have hn := qmin_neg hf
  refine rnd hf hq (Int.le_refl _) (by omega) hi (by omega) ?_
  unfold inUnits
  rw [signed_mulI, signed_abs, Int.sub_self]
  simp
theorem Dyf.order {f : Fmt} (hf : Good f) {i j : Int} {k : Nat} {x y : Datum} (fx : FP.Core.fits f x) (fy : FP.Core.fits f y) (hx : Dyf f i k x) (hy : Dyf f j k y) : order x y = some (compare i j) := by
  obtain ⟨⟨s, c, q, rfl⟩, hx⟩ := hx
  obtain ⟨⟨t, d, r, rfl⟩, hy⟩ := hy
  rw [order_zval hf fx fy nofun nofun, ← compare_mul_pos _ _ _ (pw_pos k), hx, hy, compare_mul_pos _ _ _ (pw_pos _)]
/-! doubles -/
def Dy (i : Int) (k : Nat) (a : UInt64) : Prop := Dyf b64 i k (val64 a)
theorem qm64 : (0 : Int) ≤ b64.qmax := by decide
theorem Dy.fin {i : Int} {k : Nat} {a : UInt64} (h : Dy i k a) : DFin a := h.1
theorem Dy.nn {i : Int} {k : Nat} {a : UInt64} (h : Dy i k a) : Jvm.Free.Fl.NoNaN64 a := (Jvm.Free.Fl.fin64_core.mpr h.1).noNaN
theorem Dy.to {i j : Int} {k l : Nat} {a : UInt64} (h : Dy i k a) (e : i * 2 ^ l = j * 2 ^ k) : Dy j l a := Dyf.to h e
theorem Dy.up {i : Int} {k : Nat} {a : UInt64} (h : Dy i k a) (l : Nat) : Dy (i * 2 ^ l) (k + l) a := Dyf.up h l
theorem Dy.add {i j : Int} {k : Nat} {a b : UInt64} (ha : Dy i k a) (hb : Dy j k b) (hi : (i + j).natAbs < 9007199254740992) (hk : k ≤ 1074) : Dy (i + j) k (FP.dadd a b) := by
  show Dyf b64 _ _ (val64 (dadd a b))
  rw [val64_dadd]
  exact Dyf.sum good_b64 qm64 (val64_fits a) (val64_fits b) ha hb hi (by rw [qmin_b64]; omega)
theorem Dy.sub {i j : Int} {k : Nat} {a b : UInt64} (ha : Dy i k a) (hb : Dy j k b) (hi : (i - j).natAbs < 9007199254740992) (hk : k ≤ 1074) : Dy (i - j) k (FP.dsub a b) := by
  show Dyf b64 _ _ (val64 (dsub a b))
  rw [val64_dsub]
  exact Dyf.sum good_b64 qm64 (val64_fits a) (negate_fits (val64_fits b)) ha hb.neg hi (by rw [qmin_b64]; omega)
theorem Dy.mul {i j : Int} {k l : Nat} {a b : UInt64} (ha : Dy i k a) (hb : Dy j l b) (hi : (i * j).natAbs < 9007199254740992) (hk : k + l ≤ 1074) : Dy (i * j) (k + l) (FP.dmul a b) := by
  show Dyf b64 _ _ (val64 (dmul a b))
  rw [val64_dmul]
  exact Dyf.prod good_b64 qm64 (val64_fits a) (val64_fits b) ha hb hi (by rw [qmin_b64]; omega)
theorem Dy.div {i j n : Int} {k l m : Nat} {a b : UInt64} (ha : Dy i k a) (hb : Dy j l b) (hj : j ≠ 0) (hi : n.natAbs < 9007199254740992) (hk : m ≤ 1074) (e : i * 2 ^ l * 2 ^ m = n * j * 2 ^ k) : Dy n m (FP.ddiv a b) := by
  show Dyf b64 _ _ (val64 (ddiv a b))
  rw [val64_ddiv]
  exact Dyf.quot good_b64 qm64 (val64_fits a) (val64_fits b) ha hb hj hi (by rw [qmin_b64]; omega) e
theorem Dy.neg {i : Int} {k : Nat} {a : UInt64} (ha : Dy i k a) : Dy (-i) k (FP.dneg a) := by
  show Dyf b64 _ _ (val64 (FP.dneg a))
  rw [Jvm.FP.val64_dneg]
  exact Dyf.neg ha
theorem Dy.i2d (x : Int32) : Dy x.toInt 0 (FP.i2d x) := by
  show Dyf b64 _ _ (val64 (FP.Core.i2d x))
  rw [val64_i2d]
  exact Dyf.ofInt good_b64 qm64 (by have := int32_abs x; show _ < 2 ^ 53; omega)
theorem Dy.l2d {x : Int64} (h : x.toInt.natAbs < 9007199254740992) : Dy x.toInt 0 (FP.l2d x) := by
  show Dyf b64 _ _ (val64 (FP.Core.l2d x))
  rw [val64_l2d]
  exact Dyf.ofInt good_b64 qm64 h
theorem Dy.cmp {i j : Int} {k : Nat} {a b : UInt64} (ha : Dy i k a) (hb : Dy j k b) : FP.dcmp a b = some (compare i j) :=
  Dyf.order good_b64 (val64_fits a) (val64_fits b) ha hb
theorem Dy.cmp_eq {i j : Int} {k : Nat} {a b : UInt64} (ha : Dy i k a) (hb : Dy j k b) (e : i = j) (o : ClassFile.CmpOp) : cmpValue (FP.dcmp a b) o = 0 := by
  rw [ha.cmp hb, e, compare_self_int]; rfl
theorem Dy.cmp_lt {i j : Int} {k : Nat} {a b : UInt64} (ha : Dy i k a) (hb : Dy j k b) (e : i < j) (o : ClassFile.CmpOp) : cmpValue (FP.dcmp a b) o = -1 := by
  rw [ha.cmp hb, show compare i j = .lt by rw [compare_ite, if_pos e]]; rfl
theorem Dy.cmp_gt {i j : Int} {k : Nat} {a b : UInt64} (ha : Dy i k a) (hb : Dy j k b) (e : j < i) (o : ClassFile.CmpOp) : cmpValue (FP.dcmp a b) o = 1 := by
  rw [ha.cmp hb, show compare i j = .gt by rw [compare_ite, if_neg (by omega), if_neg (by omega)]]; rfl
theorem dy_of {i : Int} {k : Nat} {a : UInt64} {s : Bool} {c : Nat} {q : Int} (h : val64 a = .fin s c q) (e : zval b64 (.fin s c q) * 2 ^ k = i * 2 ^ 1074) : Dy i k a :=
  ⟨⟨s, c, q, h⟩, by rw [h, e]; rfl⟩
theorem dy0 (k : Nat) : Dy 0 k (0 : UInt64) := dy_of (s := false) (c := 0) (q := -1074) (by decide +kernel) (by
  rw [show zval b64 (.fin false 0 (-1074)) = 0 from rfl, Int.zero_mul, Int.zero_mul])
theorem dy1 (k : Nat) : Dy (2 ^ k) k (4607182418800017408 : UInt64) := dy_of (s := false) (c := 2 ^ 52) (q := -52) (by decide +kernel) (by
  rw [show zval b64 (.fin false (2 ^ 52) (-52)) = 2 ^ 1074 by decide +kernel, Int.mul_comm])
theorem Dy.ge {i j : Int} {k : Nat} {a b : UInt64} (ha : Dy i k a) (hb : Dy j k b) (e : j ≤ i) (o : ClassFile.CmpOp) : ¬ (cmpValue (FP.dcmp a b) o < (0 : Int32)) := by
  rcases Int.lt_or_eq_of_le e with h | h
  · rw [ha.cmp_gt hb h]; decide
  · rw [ha.cmp_eq hb h.symm]; decide
theorem Dy.le {i j : Int} {k : Nat} {a b : UInt64} (ha : Dy i k a) (hb : Dy j k b) (e : i ≤ j) (o : ClassFile.CmpOp) : ¬ ((0 : Int32) < cmpValue (FP.dcmp a b) o) := by
  rcases Int.lt_or_eq_of_le e with h | h
  · rw [ha.cmp_lt hb h]; decide
  · rw [ha.cmp_eq hb h]; decide
theorem Dy.lt_inf {i : Int} {k : Nat} {a : UInt64} (ha : Dy i k a) (o : ClassFile.CmpOp) : cmpValue (FP.dcmp a (9218868437227405312 : UInt64)) o < (0 : Int32) := by
  rw [Jvm.RoadKit.dcmp_pinf (Jvm.Free.Fl.fin64_core.mpr ha.1)]; decide
theorem isfin {a : UInt64} (h : DFin a) : ¬ ((0 : Int32) < cmpValue (FP.dcmp (a &&& 0x7fffffffffffffff) (9218868437227405311 : UInt64)) .g) := by
  have hn : dIsNaN a = false := (notNaN_iff a).mpr (by obtain ⟨s, c, q, e⟩ := h; rw [e]; exact nofun)
  rcases (le_max hn).mpr h with e | e <;> rw [show FP.dcmp (a &&& 0x7fffffffffffffff) (9218868437227405311 : UInt64) = _ from e] <;> decide
theorem since0 (s : State) : s.Since s.vm 0 := ⟨State.Warmed39.refl s, fun j p h1 h2 => by
  rw [Array.getElem?_eq_none h1] at h2; cases h2⟩
theorem i2d_nz {v : Int32} (h : v ≠ 0) : ¬ DZero (FP.i2d v) := fun q => i2d_ne_zero h ((zero_bits2 _).mp q)
theorem nn_of {x : UInt64} (h : dIsNaN x = false) : Jvm.Free.Fl.NoNaN64 x := Jvm.Free.Fl.noNaN64_no.mpr h
theorem no_of {x : UInt64} (h : Jvm.Free.Fl.NoNaN64 x) : dIsNaN x = false := Jvm.Free.Fl.noNaN64_no.mp h
theorem no_fin {x : UInt64} (h : DFin x) : dIsNaN x = false := (notNaN_iff x).mpr (by obtain ⟨s, c, q, e⟩ := h; rw [e]; exact nofun)
theorem nn_div {a : UInt64} {v : Int32} (ha : dIsNaN a = false) (h : v ≠ 0) : Jvm.Free.Fl.NoNaN64 (FP.ddiv a (FP.i2d v)) := nn_of (ddiv_out ha (i2d_fin v) (i2d_nz h))
theorem fin_div (a : Int32) {v : Int32} (h : v ≠ 0) : DFin (FP.ddiv (FP.i2d a) (FP.i2d v)) := by
  have h1 := i2d_mag a
  have h2 := i2d_big (v := v) (fun q => h (Int32.toInt_inj.mp q))
  exact fin_of_lt (ddiv_mag h1 h2.1 h2.2 (by decide) (by decide)) (by decide)
end Jvm.OwnFp
namespace Jvm.Pilot.@@N@@
open Jvm Jvm.ClassFile Sem Op Lib Jvm.Free Jvm.Stand Jvm.LawKit Jvm.RoadKit Bundle Jvm.Pilot.@@N@@.Jvm.D
open Jvm.OwnFp
theorem own_ints (p0 p1 p2 m j e : Int32) (hm : m = p0 &&& (63 : Int32)) (hj : j = (p1 &&& (2147483647 : Int32)) % (1025 : Int32)) (he : e = p2 &&& (15 : Int32)) :
    ∃ E : Nat, e.toInt = E ∧ 0 ≤ m.toInt ∧ m.toInt ≤ 63 ∧ 0 ≤ j.toInt ∧ j.toInt ≤ 1024 ∧ ((1 : Int32) <<< (e &&& 31)).toInt = 2 ^ E ∧ ((1 : Int64) <<< (e &&& 0x3f).toInt64).toInt = 2 ^ E ∧ ((1 : Int64) <<< ((e + (13 : Int32)) &&& 0x3f).toInt64).toInt = 2 ^ (E + 13) ∧ (1 : Int) ≤ 2 ^ E ∧ (2 : Int) ^ E ≤ 32768 ∧ E ≤ 15 := by
  have m1 := c_and p0 63 (by decide)
  have e1 := c_and p2 15 (by decide)
  have j1 := c_and p1 2147483647 (by decide)
  have j2 := (c_irem (p1 &&& 2147483647) 1025 1025 (by decide)).1 j1.1
  rw [← hm] at m1; rw [← he] at e1; rw [← hj] at j2
  have q63 : (63 : Int32).toInt = 63 := by decide
  have q15 : (15 : Int32).toInt = 15 := by decide
  rw [q63] at m1; rw [q15] at e1
  have hj1 : 0 ≤ j.toInt ∧ j.toInt ≤ 1024 := by omega
  obtain ⟨E, hE, hE2⟩ : ∃ E : Nat, e.toInt = E ∧ E ≤ 15 := ⟨e.toInt.toNat, by omega, by omega⟩
  have hee : e = Int32.ofInt (E : Int) := by rw [← hE, Int32.ofInt_toInt]
  refine ⟨E, hE, m1.1, m1.2, hj1.1, hj1.2, ?_⟩
  subst hee
  clear hm hj he m1 e1 j1 j2 hj1 hE
  match E, hE2 with
  | 0, _ => decide
  | 1, _ => decide
  | 2, _ => decide
  | 3, _ => decide
  | 4, _ => decide
  | 5, _ => decide
  | 6, _ => decide
  | 7, _ => decide
  | 8, _ => decide
  | 9, _ => decide
  | 10, _ => decide
  | 11, _ => decide
  | 12, _ => decide
  | 13, _ => decide
  | 14, _ => decide
  | 15, _ => decide
theorem own_8 : Dy 8 0 (4620693217682128896 : UInt64) := dy_of (s := false) (c := 2 ^ 52) (q := -49) (by decide +kernel) (by decide +kernel)
theorem own_1024 : Dy 1024 0 (4652218415073722368 : UInt64) := dy_of (s := false) (c := 2 ^ 52) (q := -42) (by decide +kernel) (by decide +kernel)
theorem own_absmul {x y : Int} {A B : Nat} (hx : x.natAbs ≤ A) (hy : y.natAbs ≤ B) : (x * y).natAbs ≤ A * B := by
  rw [Int.natAbs_mul]; exact Nat.mul_le_mul hx hy
theorem own_bounds {m j n P : Int} (m1 : 0 ≤ m) (m2 : m ≤ 63) (j1 : 0 ≤ j) (j2 : j ≤ 1024) (n1 : -2147483648 ≤ n) (n2 : n < 2147483648) (P1 : 1 ≤ P) (P2 : P ≤ 32768) :
    (j * n).natAbs ≤ 1024 * 2147483648 ∧ ((1024 - j) * P).natAbs ≤ 1024 * 32768 ∧ ((1024 - j) * P + j * n).natAbs ≤ 1024 * 32768 + 1024 * 2147483648 ∧ (m * ((1024 - j) * P + j * n)).natAbs ≤ 63 * (1024 * 32768 + 1024 * 2147483648) := by
  have a := own_absmul (x := j) (y := n) (A := 1024) (B := 2147483648) (by omega) (by omega)
  have b := own_absmul (x := 1024 - j) (y := P) (A := 1024) (B := 32768) (by omega) (by omega)
  have c : ((1024 - j) * P + j * n).natAbs ≤ 1024 * 32768 + 1024 * 2147483648 := by
    generalize (1024 - j) * P = u at *; generalize j * n = w at *; omega
  exact ⟨a, b, c, own_absmul (x := m) (by omega) c⟩
theorem own_norm {m j n P : Int} {E : Nat} {vk vb va vn : UInt64} (m1 : 0 ≤ m) (m2 : m ≤ 63) (j1 : 0 ≤ j) (j2 : j ≤ 1024) (n1 : -2147483648 ≤ n) (n2 : n < 2147483648) (hP : P = 2 ^ E) (P1 : 1 ≤ P) (P2 : P ≤ 32768) (hE : E ≤ 15)
    (hk : Dy m 3 vk) (hb : Dy j 10 vb) (ha : Dy P 0 va) (hn : Dy n 0 vn) :
    Dy (1024 - j) 10 (FP.dsub (4607182418800017408 : UInt64) vb) ∧ Dy (j * n) 10 (FP.dmul vb vn) ∧ Dy (j * n) (10 + E) (FP.ddiv (FP.dmul vb vn) va) ∧
    Dy ((1024 - j) * P + j * n) (10 + E) (FP.dadd (FP.dsub (4607182418800017408 : UInt64) vb) (FP.ddiv (FP.dmul vb vn) va)) ∧
    Dy (m * ((1024 - j) * P + j * n)) (3 + (10 + E)) (FP.dmul vk (FP.dadd (FP.dsub (4607182418800017408 : UInt64) vb) (FP.ddiv (FP.dmul vb vn) va))) := by
  obtain ⟨b1, b2, b3, b4⟩ := own_bounds m1 m2 j1 j2 n1 n2 P1 P2
  have d1 : Dy (1024 - j) 10 (FP.dsub (4607182418800017408 : UInt64) vb) := Dy.sub (dy1 10) hb (by show (1024 - j).natAbs < _; omega) (by decide)
  have d2 : Dy (j * n) 10 (FP.dmul vb vn) := Dy.mul hb hn (by omega) (by decide)
  have d3 : Dy (j * n) (10 + E) (FP.ddiv (FP.dmul vb vn) va) := Dy.div d2 ha (by omega) (by omega) (by omega) (by rw [hP, Int.pow_add, Int.pow_zero, Int.mul_one]; ac_rfl)
  have d4 := Dy.add (hP ▸ d1.up E) d3 (by omega) (by omega)
  exact ⟨d1, d2, d3, d4, Dy.mul hk d4 (by omega) (by omega)⟩
theorem own_t {m j n : Int32} {s1 : Int64} {P : Int} {E : Nat} (m1 : 0 ≤ m.toInt) (m2 : m.toInt ≤ 63) (j1 : 0 ≤ j.toInt) (j2 : j.toInt ≤ 1024) (P1 : 1 ≤ P) (P2 : P ≤ 32768) (hs : s1.toInt = P) :
    (m.toInt64 * (((1024 : Int32) - j).toInt64 * s1 + j.toInt64 * n.toInt64)).toInt = m.toInt * ((1024 - j.toInt) * P + j.toInt * n.toInt) := by
  obtain ⟨b1, b2, b3, b4⟩ := own_bounds m1 m2 j1 j2 (rng32 n).1 (rng32 n).2 P1 P2
  have e0 : ((1024 : Int32) - j).toInt = 1024 - j.toInt := by
    have q := c_isub 1024 j
    have r := rng32 ((1024 : Int32) - j)
    rw [show (1024 : Int32).toInt = 1024 by decide] at q
    omega
  have e1 : (((1024 : Int32) - j).toInt64 * s1).toInt = (1024 - j.toInt) * P := by
    have q := FP.Core.int64_mul (a := ((1024 : Int32) - j).toInt64) (b := s1)
    rw [c_i2l, e0, hs] at q
    exact q (by omega) (by omega)
  have e2 : (j.toInt64 * n.toInt64).toInt = j.toInt * n.toInt := by
    have q := FP.Core.int64_mul (a := j.toInt64) (b := n.toInt64)
    rw [c_i2l, c_i2l] at q
    exact q (by omega) (by omega)
  have e3 : (((1024 : Int32) - j).toInt64 * s1 + j.toInt64 * n.toInt64).toInt = (1024 - j.toInt) * P + j.toInt * n.toInt := by
    have q := FP.Core.int64_add (a := ((1024 : Int32) - j).toInt64 * s1) (b := j.toInt64 * n.toInt64)
    rw [e1, e2] at q
    exact q (by omega) (by omega)
  have q := FP.Core.int64_mul (a := m.toInt64) (b := ((1024 : Int32) - j).toInt64 * s1 + j.toInt64 * n.toInt64)
  rw [c_i2l, e3] at q
  exact q (by omega) (by omega)
theorem ef_2_R (m : MethodId) (x0 : Addr) : entryFrame m #[(.ref x0)] 1 = mkF m 0 #[.val (.ref x0)] [] := by first | (simp [entryFrame, mkF, argsToLocals, Value.category]; done) | rfl
theorem d2_0 : decode jdk_30_method_1_code 0 = .ok (.aload_n 0, 1) := by decide +kernel
theorem d2_1 : decode jdk_30_method_1_code 1 = .ok (.invokespecial 1, 3) := by decide +kernel
theorem d2_4 : decode jdk_30_method_1_code 4 = .ok (.return_, 1) := by decide +kernel
def Q_rm2 (Z : State) (a1 : Addr) (h0 : Heap) (n0 : Nat) (v : Option Value) (h : Heap) (L : List Loc) : Prop := v = none ∧ Fr n0 L ∧ h = h0
theorem pn_java_2flang_2fRecord : plainName "java/lang/Record" = true := by first | (simp [plainName, overriddenIn]; done) | decide +kernel
set_option maxRecDepth 65536 in
set_option maxHeartbeats 40000000 in
theorem rm2 (l : Launch) (Z : State) (a0 : Array Value) (hw : ∀ d ∈ tables_1, d.before a0 Z = true) (ws : List Jvm.Cond) (a1 : Addr) (h0 : Heap) (n0 : Nat) (Z0 : n0 ≤ h0.size) :
    MetFree l (⟨"java/lang/Record", "<init>", "()V"⟩ : MethodName) (head1 (Jvm.Cond.code (⟨"java/lang/Record", "<init>", "()V"⟩ : MethodName) jdk_30_method_1_code 1 none :: ws) ({ frames := 1, cells := 0, slots := 0, locals := 12 } : Room)) (fun a U => a = #[(.ref a1)] ∧ Z.Warmed39 U.vm ∧ U.heap = h0) (fun _ _ _ _ _ => True) (fun _ U o U' => ∃ v L, o = .returned v ∧ Q_rm2 Z a1 h0 n0 v U'.heap L ∧ FrameEnd U o U' L ({ frames := 1, cells := 0, slots := 0, locals := 12 } : Room).cells ({ frames := 1, cells := 0, slots := 0, locals := 12 } : Room).slots) := by
  refine MetFree.of_bodySF (plainFor_of_name pn_java_2flang_2fRecord) hisR ?_
  intro p e s m args below meth c s₁ Bd hml0 hP hK
  obtain ⟨rfl, hZ, hh⟩ := hP
  have hx := Bd.exec
  have hby := Bd.bytes
  have hml : c.maxLocals = 1 := hml0
  have hown : s.vm.findClass "java/lang/Record" = some m.cls := findClass_of_methodNamed Bd.named
  have hnm := (name_of_methodNamed Bd.named Bd.method).1
  have X0 : Stand p l e ({ frames := 1, cells := 0, slots := 0, locals := 12 } : Room) s m #[(.ref a1)] below meth c s₁ [] 0 0 := Stand.of_body Bd
  have e0 : s₁.heap = h0 := by rw [← hh, Bd.state]; rfl
  have N0 := Fr.nil n0
  have k0 : ∀ t, Steps p.tables e below (s₁.setTop (mkF m 0 #[.val (.ref a1)] [])) t → Steps p.tables e below (s₁.setTop (entryFrame m #[(.ref a1)] 1)) t := fun t k => castTop (ef_2_R m a1) k
  have k101 : ∀ t, Steps p.tables e below (s₁.setTop (mkF m 1 #[.val (.ref a1)] [(.ref a1)])) t → Steps p.tables e below (s₁.setTop (entryFrame m #[(.ref a1)] 1)) t := fun t k => k0 t (by
    show Steps p.tables e below (s₁.setTop (mkF m 0 #[.val (.ref a1)] [])) _
    refine XS.aloadN X0.here hx rfl (hb hby d2_0) rfl rfl ?_
    exact k)
  obtain ⟨T102, X102, e102, st102⟩ := initO X0 hx hZ hown (hw _ (List.mem_of_getElem? (i := 14) rfl)) (hw _ (List.mem_of_getElem? (i := 15) rfl)) (hw _ (List.mem_of_getElem? (i := 16) rfl)) e0 (g := (mkF m 1 #[.val (.ref a1)] [(.ref a1)])) rfl (by rw [hml]; rfl) rfl (hb hby d2_1) (by decide) (W := 0) (by show 2 * 0 + _ ≤ _; exact Nat.le_of_eq rfl) (by decide)
  have k103 : ∀ t, Steps p.tables e below (T102.setTop (mkF m 4 #[.val (.ref a1)] [])) t → Steps p.tables e below (s₁.setTop (entryFrame m #[(.ref a1)] 1)) t := fun t k => k101 t (st102 t k)
  obtain ⟨fs, hr, hrun, hended, hW, hsame⟩ := X102.leave (v := none) (fun _ => rfl)
  refine ⟨_, _, k103 _ (X102.returnOut hx Bd.returns (hb hby d2_4) hr), hrun, hended, _, _, rfl, ?_, ⟨_, rfl⟩, hW, hsame.mono (by decide) (by decide)⟩
  show Q_rm2 Z a1 h0 n0 _ T102.heap _
  rw [e102]
  exact ⟨rfl, N0, rfl⟩
theorem ef_1_RDD (m : MethodId) (x0 : Addr) (x1 : UInt64) (x2 : UInt64) : entryFrame m #[(.ref x0), (.double x1), (.double x2)] 5 = mkF m 0 #[.val (.ref x0), .val (.double x1), .second, .val (.double x2), .second] [] := by first | (simp [entryFrame, mkF, argsToLocals, Value.category]; done) | rfl
theorem d1_0 : decode prog_72_method_1_code 0 = .ok (.aload_n 0, 1) := by decide +kernel
theorem d1_1 : decode prog_72_method_1_code 1 = .ok (.invokespecial 1, 3) := by decide +kernel
theorem pd__28_29V : parseMethodDescriptor "()V" = some ⟨[], none⟩ := by decide +kernel
theorem d1_4 : decode prog_72_method_1_code 4 = .ok (.dload_n 1, 1) := by decide +kernel
theorem d1_5 : decode prog_72_method_1_code 5 = .ok (.dconst 0, 1) := by decide +kernel
theorem d1_6 : decode prog_72_method_1_code 6 = .ok (.dcmp .l, 1) := by decide +kernel
theorem d1_7 : decode prog_72_method_1_code 7 = .ok (.ifCond .lt 11, 3) := by decide +kernel
theorem d1_10 : decode prog_72_method_1_code 10 = .ok (.dload_n 1, 1) := by decide +kernel
theorem d1_11 : decode prog_72_method_1_code 11 = .ok (.ldc2_w 9, 3) := by decide +kernel
theorem d1_14 : decode prog_72_method_1_code 14 = .ok (.dcmp .g, 1) := by decide +kernel
theorem d1_15 : decode prog_72_method_1_code 15 = .ok (.ifCond .lt 17, 3) := by decide +kernel
theorem d1_32 : decode prog_72_method_1_code 32 = .ok (.dload_n 3, 1) := by decide +kernel
theorem d1_33 : decode prog_72_method_1_code 33 = .ok (.dconst 0, 1) := by decide +kernel
theorem d1_34 : decode prog_72_method_1_code 34 = .ok (.dcmp .l, 1) := by decide +kernel
theorem d1_35 : decode prog_72_method_1_code 35 = .ok (.ifCond .lt 9, 3) := by decide +kernel
theorem d1_38 : decode prog_72_method_1_code 38 = .ok (.dload_n 3, 1) := by decide +kernel
theorem d1_39 : decode prog_72_method_1_code 39 = .ok (.dconst 1, 1) := by decide +kernel
theorem d1_40 : decode prog_72_method_1_code 40 = .ok (.dcmp .g, 1) := by decide +kernel
theorem d1_41 : decode prog_72_method_1_code 41 = .ok (.ifCond .le 17, 3) := by decide +kernel
theorem d1_58 : decode prog_72_method_1_code 58 = .ok (.aload_n 0, 1) := by decide +kernel
theorem d1_59 : decode prog_72_method_1_code 59 = .ok (.dload_n 1, 1) := by decide +kernel
theorem d1_60 : decode prog_72_method_1_code 60 = .ok (.putfield 21, 3) := by decide +kernel
theorem d1_63 : decode prog_72_method_1_code 63 = .ok (.aload_n 0, 1) := by decide +kernel
theorem d1_64 : decode prog_72_method_1_code 64 = .ok (.dload_n 3, 1) := by decide +kernel
theorem d1_65 : decode prog_72_method_1_code 65 = .ok (.putfield 27, 3) := by decide +kernel
theorem d1_68 : decode prog_72_method_1_code 68 = .ok (.return_, 1) := by decide +kernel
def Q_rm1 (Z : State) (a1 : Addr) (u1 : UInt64) (u2 : UInt64) (h0 : Heap) (n0 : Nat) (v : Option Value) (h : Heap) (L : List Loc) : Prop := v = none ∧ Fr n0 L ∧ Keep h0 h [a1] ∧ Exa Z h a1 "com/example/liblocus/liblocus/search/Bm25" ∧ Fld Z h a1 "com/example/liblocus/liblocus/search/Bm25" "k1" "D" (.double u1) ∧ Fld Z h a1 "com/example/liblocus/liblocus/search/Bm25" "b" "D" (.double u2)
theorem pn_com_2fexample_2fliblocus_2fliblocus_2fsearch_2fBm25 : plainName "com/example/liblocus/liblocus/search/Bm25" = true := by first | (simp [plainName, overriddenIn]; done) | decide +kernel
set_option maxRecDepth 65536 in
set_option maxHeartbeats 40000000 in
theorem rm1 (l : Launch) (Z : State) (a0 : Array Value) (hw : ∀ d ∈ tables_1, d.before a0 Z = true) (ws : List Jvm.Cond) (a1 : Addr) (u1 : UInt64) (u2 : UInt64) (h0 : Heap) (n0 : Nat) (Z0 : n0 ≤ h0.size) (F1 : Fld Z h0 a1 "com/example/liblocus/liblocus/search/Bm25" "k1" "D" (.double (0 : UInt64))) (F2 : Fld Z h0 a1 "com/example/liblocus/liblocus/search/Bm25" "b" "D" (.double (0 : UInt64))) (E1 : Exa Z h0 a1 "com/example/liblocus/liblocus/search/Bm25") (ga : n0 ≤ a1) (c7 : ¬ (cmpValue (FP.dcmp u1 (0 : UInt64)) .l < (0 : Int32))) (c15 : cmpValue (FP.dcmp u1 (9218868437227405312 : UInt64)) .g < (0 : Int32)) (c35 : ¬ (cmpValue (FP.dcmp u2 (0 : UInt64)) .l < (0 : Int32))) (c41 : ¬ ((0 : Int32) < cmpValue (FP.dcmp u2 (4607182418800017408 : UInt64)) .g)) :
    MetFree l (⟨"com/example/liblocus/liblocus/search/Bm25", "<init>", "(DD)V"⟩ : MethodName) (head1 (Jvm.Cond.code (⟨"com/example/liblocus/liblocus/search/Bm25", "<init>", "(DD)V"⟩ : MethodName) prog_72_method_1_code 5 none :: ws) ({ frames := 2, cells := 0, slots := 0, locals := 24 } : Room)) (fun a U => a = #[(.ref a1), (.double u1), (.double u2)] ∧ Z.Warmed39 U.vm ∧ U.heap = h0) (fun _ _ _ _ _ => True) (fun _ U o U' => ∃ v L, o = .returned v ∧ Q_rm1 Z a1 u1 u2 h0 n0 v U'.heap L ∧ FrameEnd U o U' L ({ frames := 2, cells := 0, slots := 0, locals := 24 } : Room).cells ({ frames := 2, cells := 0, slots := 0, locals := 24 } : Room).slots) := by
  refine MetFree.of_bodySF (plainFor_of_name pn_com_2fexample_2fliblocus_2fliblocus_2fsearch_2fBm25) hisR ?_
  intro p e s m args below meth c s₁ Bd hml0 hP hK
  obtain ⟨rfl, hZ, hh⟩ := hP
  have hx := Bd.exec
  have hby := Bd.bytes
  have hml : c.maxLocals = 5 := hml0
  have hown : s.vm.findClass "com/example/liblocus/liblocus/search/Bm25" = some m.cls := findClass_of_methodNamed Bd.named
  have hnm := (name_of_methodNamed Bd.named Bd.method).1
  have X0 : Stand p l e ({ frames := 2, cells := 0, slots := 0, locals := 24 } : Room) s m #[(.ref a1), (.double u1), (.double u2)] below meth c s₁ [] 0 0 := Stand.of_body Bd
  have e0 : s₁.heap = h0 := by rw [← hh, Bd.state]; rfl
  have N0 := Fr.nil n0
  have k0 : ∀ t, Steps p.tables e below (s₁.setTop (mkF m 0 #[.val (.ref a1), .val (.double u1), .second, .val (.double u2), .second] [])) t → Steps p.tables e below (s₁.setTop (entryFrame m #[(.ref a1), (.double u1), (.double u2)] 5)) t := fun t k => castTop (ef_1_RDD m a1 u1 u2) k
  have K0 := Keep.refl h0 [a1]
  have k101 : ∀ t, Steps p.tables e below (s₁.setTop (mkF m 1 #[.val (.ref a1), .val (.double u1), .second, .val (.double u2), .second] [(.ref a1)])) t → Steps p.tables e below (s₁.setTop (entryFrame m #[(.ref a1), (.double u1), (.double u2)] 5)) t := fun t k => k0 t (by
    show Steps p.tables e below (s₁.setTop (mkF m 0 #[.val (.ref a1), .val (.double u1), .second, .val (.double u2), .second] [])) _
    refine XS.aloadN X0.here hx rfl (hb hby d1_0) rfl rfl ?_
    exact k)
  obtain ⟨_, _, ⟨T102, L102, k102, n102⟩, -, X102, ⟨Lc102, hQ102, l102, y102, z102⟩, st102⟩ := X0.specialBack hx (y := (⟨"java/lang/Record", "<init>", "()V"⟩ : MethodName)) rfl hown (mvT hZ (hw _ (List.mem_of_getElem? (i := 9) rfl))) (mvT hZ (hw _ (List.mem_of_getElem? (i := 10) rfl))) (mvT hZ (hw _ (List.mem_of_getElem? (i := 13) rfl))) (by decide) (backOf (W := 0) (rm2 l Z a0 hw [] a1 h0 n0 Z0 ) hZ (hw _ (List.mem_of_getElem? (i := 13) rfl)) (hw _ (List.mem_of_getElem? (i := 12) rfl)) (by decide) (by decide)) (g := (mkF m 1 #[.val (.ref a1), .val (.double u1), .second, .val (.double u2), .second] [(.ref a1)])) rfl (by rw [hml]; rfl) (Steps.refl _) (a := a1) (argsL := []) (rest := []) (lenOf pd__28_29V rfl) rfl (by show 2 * 0 + _ ≤ _; exact Nat.le_of_eq rfl) (hb hby d1_1) (fun _ _ => ⟨rfl, e0, (by decide : 0 + 0 ≤ _), (by decide : 0 + 0 ≤ _)⟩)
  dsimp only [Pt.U, Pt.locs, Pt.cells, Pt.slots] at X102 l102 y102 z102 st102 hQ102
  subst l102 y102 z102
  obtain ⟨rfl, N102q, e102⟩ := hQ102
  have N103 := Fr.app N0 N102q
  have k104 : ∀ t, Steps p.tables e below (T102.setTop (mkF m 4 #[.val (.ref a1), .val (.double u1), .second, .val (.double u2), .second] [])) t → Steps p.tables e below (s₁.setTop (entryFrame m #[(.ref a1), (.double u1), (.double u2)] 5)) t := fun t k => k101 t (st102.trans k)
  have k105 : ∀ t, Steps p.tables e below (T102.setTop (mkF m 60 #[.val (.ref a1), .val (.double u1), .second, .val (.double u2), .second] [(.double u1), (.ref a1)])) t → Steps p.tables e below (s₁.setTop (entryFrame m #[(.ref a1), (.double u1), (.double u2)] 5)) t := fun t k => k104 t (by
    show Steps p.tables e below (T102.setTop (mkF m 4 #[.val (.ref a1), .val (.double u1), .second, .val (.double u2), .second] [])) _
    refine XS.dloadN X102.here hx rfl (hb hby d1_4) rfl ?_
    show Steps p.tables e below (T102.setTop (mkF m 5 #[.val (.ref a1), .val (.double u1), .second, .val (.double u2), .second] [(.double u1)])) _
    refine XS.dconst0 X102.here hx rfl (hb hby d1_5) (v := (0 : UInt64)) rfl ?_
    show Steps p.tables e below (T102.setTop (mkF m 6 #[.val (.ref a1), .val (.double u1), .second, .val (.double u2), .second] [(.double (0 : UInt64)), (.double u1)])) _
    refine XS.dcmpS X102.here hx rfl (hb hby d1_6) rfl rfl ?_
    show Steps p.tables e below (T102.setTop (mkF m 7 #[.val (.ref a1), .val (.double u1), .second, .val (.double u2), .second] [(.int (cmpValue (FP.dcmp u1 (0 : UInt64)) .l))])) _
    refine XS.ifNo X102.here hx rfl (hb hby d1_7) rfl ((if0 _ _).trans (flt c7).1) ?_
    show Steps p.tables e below (T102.setTop (mkF m 10 #[.val (.ref a1), .val (.double u1), .second, .val (.double u2), .second] [])) _
    refine XS.dloadN X102.here hx rfl (hb hby d1_10) rfl ?_
    show Steps p.tables e below (T102.setTop (mkF m 11 #[.val (.ref a1), .val (.double u1), .second, .val (.double u2), .second] [(.double u1)])) _
    refine X102.ldc2DoubleC hx hown (mvT hZ (hw _ (List.mem_of_getElem? (i := 17) rfl))) (g := (mkF m 11 #[.val (.ref a1), .val (.double u1), .second, .val (.double u2), .second] [(.double u1)])) rfl (hb hby d1_11) _ ?_
    show Steps p.tables e below (T102.setTop (mkF m 14 #[.val (.ref a1), .val (.double u1), .second, .val (.double u2), .second] [(.double (9218868437227405312 : UInt64)), (.double u1)])) _
    refine XS.dcmpS X102.here hx rfl (hb hby d1_14) rfl rfl ?_
    show Steps p.tables e below (T102.setTop (mkF m 15 #[.val (.ref a1), .val (.double u1), .second, .val (.double u2), .second] [(.int (cmpValue (FP.dcmp u1 (9218868437227405312 : UInt64)) .g))])) _
    refine XS.ifYes X102.here hx rfl (pc0 := 15) (pc' := 32) rfl (hb hby d1_15) rfl ((if0 _ _).trans (tlt c15).1) (by decide) (by decide) ?_
    show Steps p.tables e below (T102.setTop (mkF m 32 #[.val (.ref a1), .val (.double u1), .second, .val (.double u2), .second] [])) _
    refine XS.dloadN X102.here hx rfl (hb hby d1_32) rfl ?_
    show Steps p.tables e below (T102.setTop (mkF m 33 #[.val (.ref a1), .val (.double u1), .second, .val (.double u2), .second] [(.double u2)])) _
    refine XS.dconst0 X102.here hx rfl (hb hby d1_33) (v := (0 : UInt64)) rfl ?_
    show Steps p.tables e below (T102.setTop (mkF m 34 #[.val (.ref a1), .val (.double u1), .second, .val (.double u2), .second] [(.double (0 : UInt64)), (.double u2)])) _
    refine XS.dcmpS X102.here hx rfl (hb hby d1_34) rfl rfl ?_
    show Steps p.tables e below (T102.setTop (mkF m 35 #[.val (.ref a1), .val (.double u1), .second, .val (.double u2), .second] [(.int (cmpValue (FP.dcmp u2 (0 : UInt64)) .l))])) _
    refine XS.ifNo X102.here hx rfl (hb hby d1_35) rfl ((if0 _ _).trans (flt c35).1) ?_
    show Steps p.tables e below (T102.setTop (mkF m 38 #[.val (.ref a1), .val (.double u1), .second, .val (.double u2), .second] [])) _
    refine XS.dloadN X102.here hx rfl (hb hby d1_38) rfl ?_
    show Steps p.tables e below (T102.setTop (mkF m 39 #[.val (.ref a1), .val (.double u1), .second, .val (.double u2), .second] [(.double u2)])) _
    refine XS.dconst1 X102.here hx rfl (hb hby d1_39) (v := (4607182418800017408 : UInt64)) rfl ?_
    show Steps p.tables e below (T102.setTop (mkF m 40 #[.val (.ref a1), .val (.double u1), .second, .val (.double u2), .second] [(.double (4607182418800017408 : UInt64)), (.double u2)])) _
    refine XS.dcmpS X102.here hx rfl (hb hby d1_40) rfl rfl ?_
    show Steps p.tables e below (T102.setTop (mkF m 41 #[.val (.ref a1), .val (.double u1), .second, .val (.double u2), .second] [(.int (cmpValue (FP.dcmp u2 (4607182418800017408 : UInt64)) .g))])) _
    refine XS.ifYes X102.here hx rfl (pc0 := 41) (pc' := 58) rfl (hb hby d1_41) rfl ((if0 _ _).trans (flt c41).2.2.2) (by decide) (by decide) ?_
    show Steps p.tables e below (T102.setTop (mkF m 58 #[.val (.ref a1), .val (.double u1), .second, .val (.double u2), .second] [])) _
    refine XS.aloadN X102.here hx rfl (hb hby d1_58) rfl rfl ?_
    show Steps p.tables e below (T102.setTop (mkF m 59 #[.val (.ref a1), .val (.double u1), .second, .val (.double u2), .second] [(.ref a1)])) _
    refine XS.dloadN X102.here hx rfl (hb hby d1_59) rfl ?_
    exact k)
  obtain ⟨T106, h106, X106, e106, W106, st106⟩ := putF X102 hx hZ hown (host := "") (Or.inl (hw _ (List.mem_of_getElem? (i := 18) rfl))) Via.refl e102 F1 E1 (Or.inr ⟨(hw _ (List.mem_of_getElem? (i := 19) rfl)), rfl, hnm⟩) (hw _ (List.mem_of_getElem? (i := 4) rfl)) (ty := .double) (by decide) rfl rfl (g := (mkF m 60 #[.val (.ref a1), .val (.double u1), .second, .val (.double u2), .second] [(.double u1), (.ref a1)])) rfl rfl (hb hby d1_60)
  have F107 := F1.same W106
  have F108 := F2.other W106 (Or.inr (slot_ne (Or.inr (hw _ (List.mem_of_getElem? (i := 21) rfl))) (Or.inr (hw _ (List.mem_of_getElem? (i := 19) rfl))) (by decide) (t := .double) (t' := .double) (by decide) (by decide)))
  have F109 := E1.wr W106
  have Z110 : n0 ≤ h106.size := Nat.le_trans Z0 (Nat.le_of_eq W106.size.symm)
  have N111 := Fr.snoc X106 N103 ga
  have K112 := K0.wr W106 (Or.inl (List.mem_of_getElem? (i := 0) rfl))
  have k113 : ∀ t, Steps p.tables e below (T106.setTop (mkF m 63 #[.val (.ref a1), .val (.double u1), .second, .val (.double u2), .second] [])) t → Steps p.tables e below (s₁.setTop (entryFrame m #[(.ref a1), (.double u1), (.double u2)] 5)) t := fun t k => k105 t (st106 t k)
  have k114 : ∀ t, Steps p.tables e below (T106.setTop (mkF m 65 #[.val (.ref a1), .val (.double u1), .second, .val (.double u2), .second] [(.double u2), (.ref a1)])) t → Steps p.tables e below (s₁.setTop (entryFrame m #[(.ref a1), (.double u1), (.double u2)] 5)) t := fun t k => k113 t (by
    show Steps p.tables e below (T106.setTop (mkF m 63 #[.val (.ref a1), .val (.double u1), .second, .val (.double u2), .second] [])) _
    refine XS.aloadN X106.here hx rfl (hb hby d1_63) rfl rfl ?_
    show Steps p.tables e below (T106.setTop (mkF m 64 #[.val (.ref a1), .val (.double u1), .second, .val (.double u2), .second] [(.ref a1)])) _
    refine XS.dloadN X106.here hx rfl (hb hby d1_64) rfl ?_
    exact k)
  obtain ⟨T115, h115, X115, e115, W115, st115⟩ := putF X106 hx hZ hown (host := "") (Or.inl (hw _ (List.mem_of_getElem? (i := 20) rfl))) Via.refl e106 F108 F109 (Or.inr ⟨(hw _ (List.mem_of_getElem? (i := 21) rfl)), rfl, hnm⟩) (hw _ (List.mem_of_getElem? (i := 4) rfl)) (ty := .double) (by decide) rfl rfl (g := (mkF m 65 #[.val (.ref a1), .val (.double u1), .second, .val (.double u2), .second] [(.double u2), (.ref a1)])) rfl rfl (hb hby d1_65)
  have F116 := F108.same W115
  have F117 := F109.wr W115
  have F118 := F107.other W115 (Or.inr (slot_ne (Or.inr (hw _ (List.mem_of_getElem? (i := 19) rfl))) (Or.inr (hw _ (List.mem_of_getElem? (i := 21) rfl))) (by decide) (t := .double) (t' := .double) (by decide) (by decide)))
  have Z119 : n0 ≤ h115.size := Nat.le_trans Z110 (Nat.le_of_eq W115.size.symm)
  have N120 := Fr.snoc X115 N111 ga
  have K121 := K112.wr W115 (Or.inl (List.mem_of_getElem? (i := 0) rfl))
  have k122 : ∀ t, Steps p.tables e below (T115.setTop (mkF m 68 #[.val (.ref a1), .val (.double u1), .second, .val (.double u2), .second] [])) t → Steps p.tables e below (s₁.setTop (entryFrame m #[(.ref a1), (.double u1), (.double u2)] 5)) t := fun t k => k114 t (st115 t k)
  obtain ⟨fs, hr, hrun, hended, hW, hsame⟩ := X115.leave (v := none) (fun _ => rfl)
  refine ⟨_, _, k122 _ (X115.returnOut hx Bd.returns (hb hby d1_68) hr), hrun, hended, _, _, rfl, ?_, ⟨_, rfl⟩, hW, hsame.mono (by decide) (by decide)⟩
  show Q_rm1 Z a1 u1 u2 h0 n0 _ T115.heap _
  rw [e115]
  exact ⟨rfl, N120, K121, F117, F118, F116⟩
theorem ef_4_RID (m : MethodId) (x0 : Addr) (x1 : Int32) (x2 : UInt64) : entryFrame m #[(.ref x0), (.int x1), (.double x2)] 4 = mkF m 0 #[.val (.ref x0), .val (.int x1), .val (.double x2), .second] [] := by first | (simp [entryFrame, mkF, argsToLocals, Value.category]; done) | rfl
theorem d4_0 : decode prog_72_method_5_code 0 = .ok (.aload_n 0, 1) := by decide +kernel
theorem d4_1 : decode prog_72_method_5_code 1 = .ok (.getfield 21, 3) := by decide +kernel
theorem d4_4 : decode prog_72_method_5_code 4 = .ok (.dconst 1, 1) := by decide +kernel
theorem d4_5 : decode prog_72_method_5_code 5 = .ok (.aload_n 0, 1) := by decide +kernel
theorem d4_6 : decode prog_72_method_5_code 6 = .ok (.getfield 27, 3) := by decide +kernel
theorem d4_9 : decode prog_72_method_5_code 9 = .ok (.dsub, 1) := by decide +kernel
theorem d4_10 : decode prog_72_method_5_code 10 = .ok (.aload_n 0, 1) := by decide +kernel
theorem d4_11 : decode prog_72_method_5_code 11 = .ok (.getfield 27, 3) := by decide +kernel
theorem d4_14 : decode prog_72_method_5_code 14 = .ok (.iload_n 1, 1) := by decide +kernel
theorem d4_15 : decode prog_72_method_5_code 15 = .ok (.i2d, 1) := by decide +kernel
theorem d4_16 : decode prog_72_method_5_code 16 = .ok (.dmul, 1) := by decide +kernel
theorem d4_17 : decode prog_72_method_5_code 17 = .ok (.dload_n 2, 1) := by decide +kernel
theorem d4_18 : decode prog_72_method_5_code 18 = .ok (.ddiv, 1) := by decide +kernel
theorem d4_19 : decode prog_72_method_5_code 19 = .ok (.dadd, 1) := by decide +kernel
theorem d4_20 : decode prog_72_method_5_code 20 = .ok (.dmul, 1) := by decide +kernel
theorem d4_21 : decode prog_72_method_5_code 21 = .ok (.dreturn, 1) := by decide +kernel
def Q_rm4 (Z : State) (a1 : Addr) (p1 : Int32) (u3 : UInt64) (u1 : UInt64) (u2 : UInt64) (h0 : Heap) (n0 : Nat) (v : Option Value) (h : Heap) (L : List Loc) : Prop := v = some (.double (FP.dmul u1 (FP.dadd (FP.dsub (4607182418800017408 : UInt64) u2) (FP.ddiv (FP.dmul u2 (FP.i2d p1)) u3)))) ∧ Fr n0 L ∧ h = h0
set_option maxRecDepth 65536 in
set_option maxHeartbeats 40000000 in
theorem rm4 (l : Launch) (Z : State) (a0 : Array Value) (hw : ∀ d ∈ tables_1, d.before a0 Z = true) (ws : List Jvm.Cond) (a1 : Addr) (p1 : Int32) (u3 : UInt64) (u1 : UInt64) (u2 : UInt64) (h0 : Heap) (n0 : Nat) (Z0 : n0 ≤ h0.size) (F1 : Fld Z h0 a1 "com/example/liblocus/liblocus/search/Bm25" "k1" "D" (.double u1)) (F2 : Fld Z h0 a1 "com/example/liblocus/liblocus/search/Bm25" "b" "D" (.double u2)) (nn9 : Jvm.Free.Fl.NoNaN64 (FP.dsub (4607182418800017408 : UInt64) u2)) (nn16 : Jvm.Free.Fl.NoNaN64 (FP.dmul u2 (FP.i2d p1))) (nn18 : Jvm.Free.Fl.NoNaN64 (FP.ddiv (FP.dmul u2 (FP.i2d p1)) u3)) (nn19 : Jvm.Free.Fl.NoNaN64 (FP.dadd (FP.dsub (4607182418800017408 : UInt64) u2) (FP.ddiv (FP.dmul u2 (FP.i2d p1)) u3))) (nn20 : Jvm.Free.Fl.NoNaN64 (FP.dmul u1 (FP.dadd (FP.dsub (4607182418800017408 : UInt64) u2) (FP.ddiv (FP.dmul u2 (FP.i2d p1)) u3)))) :
    MetFree l (⟨"com/example/liblocus/liblocus/search/Bm25", "lengthNorm", "(ID)D"⟩ : MethodName) (head1 (Jvm.Cond.code (⟨"com/example/liblocus/liblocus/search/Bm25", "lengthNorm", "(ID)D"⟩ : MethodName) prog_72_method_5_code 4 (some .double) :: ws) ({ frames := 0, cells := 0, slots := 0, locals := 0 } : Room)) (fun a U => a = #[(.ref a1), (.int p1), (.double u3)] ∧ Z.Warmed39 U.vm ∧ U.heap = h0) (fun _ _ _ _ _ => True) (fun _ U o U' => ∃ v L, o = .returned v ∧ Q_rm4 Z a1 p1 u3 u1 u2 h0 n0 v U'.heap L ∧ FrameEnd U o U' L ({ frames := 0, cells := 0, slots := 0, locals := 0 } : Room).cells ({ frames := 0, cells := 0, slots := 0, locals := 0 } : Room).slots) := by
  refine MetFree.of_bodySF (plainFor_of_name pn_com_2fexample_2fliblocus_2fliblocus_2fsearch_2fBm25) hisR ?_
  intro p e s m args below meth c s₁ Bd hml0 hP hK
  obtain ⟨rfl, hZ, hh⟩ := hP
  have hx := Bd.exec
  have hby := Bd.bytes
  have hml : c.maxLocals = 4 := hml0
  have hown : s.vm.findClass "com/example/liblocus/liblocus/search/Bm25" = some m.cls := findClass_of_methodNamed Bd.named
  have hnm := (name_of_methodNamed Bd.named Bd.method).1
  have X0 : Stand p l e ({ frames := 0, cells := 0, slots := 0, locals := 0 } : Room) s m #[(.ref a1), (.int p1), (.double u3)] below meth c s₁ [] 0 0 := Stand.of_body Bd
  have e0 : s₁.heap = h0 := by rw [← hh, Bd.state]; rfl
  have N0 := Fr.nil n0
  have k0 : ∀ t, Steps p.tables e below (s₁.setTop (mkF m 0 #[.val (.ref a1), .val (.int p1), .val (.double u3), .second] [])) t → Steps p.tables e below (s₁.setTop (entryFrame m #[(.ref a1), (.int p1), (.double u3)] 4)) t := fun t k => castTop (ef_4_RID m a1 p1 u3) k
  have k101 : ∀ t, Steps p.tables e below (s₁.setTop (mkF m 1 #[.val (.ref a1), .val (.int p1), .val (.double u3), .second] [(.ref a1)])) t → Steps p.tables e below (s₁.setTop (entryFrame m #[(.ref a1), (.int p1), (.double u3)] 4)) t := fun t k => k0 t (by
    show Steps p.tables e below (s₁.setTop (mkF m 0 #[.val (.ref a1), .val (.int p1), .val (.double u3), .second] [])) _
    refine XS.aloadN X0.here hx rfl (hb hby d4_0) rfl rfl ?_
    exact k)
  obtain ⟨T102, X102, e102, st102⟩ := getF X0 hx hZ hown (host := "") (Or.inl (hw _ (List.mem_of_getElem? (i := 18) rfl))) Via.refl e0 F1 (g := (mkF m 1 #[.val (.ref a1), .val (.int p1), .val (.double u3), .second] [(.ref a1)])) rfl rfl (hb hby d4_1)
  have k103 : ∀ t, Steps p.tables e below (T102.setTop (mkF m 4 #[.val (.ref a1), .val (.int p1), .val (.double u3), .second] [(.double u1)])) t → Steps p.tables e below (s₁.setTop (entryFrame m #[(.ref a1), (.int p1), (.double u3)] 4)) t := fun t k => k101 t (st102 t k)
  have k104 : ∀ t, Steps p.tables e below (T102.setTop (mkF m 6 #[.val (.ref a1), .val (.int p1), .val (.double u3), .second] [(.ref a1), (.double (4607182418800017408 : UInt64)), (.double u1)])) t → Steps p.tables e below (s₁.setTop (entryFrame m #[(.ref a1), (.int p1), (.double u3)] 4)) t := fun t k => k103 t (by
    show Steps p.tables e below (T102.setTop (mkF m 4 #[.val (.ref a1), .val (.int p1), .val (.double u3), .second] [(.double u1)])) _
    refine XS.dconst1 X102.here hx rfl (hb hby d4_4) (v := (4607182418800017408 : UInt64)) rfl ?_
    show Steps p.tables e below (T102.setTop (mkF m 5 #[.val (.ref a1), .val (.int p1), .val (.double u3), .second] [(.double (4607182418800017408 : UInt64)), (.double u1)])) _
    refine XS.aloadN X102.here hx rfl (hb hby d4_5) rfl rfl ?_
    exact k)
  obtain ⟨T105, X105, e105, st105⟩ := getF X102 hx hZ hown (host := "") (Or.inl (hw _ (List.mem_of_getElem? (i := 20) rfl))) Via.refl e102 F2 (g := (mkF m 6 #[.val (.ref a1), .val (.int p1), .val (.double u3), .second] [(.ref a1), (.double (4607182418800017408 : UInt64)), (.double u1)])) rfl rfl (hb hby d4_6)
  have k106 : ∀ t, Steps p.tables e below (T105.setTop (mkF m 9 #[.val (.ref a1), .val (.int p1), .val (.double u3), .second] [(.double u2), (.double (4607182418800017408 : UInt64)), (.double u1)])) t → Steps p.tables e below (s₁.setTop (entryFrame m #[(.ref a1), (.int p1), (.double u3)] 4)) t := fun t k => k104 t (st105 t k)
  have k107 : ∀ t, Steps p.tables e below (T105.setTop (mkF m 11 #[.val (.ref a1), .val (.int p1), .val (.double u3), .second] [(.ref a1), (.double (FP.dsub (4607182418800017408 : UInt64) u2)), (.double u1)])) t → Steps p.tables e below (s₁.setTop (entryFrame m #[(.ref a1), (.int p1), (.double u3)] 4)) t := fun t k => k106 t (by
    show Steps p.tables e below (T105.setTop (mkF m 9 #[.val (.ref a1), .val (.int p1), .val (.double u3), .second] [(.double u2), (.double (4607182418800017408 : UInt64)), (.double u1)])) _
    refine XS.dsubS X105.here hx rfl (hb hby d4_9) rfl (nn9) rfl ?_
    show Steps p.tables e below (T105.setTop (mkF m 10 #[.val (.ref a1), .val (.int p1), .val (.double u3), .second] [(.double (FP.dsub (4607182418800017408 : UInt64) u2)), (.double u1)])) _
    refine XS.aloadN X105.here hx rfl (hb hby d4_10) rfl rfl ?_
    exact k)
  obtain ⟨T108, X108, e108, st108⟩ := getF X105 hx hZ hown (host := "") (Or.inl (hw _ (List.mem_of_getElem? (i := 20) rfl))) Via.refl e105 F2 (g := (mkF m 11 #[.val (.ref a1), .val (.int p1), .val (.double u3), .second] [(.ref a1), (.double (FP.dsub (4607182418800017408 : UInt64) u2)), (.double u1)])) rfl rfl (hb hby d4_11)
  have k109 : ∀ t, Steps p.tables e below (T108.setTop (mkF m 14 #[.val (.ref a1), .val (.int p1), .val (.double u3), .second] [(.double u2), (.double (FP.dsub (4607182418800017408 : UInt64) u2)), (.double u1)])) t → Steps p.tables e below (s₁.setTop (entryFrame m #[(.ref a1), (.int p1), (.double u3)] 4)) t := fun t k => k107 t (st108 t k)
  have k110 : ∀ t, Steps p.tables e below (T108.setTop (mkF m 21 #[.val (.ref a1), .val (.int p1), .val (.double u3), .second] [(.double (FP.dmul u1 (FP.dadd (FP.dsub (4607182418800017408 : UInt64) u2) (FP.ddiv (FP.dmul u2 (FP.i2d p1)) u3))))])) t → Steps p.tables e below (s₁.setTop (entryFrame m #[(.ref a1), (.int p1), (.double u3)] 4)) t := fun t k => k109 t (by
    show Steps p.tables e below (T108.setTop (mkF m 14 #[.val (.ref a1), .val (.int p1), .val (.double u3), .second] [(.double u2), (.double (FP.dsub (4607182418800017408 : UInt64) u2)), (.double u1)])) _
    refine XS.iloadN X108.here hx rfl (hb hby d4_14) rfl ?_
    show Steps p.tables e below (T108.setTop (mkF m 15 #[.val (.ref a1), .val (.int p1), .val (.double u3), .second] [(.int p1), (.double u2), (.double (FP.dsub (4607182418800017408 : UInt64) u2)), (.double u1)])) _
    refine XS.i2dS X108.here hx rfl (hb hby d4_15) rfl rfl ?_
    show Steps p.tables e below (T108.setTop (mkF m 16 #[.val (.ref a1), .val (.int p1), .val (.double u3), .second] [(.double (FP.i2d p1)), (.double u2), (.double (FP.dsub (4607182418800017408 : UInt64) u2)), (.double u1)])) _
    refine XS.dmulS X108.here hx rfl (hb hby d4_16) rfl (nn16) rfl ?_
    show Steps p.tables e below (T108.setTop (mkF m 17 #[.val (.ref a1), .val (.int p1), .val (.double u3), .second] [(.double (FP.dmul u2 (FP.i2d p1))), (.double (FP.dsub (4607182418800017408 : UInt64) u2)), (.double u1)])) _
    refine XS.dloadN X108.here hx rfl (hb hby d4_17) rfl ?_
    show Steps p.tables e below (T108.setTop (mkF m 18 #[.val (.ref a1), .val (.int p1), .val (.double u3), .second] [(.double u3), (.double (FP.dmul u2 (FP.i2d p1))), (.double (FP.dsub (4607182418800017408 : UInt64) u2)), (.double u1)])) _
    refine XS.ddivS X108.here hx rfl (hb hby d4_18) rfl (nn18) rfl ?_
    show Steps p.tables e below (T108.setTop (mkF m 19 #[.val (.ref a1), .val (.int p1), .val (.double u3), .second] [(.double (FP.ddiv (FP.dmul u2 (FP.i2d p1)) u3)), (.double (FP.dsub (4607182418800017408 : UInt64) u2)), (.double u1)])) _
    refine XS.daddS X108.here hx rfl (hb hby d4_19) rfl (nn19) rfl ?_
    show Steps p.tables e below (T108.setTop (mkF m 20 #[.val (.ref a1), .val (.int p1), .val (.double u3), .second] [(.double (FP.dadd (FP.dsub (4607182418800017408 : UInt64) u2) (FP.ddiv (FP.dmul u2 (FP.i2d p1)) u3))), (.double u1)])) _
    refine XS.dmulS X108.here hx rfl (hb hby d4_20) rfl (nn20) rfl ?_
    exact k)
  obtain ⟨fs, hr, hrun, hended, hW, hsame⟩ := X108.leave (v := some (.double (FP.dmul u1 (FP.dadd (FP.dsub (4607182418800017408 : UInt64) u2) (FP.ddiv (FP.dmul u2 (FP.i2d p1)) u3))))) (fun h => by rw [Bd.returns] at h; cases h)
  refine ⟨_, _, k110 _ (retOut X108 hx (t := .double) Bd.returns rfl (Or.inr (Or.inr (Or.inl ⟨rfl, rfl, _, rfl⟩))) (hb hby d4_21) hr), hrun, hended, _, _, rfl, ?_, ⟨_, rfl⟩, hW, hsame.mono (by decide) (by decide)⟩
  show Q_rm4 Z a1 p1 u3 u1 u2 h0 n0 _ T108.heap _
  rw [e108]
  exact ⟨rfl, N0, rfl⟩
theorem ef_0_IIII (m : MethodId) (x0 : Int32) (x1 : Int32) (x2 : Int32) (x3 : Int32) : entryFrame m #[(.int x0), (.int x1), (.int x2), (.int x3)] maxLocals = mkF m 0 #[.val (.int x0), .val (.int x1), .val (.int x2), .val (.int x3), .unset, .unset, .unset, .unset, .unset, .unset, .unset, .unset, .unset, .unset, .unset, .unset, .unset, .unset, .unset, .unset, .unset, .unset] [] := by first | (simp [entryFrame, mkF, argsToLocals, Value.category, maxLocals]; done) | rfl
theorem pd__28DD_29V : parseMethodDescriptor "(DD)V" = some ⟨[.double, .double], none⟩ := by decide +kernel
theorem pd__28ID_29D : parseMethodDescriptor "(ID)D" = some ⟨[.int, .double], some .double⟩ := by decide +kernel
def Q_rm0 (Z : State) (p0 : Int32) (p1 : Int32) (p2 : Int32) (p3 : Int32) (h0 : Heap) (n0 : Nat) (v : Option Value) (h : Heap) (L : List Loc) : Prop := v = some (.int 1) ∧ Fr n0 L
theorem pn_com_2fexample_2fliblocus_2fliblocus_2fsearch_2fBm25LengthNormPinLaw : plainName "com/example/liblocus/liblocus/search/Bm25LengthNormPinLaw" = true := by first | (simp [plainName, overriddenIn]; done) | decide +kernel
set_option maxRecDepth 65536 in
set_option maxHeartbeats 40000000 in
theorem rm0 (l : Launch) (Z : State) (a0 : Array Value) (hw : ∀ d ∈ tables_1, d.before a0 Z = true) (ws : List Jvm.Cond) (p0 : Int32) (p1 : Int32) (p2 : Int32) (p3 : Int32) (h0 : Heap) (n0 : Nat) (Z0 : n0 ≤ h0.size) :
    MetFree l x (head1 (Jvm.Cond.code x code maxLocals ret :: ws) room_1) (fun a U => a = #[(.int p0), (.int p1), (.int p2), (.int p3)] ∧ Z.Warmed39 U.vm ∧ U.heap = h0) (fun _ _ _ _ _ => True) (fun _ U o U' => ∃ v L, o = .returned v ∧ Q_rm0 Z p0 p1 p2 p3 h0 n0 v U'.heap L ∧ FrameEnd U o U' L room_1.cells room_1.slots) := by
  refine MetFree.of_bodySF (plainFor_of_name pn_com_2fexample_2fliblocus_2fliblocus_2fsearch_2fBm25LengthNormPinLaw) hisR ?_
  intro p e s m args below meth c s₁ Bd hml0 hP hK
  obtain ⟨rfl, hZ, hh⟩ := hP
  have hx := Bd.exec
  have hby := Bd.bytes
  have hml : c.maxLocals = 22 := hml0
  have hown : s.vm.findClass "com/example/liblocus/liblocus/search/Bm25LengthNormPinLaw" = some m.cls := findClass_of_methodNamed Bd.named
  have hnm := (name_of_methodNamed Bd.named Bd.method).1
  have X0 : Stand p l e room_1 s m #[(.int p0), (.int p1), (.int p2), (.int p3)] below meth c s₁ [] 0 0 := Stand.of_body Bd
  have e0 : s₁.heap = h0 := by rw [← hh, Bd.state]; rfl
  have N0 := Fr.nil n0
  have k0 : ∀ t, Steps p.tables e below (s₁.setTop (mkF m 0 #[.val (.int p0), .val (.int p1), .val (.int p2), .val (.int p3), .unset, .unset, .unset, .unset, .unset, .unset, .unset, .unset, .unset, .unset, .unset, .unset, .unset, .unset, .unset, .unset, .unset, .unset] [])) t → Steps p.tables e below (s₁.setTop (entryFrame m #[(.int p0), (.int p1), (.int p2), (.int p3)] maxLocals)) t := fun t k => castTop (ef_0_IIII m p0 p1 p2 p3) k
  obtain ⟨m0, hm0⟩ : ∃ z : Int32, z = (p0 &&& (63 : Int32)) := ⟨_, rfl⟩
  obtain ⟨j0, hj0⟩ : ∃ z : Int32, z = ((p1 &&& (2147483647 : Int32)) % (1025 : Int32)) := ⟨_, rfl⟩
  obtain ⟨e0', he0'⟩ : ∃ z : Int32, z = (p2 &&& (15 : Int32)) := ⟨_, rfl⟩
  have k101 : ∀ t, Steps p.tables e below (s₁.setTop (mkF m 22 #[.val (.int p0), .val (.int p1), .val (.int p2), .val (.int p3), .val (.int m0), .val (.int j0), .val (.int e0'), .unset, .unset, .unset, .unset, .unset, .unset, .unset, .unset, .unset, .unset, .unset, .unset, .unset, .unset, .unset] [])) t → Steps p.tables e below (s₁.setTop (entryFrame m #[(.int p0), (.int p1), (.int p2), (.int p3)] maxLocals)) t := fun t k => k0 t (by
    show Steps p.tables e below (s₁.setTop (mkF m 0 #[.val (.int p0), .val (.int p1), .val (.int p2), .val (.int p3), .unset, .unset, .unset, .unset, .unset, .unset, .unset, .unset, .unset, .unset, .unset, .unset, .unset, .unset, .unset, .unset, .unset, .unset] [])) _
    refine XS.iloadN X0.here hx rfl (hb hby at_0) rfl ?_
    show Steps p.tables e below (s₁.setTop (mkF m 1 #[.val (.int p0), .val (.int p1), .val (.int p2), .val (.int p3), .unset, .unset, .unset, .unset, .unset, .unset, .unset, .unset, .unset, .unset, .unset, .unset, .unset, .unset, .unset, .unset, .unset, .unset] [(.int p0)])) _
    refine XS.bipush X0.here hx rfl (hb hby at_1) ?_
    show Steps p.tables e below (s₁.setTop (mkF m 3 #[.val (.int p0), .val (.int p1), .val (.int p2), .val (.int p3), .unset, .unset, .unset, .unset, .unset, .unset, .unset, .unset, .unset, .unset, .unset, .unset, .unset, .unset, .unset, .unset, .unset, .unset] [(.int (63 : Int32)), (.int p0)])) _
    refine XS.iand X0.here hx rfl (hb hby at_3) rfl ?_
    show Steps p.tables e below (s₁.setTop (mkF m 4 #[.val (.int p0), .val (.int p1), .val (.int p2), .val (.int p3), .unset, .unset, .unset, .unset, .unset, .unset, .unset, .unset, .unset, .unset, .unset, .unset, .unset, .unset, .unset, .unset, .unset, .unset] [(.int (p0 &&& (63 : Int32)))])) _
    refine castTop (g' := (mkF m 4 #[.val (.int p0), .val (.int p1), .val (.int p2), .val (.int p3), .unset, .unset, .unset, .unset, .unset, .unset, .unset, .unset, .unset, .unset, .unset, .unset, .unset, .unset, .unset, .unset, .unset, .unset] [(.int m0)])) (by rw [hm0]) ?_
    show Steps p.tables e below (s₁.setTop (mkF m 4 #[.val (.int p0), .val (.int p1), .val (.int p2), .val (.int p3), .unset, .unset, .unset, .unset, .unset, .unset, .unset, .unset, .unset, .unset, .unset, .unset, .unset, .unset, .unset, .unset, .unset, .unset] [(.int m0)])) _
    refine XS.istore X0.here hx rfl (hb hby at_4) rfl (l' := #[.val (.int p0), .val (.int p1), .val (.int p2), .val (.int p3), .val (.int m0), .unset, .unset, .unset, .unset, .unset, .unset, .unset, .unset, .unset, .unset, .unset, .unset, .unset, .unset, .unset, .unset, .unset]) rfl ?_
    show Steps p.tables e below (s₁.setTop (mkF m 6 #[.val (.int p0), .val (.int p1), .val (.int p2), .val (.int p3), .val (.int m0), .unset, .unset, .unset, .unset, .unset, .unset, .unset, .unset, .unset, .unset, .unset, .unset, .unset, .unset, .unset, .unset, .unset] [])) _
    refine XS.iloadN X0.here hx rfl (hb hby at_6) rfl ?_
    show Steps p.tables e below (s₁.setTop (mkF m 7 #[.val (.int p0), .val (.int p1), .val (.int p2), .val (.int p3), .val (.int m0), .unset, .unset, .unset, .unset, .unset, .unset, .unset, .unset, .unset, .unset, .unset, .unset, .unset, .unset, .unset, .unset, .unset] [(.int p1)])) _
    refine X0.ldcInt hx hown (mvT hZ (hw _ (List.mem_of_getElem? (i := 0) rfl))) (g := (mkF m 7 #[.val (.int p0), .val (.int p1), .val (.int p2), .val (.int p3), .val (.int m0), .unset, .unset, .unset, .unset, .unset, .unset, .unset, .unset, .unset, .unset, .unset, .unset, .unset, .unset, .unset, .unset, .unset] [(.int p1)])) rfl (hb hby at_7) _ ?_
    show Steps p.tables e below (s₁.setTop (mkF m 9 #[.val (.int p0), .val (.int p1), .val (.int p2), .val (.int p3), .val (.int m0), .unset, .unset, .unset, .unset, .unset, .unset, .unset, .unset, .unset, .unset, .unset, .unset, .unset, .unset, .unset, .unset, .unset] [(.int (2147483647 : Int32)), (.int p1)])) _
    refine XS.iand X0.here hx rfl (hb hby at_9) rfl ?_
    show Steps p.tables e below (s₁.setTop (mkF m 10 #[.val (.int p0), .val (.int p1), .val (.int p2), .val (.int p3), .val (.int m0), .unset, .unset, .unset, .unset, .unset, .unset, .unset, .unset, .unset, .unset, .unset, .unset, .unset, .unset, .unset, .unset, .unset] [(.int (p1 &&& (2147483647 : Int32)))])) _
    refine XS.sipush X0.here hx rfl (hb hby at_10) ?_
    show Steps p.tables e below (s₁.setTop (mkF m 13 #[.val (.int p0), .val (.int p1), .val (.int p2), .val (.int p3), .val (.int m0), .unset, .unset, .unset, .unset, .unset, .unset, .unset, .unset, .unset, .unset, .unset, .unset, .unset, .unset, .unset, .unset, .unset] [(.int (1025 : Int32)), (.int (p1 &&& (2147483647 : Int32)))])) _
    refine iremM X0 hx rfl (hb hby at_13) rfl (by decide) ?_
    show Steps p.tables e below (s₁.setTop (mkF m 14 #[.val (.int p0), .val (.int p1), .val (.int p2), .val (.int p3), .val (.int m0), .unset, .unset, .unset, .unset, .unset, .unset, .unset, .unset, .unset, .unset, .unset, .unset, .unset, .unset, .unset, .unset, .unset] [(.int ((p1 &&& (2147483647 : Int32)) % (1025 : Int32)))])) _
    refine castTop (g' := (mkF m 14 #[.val (.int p0), .val (.int p1), .val (.int p2), .val (.int p3), .val (.int m0), .unset, .unset, .unset, .unset, .unset, .unset, .unset, .unset, .unset, .unset, .unset, .unset, .unset, .unset, .unset, .unset, .unset] [(.int j0)])) (by rw [hj0]) ?_
    show Steps p.tables e below (s₁.setTop (mkF m 14 #[.val (.int p0), .val (.int p1), .val (.int p2), .val (.int p3), .val (.int m0), .unset, .unset, .unset, .unset, .unset, .unset, .unset, .unset, .unset, .unset, .unset, .unset, .unset, .unset, .unset, .unset, .unset] [(.int j0)])) _
    refine XS.istore X0.here hx rfl (hb hby at_14) rfl (l' := #[.val (.int p0), .val (.int p1), .val (.int p2), .val (.int p3), .val (.int m0), .val (.int j0), .unset, .unset, .unset, .unset, .unset, .unset, .unset, .unset, .unset, .unset, .unset, .unset, .unset, .unset, .unset, .unset]) rfl ?_
    show Steps p.tables e below (s₁.setTop (mkF m 16 #[.val (.int p0), .val (.int p1), .val (.int p2), .val (.int p3), .val (.int m0), .val (.int j0), .unset, .unset, .unset, .unset, .unset, .unset, .unset, .unset, .unset, .unset, .unset, .unset, .unset, .unset, .unset, .unset] [])) _
    refine XS.iloadN X0.here hx rfl (hb hby at_16) rfl ?_
    show Steps p.tables e below (s₁.setTop (mkF m 17 #[.val (.int p0), .val (.int p1), .val (.int p2), .val (.int p3), .val (.int m0), .val (.int j0), .unset, .unset, .unset, .unset, .unset, .unset, .unset, .unset, .unset, .unset, .unset, .unset, .unset, .unset, .unset, .unset] [(.int p2)])) _
    refine XS.bipush X0.here hx rfl (hb hby at_17) ?_
    show Steps p.tables e below (s₁.setTop (mkF m 19 #[.val (.int p0), .val (.int p1), .val (.int p2), .val (.int p3), .val (.int m0), .val (.int j0), .unset, .unset, .unset, .unset, .unset, .unset, .unset, .unset, .unset, .unset, .unset, .unset, .unset, .unset, .unset, .unset] [(.int (15 : Int32)), (.int p2)])) _
    refine XS.iand X0.here hx rfl (hb hby at_19) rfl ?_
    show Steps p.tables e below (s₁.setTop (mkF m 20 #[.val (.int p0), .val (.int p1), .val (.int p2), .val (.int p3), .val (.int m0), .val (.int j0), .unset, .unset, .unset, .unset, .unset, .unset, .unset, .unset, .unset, .unset, .unset, .unset, .unset, .unset, .unset, .unset] [(.int (p2 &&& (15 : Int32)))])) _
    refine castTop (g' := (mkF m 20 #[.val (.int p0), .val (.int p1), .val (.int p2), .val (.int p3), .val (.int m0), .val (.int j0), .unset, .unset, .unset, .unset, .unset, .unset, .unset, .unset, .unset, .unset, .unset, .unset, .unset, .unset, .unset, .unset] [(.int e0')])) (by rw [he0']) ?_
    show Steps p.tables e below (s₁.setTop (mkF m 20 #[.val (.int p0), .val (.int p1), .val (.int p2), .val (.int p3), .val (.int m0), .val (.int j0), .unset, .unset, .unset, .unset, .unset, .unset, .unset, .unset, .unset, .unset, .unset, .unset, .unset, .unset, .unset, .unset] [(.int e0')])) _
    refine XS.istore X0.here hx rfl (hb hby at_20) rfl (l' := #[.val (.int p0), .val (.int p1), .val (.int p2), .val (.int p3), .val (.int m0), .val (.int j0), .val (.int e0'), .unset, .unset, .unset, .unset, .unset, .unset, .unset, .unset, .unset, .unset, .unset, .unset, .unset, .unset, .unset]) rfl ?_
    exact k)
  obtain ⟨E, hE, hm1, hm2, hj1, hj2, sh1, sh2, sh3, hp1, hp2, hE15⟩ := own_ints p0 p1 p2 m0 j0 e0' hm0 hj0 he0'
  obtain ⟨vm, hvm⟩ : ∃ z : UInt64, FP.i2d m0 = z := ⟨_, rfl⟩
  have Dvm : Dy (m0.toInt) (0) vm := by rw [← hvm]; exact Dy.i2d _
  obtain ⟨vk, hvk⟩ : ∃ z : UInt64, FP.ddiv vm (4620693217682128896 : UInt64) = z := ⟨_, rfl⟩
  have Dvk : Dy (m0.toInt) (3) vk := by rw [← hvk]; exact Dy.div Dvm own_8 (by decide) (by omega) (by decide) (by omega)
  obtain ⟨vj, hvj⟩ : ∃ z : UInt64, FP.i2d j0 = z := ⟨_, rfl⟩
  have Dvj : Dy (j0.toInt) (0) vj := by rw [← hvj]; exact Dy.i2d _
  obtain ⟨vb, hvb⟩ : ∃ z : UInt64, FP.ddiv vj (4652218415073722368 : UInt64) = z := ⟨_, rfl⟩
  have Dvb : Dy (j0.toInt) (10) vb := by rw [← hvb]; exact Dy.div Dvj own_1024 (by decide) (by omega) (by decide) (by omega)
  obtain ⟨va, hva⟩ : ∃ z : UInt64, FP.i2d ((1 : Int32) <<< (e0' &&& 31)) = z := ⟨_, rfl⟩
  have Dva : Dy (2 ^ E) (0) va := by rw [← hva]; exact sh1 ▸ Dy.i2d _
  have k102 : ∀ t, Steps p.tables e below (s₁.setTop (mkF m 47 #[.val (.int p0), .val (.int p1), .val (.int p2), .val (.int p3), .val (.int m0), .val (.int j0), .val (.int e0'), .val (.double vk), .second, .val (.double vb), .second, .val (.double va), .second, .unset, .unset, .unset, .unset, .unset, .unset, .unset, .unset, .unset] [])) t → Steps p.tables e below (s₁.setTop (entryFrame m #[(.int p0), (.int p1), (.int p2), (.int p3)] maxLocals)) t := fun t k => k101 t (by
    show Steps p.tables e below (s₁.setTop (mkF m 22 #[.val (.int p0), .val (.int p1), .val (.int p2), .val (.int p3), .val (.int m0), .val (.int j0), .val (.int e0'), .unset, .unset, .unset, .unset, .unset, .unset, .unset, .unset, .unset, .unset, .unset, .unset, .unset, .unset, .unset] [])) _
    refine XS.iload X0.here hx rfl (hb hby at_22) rfl ?_
    show Steps p.tables e below (s₁.setTop (mkF m 24 #[.val (.int p0), .val (.int p1), .val (.int p2), .val (.int p3), .val (.int m0), .val (.int j0), .val (.int e0'), .unset, .unset, .unset, .unset, .unset, .unset, .unset, .unset, .unset, .unset, .unset, .unset, .unset, .unset, .unset] [(.int m0)])) _
    refine XS.i2dS X0.here hx rfl (hb hby at_24) rfl hvm ?_
    show Steps p.tables e below (s₁.setTop (mkF m 25 #[.val (.int p0), .val (.int p1), .val (.int p2), .val (.int p3), .val (.int m0), .val (.int j0), .val (.int e0'), .unset, .unset, .unset, .unset, .unset, .unset, .unset, .unset, .unset, .unset, .unset, .unset, .unset, .unset, .unset] [(.double vm)])) _
    refine X0.ldc2DoubleC hx hown (mvT hZ (hw _ (List.mem_of_getElem? (i := 1) rfl))) (g := (mkF m 25 #[.val (.int p0), .val (.int p1), .val (.int p2), .val (.int p3), .val (.int m0), .val (.int j0), .val (.int e0'), .unset, .unset, .unset, .unset, .unset, .unset, .unset, .unset, .unset, .unset, .unset, .unset, .unset, .unset, .unset] [(.double vm)])) rfl (hb hby at_25) _ ?_
    show Steps p.tables e below (s₁.setTop (mkF m 28 #[.val (.int p0), .val (.int p1), .val (.int p2), .val (.int p3), .val (.int m0), .val (.int j0), .val (.int e0'), .unset, .unset, .unset, .unset, .unset, .unset, .unset, .unset, .unset, .unset, .unset, .unset, .unset, .unset, .unset] [(.double (4620693217682128896 : UInt64)), (.double vm)])) _
    refine XS.ddivS X0.here hx rfl (hb hby at_28) rfl (by rw [hvk]; exact Dvk.nn) hvk ?_
    show Steps p.tables e below (s₁.setTop (mkF m 29 #[.val (.int p0), .val (.int p1), .val (.int p2), .val (.int p3), .val (.int m0), .val (.int j0), .val (.int e0'), .unset, .unset, .unset, .unset, .unset, .unset, .unset, .unset, .unset, .unset, .unset, .unset, .unset, .unset, .unset] [(.double vk)])) _
    refine XS.dstore X0.here hx rfl (hb hby at_29) rfl (l' := #[.val (.int p0), .val (.int p1), .val (.int p2), .val (.int p3), .val (.int m0), .val (.int j0), .val (.int e0'), .val (.double vk), .second, .unset, .unset, .unset, .unset, .unset, .unset, .unset, .unset, .unset, .unset, .unset, .unset, .unset]) rfl ?_
    show Steps p.tables e below (s₁.setTop (mkF m 31 #[.val (.int p0), .val (.int p1), .val (.int p2), .val (.int p3), .val (.int m0), .val (.int j0), .val (.int e0'), .val (.double vk), .second, .unset, .unset, .unset, .unset, .unset, .unset, .unset, .unset, .unset, .unset, .unset, .unset, .unset] [])) _
    refine XS.iload X0.here hx rfl (hb hby at_31) rfl ?_
    show Steps p.tables e below (s₁.setTop (mkF m 33 #[.val (.int p0), .val (.int p1), .val (.int p2), .val (.int p3), .val (.int m0), .val (.int j0), .val (.int e0'), .val (.double vk), .second, .unset, .unset, .unset, .unset, .unset, .unset, .unset, .unset, .unset, .unset, .unset, .unset, .unset] [(.int j0)])) _
    refine XS.i2dS X0.here hx rfl (hb hby at_33) rfl hvj ?_
    show Steps p.tables e below (s₁.setTop (mkF m 34 #[.val (.int p0), .val (.int p1), .val (.int p2), .val (.int p3), .val (.int m0), .val (.int j0), .val (.int e0'), .val (.double vk), .second, .unset, .unset, .unset, .unset, .unset, .unset, .unset, .unset, .unset, .unset, .unset, .unset, .unset] [(.double vj)])) _
    refine X0.ldc2DoubleC hx hown (mvT hZ (hw _ (List.mem_of_getElem? (i := 2) rfl))) (g := (mkF m 34 #[.val (.int p0), .val (.int p1), .val (.int p2), .val (.int p3), .val (.int m0), .val (.int j0), .val (.int e0'), .val (.double vk), .second, .unset, .unset, .unset, .unset, .unset, .unset, .unset, .unset, .unset, .unset, .unset, .unset, .unset] [(.double vj)])) rfl (hb hby at_34) _ ?_
    show Steps p.tables e below (s₁.setTop (mkF m 37 #[.val (.int p0), .val (.int p1), .val (.int p2), .val (.int p3), .val (.int m0), .val (.int j0), .val (.int e0'), .val (.double vk), .second, .unset, .unset, .unset, .unset, .unset, .unset, .unset, .unset, .unset, .unset, .unset, .unset, .unset] [(.double (4652218415073722368 : UInt64)), (.double vj)])) _
    refine XS.ddivS X0.here hx rfl (hb hby at_37) rfl (by rw [hvb]; exact Dvb.nn) hvb ?_
    show Steps p.tables e below (s₁.setTop (mkF m 38 #[.val (.int p0), .val (.int p1), .val (.int p2), .val (.int p3), .val (.int m0), .val (.int j0), .val (.int e0'), .val (.double vk), .second, .unset, .unset, .unset, .unset, .unset, .unset, .unset, .unset, .unset, .unset, .unset, .unset, .unset] [(.double vb)])) _
    refine XS.dstore X0.here hx rfl (hb hby at_38) rfl (l' := #[.val (.int p0), .val (.int p1), .val (.int p2), .val (.int p3), .val (.int m0), .val (.int j0), .val (.int e0'), .val (.double vk), .second, .val (.double vb), .second, .unset, .unset, .unset, .unset, .unset, .unset, .unset, .unset, .unset, .unset, .unset]) rfl ?_
    show Steps p.tables e below (s₁.setTop (mkF m 40 #[.val (.int p0), .val (.int p1), .val (.int p2), .val (.int p3), .val (.int m0), .val (.int j0), .val (.int e0'), .val (.double vk), .second, .val (.double vb), .second, .unset, .unset, .unset, .unset, .unset, .unset, .unset, .unset, .unset, .unset, .unset] [])) _
    refine XS.iconst X0.here hx rfl (hb hby at_40) ?_
    show Steps p.tables e below (s₁.setTop (mkF m 41 #[.val (.int p0), .val (.int p1), .val (.int p2), .val (.int p3), .val (.int m0), .val (.int j0), .val (.int e0'), .val (.double vk), .second, .val (.double vb), .second, .unset, .unset, .unset, .unset, .unset, .unset, .unset, .unset, .unset, .unset, .unset] [(.int (1 : Int32))])) _
    refine XS.iload X0.here hx rfl (hb hby at_41) rfl ?_
    show Steps p.tables e below (s₁.setTop (mkF m 43 #[.val (.int p0), .val (.int p1), .val (.int p2), .val (.int p3), .val (.int m0), .val (.int j0), .val (.int e0'), .val (.double vk), .second, .val (.double vb), .second, .unset, .unset, .unset, .unset, .unset, .unset, .unset, .unset, .unset, .unset, .unset] [(.int e0'), (.int (1 : Int32))])) _
    refine XS.ishl X0.here hx rfl (hb hby at_43) rfl ?_
    show Steps p.tables e below (s₁.setTop (mkF m 44 #[.val (.int p0), .val (.int p1), .val (.int p2), .val (.int p3), .val (.int m0), .val (.int j0), .val (.int e0'), .val (.double vk), .second, .val (.double vb), .second, .unset, .unset, .unset, .unset, .unset, .unset, .unset, .unset, .unset, .unset, .unset] [(.int ((1 : Int32) <<< (e0' &&& 31)))])) _
    refine XS.i2dS X0.here hx rfl (hb hby at_44) rfl hva ?_
    show Steps p.tables e below (s₁.setTop (mkF m 45 #[.val (.int p0), .val (.int p1), .val (.int p2), .val (.int p3), .val (.int m0), .val (.int j0), .val (.int e0'), .val (.double vk), .second, .val (.double vb), .second, .unset, .unset, .unset, .unset, .unset, .unset, .unset, .unset, .unset, .unset, .unset] [(.double va)])) _
    refine XS.dstore X0.here hx rfl (hb hby at_45) rfl (l' := #[.val (.int p0), .val (.int p1), .val (.int p2), .val (.int p3), .val (.int m0), .val (.int j0), .val (.int e0'), .val (.double vk), .second, .val (.double vb), .second, .val (.double va), .second, .unset, .unset, .unset, .unset, .unset, .unset, .unset, .unset, .unset]) rfl ?_
    exact k)
  obtain ⟨T103, h103, X103, e103, E103, A103, D103, -, st103⟩ := newO X0 hx hZ hown (hw _ (List.mem_of_getElem? (i := 3) rfl)) (hw _ (List.mem_of_getElem? (i := 4) rfl)) (hw _ (List.mem_of_getElem? (i := 5) rfl)) e0 (g := (mkF m 47 #[.val (.int p0), .val (.int p1), .val (.int p2), .val (.int p3), .val (.int m0), .val (.int j0), .val (.int e0'), .val (.double vk), .second, .val (.double vb), .second, .val (.double va), .second, .unset, .unset, .unset, .unset, .unset, .unset, .unset, .unset, .unset] [])) rfl (hb hby at_47) (by decide) (by decide)
  obtain ⟨b103, g103⟩ : ∃ z, z = h0.size := ⟨_, rfl⟩
  rw [← g103] at A103 D103 st103
  have g104 : n0 ≤ b103 := Nat.le_trans Z0 (Nat.le_of_eq g103.symm)
  have Z105 : n0 ≤ h103.size := Nat.le_trans Z0 E103.1
  have F106 : Fld Z h103 b103 "com/example/liblocus/liblocus/search/Bm25" "k1" "D" (.double (0 : UInt64)) := D103 (Or.inr (hw _ (List.mem_of_getElem? (i := 19) rfl))) (ty := .double) (by decide)
  have F107 : Fld Z h103 b103 "com/example/liblocus/liblocus/search/Bm25" "b" "D" (.double (0 : UInt64)) := D103 (Or.inr (hw _ (List.mem_of_getElem? (i := 21) rfl))) (ty := .double) (by decide)
  have k108 : ∀ t, Steps p.tables e below (T103.setTop (mkF m 50 #[.val (.int p0), .val (.int p1), .val (.int p2), .val (.int p3), .val (.int m0), .val (.int j0), .val (.int e0'), .val (.double vk), .second, .val (.double vb), .second, .val (.double va), .second, .unset, .unset, .unset, .unset, .unset, .unset, .unset, .unset, .unset] [(.ref b103)])) t → Steps p.tables e below (s₁.setTop (entryFrame m #[(.int p0), (.int p1), (.int p2), (.int p3)] maxLocals)) t := fun t k => k102 t (st103 t k)
  have k109 : ∀ t, Steps p.tables e below (T103.setTop (mkF m 55 #[.val (.int p0), .val (.int p1), .val (.int p2), .val (.int p3), .val (.int m0), .val (.int j0), .val (.int e0'), .val (.double vk), .second, .val (.double vb), .second, .val (.double va), .second, .unset, .unset, .unset, .unset, .unset, .unset, .unset, .unset, .unset] [(.double vb), (.double vk), (.ref b103), (.ref b103)])) t → Steps p.tables e below (s₁.setTop (entryFrame m #[(.int p0), (.int p1), (.int p2), (.int p3)] maxLocals)) t := fun t k => k108 t (by
    show Steps p.tables e below (T103.setTop (mkF m 50 #[.val (.int p0), .val (.int p1), .val (.int p2), .val (.int p3), .val (.int m0), .val (.int j0), .val (.int e0'), .val (.double vk), .second, .val (.double vb), .second, .val (.double va), .second, .unset, .unset, .unset, .unset, .unset, .unset, .unset, .unset, .unset] [(.ref b103)])) _
    refine XS.dup X103.here hx rfl (hb hby at_50) rfl rfl ?_
    show Steps p.tables e below (T103.setTop (mkF m 51 #[.val (.int p0), .val (.int p1), .val (.int p2), .val (.int p3), .val (.int m0), .val (.int j0), .val (.int e0'), .val (.double vk), .second, .val (.double vb), .second, .val (.double va), .second, .unset, .unset, .unset, .unset, .unset, .unset, .unset, .unset, .unset] [(.ref b103), (.ref b103)])) _
    refine XS.dload X103.here hx rfl (hb hby at_51) rfl ?_
    show Steps p.tables e below (T103.setTop (mkF m 53 #[.val (.int p0), .val (.int p1), .val (.int p2), .val (.int p3), .val (.int m0), .val (.int j0), .val (.int e0'), .val (.double vk), .second, .val (.double vb), .second, .val (.double va), .second, .unset, .unset, .unset, .unset, .unset, .unset, .unset, .unset, .unset] [(.double vk), (.ref b103), (.ref b103)])) _
    refine XS.dload X103.here hx rfl (hb hby at_53) rfl ?_
    exact k)
  obtain ⟨_, _, ⟨T110, L110, k110, n110⟩, -, X110, ⟨Lc110, hQ110, l110, y110, z110⟩, st110⟩ := X103.specialBack hx (y := (⟨"com/example/liblocus/liblocus/search/Bm25", "<init>", "(DD)V"⟩ : MethodName)) rfl hown (mvT hZ (hw _ (List.mem_of_getElem? (i := 6) rfl))) (mvT hZ (hw _ (List.mem_of_getElem? (i := 7) rfl))) (mvT hZ (hw _ (List.mem_of_getElem? (i := 8) rfl))) (by decide) (backOf (W := 1) (rm1 l Z a0 hw [] b103 vk vb h103 n0 Z105 F106 F107 A103 g104 (Dvk.ge (dy0 3) hm1 .l) (Dvk.lt_inf .g) (Dvb.ge (dy0 10) hj1 .l) (Dvb.le (dy1 10) hj2 .g)) hZ (hw _ (List.mem_of_getElem? (i := 8) rfl)) (hw _ (List.mem_of_getElem? (i := 5) rfl)) (by decide) (by decide)) (g := (mkF m 55 #[.val (.int p0), .val (.int p1), .val (.int p2), .val (.int p3), .val (.int m0), .val (.int j0), .val (.int e0'), .val (.double vk), .second, .val (.double vb), .second, .val (.double va), .second, .unset, .unset, .unset, .unset, .unset, .unset, .unset, .unset, .unset] [(.double vb), (.double vk), (.ref b103), (.ref b103)])) rfl (by rw [hml]; rfl) (Steps.refl _) (a := b103) (argsL := [(.double vk), (.double vb)]) (rest := [(.ref b103)]) (lenOf pd__28DD_29V rfl) rfl (by show 2 * 0 + _ ≤ _; exact Nat.le_of_eq rfl) (hb hby at_55) (fun _ _ => ⟨rfl, e103, (by decide : 1 + 0 ≤ _), (by decide : 2 + 0 ≤ _)⟩)
  dsimp only [Pt.U, Pt.locs, Pt.cells, Pt.slots] at X110 l110 y110 z110 st110 hQ110
  subst l110 y110 z110
  obtain ⟨h110, e110⟩ : ∃ h', T110.heap = h' := ⟨_, rfl⟩
  rw [e110] at hQ110
  obtain ⟨rfl, N110q, K110, G110a, G110b, G110c⟩ := hQ110
  have N111 := Fr.app N0 N110q
  have k112 : ∀ t, Steps p.tables e below (T110.setTop (mkF m 58 #[.val (.int p0), .val (.int p1), .val (.int p2), .val (.int p3), .val (.int m0), .val (.int j0), .val (.int e0'), .val (.double vk), .second, .val (.double vb), .second, .val (.double va), .second, .unset, .unset, .unset, .unset, .unset, .unset, .unset, .unset, .unset] [(.ref b103)])) t → Steps p.tables e below (s₁.setTop (entryFrame m #[(.int p0), (.int p1), (.int p2), (.int p3)] maxLocals)) t := fun t k => k109 t (st110.trans k)
  have F113 := A103.keep K110
  have Z114 : n0 ≤ h110.size := Nat.le_trans Z105 K110.1
  obtain ⟨De1, De2, De3, De4, De5⟩ := own_norm hm1 hm2 hj1 hj2 (rng32 p3).1 (rng32 p3).2 rfl hp1 hp2 hE15 Dvk Dvb Dva (Dy.i2d p3)
  have k115 : ∀ t, Steps p.tables e below (T110.setTop (mkF m 65 #[.val (.int p0), .val (.int p1), .val (.int p2), .val (.int p3), .val (.int m0), .val (.int j0), .val (.int e0'), .val (.double vk), .second, .val (.double vb), .second, .val (.double va), .second, .val (.ref b103), .unset, .unset, .unset, .unset, .unset, .unset, .unset, .unset] [(.double va), (.int p3), (.ref b103)])) t → Steps p.tables e below (s₁.setTop (entryFrame m #[(.int p0), (.int p1), (.int p2), (.int p3)] maxLocals)) t := fun t k => k112 t (by
    show Steps p.tables e below (T110.setTop (mkF m 58 #[.val (.int p0), .val (.int p1), .val (.int p2), .val (.int p3), .val (.int m0), .val (.int j0), .val (.int e0'), .val (.double vk), .second, .val (.double vb), .second, .val (.double va), .second, .unset, .unset, .unset, .unset, .unset, .unset, .unset, .unset, .unset] [(.ref b103)])) _
    refine XS.astore X110.here hx rfl (hb hby at_58) rfl rfl (l' := #[.val (.int p0), .val (.int p1), .val (.int p2), .val (.int p3), .val (.int m0), .val (.int j0), .val (.int e0'), .val (.double vk), .second, .val (.double vb), .second, .val (.double va), .second, .val (.ref b103), .unset, .unset, .unset, .unset, .unset, .unset, .unset, .unset]) rfl ?_
    show Steps p.tables e below (T110.setTop (mkF m 60 #[.val (.int p0), .val (.int p1), .val (.int p2), .val (.int p3), .val (.int m0), .val (.int j0), .val (.int e0'), .val (.double vk), .second, .val (.double vb), .second, .val (.double va), .second, .val (.ref b103), .unset, .unset, .unset, .unset, .unset, .unset, .unset, .unset] [])) _
    refine XS.aload X110.here hx rfl (hb hby at_60) rfl rfl ?_
    show Steps p.tables e below (T110.setTop (mkF m 62 #[.val (.int p0), .val (.int p1), .val (.int p2), .val (.int p3), .val (.int m0), .val (.int j0), .val (.int e0'), .val (.double vk), .second, .val (.double vb), .second, .val (.double va), .second, .val (.ref b103), .unset, .unset, .unset, .unset, .unset, .unset, .unset, .unset] [(.ref b103)])) _
    refine XS.iloadN X110.here hx rfl (hb hby at_62) rfl ?_
    show Steps p.tables e below (T110.setTop (mkF m 63 #[.val (.int p0), .val (.int p1), .val (.int p2), .val (.int p3), .val (.int m0), .val (.int j0), .val (.int e0'), .val (.double vk), .second, .val (.double vb), .second, .val (.double va), .second, .val (.ref b103), .unset, .unset, .unset, .unset, .unset, .unset, .unset, .unset] [(.int p3), (.ref b103)])) _
    refine XS.dload X110.here hx rfl (hb hby at_63) rfl ?_
    exact k)
  obtain ⟨cq116, kq116, q116a, q116b, q116c⟩ := isOf hZ e110 G110a
  obtain ⟨_, _, ⟨T116, L116, k116, n116⟩, -, X116, ⟨Lc116, hQ116, l116, y116, z116⟩, st116⟩ := X110.virtualBack hx (y := (⟨"com/example/liblocus/liblocus/search/Bm25", "lengthNorm", "(ID)D"⟩ : MethodName)) (z := (⟨"com/example/liblocus/liblocus/search/Bm25", "lengthNorm", "(ID)D"⟩ : MethodName)) hown (mvT hZ (hw _ (List.mem_of_getElem? (i := 22) rfl))) (mvT hZ (hw _ (List.mem_of_getElem? (i := 23) rfl))) (notFace_of_selects (args := #[]) (mvT hZ (hw _ (List.mem_of_getElem? (i := 25) rfl)))) (mvT hZ (hw _ (List.mem_of_getElem? (i := 25) rfl))) (mvT hZ (hw _ (List.mem_of_getElem? (i := 24) rfl))) (by decide) (backOf (W := 0) (rm4 l Z a0 hw [] b103 p3 va vk vb h110 n0 Z114 G110b G110c De1.nn De2.nn De3.nn De4.nn De5.nn) hZ (hw _ (List.mem_of_getElem? (i := 26) rfl)) (hw _ (List.mem_of_getElem? (i := 5) rfl)) (by decide) (by decide)) q116a q116c (g := (mkF m 65 #[.val (.int p0), .val (.int p1), .val (.int p2), .val (.int p3), .val (.int m0), .val (.int j0), .val (.int e0'), .val (.double vk), .second, .val (.double vb), .second, .val (.double va), .second, .val (.ref b103), .unset, .unset, .unset, .unset, .unset, .unset, .unset, .unset] [(.double va), (.int p3), (.ref b103)])) rfl (by rw [hml]; rfl) (Steps.refl _) (argsL := [(.int p3), (.double va)]) (rest := []) (lenOf pd__28ID_29D rfl) rfl (by show 2 * 0 + _ ≤ _; exact Nat.le_of_eq rfl) (hb hby at_65) (fun _ _ => ⟨rfl, e110, (by decide : 1 + 0 ≤ _), (by decide : 2 + 0 ≤ _)⟩)
  dsimp only [Pt.U, Pt.locs, Pt.cells, Pt.slots] at X116 l116 y116 z116 st116 hQ116
  subst l116 y116 z116
  obtain ⟨rfl, N116q, e116⟩ := hQ116
  have N117 := Fr.app N111 N116q
  have k118 : ∀ t, Steps p.tables e below (T116.setTop (mkF m 68 #[.val (.int p0), .val (.int p1), .val (.int p2), .val (.int p3), .val (.int m0), .val (.int j0), .val (.int e0'), .val (.double vk), .second, .val (.double vb), .second, .val (.double va), .second, .val (.ref b103), .unset, .unset, .unset, .unset, .unset, .unset, .unset, .unset] [(.double (FP.dmul vk (FP.dadd (FP.dsub (4607182418800017408 : UInt64) vb) (FP.ddiv (FP.dmul vb (FP.i2d p3)) va))))])) t → Steps p.tables e below (s₁.setTop (entryFrame m #[(.int p0), (.int p1), (.int p2), (.int p3)] maxLocals)) t := fun t k => k115 t (st116.trans k)
  obtain ⟨got, hgot⟩ : ∃ z : UInt64, z = (FP.dmul vk (FP.dadd (FP.dsub (4607182418800017408 : UInt64) vb) (FP.ddiv (FP.dmul vb (FP.i2d p3)) va))) := ⟨_, rfl⟩
  obtain ⟨s0, hs0⟩ : ∃ z : Int64, z = (((((1024 : Int32) - j0).toInt64) * ((1 : Int64) <<< (e0' &&& 0x3f).toInt64)) + ((j0.toInt64) * (p3.toInt64))) := ⟨_, rfl⟩
  obtain ⟨t0, ht0⟩ : ∃ z : Int64, z = ((m0.toInt64) * s0) := ⟨_, rfl⟩
  have k119 : ∀ t, Steps p.tables e below (T116.setTop (mkF m 99 #[.val (.int p0), .val (.int p1), .val (.int p2), .val (.int p3), .val (.int m0), .val (.int j0), .val (.int e0'), .val (.double vk), .second, .val (.double vb), .second, .val (.double va), .second, .val (.ref b103), .val (.double got), .second, .val (.long s0), .second, .val (.long t0), .second, .unset, .unset] [])) t → Steps p.tables e below (s₁.setTop (entryFrame m #[(.int p0), (.int p1), (.int p2), (.int p3)] maxLocals)) t := fun t k => k118 t (by
    show Steps p.tables e below (T116.setTop (mkF m 68 #[.val (.int p0), .val (.int p1), .val (.int p2), .val (.int p3), .val (.int m0), .val (.int j0), .val (.int e0'), .val (.double vk), .second, .val (.double vb), .second, .val (.double va), .second, .val (.ref b103), .unset, .unset, .unset, .unset, .unset, .unset, .unset, .unset] [(.double (FP.dmul vk (FP.dadd (FP.dsub (4607182418800017408 : UInt64) vb) (FP.ddiv (FP.dmul vb (FP.i2d p3)) va))))])) _
    refine castTop (g' := (mkF m 68 #[.val (.int p0), .val (.int p1), .val (.int p2), .val (.int p3), .val (.int m0), .val (.int j0), .val (.int e0'), .val (.double vk), .second, .val (.double vb), .second, .val (.double va), .second, .val (.ref b103), .unset, .unset, .unset, .unset, .unset, .unset, .unset, .unset] [(.double got)])) (by rw [hgot]) ?_
    show Steps p.tables e below (T116.setTop (mkF m 68 #[.val (.int p0), .val (.int p1), .val (.int p2), .val (.int p3), .val (.int m0), .val (.int j0), .val (.int e0'), .val (.double vk), .second, .val (.double vb), .second, .val (.double va), .second, .val (.ref b103), .unset, .unset, .unset, .unset, .unset, .unset, .unset, .unset] [(.double got)])) _
    refine XS.dstore X116.here hx rfl (hb hby at_68) rfl (l' := #[.val (.int p0), .val (.int p1), .val (.int p2), .val (.int p3), .val (.int m0), .val (.int j0), .val (.int e0'), .val (.double vk), .second, .val (.double vb), .second, .val (.double va), .second, .val (.ref b103), .val (.double got), .second, .unset, .unset, .unset, .unset, .unset, .unset]) rfl ?_
    show Steps p.tables e below (T116.setTop (mkF m 70 #[.val (.int p0), .val (.int p1), .val (.int p2), .val (.int p3), .val (.int m0), .val (.int j0), .val (.int e0'), .val (.double vk), .second, .val (.double vb), .second, .val (.double va), .second, .val (.ref b103), .val (.double got), .second, .unset, .unset, .unset, .unset, .unset, .unset] [])) _
    refine XS.sipush X116.here hx rfl (hb hby at_70) ?_
    show Steps p.tables e below (T116.setTop (mkF m 73 #[.val (.int p0), .val (.int p1), .val (.int p2), .val (.int p3), .val (.int m0), .val (.int j0), .val (.int e0'), .val (.double vk), .second, .val (.double vb), .second, .val (.double va), .second, .val (.ref b103), .val (.double got), .second, .unset, .unset, .unset, .unset, .unset, .unset] [(.int (1024 : Int32))])) _
    refine XS.iload X116.here hx rfl (hb hby at_73) rfl ?_
    show Steps p.tables e below (T116.setTop (mkF m 75 #[.val (.int p0), .val (.int p1), .val (.int p2), .val (.int p3), .val (.int m0), .val (.int j0), .val (.int e0'), .val (.double vk), .second, .val (.double vb), .second, .val (.double va), .second, .val (.ref b103), .val (.double got), .second, .unset, .unset, .unset, .unset, .unset, .unset] [(.int j0), (.int (1024 : Int32))])) _
    refine XS.isub X116.here hx rfl (hb hby at_75) rfl ?_
    show Steps p.tables e below (T116.setTop (mkF m 76 #[.val (.int p0), .val (.int p1), .val (.int p2), .val (.int p3), .val (.int m0), .val (.int j0), .val (.int e0'), .val (.double vk), .second, .val (.double vb), .second, .val (.double va), .second, .val (.ref b103), .val (.double got), .second, .unset, .unset, .unset, .unset, .unset, .unset] [(.int ((1024 : Int32) - j0))])) _
    refine XS.i2l X116.here hx rfl (hb hby at_76) rfl ?_
    show Steps p.tables e below (T116.setTop (mkF m 77 #[.val (.int p0), .val (.int p1), .val (.int p2), .val (.int p3), .val (.int m0), .val (.int j0), .val (.int e0'), .val (.double vk), .second, .val (.double vb), .second, .val (.double va), .second, .val (.ref b103), .val (.double got), .second, .unset, .unset, .unset, .unset, .unset, .unset] [(.long (((1024 : Int32) - j0).toInt64))])) _
    refine XS.lconst X116.here hx rfl (hb hby at_77) ?_
    show Steps p.tables e below (T116.setTop (mkF m 78 #[.val (.int p0), .val (.int p1), .val (.int p2), .val (.int p3), .val (.int m0), .val (.int j0), .val (.int e0'), .val (.double vk), .second, .val (.double vb), .second, .val (.double va), .second, .val (.ref b103), .val (.double got), .second, .unset, .unset, .unset, .unset, .unset, .unset] [(.long (1 : Int64)), (.long (((1024 : Int32) - j0).toInt64))])) _
    refine XS.iload X116.here hx rfl (hb hby at_78) rfl ?_
    show Steps p.tables e below (T116.setTop (mkF m 80 #[.val (.int p0), .val (.int p1), .val (.int p2), .val (.int p3), .val (.int m0), .val (.int j0), .val (.int e0'), .val (.double vk), .second, .val (.double vb), .second, .val (.double va), .second, .val (.ref b103), .val (.double got), .second, .unset, .unset, .unset, .unset, .unset, .unset] [(.int e0'), (.long (1 : Int64)), (.long (((1024 : Int32) - j0).toInt64))])) _
    refine XS.lshl X116.here hx rfl (hb hby at_80) rfl ?_
    show Steps p.tables e below (T116.setTop (mkF m 81 #[.val (.int p0), .val (.int p1), .val (.int p2), .val (.int p3), .val (.int m0), .val (.int j0), .val (.int e0'), .val (.double vk), .second, .val (.double vb), .second, .val (.double va), .second, .val (.ref b103), .val (.double got), .second, .unset, .unset, .unset, .unset, .unset, .unset] [(.long ((1 : Int64) <<< (e0' &&& 0x3f).toInt64)), (.long (((1024 : Int32) - j0).toInt64))])) _
    refine XS.lmul X116.here hx rfl (hb hby at_81) rfl ?_
    show Steps p.tables e below (T116.setTop (mkF m 82 #[.val (.int p0), .val (.int p1), .val (.int p2), .val (.int p3), .val (.int m0), .val (.int j0), .val (.int e0'), .val (.double vk), .second, .val (.double vb), .second, .val (.double va), .second, .val (.ref b103), .val (.double got), .second, .unset, .unset, .unset, .unset, .unset, .unset] [(.long ((((1024 : Int32) - j0).toInt64) * ((1 : Int64) <<< (e0' &&& 0x3f).toInt64)))])) _
    refine XS.iload X116.here hx rfl (hb hby at_82) rfl ?_
    show Steps p.tables e below (T116.setTop (mkF m 84 #[.val (.int p0), .val (.int p1), .val (.int p2), .val (.int p3), .val (.int m0), .val (.int j0), .val (.int e0'), .val (.double vk), .second, .val (.double vb), .second, .val (.double va), .second, .val (.ref b103), .val (.double got), .second, .unset, .unset, .unset, .unset, .unset, .unset] [(.int j0), (.long ((((1024 : Int32) - j0).toInt64) * ((1 : Int64) <<< (e0' &&& 0x3f).toInt64)))])) _
    refine XS.i2l X116.here hx rfl (hb hby at_84) rfl ?_
    show Steps p.tables e below (T116.setTop (mkF m 85 #[.val (.int p0), .val (.int p1), .val (.int p2), .val (.int p3), .val (.int m0), .val (.int j0), .val (.int e0'), .val (.double vk), .second, .val (.double vb), .second, .val (.double va), .second, .val (.ref b103), .val (.double got), .second, .unset, .unset, .unset, .unset, .unset, .unset] [(.long (j0.toInt64)), (.long ((((1024 : Int32) - j0).toInt64) * ((1 : Int64) <<< (e0' &&& 0x3f).toInt64)))])) _
    refine XS.iloadN X116.here hx rfl (hb hby at_85) rfl ?_
    show Steps p.tables e below (T116.setTop (mkF m 86 #[.val (.int p0), .val (.int p1), .val (.int p2), .val (.int p3), .val (.int m0), .val (.int j0), .val (.int e0'), .val (.double vk), .second, .val (.double vb), .second, .val (.double va), .second, .val (.ref b103), .val (.double got), .second, .unset, .unset, .unset, .unset, .unset, .unset] [(.int p3), (.long (j0.toInt64)), (.long ((((1024 : Int32) - j0).toInt64) * ((1 : Int64) <<< (e0' &&& 0x3f).toInt64)))])) _
    refine XS.i2l X116.here hx rfl (hb hby at_86) rfl ?_
    show Steps p.tables e below (T116.setTop (mkF m 87 #[.val (.int p0), .val (.int p1), .val (.int p2), .val (.int p3), .val (.int m0), .val (.int j0), .val (.int e0'), .val (.double vk), .second, .val (.double vb), .second, .val (.double va), .second, .val (.ref b103), .val (.double got), .second, .unset, .unset, .unset, .unset, .unset, .unset] [(.long (p3.toInt64)), (.long (j0.toInt64)), (.long ((((1024 : Int32) - j0).toInt64) * ((1 : Int64) <<< (e0' &&& 0x3f).toInt64)))])) _
    refine XS.lmul X116.here hx rfl (hb hby at_87) rfl ?_
    show Steps p.tables e below (T116.setTop (mkF m 88 #[.val (.int p0), .val (.int p1), .val (.int p2), .val (.int p3), .val (.int m0), .val (.int j0), .val (.int e0'), .val (.double vk), .second, .val (.double vb), .second, .val (.double va), .second, .val (.ref b103), .val (.double got), .second, .unset, .unset, .unset, .unset, .unset, .unset] [(.long ((j0.toInt64) * (p3.toInt64))), (.long ((((1024 : Int32) - j0).toInt64) * ((1 : Int64) <<< (e0' &&& 0x3f).toInt64)))])) _
    refine XS.ladd X116.here hx rfl (hb hby at_88) rfl ?_
    show Steps p.tables e below (T116.setTop (mkF m 89 #[.val (.int p0), .val (.int p1), .val (.int p2), .val (.int p3), .val (.int m0), .val (.int j0), .val (.int e0'), .val (.double vk), .second, .val (.double vb), .second, .val (.double va), .second, .val (.ref b103), .val (.double got), .second, .unset, .unset, .unset, .unset, .unset, .unset] [(.long (((((1024 : Int32) - j0).toInt64) * ((1 : Int64) <<< (e0' &&& 0x3f).toInt64)) + ((j0.toInt64) * (p3.toInt64))))])) _
    refine castTop (g' := (mkF m 89 #[.val (.int p0), .val (.int p1), .val (.int p2), .val (.int p3), .val (.int m0), .val (.int j0), .val (.int e0'), .val (.double vk), .second, .val (.double vb), .second, .val (.double va), .second, .val (.ref b103), .val (.double got), .second, .unset, .unset, .unset, .unset, .unset, .unset] [(.long s0)])) (by rw [hs0]) ?_
    show Steps p.tables e below (T116.setTop (mkF m 89 #[.val (.int p0), .val (.int p1), .val (.int p2), .val (.int p3), .val (.int m0), .val (.int j0), .val (.int e0'), .val (.double vk), .second, .val (.double vb), .second, .val (.double va), .second, .val (.ref b103), .val (.double got), .second, .unset, .unset, .unset, .unset, .unset, .unset] [(.long s0)])) _
    refine XS.lstore X116.here hx rfl (hb hby at_89) rfl (l' := #[.val (.int p0), .val (.int p1), .val (.int p2), .val (.int p3), .val (.int m0), .val (.int j0), .val (.int e0'), .val (.double vk), .second, .val (.double vb), .second, .val (.double va), .second, .val (.ref b103), .val (.double got), .second, .val (.long s0), .second, .unset, .unset, .unset, .unset]) rfl ?_
    show Steps p.tables e below (T116.setTop (mkF m 91 #[.val (.int p0), .val (.int p1), .val (.int p2), .val (.int p3), .val (.int m0), .val (.int j0), .val (.int e0'), .val (.double vk), .second, .val (.double vb), .second, .val (.double va), .second, .val (.ref b103), .val (.double got), .second, .val (.long s0), .second, .unset, .unset, .unset, .unset] [])) _
    refine XS.iload X116.here hx rfl (hb hby at_91) rfl ?_
    show Steps p.tables e below (T116.setTop (mkF m 93 #[.val (.int p0), .val (.int p1), .val (.int p2), .val (.int p3), .val (.int m0), .val (.int j0), .val (.int e0'), .val (.double vk), .second, .val (.double vb), .second, .val (.double va), .second, .val (.ref b103), .val (.double got), .second, .val (.long s0), .second, .unset, .unset, .unset, .unset] [(.int m0)])) _
    refine XS.i2l X116.here hx rfl (hb hby at_93) rfl ?_
    show Steps p.tables e below (T116.setTop (mkF m 94 #[.val (.int p0), .val (.int p1), .val (.int p2), .val (.int p3), .val (.int m0), .val (.int j0), .val (.int e0'), .val (.double vk), .second, .val (.double vb), .second, .val (.double va), .second, .val (.ref b103), .val (.double got), .second, .val (.long s0), .second, .unset, .unset, .unset, .unset] [(.long (m0.toInt64))])) _
    refine XS.lload X116.here hx rfl (hb hby at_94) rfl ?_
    show Steps p.tables e below (T116.setTop (mkF m 96 #[.val (.int p0), .val (.int p1), .val (.int p2), .val (.int p3), .val (.int m0), .val (.int j0), .val (.int e0'), .val (.double vk), .second, .val (.double vb), .second, .val (.double va), .second, .val (.ref b103), .val (.double got), .second, .val (.long s0), .second, .unset, .unset, .unset, .unset] [(.long s0), (.long (m0.toInt64))])) _
    refine XS.lmul X116.here hx rfl (hb hby at_96) rfl ?_
    show Steps p.tables e below (T116.setTop (mkF m 97 #[.val (.int p0), .val (.int p1), .val (.int p2), .val (.int p3), .val (.int m0), .val (.int j0), .val (.int e0'), .val (.double vk), .second, .val (.double vb), .second, .val (.double va), .second, .val (.ref b103), .val (.double got), .second, .val (.long s0), .second, .unset, .unset, .unset, .unset] [(.long ((m0.toInt64) * s0))])) _
    refine castTop (g' := (mkF m 97 #[.val (.int p0), .val (.int p1), .val (.int p2), .val (.int p3), .val (.int m0), .val (.int j0), .val (.int e0'), .val (.double vk), .second, .val (.double vb), .second, .val (.double va), .second, .val (.ref b103), .val (.double got), .second, .val (.long s0), .second, .unset, .unset, .unset, .unset] [(.long t0)])) (by rw [ht0]) ?_
    show Steps p.tables e below (T116.setTop (mkF m 97 #[.val (.int p0), .val (.int p1), .val (.int p2), .val (.int p3), .val (.int m0), .val (.int j0), .val (.int e0'), .val (.double vk), .second, .val (.double vb), .second, .val (.double va), .second, .val (.ref b103), .val (.double got), .second, .val (.long s0), .second, .unset, .unset, .unset, .unset] [(.long t0)])) _
    refine XS.lstore X116.here hx rfl (hb hby at_97) rfl (l' := #[.val (.int p0), .val (.int p1), .val (.int p2), .val (.int p3), .val (.int m0), .val (.int j0), .val (.int e0'), .val (.double vk), .second, .val (.double vb), .second, .val (.double va), .second, .val (.ref b103), .val (.double got), .second, .val (.long s0), .second, .val (.long t0), .second, .unset, .unset]) rfl ?_
    exact k)
  obtain ⟨-, -, -, bnd⟩ := own_bounds hm1 hm2 hj1 hj2 (rng32 p3).1 (rng32 p3).2 hp1 hp2
  have ht1 : t0.toInt = m0.toInt * ((1024 - j0.toInt) * 2 ^ E + j0.toInt * p3.toInt) := by rw [ht0, hs0]; exact own_t (E := E) hm1 hm2 hj1 hj2 hp1 hp2 sh2
  obtain ⟨vt, hvt⟩ : ∃ z : UInt64, FP.l2d t0 = z := ⟨_, rfl⟩
  have Dvt : Dy (t0.toInt) (0) vt := by rw [← hvt]; exact Dy.l2d (by rw [ht1]; omega)
  obtain ⟨vq, hvq⟩ : ∃ z : UInt64, FP.l2d ((1 : Int64) <<< ((e0' + (13 : Int32)) &&& 0x3f).toInt64) = z := ⟨_, rfl⟩
  have Dvq : Dy (2 ^ (E + 13)) (0) vq := by rw [← hvq]; exact sh3 ▸ Dy.l2d (by rw [sh3, Int.pow_add]; omega)
  obtain ⟨want, hwant⟩ : ∃ z : UInt64, FP.ddiv vt vq = z := ⟨_, rfl⟩
  have Dwant : Dy (t0.toInt) (E + 13) want := by rw [← hwant]; exact Dy.div Dvt Dvq (by rw [Int.pow_add]; omega) (by rw [ht1]; omega) (by omega) (by rw [Int.pow_zero, Int.mul_one, Int.mul_one])
  have hfin : cmpValue (FP.dcmp got want) .l = (0 : Int32) := by rw [hgot]; exact Dy.cmp_eq De5 (Dwant.to (j := m0.toInt * ((1024 - j0.toInt) * 2 ^ E + j0.toInt * p3.toInt)) (l := 3 + (10 + E)) (by rw [ht1, show 3 + (10 + E) = E + 13 by omega])) rfl .l
  have k120 : ∀ t, Steps p.tables e below (T116.setTop (mkF m 126 #[.val (.int p0), .val (.int p1), .val (.int p2), .val (.int p3), .val (.int m0), .val (.int j0), .val (.int e0'), .val (.double vk), .second, .val (.double vb), .second, .val (.double va), .second, .val (.ref b103), .val (.double got), .second, .val (.long s0), .second, .val (.long t0), .second, .val (.double want), .second] [(.int (1 : Int32))])) t → Steps p.tables e below (s₁.setTop (entryFrame m #[(.int p0), (.int p1), (.int p2), (.int p3)] maxLocals)) t := fun t k => k119 t (by
    show Steps p.tables e below (T116.setTop (mkF m 99 #[.val (.int p0), .val (.int p1), .val (.int p2), .val (.int p3), .val (.int m0), .val (.int j0), .val (.int e0'), .val (.double vk), .second, .val (.double vb), .second, .val (.double va), .second, .val (.ref b103), .val (.double got), .second, .val (.long s0), .second, .val (.long t0), .second, .unset, .unset] [])) _
    refine XS.lload X116.here hx rfl (hb hby at_99) rfl ?_
    show Steps p.tables e below (T116.setTop (mkF m 101 #[.val (.int p0), .val (.int p1), .val (.int p2), .val (.int p3), .val (.int m0), .val (.int j0), .val (.int e0'), .val (.double vk), .second, .val (.double vb), .second, .val (.double va), .second, .val (.ref b103), .val (.double got), .second, .val (.long s0), .second, .val (.long t0), .second, .unset, .unset] [(.long t0)])) _
    refine XS.l2dS X116.here hx rfl (hb hby at_101) rfl hvt ?_
    show Steps p.tables e below (T116.setTop (mkF m 102 #[.val (.int p0), .val (.int p1), .val (.int p2), .val (.int p3), .val (.int m0), .val (.int j0), .val (.int e0'), .val (.double vk), .second, .val (.double vb), .second, .val (.double va), .second, .val (.ref b103), .val (.double got), .second, .val (.long s0), .second, .val (.long t0), .second, .unset, .unset] [(.double vt)])) _
    refine XS.lconst X116.here hx rfl (hb hby at_102) ?_
    show Steps p.tables e below (T116.setTop (mkF m 103 #[.val (.int p0), .val (.int p1), .val (.int p2), .val (.int p3), .val (.int m0), .val (.int j0), .val (.int e0'), .val (.double vk), .second, .val (.double vb), .second, .val (.double va), .second, .val (.ref b103), .val (.double got), .second, .val (.long s0), .second, .val (.long t0), .second, .unset, .unset] [(.long (1 : Int64)), (.double vt)])) _
    refine XS.iload X116.here hx rfl (hb hby at_103) rfl ?_
    show Steps p.tables e below (T116.setTop (mkF m 105 #[.val (.int p0), .val (.int p1), .val (.int p2), .val (.int p3), .val (.int m0), .val (.int j0), .val (.int e0'), .val (.double vk), .second, .val (.double vb), .second, .val (.double va), .second, .val (.ref b103), .val (.double got), .second, .val (.long s0), .second, .val (.long t0), .second, .unset, .unset] [(.int e0'), (.long (1 : Int64)), (.double vt)])) _
    refine XS.bipush X116.here hx rfl (hb hby at_105) ?_
    show Steps p.tables e below (T116.setTop (mkF m 107 #[.val (.int p0), .val (.int p1), .val (.int p2), .val (.int p3), .val (.int m0), .val (.int j0), .val (.int e0'), .val (.double vk), .second, .val (.double vb), .second, .val (.double va), .second, .val (.ref b103), .val (.double got), .second, .val (.long s0), .second, .val (.long t0), .second, .unset, .unset] [(.int (13 : Int32)), (.int e0'), (.long (1 : Int64)), (.double vt)])) _
    refine XS.iadd X116.here hx rfl (hb hby at_107) rfl ?_
    show Steps p.tables e below (T116.setTop (mkF m 108 #[.val (.int p0), .val (.int p1), .val (.int p2), .val (.int p3), .val (.int m0), .val (.int j0), .val (.int e0'), .val (.double vk), .second, .val (.double vb), .second, .val (.double va), .second, .val (.ref b103), .val (.double got), .second, .val (.long s0), .second, .val (.long t0), .second, .unset, .unset] [(.int (e0' + (13 : Int32))), (.long (1 : Int64)), (.double vt)])) _
    refine XS.lshl X116.here hx rfl (hb hby at_108) rfl ?_
    show Steps p.tables e below (T116.setTop (mkF m 109 #[.val (.int p0), .val (.int p1), .val (.int p2), .val (.int p3), .val (.int m0), .val (.int j0), .val (.int e0'), .val (.double vk), .second, .val (.double vb), .second, .val (.double va), .second, .val (.ref b103), .val (.double got), .second, .val (.long s0), .second, .val (.long t0), .second, .unset, .unset] [(.long ((1 : Int64) <<< ((e0' + (13 : Int32)) &&& 0x3f).toInt64)), (.double vt)])) _
    refine XS.l2dS X116.here hx rfl (hb hby at_109) rfl hvq ?_
    show Steps p.tables e below (T116.setTop (mkF m 110 #[.val (.int p0), .val (.int p1), .val (.int p2), .val (.int p3), .val (.int m0), .val (.int j0), .val (.int e0'), .val (.double vk), .second, .val (.double vb), .second, .val (.double va), .second, .val (.ref b103), .val (.double got), .second, .val (.long s0), .second, .val (.long t0), .second, .unset, .unset] [(.double vq), (.double vt)])) _
    refine XS.ddivS X116.here hx rfl (hb hby at_110) rfl (by rw [hwant]; exact Dwant.nn) hwant ?_
    show Steps p.tables e below (T116.setTop (mkF m 111 #[.val (.int p0), .val (.int p1), .val (.int p2), .val (.int p3), .val (.int m0), .val (.int j0), .val (.int e0'), .val (.double vk), .second, .val (.double vb), .second, .val (.double va), .second, .val (.ref b103), .val (.double got), .second, .val (.long s0), .second, .val (.long t0), .second, .unset, .unset] [(.double want)])) _
    refine XS.dstore X116.here hx rfl (hb hby at_111) rfl (l' := #[.val (.int p0), .val (.int p1), .val (.int p2), .val (.int p3), .val (.int m0), .val (.int j0), .val (.int e0'), .val (.double vk), .second, .val (.double vb), .second, .val (.double va), .second, .val (.ref b103), .val (.double got), .second, .val (.long s0), .second, .val (.long t0), .second, .val (.double want), .second]) rfl ?_
    show Steps p.tables e below (T116.setTop (mkF m 113 #[.val (.int p0), .val (.int p1), .val (.int p2), .val (.int p3), .val (.int m0), .val (.int j0), .val (.int e0'), .val (.double vk), .second, .val (.double vb), .second, .val (.double va), .second, .val (.ref b103), .val (.double got), .second, .val (.long s0), .second, .val (.long t0), .second, .val (.double want), .second] [])) _
    refine XS.dload X116.here hx rfl (hb hby at_113) rfl ?_
    show Steps p.tables e below (T116.setTop (mkF m 115 #[.val (.int p0), .val (.int p1), .val (.int p2), .val (.int p3), .val (.int m0), .val (.int j0), .val (.int e0'), .val (.double vk), .second, .val (.double vb), .second, .val (.double va), .second, .val (.ref b103), .val (.double got), .second, .val (.long s0), .second, .val (.long t0), .second, .val (.double want), .second] [(.double got)])) _
    refine XS.dload X116.here hx rfl (hb hby at_115) rfl ?_
    show Steps p.tables e below (T116.setTop (mkF m 117 #[.val (.int p0), .val (.int p1), .val (.int p2), .val (.int p3), .val (.int m0), .val (.int j0), .val (.int e0'), .val (.double vk), .second, .val (.double vb), .second, .val (.double va), .second, .val (.ref b103), .val (.double got), .second, .val (.long s0), .second, .val (.long t0), .second, .val (.double want), .second] [(.double want), (.double got)])) _
    refine XS.dcmpS X116.here hx rfl (hb hby at_117) rfl rfl ?_
    show Steps p.tables e below (T116.setTop (mkF m 118 #[.val (.int p0), .val (.int p1), .val (.int p2), .val (.int p3), .val (.int m0), .val (.int j0), .val (.int e0'), .val (.double vk), .second, .val (.double vb), .second, .val (.double va), .second, .val (.ref b103), .val (.double got), .second, .val (.long s0), .second, .val (.long t0), .second, .val (.double want), .second] [(.int (cmpValue (FP.dcmp got want) .l))])) _
    refine XS.ifNo X116.here hx rfl (hb hby at_118) rfl ((if0 _ _).trans (teq hfin).2) ?_
    show Steps p.tables e below (T116.setTop (mkF m 121 #[.val (.int p0), .val (.int p1), .val (.int p2), .val (.int p3), .val (.int m0), .val (.int j0), .val (.int e0'), .val (.double vk), .second, .val (.double vb), .second, .val (.double va), .second, .val (.ref b103), .val (.double got), .second, .val (.long s0), .second, .val (.long t0), .second, .val (.double want), .second] [])) _
    refine XS.iconst X116.here hx rfl (hb hby at_121) ?_
    show Steps p.tables e below (T116.setTop (mkF m 122 #[.val (.int p0), .val (.int p1), .val (.int p2), .val (.int p3), .val (.int m0), .val (.int j0), .val (.int e0'), .val (.double vk), .second, .val (.double vb), .second, .val (.double va), .second, .val (.ref b103), .val (.double got), .second, .val (.long s0), .second, .val (.long t0), .second, .val (.double want), .second] [(.int (1 : Int32))])) _
    refine XS.goto X116.here hx rfl (pc0 := 122) (pc' := 126) rfl (hb hby at_122) (by decide) (by decide) ?_
    exact k)
  obtain ⟨fs, hr, hrun, hended, hW, hsame⟩ := X116.leave (v := some (.int (1 : Int32))) (fun h => by rw [Bd.returns] at h; cases h)
  refine ⟨_, _, k120 _ (retOut X116 hx (t := .boolean) Bd.returns rfl (Or.inl ⟨rfl, Or.inr (Or.inl rfl), _, rfl⟩) (hb hby at_126) hr), hrun, hended, _, _, rfl, ?_, ⟨_, rfl⟩, hW, hsame.mono (by decide) (by decide)⟩
  show Q_rm0 Z p0 p1 p2 p3 h0 n0 _ T116.heap _
  rw [e116]
  exact ⟨rfl, N117⟩
set_option maxRecDepth 65536 in
set_option maxHeartbeats 40000000 in
theorem comes_1 {Post : Tables → Env → Array Value → State → Outcome → State → Prop} (hpost : ∀ tb e args s v u, (limb_1_1.after args s (.returned v) u = true ∧ limb_1_2.after args s (.returned v) u = true ∧ True) → FrameEnd s (.returned v) u (Jvm.fieldLocs frame_1_writes args s ++ Jvm.arrayLocs frame_1_arrays args s ++ Jvm.staticLocs frame_1_statics s) 16 128 → Post tb e args s (.returned v) u) :
    ArmFor flags0 classFile x code maxLocals ret World_1 tables_1 room_1 Calls_1 rest_1 Pre_1 Post := by
  intro l hfl _ _ p e ha hc hk s m args below hf hA hF happ hP
  obtain ⟨hcalls, hrest, hpre⟩ := hP
  obtain ⟨-, -, -, hnamed, -, -, -, hat⟩ := (Spec.applies_iff hf).mp happ
  obtain ⟨hg, hn⟩ := and_e (Cond.before_iff.mp (show (Jvm.Cond.and given_1 narrow_1).before args s = true from hpre))
  obtain ⟨g1, g2⟩ := and_e hg
  obtain ⟨g3, g4⟩ := and_e g2
  obtain ⟨g5, g6⟩ := and_e g4
  obtain ⟨g7, g8⟩ := and_e g6
  obtain ⟨w0, w1, w2, w3, rfl⟩ : ∃ w0 w1 w2 w3 : Value, args = #[w0, w1, w2, w3] := by
    have hs : args.size = 4 := by simpa [Cond.value, given_1] using g1
    obtain ⟨L⟩ := args
    match L, hs with
    | [w0, w1, w2, w3], _ => exact ⟨w0, w1, w2, w3, rfl⟩
  have hw := fun d (hd : d ∈ tables_1) => atoms_spec (ws := Jvm.Cond.code x code maxLocals ret :: tables_1) hat d (List.mem_cons_of_mem _ hd)
  obtain ⟨i0, ei0⟩ := is_v g3
  obtain rfl : w0 = (.int i0) := Option.some.inj ei0
  obtain ⟨i1, ei1⟩ := is_v g5
  obtain rfl : w1 = (.int i1) := Option.some.inj ei1
  obtain ⟨i2, ei2⟩ := is_v g7
  obtain rfl : w2 = (.int i2) := Option.some.inj ei2
  obtain ⟨i3, ei3⟩ := is_v g8
  obtain rfl : w3 = (.int i3) := Option.some.inj ei3
  obtain ⟨n, o, h1, h2, h3, _, L, rfl, ⟨rfl, N⟩, hq⟩ := rm0 l s _ hw tables_1 i0 i1 i2 i3 s.heap s.heap.size (Nat.le_refl _) p e ha hc hk s m _ below hf ((Spec.applies_iff_loose hf).mp happ).1 ⟨rfl, State.Warmed39.refl s, rfl⟩ trivial
  refine ⟨n, _, h1, h2, h3, hpost _ _ _ _ _ _ ⟨Cond.after_iff.mpr rfl, Cond.after_iff.mpr (eq_i res_at (Term.int_eval (1)) rfl), trivial⟩ ⟨hq.1, hq.2.1, (hq.2.2.sift fun y hy => Or.inr (N y hy)).mono (by decide) (by decide)⟩⟩
theorem main_1_1 : Claimed_1_1 := comes_1 fun _ _ _ _ _ _ h hF => ⟨h.1, hF⟩
theorem main_1_2 : Claimed_1_2 := comes_1 fun _ _ _ _ _ _ h hF => ⟨h.2.1, hF⟩
end Jvm.Pilot.@@N@@
namespace Jvm.Pilot.@@N@@
open Jvm Jvm.ClassFile Sem Op Lib Jvm.Free Jvm.Stand Jvm.Pilot.@@N@@.Jvm.D
/-! MADE BY PROGRAM (witnessworld.py) out of the Statement's table words and the real class files: 12 classes; the members and pool entries that the words name. The judged class is class 1, her method 1. -/
namespace start1
open Jvm.ClassFile
def u (s : String) : CpInfo := .utf8 (stringToUtf16 s)
/-- a pool by its gaps: so many unusable entries, then the entry; so many at the end -/
def gap : Nat → List CpInfo → List CpInfo
  | 0, r => r
  | n + 1, r => .unusable :: gap n r
def poolList (es : List (Nat × CpInfo)) (last : Nat) : List CpInfo := es.foldr (fun e r => gap e.1 (e.2 :: r)) (gap last [])
def pool (es : List (Nat × CpInfo)) (last : Nat) : Array CpInfo := ⟨poolList es last⟩
def fileOf (pool : Array CpInfo) (this : Nat) (attrs : Array Attribute := #[]) (ms : Array MethodInfo := #[]) (fl : Nat := 33) (sup : Nat := 0) (ifs : Array Nat := #[]) (fds : Array FieldInfo := #[]) : ClassFile where
  minorVersion := 0
  majorVersion := 65
  constantPool := pool
  accessFlags := fl
  thisClass := this
  superClass := sup
  interfaces := ifs
  fields := fds
  methods := ms
  attributes := attrs
def plain (name : String) (sup : Option ClassId) : Class where
  name := name
  kind := .ordinary
  loader := none
  accessFlags := 33
  super := sup
  interfaces := #[]
  cf := none
  fields := #[]
  methods := #[]
  instanceTypes := #[]
  staticTypes := #[]
  resolved := #[]
  callSites := []
  init := .initialized
  statics := none
  mirror := none

def pool0 : Array CpInfo := pool [(5, u "<init>"), (0, u "()V"), (1, .class_ 10), (1, u "java/lang/Object")] 113

def k0c0 : Code := { maxStack := 0, maxLocals := 1, code := object_method_1_code, exceptionTable := #[], attributes := #[] }
def k0m0 : Method := { name := "<init>", desc := "()V", sig := { parameters := [], returnType := none }, accessFlags := 1, code := some k0c0 }
/-- java/lang/Object -/
def k0 : Class := { plain "java/lang/Object" none with
  accessFlags := 33
  interfaces := #[]
  cf := some (fileOf pool0 8 #[] #[{ accessFlags := 1, nameIndex := 5, descriptorIndex := 6, attributes := #[] }] 33 0 #[] #[])
  fields := #[]
  methods := #[k0m0]
  instanceTypes := #[]
  staticTypes := #[]
  resolved := Array.replicate 124 none
  statics := none }

def pool1 : Array CpInfo := pool [(2, .class_ 4), (1, u "java/lang/Object"), (0, u "<init>"), (0, u "()V"), (0, .integer 2147483647), (0, .double 4620693217682128896), (1, .double 4652218415073722368), (1, .class_ 13), (0, u "com/example/liblocus/liblocus/search/Bm25"), (0, .methodref 12 15), (0, .nameAndType 5 16), (0, u "(DD)V"), (0, .methodref 12 18), (0, .nameAndType 19 20), (0, u "lengthNorm"), (0, u "(ID)D"), (0, .class_ 22), (0, u "com/example/liblocus/liblocus/search/Bm25LengthNormPinLaw"), (2, u "law"), (0, u "(IIII)Z")] 3

def k1m0 : Method := { name := "<init>", desc := "()V", sig := { parameters := [], returnType := none }, accessFlags := 1, code := none }
def k1c1 : Code := { maxStack := 6, maxLocals := 22, code := code, exceptionTable := #[], attributes := #[] }
def k1m1 : Method := { name := "law", desc := "(IIII)Z", sig := { parameters := [.int, .int, .int, .int], returnType := some .boolean }, accessFlags := 9, code := some k1c1 }
/-- com/example/liblocus/liblocus/search/Bm25LengthNormPinLaw -/
def k1 : Class := { plain "com/example/liblocus/liblocus/search/Bm25LengthNormPinLaw" (some 0) with
  accessFlags := 49
  interfaces := #[]
  cf := some (fileOf pool1 21 #[] #[{ accessFlags := 1, nameIndex := 5, descriptorIndex := 6, attributes := #[] }, { accessFlags := 9, nameIndex := 25, descriptorIndex := 26, attributes := #[] }] 49 2 #[] #[])
  fields := #[]
  methods := #[k1m0, k1m1]
  instanceTypes := #[]
  staticTypes := #[]
  resolved := Array.replicate 30 none
  statics := none }

def pool2 : Array CpInfo := pool [(1, .methodref 2 3), (0, .class_ 4), (0, .nameAndType 5 6), (0, u "java/lang/Object"), (0, u "<init>"), (0, u "()V"), (0, .class_ 8), (0, u "java/lang/Record")] 13

def k2c0 : Code := { maxStack := 1, maxLocals := 1, code := jdk_30_method_1_code, exceptionTable := #[], attributes := #[] }
def k2m0 : Method := { name := "<init>", desc := "()V", sig := { parameters := [], returnType := none }, accessFlags := 4, code := some k2c0 }
/-- java/lang/Record -/
def k2 : Class := { plain "java/lang/Record" (some 0) with
  accessFlags := 1057
  interfaces := #[]
  cf := some (fileOf pool2 7 #[] #[{ accessFlags := 4, nameIndex := 5, descriptorIndex := 6, attributes := #[] }] 1057 2 #[] #[])
  fields := #[]
  methods := #[k2m0]
  instanceTypes := #[]
  staticTypes := #[]
  resolved := Array.replicate 22 none
  statics := none }

def pool3 : Array CpInfo := pool [(1, .class_ 2), (0, u "com/example/liblocus/liblocus/search/RetrievalModel"), (0, .class_ 4), (0, u "java/lang/Object")] 7

/-- com/example/liblocus/liblocus/search/RetrievalModel -/
def k3 : Class := { plain "com/example/liblocus/liblocus/search/RetrievalModel" (some 0) with
  accessFlags := 1537
  interfaces := #[]
  cf := some (fileOf pool3 1 #[] #[] 1537 3 #[] #[])
  fields := #[]
  methods := #[]
  instanceTypes := #[]
  staticTypes := #[]
  resolved := Array.replicate 12 none
  statics := none }

def pool4 : Array CpInfo := pool [(1, .class_ 2), (0, u "com/example/liblocus/liblocus/search/RankingModel"), (0, .class_ 4), (0, u "java/lang/Object"), (0, .class_ 6), (0, u "com/example/liblocus/liblocus/search/RetrievalModel"), (12, .class_ 20), (0, u "com/example/liblocus/liblocus/search/RankingModel$QueryScorer"), (0, .class_ 22), (0, u "com/example/liblocus/liblocus/search/RankingModel$QueryTerm")] 14

/-- com/example/liblocus/liblocus/search/RankingModel -/
def k4 : Class := { plain "com/example/liblocus/liblocus/search/RankingModel" (some 0) with
  accessFlags := 1537
  interfaces := #[3]
  cf := some (fileOf pool4 1 #[.nestMembers #[19, 21]] #[] 1537 3 #[5] #[])
  fields := #[]
  methods := #[]
  instanceTypes := #[]
  staticTypes := #[]
  resolved := Array.replicate 37 none
  statics := none }

def pool5 : Array CpInfo := pool [(1, .methodref 2 3), (0, .class_ 4), (0, .nameAndType 5 6), (0, u "java/lang/Record"), (0, u "<init>"), (0, u "()V"), (2, .double 9218868437227405312), (11, .fieldref 22 23), (0, .class_ 24), (0, .nameAndType 25 26), (0, u "com/example/liblocus/liblocus/search/Bm25"), (0, u "k1"), (0, u "D"), (0, .fieldref 22 28), (0, .nameAndType 29 26), (0, u "b"), (65, u "lengthNorm"), (0, u "(ID)D"), (44, .class_ 142), (0, u "com/example/liblocus/liblocus/search/RankingModel"), (0, u "DEFAULT_K1"), (3, u "DEFAULT_B"), (2, u "(DD)V")] 76

def k5c0 : Code := { maxStack := 4, maxLocals := 5, code := prog_72_method_1_code, exceptionTable := #[], attributes := #[] }
def k5m0 : Method := { name := "<init>", desc := "(DD)V", sig := { parameters := [.double, .double], returnType := none }, accessFlags := 1, code := some k5c0 }
def k5c1 : Code := { maxStack := 8, maxLocals := 4, code := prog_72_method_5_code, exceptionTable := #[], attributes := #[] }
def k5m1 : Method := { name := "lengthNorm", desc := "(ID)D", sig := { parameters := [.int, .double], returnType := some .double }, accessFlags := 1, code := some k5c1 }
/-- com/example/liblocus/liblocus/search/Bm25 -/
def k5 : Class := { plain "com/example/liblocus/liblocus/search/Bm25" (some 2) with
  accessFlags := 49
  interfaces := #[4]
  cf := some (fileOf pool5 22 #[] #[{ accessFlags := 1, nameIndex := 5, descriptorIndex := 150, attributes := #[] }, { accessFlags := 1, nameIndex := 95, descriptorIndex := 96, attributes := #[] }] 49 2 #[141] #[{ accessFlags := 18, nameIndex := 25, descriptorIndex := 26, attributes := #[] }, { accessFlags := 18, nameIndex := 29, descriptorIndex := 26, attributes := #[] }, { accessFlags := 25, nameIndex := 143, descriptorIndex := 26, attributes := #[] }, { accessFlags := 25, nameIndex := 147, descriptorIndex := 26, attributes := #[] }])
  fields := #[{ name := "k1", type := .double, accessFlags := 18, slot := 0, constantValue := 0 }, { name := "b", type := .double, accessFlags := 18, slot := 1, constantValue := 0 }, { name := "DEFAULT_K1", type := .double, accessFlags := 25, slot := 0, constantValue := 0 }, { name := "DEFAULT_B", type := .double, accessFlags := 25, slot := 1, constantValue := 0 }]
  methods := #[k5m0, k5m1]
  instanceTypes := #[.double, .double]
  staticTypes := #[.double, .double]
  resolved := Array.replicate 227 none
  statics := none }

def pool6 : Array CpInfo := pool [(1, u "java/lang/Cloneable"), (0, .class_ 1), (0, u "java/lang/Object"), (0, .class_ 3)] 3

/-- java/lang/Cloneable -/
def k6 : Class := { plain "java/lang/Cloneable" (some 0) with
  accessFlags := 1537
  interfaces := #[]
  cf := some (fileOf pool6 2 #[] #[] 1537 4 #[] #[])
  fields := #[]
  methods := #[]
  instanceTypes := #[]
  staticTypes := #[]
  resolved := Array.replicate 8 none
  statics := none }

def pool7 : Array CpInfo := pool [(1, u "java/io/Serializable"), (0, .class_ 1), (0, u "java/lang/Object"), (0, .class_ 3)] 3

/-- java/io/Serializable -/
def k7 : Class := { plain "java/io/Serializable" (some 0) with
  accessFlags := 1537
  interfaces := #[]
  cf := some (fileOf pool7 2 #[] #[] 1537 4 #[] #[])
  fields := #[]
  methods := #[]
  instanceTypes := #[]
  staticTypes := #[]
  resolved := Array.replicate 8 none
  statics := none }

/-- the primitive byte -/
def k8 : Class := { plain "byte" none with kind := .primitive 'B', accessFlags := 0x411 }
/-- [B -/
def k9 : Class := { plain "[B" (some 0) with kind := .array 8 .byte, interfaces := #[6, 7], accessFlags := 1041 }

/-- the primitive int -/
def k10 : Class := { plain "int" none with kind := .primitive 'I', accessFlags := 0x411 }
/-- [I -/
def k11 : Class := { plain "[I" (some 0) with kind := .array 10 .int, interfaces := #[6, 7], accessFlags := 1041 }

def heap : Heap := #[]
def classes : Array Class := #[k0, k1, k2, k3, k4, k5, k6, k7, k8, k9, k10, k11]
def interned : List (Array UInt16 × Addr) := []
def slotsUsed : Nat := 0
def theMethod : MethodId := ⟨1, 1⟩
def args0 : Array Value := #[.int 9, .int 300, .int 5, .int 77]
def aboutOver (below : List Frame) : State where
  vm := { classes := classes, interned := interned.toArray }
  heap := heap
  slotsUsed := slotsUsed
  threads := #[{ frames := .invoking theMethod args0 :: below }]
def below0 : List Frame := [.native { method := ⟨0, 0⟩, args := #[] }]
def about1 : State := aboutOver below0
def p0 : Program := .bare "" "" ""
def e0 : Env := launch0.env 0 0 0
theorem w_frames : about1.frames = Frame.invoking theMethod args0 :: below0 := rfl
set_option maxRecDepth 65536 in
theorem w_args : argsFit about1.vm theMethod args0 = true := by decide +kernel
set_option maxRecDepth 65536 in
theorem w_heap : heapFits about1 = true := by decide +kernel
set_option maxRecDepth 65536 in
theorem w_runnable : about1.curStatus? = some .runnable := by decide +kernel
set_option maxRecDepth 65536 in
theorem w_alone : about1.alone = true := by decide +kernel
set_option maxRecDepth 65536 in
theorem w_named : about1.methodNamed? x = some theMethod := by decide +kernel
set_option maxRecDepth 65536 in
theorem w_hears : about1.hears theMethod below0 = true := by decide +kernel
set_option maxRecDepth 65536 in
theorem w_ripe : about1.ripe theMethod args0 below0 = true := by decide +kernel
theorem w_running : about1.status = .running := rfl
set_option maxRecDepth 65536 in
theorem w_room : about1.hasRoom e0.platform room_1 = true :=
  launch0.hasRoom_least _ room_1 (by decide +kernel) (by decide +kernel) (by decide +kernel) (by decide +kernel) (by decide +kernel) (by decide +kernel)
theorem allAtoms_all (ts : List Jvm.Cond) (a : Array Jvm.Value) (st : Jvm.State) : (allAtoms ts).before a st = ts.all (fun c => c.before a st) := by
  induction ts with
  | nil => rfl
  | cons c t ih =>
    show (Jvm.Cond.and c (allAtoms t)).before a st = _
    rw [Jvm.Cond.before_and, ih, List.all_cons]
def words1 : List Jvm.Cond := Jvm.Cond.code x code maxLocals ret :: tables_1
/-- a 'code' word, met by the world's own term for the bytes: nothing is compared byte by byte -/
theorem code_word {y : MethodName} {bytes : ByteArray} {mx : Nat} {rt : Option FieldType} {a : Array Value} {s : State} {m : MethodId} {meth : Method} {c : Code} (h1 : s.methodNamed? y = some m) (h2 : s.vm.method? m = some meth) (h3 : meth.code = some c) (h4 : c.code = bytes)
    (h5 : (c.maxLocals == mx && c.exceptionTable.isEmpty && decide (c.maxStack ≤ mostOperands) && decide (meth.sig.returnType = rt) && !meth.locks && decide (parseMethodDescriptor y.desc = some meth.sig)) = true) : (Jvm.Cond.code y bytes mx rt).before a s = true := by
  simp only [Bool.and_eq_true, beq_iff_eq, Bool.not_eq_true', decide_eq_true_eq] at h5
  obtain ⟨⟨⟨⟨⟨g1, g2⟩, g3⟩, g4⟩, g5⟩, g6⟩ := h5
  simp [Cond.before, Cond.holds, Cond.value, h1, h2, h3, h4, g1, g2, g3, g4, g5, g6]
def isCode : Jvm.Cond → Bool
  | .code _ _ _ _ => true
  | _ => false
theorem all_split {L : List Jvm.Cond} {P : Jvm.Cond → Bool} (h1 : L.all (fun c => isCode c || P c) = true) (h2 : ∀ c ∈ L.filter isCode, P c = true) : L.all P = true := by
  refine List.all_eq_true.mpr fun c hc => ?_
  have h := List.all_eq_true.mp h1 c hc
  rcases Bool.eq_false_or_eq_true (isCode c) with hi | hi
  · exact h2 c (List.mem_filter.mpr ⟨hc, hi⟩)
  · simpa [hi] using h
set_option maxRecDepth 65536 in
theorem w_c0 : (Jvm.Cond.code x code maxLocals ret).before args0 about1 = true := code_word (m := ⟨1, 1⟩) (meth := k1m1) (c := k1c1) (by decide +kernel) rfl rfl rfl (by decide +kernel)
set_option maxRecDepth 65536 in
theorem w_c1 : (Jvm.Cond.code ({ cls := "com/example/liblocus/liblocus/search/Bm25", name := "<init>", desc := "(DD)V" } : Jvm.MethodName) prog_72_method_1_code (5 : Nat) (Option.none : Option Jvm.ClassFile.FieldType)).before args0 about1 = true := code_word (m := ⟨5, 0⟩) (meth := k5m0) (c := k5c0) (by decide +kernel) rfl rfl rfl (by decide +kernel)
set_option maxRecDepth 65536 in
theorem w_c2 : (Jvm.Cond.code ({ cls := "java/lang/Record", name := "<init>", desc := "()V" } : Jvm.MethodName) jdk_30_method_1_code (1 : Nat) (Option.none : Option Jvm.ClassFile.FieldType)).before args0 about1 = true := code_word (m := ⟨2, 0⟩) (meth := k2m0) (c := k2c0) (by decide +kernel) rfl rfl rfl (by decide +kernel)
set_option maxRecDepth 65536 in
theorem w_c3 : (Jvm.Cond.code ({ cls := "java/lang/Object", name := "<init>", desc := "()V" } : Jvm.MethodName) object_method_1_code (1 : Nat) (Option.none : Option Jvm.ClassFile.FieldType)).before args0 about1 = true := code_word (m := ⟨0, 0⟩) (meth := k0m0) (c := k0c0) (by decide +kernel) rfl rfl rfl (by decide +kernel)
set_option maxRecDepth 65536 in
theorem w_c4 : (Jvm.Cond.code ({ cls := "com/example/liblocus/liblocus/search/Bm25", name := "lengthNorm", desc := "(ID)D" } : Jvm.MethodName) prog_72_method_5_code (4 : Nat) (Option.some Jvm.ClassFile.FieldType.double)).before args0 about1 = true := code_word (m := ⟨5, 1⟩) (meth := k5m1) (c := k5c1) (by decide +kernel) rfl rfl rfl (by decide +kernel)
def codes1 : List Jvm.Cond := [Jvm.Cond.code x code maxLocals ret, Jvm.Cond.code ({ cls := "com/example/liblocus/liblocus/search/Bm25", name := "<init>", desc := "(DD)V" } : Jvm.MethodName) prog_72_method_1_code (5 : Nat) (Option.none : Option Jvm.ClassFile.FieldType), Jvm.Cond.code ({ cls := "java/lang/Record", name := "<init>", desc := "()V" } : Jvm.MethodName) jdk_30_method_1_code (1 : Nat) (Option.none : Option Jvm.ClassFile.FieldType), Jvm.Cond.code ({ cls := "java/lang/Object", name := "<init>", desc := "()V" } : Jvm.MethodName) object_method_1_code (1 : Nat) (Option.none : Option Jvm.ClassFile.FieldType), Jvm.Cond.code ({ cls := "com/example/liblocus/liblocus/search/Bm25", name := "lengthNorm", desc := "(ID)D" } : Jvm.MethodName) prog_72_method_5_code (4 : Nat) (Option.some Jvm.ClassFile.FieldType.double)]
set_option maxRecDepth 65536 in
theorem codes_eq : words1.filter isCode = codes1 := rfl
theorem w_codes : ∀ c ∈ words1.filter isCode, c.before args0 about1 = true := by
  rw [codes_eq]
  intro c hc
  simp only [codes1, List.mem_cons, List.not_mem_nil, or_false] at hc
  rcases hc with rfl | rfl | rfl | rfl | rfl
  · exact w_c0
  · exact w_c1
  · exact w_c2
  · exact w_c3
  · exact w_c4
set_option maxRecDepth 65536 in
theorem w_t1 : (words1.take 24).all (fun c => isCode c || c.before args0 about1) = true := by decide +kernel
set_option maxRecDepth 65536 in
theorem w_t2 : (words1.drop 24).all (fun c => isCode c || c.before args0 about1) = true := by decide +kernel
theorem w_tables : (allAtoms (Jvm.Cond.code x code maxLocals ret :: tables_1)).before args0 about1 = true := by
  rw [allAtoms_all]
  show words1.all (fun c => c.before args0 about1) = true
  refine all_split ?_ w_codes
  rw [← List.take_append_drop 24 words1, List.all_append, w_t1, w_t2]
  rfl
set_option maxRecDepth 65536 in
theorem w_case : (Jvm.Cond.and given_1 narrow_1).before args0 about1 = true := by decide +kernel
theorem w_applies : (headSpec (Jvm.Cond.code x code maxLocals ret :: tables_1) room_1).applies x e0.platform about1 = true :=
  (Spec.applies_iff w_frames).mpr ⟨w_running, w_runnable, w_alone, w_named, w_hears, w_ripe, w_room, w_tables⟩
theorem atStart : AtStart classFile x code maxLocals ret World_1 tables_1 room_1 Calls_1 rest_1 Pre_1 launch0 p0 e0 about1 theMethod args0 below0 :=
  ⟨lists_1, trivial, launch0.admits_env _ _ _, launch0.least_env, fairChoices_fair.cas, fairChoices_fair.clock, w_frames, w_args, w_heap, w_applies, trivial, trivial, w_case⟩
end start1
theorem witness_1 : WitnessClaimed_1 := ⟨start1.p0, start1.e0, start1.about1, start1.theMethod, start1.args0, start1.below0, start1.atStart⟩
end Jvm.Pilot.@@N@@
