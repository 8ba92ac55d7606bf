import JvmDerived
import JvmDerived.Pilot.@@N@@Statement
import JvmDerived.Pilot.@@N@@Code
set_option linter.unusedVariables false
set_option linter.unusedSimpArgs false
namespace Jvm.OwnFp
open Jvm.FP.Core Op
/-! own: exact values. `Dyf f i k d`: the datum d is finite and worth i / 2^k. -/
def Dyf (f : Fmt) (i : Int) (k : Nat) (d : Datum) : Prop := (∃ s c q, d = .fin s c q) ∧ zval f d * 2 ^ k = i * 2 ^ (-f.qmin).toNat
theorem pw_pos (n : Nat) : (0 : Int) < 2 ^ n := Int.pow_pos (by decide)
theorem pw_cast (n : Nat) : ((2 ^ n : Nat) : Int) = 2 ^ n := by simp
theorem signed_abs (i : Int) : signed (decide (i < 0)) i.natAbs = i := by
  unfold signed
  by_cases h : i < 0 <;> simp [h] <;> omega
theorem signed_mulI (s : Bool) (c k : Nat) : signed s (c * 2 ^ k) = signed s c * 2 ^ k := by
  rw [signed_mul, pw_cast]
theorem vex {f : Fmt} (hf : Good f) {i : Int} {k : Nat} (hi : i.natAbs < 2 ^ f.p) (hk : (k : Int) ≤ -f.qmin) (hq : 0 ≤ f.qmax) :
    ∃ s c q, FP.Core.fits f (.fin s c q) ∧ zval f (.fin s c q) * 2 ^ k = i * 2 ^ (-f.qmin).toNat := by
  obtain ⟨c', q', h, hu⟩ := round_exact hf (decide (i < 0)) (c := i.natAbs) (q := -(k : Int)) hi (by omega) (by omega)
  refine ⟨_, c', q', h ▸ round_fits hf _, ?_⟩
  show signed (decide (i < 0)) (inUnits c' q' f.qmin) * 2 ^ k = _
  rw [hu]
  unfold inUnits
  rw [signed_mulI, signed_abs, Int.mul_assoc, ← Int.pow_add, show (-(k : Int) - f.qmin).toNat + k = (-f.qmin).toNat by omega]
theorem dyf_of_zval {f : Fmt} (hf : Good f) {s : Bool} {A B : Nat} {e : Int} {s' : Bool} {c' : Nat} {q' : Int} (hV : FP.Core.fits f (.fin s' c' q'))
    (hz : zval f (roundRatio f s A B e) = zval f (.fin s' c' q')) : ∃ s₀ c₀ q₀, roundRatio f s A B e = .fin s₀ c₀ q₀ := by
  rcases roundRatio_cases f s A B e with ⟨c, q, h⟩ | h
  · exact ⟨s, c, q, h⟩
  · exfalso
    rw [h] at hz
    have h1 := zmag_lt_top hf hV
    have h2 := congrArg Int.natAbs hz
    unfold zval at h2
    rw [natAbs_signed, natAbs_signed] at h2
    have h3 : zmag f (.inf s) = f.tails * 2 ^ (f.exps - 2) := rfl
    have h4 : zmag f (.fin s' c' q') = inUnits c' q' f.qmin := rfl
    omega
/-- an exact result that the format holds is not rounded -/
theorem rnd {f : Fmt} (hf : Good f) (hq : 0 ≤ f.qmax) {s : Bool} {c : Nat} {q e0 : Int} (h0 : e0 ≤ f.qmin) (h0e : e0 ≤ q) {i : Int} {k : Nat} (hi : i.natAbs < 2 ^ f.p) (hk : (k : Int) ≤ -f.qmin)
    (h : signed s (inUnits c q e0) * 2 ^ k = i * 2 ^ (-f.qmin).toNat * 2 ^ (f.qmin - e0).toNat) : Dyf f i k (round f (.fin s c q)) := by
  obtain ⟨s', c', q', hV, hv⟩ := vex hf hi hk hq
  have hn : Datum.fin s' c' q' ≠ .nan := nofun
  have he : zval f (.fin s' c' q') * ((2 ^ (f.qmin - e0).toNat : Nat) : Int) = signed s (inUnits c q e0) := by
    refine Int.eq_of_mul_eq_mul_right (Int.ne_of_gt (pw_pos k)) ?_
    rw [h, ← hv, pw_cast]; ac_rfl
  have hz : zval f (round f (.fin s c q)) = zval f (.fin s' c' q') :=
    Int.le_antisymm (zval_round_le hf hV hn h0 h0e (Int.le_of_eq he.symm)) (zval_round_ge hf hV hn h0 h0e (Int.le_of_eq he))
  exact ⟨dyf_of_zval hf hV hz, by rw [hz]; exact hv⟩
theorem Dyf.fit {f : Fmt} {i : Int} {k : Nat} {d : Datum} (h : Dyf f i k d) : ∃ s c q, d = .fin s c q := h.1
theorem Dyf.up {f : Fmt} {i : Int} {k : Nat} {d : Datum} (h : Dyf f i k d) (l : Nat) : Dyf f (i * 2 ^ l) (k + l) d :=
  ⟨h.1, by rw [Int.pow_add, ← Int.mul_assoc, h.2]; ac_rfl⟩
theorem Dyf.to {f : Fmt} {i j : Int} {k l : Nat} {d : Datum} (h : Dyf f i k d) (e : i * 2 ^ l = j * 2 ^ k) : Dyf f j l d := by
  refine ⟨h.1, Int.eq_of_mul_eq_mul_right (Int.ne_of_gt (pw_pos k)) ?_⟩
  calc zval f d * 2 ^ l * 2 ^ k = (zval f d * 2 ^ k) * 2 ^ l := by ac_rfl
    _ = (i * 2 ^ l) * 2 ^ (-f.qmin).toNat := by rw [h.2]; ac_rfl
    _ = j * 2 ^ (-f.qmin).toNat * 2 ^ k := by rw [e]; ac_rfl
theorem Dyf.sum {f : Fmt} (hf : Good f) (hq : 0 ≤ f.qmax) {i j : Int} {k : Nat} {x y : Datum} (fx : FP.Core.fits f x) (fy : FP.Core.fits f y) (hx : Dyf f i k x) (hy : Dyf f j k y) (hi : (i + j).natAbs < 2 ^ f.p) (hk : (k : Int) ≤ -f.qmin) :
    Dyf f (i + j) k (round f (exactSum x y)) := by
  obtain ⟨⟨s, c, q, rfl⟩, hx⟩ := hx
  obtain ⟨⟨t, d, r, rfl⟩, hy⟩ := hy
  obtain ⟨sg, n, e, he, hle, hu⟩ := sum_units fx fy
  rw [he]
  refine rnd hf hq (Int.le_refl _) hle hi hk ?_
  rw [hu, Int.add_mul, hx, hy, Int.add_mul, Int.sub_self]
  simp
theorem Dyf.neg {f : Fmt} {i : Int} {k : Nat} {x : Datum} (hx : Dyf f i k x) : Dyf f (-i) k (negate x) := by
  obtain ⟨⟨s, c, q, rfl⟩, hx⟩ := hx
  refine ⟨⟨_, _, _, rfl⟩, ?_⟩
  rw [zval_negate, Int.neg_mul, hx, Int.neg_mul]
theorem Dyf.prod {f : Fmt} (hf : Good f) (hq : 0 ≤ f.qmax) {i j : Int} {k l : Nat} {x y : Datum} (fx : FP.Core.fits f x) (fy : FP.Core.fits f y) (hx : Dyf f i k x) (hy : Dyf f j l y) (hi : (i * j).natAbs < 2 ^ f.p) (hk : ((k + l : Nat) : Int) ≤ -f.qmin) :
    Dyf f (i * j) (k + l) (round f (exactProduct x y)) := by
  obtain ⟨⟨s, c, q, rfl⟩, hx⟩ := hx
  obtain ⟨⟨t, d, r, rfl⟩, hy⟩ := hy
  obtain ⟨he, hle, hu⟩ := product_units fx fy
  rw [he]
  have hn := qmin_neg hf
  refine rnd hf hq (e0 := 2 * f.qmin) (by omega) hle hi hk ?_
  rw [hu, signed_xor, show (f.qmin - 2 * f.qmin).toNat = (-f.qmin).toNat by omega, Int.pow_add]
  calc zval f (.fin s c q) * zval f (.fin t d r) * (2 ^ k * 2 ^ l) = (zval f (.fin s c q) * 2 ^ k) * (zval f (.fin t d r) * 2 ^ l) := by ac_rfl
    _ = _ := by rw [hx, hy]; ac_rfl
theorem natAbs_pow (n : Nat) : ((2 : Int) ^ n).natAbs = 2 ^ n := by rw [Int.natAbs_pow]; rfl
theorem natAbs_zval (f : Fmt) (d : Datum) : (zval f d).natAbs = zmag f d := natAbs_signed _ _
/-- an exact quotient that the format holds is not rounded -/
theorem Dyf.quot {f : Fmt} (hf : Good f) (hq : 0 ≤ f.qmax) {i j n : Int} {k l m : Nat} {x y : Datum} (fx : FP.Core.fits f x) (fy : FP.Core.fits f y) (hx : Dyf f i k x) (hy : Dyf f j l y) (hj : j ≠ 0) (hi : n.natAbs < 2 ^ f.p) (hm : (m : Int) ≤ -f.qmin)
    (e : i * 2 ^ l * 2 ^ m = n * j * 2 ^ k) : Dyf f n m (quotient f x y) := by
  obtain ⟨⟨s, c, q, rfl⟩, hx⟩ := hx
  obtain ⟨⟨t, d, r, rfl⟩, hy⟩ := hy
  obtain ⟨s', c', q', hV, hv⟩ := vex hf hi hm hq
  have hn : Datum.fin s' c' q' ≠ .nan := nofun
  have hqm := qmin_neg hf
  have fx1 := fx.2.1
  have fy1 := fy.2.1
  -- the signed equation
  have hz : zval f (.fin s c q) * 2 ^ (-f.qmin).toNat = zval f (.fin s' c' q') * zval f (.fin t d r) := by
    refine Int.eq_of_mul_eq_mul_right (Int.ne_of_gt (Int.mul_pos (Int.mul_pos (pw_pos k) (pw_pos l)) (pw_pos m))) ?_
    calc zval f (.fin s c q) * 2 ^ (-f.qmin).toNat * (2 ^ k * 2 ^ l * 2 ^ m) = (zval f (.fin s c q) * 2 ^ k) * (2 ^ l * 2 ^ m) * 2 ^ (-f.qmin).toNat := by ac_rfl
      _ = (i * 2 ^ l * 2 ^ m) * 2 ^ (-f.qmin).toNat * 2 ^ (-f.qmin).toNat := by rw [hx]; ac_rfl
      _ = (n * 2 ^ (-f.qmin).toNat) * (j * 2 ^ (-f.qmin).toNat) * 2 ^ k := by rw [e]; ac_rfl
      _ = (zval f (.fin s' c' q') * 2 ^ m) * (zval f (.fin t d r) * 2 ^ l) * 2 ^ k := by rw [hv, hy]
      _ = _ := by ac_rfl
  have hzb : zval f (.fin t d r) ≠ 0 := by
    intro h0
    rw [h0, Int.zero_mul] at hy
    rcases Int.mul_eq_zero.mp hy.symm with h | h
    · exact hj h
    · exact absurd h (Int.ne_of_gt (pw_pos _))
  have hd : d ≠ 0 := by
    rintro rfl
    apply hzb
    show signed t (inUnits 0 r f.qmin) = 0
    unfold inUnits; rw [Nat.zero_mul, signed_zero]
  have hmag : zmag f (.fin s c q) * 2 ^ (-f.qmin).toNat = zmag f (.fin s' c' q') * zmag f (.fin t d r) := by
    have h2 := congrArg Int.natAbs hz
    rw [Int.natAbs_mul, Int.natAbs_mul, natAbs_pow, natAbs_zval, natAbs_zval, natAbs_zval] at h2
    exact h2
  have hun : inUnits c (q - r) (2 * f.qmin - r) = zmag f (.fin s' c' q') * 2 ^ (f.qmin - (2 * f.qmin - r)).toNat * d := by
    have a1 : inUnits c (q - r) (2 * f.qmin - r) = zmag f (.fin s c q) * 2 ^ (-f.qmin).toNat := by
      show c * 2 ^ _ = c * 2 ^ _ * 2 ^ _
      rw [Nat.mul_assoc, ← Nat.pow_add, show (q - r - (2 * f.qmin - r)).toNat = (q - f.qmin).toNat + (-f.qmin).toNat by omega]
    rw [a1, hmag, show (f.qmin - (2 * f.qmin - r)).toNat = (r - f.qmin).toNat by omega]
    show _ * (d * 2 ^ _) = _
    ac_rfl
  have hqt : quotient f (.fin s c q) (.fin t d r) = roundRatio f (s != t) c d (q - r) := by
    show (if d = 0 then _ else _) = _
    rw [if_neg hd]
  have hm2 : zmag f (roundRatio f (s != t) c d (q - r)) = zmag f (.fin s' c' q') :=
    Nat.le_antisymm (zmag_roundRatio_le hf (e0 := 2 * f.qmin - r) (Nat.pos_of_ne_zero hd) hV hn (by omega) (by omega) (Nat.le_of_eq hun))
      (zmag_roundRatio_ge hf (e0 := 2 * f.qmin - r) (Nat.pos_of_ne_zero hd) hV (by omega) (by omega) (Nat.le_of_eq hun.symm))
  have hsg : signed (s != t) (zmag f (.fin s' c' q')) = zval f (.fin s' c' q') := by
    have p0 : zmag f (.fin s c q) = inUnits c q f.qmin := rfl
    have hS : zval f (.fin s c q) * 2 ^ (-f.qmin).toNat * zval f (.fin t d r) = zval f (.fin s' c' q') * (zval f (.fin t d r) * zval f (.fin t d r)) := by rw [hz]; ac_rfl
    by_cases h0 : zmag f (.fin s' c' q') = 0
    · unfold zval; rw [h0, signed_zero, signed_zero]
    · have hbb : 0 < zval f (.fin t d r) * zval f (.fin t d r) := by
        rcases Int.lt_or_gt_of_ne hzb with h | h
        · exact Int.mul_pos_of_neg_of_neg h h
        · exact Int.mul_pos h h
      have hst : zval f (.fin s c q) * zval f (.fin t d r) = signed (s != t) (zmag f (.fin s c q) * zmag f (.fin t d r)) := by
        rw [signed_xor]; rfl
      have e1 : zval f (.fin s' c' q') * (zval f (.fin t d r) * zval f (.fin t d r)) = signed (s != t) (zmag f (.fin s c q) * zmag f (.fin t d r)) * 2 ^ (-f.qmin).toNat := by
        rw [← hS, ← hst]; ac_rfl
      have e2 : signed (s != t) (zmag f (.fin s c q) * zmag f (.fin t d r)) * 2 ^ (-f.qmin).toNat = signed (s != t) (zmag f (.fin s' c' q')) * (zval f (.fin t d r) * zval f (.fin t d r)) := by
        rw [← signed_mulI, show zmag f (.fin s c q) * zmag f (.fin t d r) * 2 ^ (-f.qmin).toNat = zmag f (.fin s' c' q') * (zmag f (.fin t d r) * zmag f (.fin t d r)) by rw [Nat.mul_right_comm, hmag]; ac_rfl, signed_mul]
        congr 1
        unfold zval
        rw [Int.natCast_mul]
        cases (sgn (.fin t d r)) <;> simp [signed, Int.neg_mul_neg]
      exact Int.eq_of_mul_eq_mul_right (Int.ne_of_gt hbb) (e2.symm.trans e1.symm)
  have hzz : zval f (roundRatio f (s != t) c d (q - r)) = zval f (.fin s' c' q') := by
    rw [← hsg]
    show signed (sgn (roundRatio f (s != t) c d (q - r))) (zmag f (roundRatio f (s != t) c d (q - r))) = _
    rw [sgn_roundRatio, hm2]
  rw [hqt]
  exact ⟨dyf_of_zval hf hV hzz, by rw [hzz]; exact hv⟩
theorem Dyf.ofInt {f : Fmt} (hf : Good f) (hq : 0 ≤ f.qmax) {i : Int} (hi : i.natAbs < 2 ^ f.p) : Dyf f i 0 (round f (FP.Core.ofInt i)) := by
  have hn := qmin_neg hf
  refine rnd hf hq (Int.le_refl _) (by omega) hi (by omega) ?_
  unfold inUnits
  rw [signed_mulI, signed_abs, Int.sub_self]
  simp
theorem Dyf.order {f : Fmt} (hf : Good f) {i j : Int} {k : Nat} {x y : Datum} (fx : FP.Core.fits f x) (fy : FP.Core.fits f y) (hx : Dyf f i k x) (hy : Dyf f j k y) : order x y = some (compare i j) := by
  obtain ⟨⟨s, c, q, rfl⟩, hx⟩ := hx
  obtain ⟨⟨t, d, r, rfl⟩, hy⟩ := hy
  rw [order_zval hf fx fy nofun nofun, ← compare_mul_pos _ _ _ (pw_pos k), hx, hy, compare_mul_pos _ _ _ (pw_pos _)]
/-! doubles -/
def Dy (i : Int) (k : Nat) (a : UInt64) : Prop := Dyf b64 i k (val64 a)
theorem qm64 : (0 : Int) ≤ b64.qmax := by decide
theorem Dy.fin {i : Int} {k : Nat} {a : UInt64} (h : Dy i k a) : DFin a := h.1
theorem Dy.nn {i : Int} {k : Nat} {a : UInt64} (h : Dy i k a) : Jvm.Free.Fl.NoNaN64 a := (Jvm.Free.Fl.fin64_core.mpr h.1).noNaN
theorem Dy.to {i j : Int} {k l : Nat} {a : UInt64} (h : Dy i k a) (e : i * 2 ^ l = j * 2 ^ k) : Dy j l a := Dyf.to h e
theorem Dy.up {i : Int} {k : Nat} {a : UInt64} (h : Dy i k a) (l : Nat) : Dy (i * 2 ^ l) (k + l) a := Dyf.up h l
theorem Dy.add {i j : Int} {k : Nat} {a b : UInt64} (ha : Dy i k a) (hb : Dy j k b) (hi : (i + j).natAbs < 9007199254740992) (hk : k ≤ 1074) : Dy (i + j) k (FP.dadd a b) := by
  show Dyf b64 _ _ (val64 (dadd a b))
  rw [val64_dadd]
  exact Dyf.sum good_b64 qm64 (val64_fits a) (val64_fits b) ha hb hi (by rw [qmin_b64]; omega)
theorem Dy.sub {i j : Int} {k : Nat} {a b : UInt64} (ha : Dy i k a) (hb : Dy j k b) (hi : (i - j).natAbs < 9007199254740992) (hk : k ≤ 1074) : Dy (i - j) k (FP.dsub a b) := by
  show Dyf b64 _ _ (val64 (dsub a b))
  rw [val64_dsub]
  exact Dyf.sum good_b64 qm64 (val64_fits a) (negate_fits (val64_fits b)) ha hb.neg hi (by rw [qmin_b64]; omega)
theorem Dy.mul {i j : Int} {k l : Nat} {a b : UInt64} (ha : Dy i k a) (hb : Dy j l b) (hi : (i * j).natAbs < 9007199254740992) (hk : k + l ≤ 1074) : Dy (i * j) (k + l) (FP.dmul a b) := by
  show Dyf b64 _ _ (val64 (dmul a b))
  rw [val64_dmul]
  exact Dyf.prod good_b64 qm64 (val64_fits a) (val64_fits b) ha hb hi (by rw [qmin_b64]; omega)
theorem Dy.div {i j n : Int} {k l m : Nat} {a b : UInt64} (ha : Dy i k a) (hb : Dy j l b) (hj : j ≠ 0) (hi : n.natAbs < 9007199254740992) (hk : m ≤ 1074) (e : i * 2 ^ l * 2 ^ m = n * j * 2 ^ k) : Dy n m (FP.ddiv a b) := by
  show Dyf b64 _ _ (val64 (ddiv a b))
  rw [val64_ddiv]
  exact Dyf.quot good_b64 qm64 (val64_fits a) (val64_fits b) ha hb hj hi (by rw [qmin_b64]; omega) e
theorem Dy.neg {i : Int} {k : Nat} {a : UInt64} (ha : Dy i k a) : Dy (-i) k (FP.dneg a) := by
  show Dyf b64 _ _ (val64 (FP.dneg a))
  rw [Jvm.FP.val64_dneg]
  exact Dyf.neg ha
theorem Dy.i2d (x : Int32) : Dy x.toInt 0 (FP.i2d x) := by
  show Dyf b64 _ _ (val64 (FP.Core.i2d x))
  rw [val64_i2d]
  exact Dyf.ofInt good_b64 qm64 (by have := int32_abs x; show _ < 2 ^ 53; omega)
theorem Dy.l2d {x : Int64} (h : x.toInt.natAbs < 9007199254740992) : Dy x.toInt 0 (FP.l2d x) := by
  show Dyf b64 _ _ (val64 (FP.Core.l2d x))
  rw [val64_l2d]
  exact Dyf.ofInt good_b64 qm64 h
theorem Dy.cmp {i j : Int} {k : Nat} {a b : UInt64} (ha : Dy i k a) (hb : Dy j k b) : FP.dcmp a b = some (compare i j) :=
  Dyf.order good_b64 (val64_fits a) (val64_fits b) ha hb
theorem Dy.cmp_eq {i j : Int} {k : Nat} {a b : UInt64} (ha : Dy i k a) (hb : Dy j k b) (e : i = j) (o : ClassFile.CmpOp) : cmpValue (FP.dcmp a b) o = 0 := by
  rw [ha.cmp hb, e, compare_self_int]; rfl
theorem Dy.cmp_lt {i j : Int} {k : Nat} {a b : UInt64} (ha : Dy i k a) (hb : Dy j k b) (e : i < j) (o : ClassFile.CmpOp) : cmpValue (FP.dcmp a b) o = -1 := by
  rw [ha.cmp hb, show compare i j = .lt by rw [compare_ite, if_pos e]]; rfl
theorem Dy.cmp_gt {i j : Int} {k : Nat} {a b : UInt64} (ha : Dy i k a) (hb : Dy j k b) (e : j < i) (o : ClassFile.CmpOp) : cmpValue (FP.dcmp a b) o = 1 := by
  rw [ha.cmp hb, show compare i j = .gt by rw [compare_ite, if_neg (by omega), if_neg (by omega)]]; rfl
theorem dy_of {i : Int} {k : Nat} {a : UInt64} {s : Bool} {c : Nat} {q : Int} (h : val64 a = .fin s c q) (e : zval b64 (.fin s c q) * 2 ^ k = i * 2 ^ 1074) : Dy i k a :=
  ⟨⟨s, c, q, h⟩, by rw [h, e]; rfl⟩
theorem dy0 (k : Nat) : Dy 0 k (0 : UInt64) := dy_of (s := false) (c := 0) (q := -1074) (by decide +kernel) (by
  rw [show zval b64 (.fin false 0 (-1074)) = 0 from rfl, Int.zero_mul, Int.zero_mul])
theorem dy1 (k : Nat) : Dy (2 ^ k) k (4607182418800017408 : UInt64) := dy_of (s := false) (c := 2 ^ 52) (q := -52) (by decide +kernel) (by
  rw [show zval b64 (.fin false (2 ^ 52) (-52)) = 2 ^ 1074 by decide +kernel, Int.mul_comm])
theorem Dy.ge {i j : Int} {k : Nat} {a b : UInt64} (ha : Dy i k a) (hb : Dy j k b) (e : j ≤ i) (o : ClassFile.CmpOp) : ¬ (cmpValue (FP.dcmp a b) o < (0 : Int32)) := by
  rcases Int.lt_or_eq_of_le e with h | h
  · rw [ha.cmp_gt hb h]; decide
  · rw [ha.cmp_eq hb h.symm]; decide
theorem Dy.le {i j : Int} {k : Nat} {a b : UInt64} (ha : Dy i k a) (hb : Dy j k b) (e : i ≤ j) (o : ClassFile.CmpOp) : ¬ ((0 : Int32) < cmpValue (FP.dcmp a b) o) := by
  rcases Int.lt_or_eq_of_le e with h | h
  · rw [ha.cmp_lt hb h]; decide
  · rw [ha.cmp_eq hb h]; decide
theorem Dy.lt_inf {i : Int} {k : Nat} {a : UInt64} (ha : Dy i k a) (o : ClassFile.CmpOp) : cmpValue (FP.dcmp a (9218868437227405312 : UInt64)) o < (0 : Int32) := by
  rw [Jvm.RoadKit.dcmp_pinf (Jvm.Free.Fl.fin64_core.mpr ha.1)]; decide
theorem isfin {a : UInt64} (h : DFin a) : ¬ ((0 : Int32) < cmpValue (FP.dcmp (a &&& 0x7fffffffffffffff) (9218868437227405311 : UInt64)) .g) := by
  have hn : dIsNaN a = false := (notNaN_iff a).mpr (by obtain ⟨s, c, q, e⟩ := h; rw [e]; exact nofun)
  rcases (le_max hn).mpr h with e | e <;> rw [show FP.dcmp (a &&& 0x7fffffffffffffff) (9218868437227405311 : UInt64) = _ from e] <;> decide
theorem since0 (s : State) : s.Since s.vm 0 := ⟨State.Warmed39.refl s, fun j p h1 h2 => by
  rw [Array.getElem?_eq_none h1] at h2; cases h2⟩
theorem i2d_nz {v : Int32} (h : v ≠ 0) : ¬ DZero (FP.i2d v) := fun q => i2d_ne_zero h ((zero_bits2 _).mp q)
theorem nn_of {x : UInt64} (h : dIsNaN x = false) : Jvm.Free.Fl.NoNaN64 x := Jvm.Free.Fl.noNaN64_no.mpr h
theorem no_of {x : UInt64} (h : Jvm.Free.Fl.NoNaN64 x) : dIsNaN x = false := Jvm.Free.Fl.noNaN64_no.mp h
theorem no_fin {x : UInt64} (h : DFin x) : dIsNaN x = false := (notNaN_iff x).mpr (by obtain ⟨s, c, q, e⟩ := h; rw [e]; exact nofun)
theorem nn_div {a : UInt64} {v : Int32} (ha : dIsNaN a = false) (h : v ≠ 0) : Jvm.Free.Fl.NoNaN64 (FP.ddiv a (FP.i2d v)) := nn_of (ddiv_out ha (i2d_fin v) (i2d_nz h))
theorem fin_div (a : Int32) {v : Int32} (h : v ≠ 0) : DFin (FP.ddiv (FP.i2d a) (FP.i2d v)) := by
  have h1 := i2d_mag a
  have h2 := i2d_big (v := v) (fun q => h (Int32.toInt_inj.mp q))
  exact fin_of_lt (ddiv_mag h1 h2.1 h2.2 (by decide) (by decide)) (by decide)
end Jvm.OwnFp
namespace Jvm.OwnFp
open Jvm.FP.Core Op
/-! own: rounding to float of a dyadic number -/
def Fy (i : Int) (k : Nat) (a : UInt32) : Prop := Dyf b32 i k (val32 a)
theorem qm32 : (0 : Int) ≤ b32.qmax := by decide
theorem Fy.fin {i : Int} {k : Nat} {a : UInt32} (h : Fy i k a) : FFin a := h.1
theorem Fy.nn {i : Int} {k : Nat} {a : UInt32} (h : Fy i k a) : Jvm.Free.Fl.NoNaN32 a := (Jvm.Free.Fl.fin32_core.mpr h.1).noNaN
theorem Fy.cmp {i j : Int} {k : Nat} {a b : UInt32} (ha : Fy i k a) (hb : Fy j k b) : FP.fcmp a b = some (compare i j) :=
  Dyf.order good_b32 (val32_fits a) (val32_fits b) ha hb
theorem Fy.to {i j : Int} {k l : Nat} {a : UInt32} (h : Fy i k a) (e : i * 2 ^ l = j * 2 ^ k) : Fy j l a := Dyf.to h e
theorem Fy.cmp_eq {i j : Int} {k : Nat} {a b : UInt32} (ha : Fy i k a) (hb : Fy j k b) (e : i = j) (o : ClassFile.CmpOp) : cmpValue (FP.fcmp a b) o = 0 := by
  rw [ha.cmp hb, e, compare_self_int]; rfl
theorem Fy.cmp_lt {i j : Int} {k : Nat} {a b : UInt32} (ha : Fy i k a) (hb : Fy j k b) (e : i < j) (o : ClassFile.CmpOp) : cmpValue (FP.fcmp a b) o = -1 := by
  rw [ha.cmp hb, show compare i j = .lt by rw [compare_ite, if_pos e]]; rfl
theorem Fy.cmp_gt {i j : Int} {k : Nat} {a b : UInt32} (ha : Fy i k a) (hb : Fy j k b) (e : j < i) (o : ClassFile.CmpOp) : cmpValue (FP.fcmp a b) o = 1 := by
  rw [ha.cmp hb, show compare i j = .gt by rw [compare_ite, if_neg (by omega), if_neg (by omega)]]; rfl
/-- a magnitude of 24 + sh digits, in units of 2^t -/
theorem rr32 {s : Bool} {M sh : Nat} {t : Int} (h1 : 2 ^ (23 + sh) ≤ M) (h2 : M < 2 ^ (24 + sh)) (ht : -149 ≤ (sh : Int) + t) :
    roundRatio b32 s M 1 t = settle b32 s (nearest M (2 ^ sh)) ((sh : Int) + t) := by
  have hM : 0 < M := Nat.lt_of_lt_of_le (Nat.two_pow_pos _) h1
  have hq : quantum b32 M 1 t = (sh : Int) + t := by
    refine quantum_eq hM (by decide) ht ?_ (Or.inr ?_)
    · show M * 2 ^ (-((sh : Int) + t - t + (24 : Nat))).toNat < 1 * 2 ^ ((sh : Int) + t - t + (24 : Nat)).toNat
      rw [show (-((sh : Int) + t - t + (24 : Nat))).toNat = 0 by omega, show ((sh : Int) + t - t + (24 : Nat)).toNat = 24 + sh by omega]
      omega
    · show ¬ (M * 2 ^ (-((sh : Int) + t - t + (((24 : Nat) : Int) - 1))).toNat < 1 * 2 ^ ((sh : Int) + t - t + (((24 : Nat) : Int) - 1)).toNat)
      rw [show (-((sh : Int) + t - t + (((24 : Nat) : Int) - 1))).toNat = 0 by omega, show ((sh : Int) + t - t + (((24 : Nat) : Int) - 1)).toNat = 23 + sh by omega]
      omega
  unfold roundRatio
  rw [if_neg (by omega), hq]
  unfold roundAt unitsNum unitsDen
  rw [show (t - ((sh : Int) + t)).toNat = 0 by omega, show ((sh : Int) + t - t).toNat = sh by omega, Nat.pow_zero, Nat.mul_one, Nat.one_mul]
theorem nearest_range {M sh : Nat} (h1 : 2 ^ (23 + sh) ≤ M) (h2 : M < 2 ^ (24 + sh)) : 2 ^ 23 ≤ nearest M (2 ^ sh) ∧ nearest M (2 ^ sh) ≤ 2 ^ 24 :=
  ⟨nearest_ge (Nat.two_pow_pos _) (by rw [← Nat.pow_add]; exact h1), nearest_le (Nat.two_pow_pos _) (by rw [← Nat.pow_add]; exact Nat.le_of_lt h2)⟩
theorem settle32 {s : Bool} {c : Nat} {q : Int} (h2 : c ≤ 2 ^ 24) (hq1 : -149 ≤ q) (hq2 : q ≤ 103 ∨ (c < 2 ^ 24 ∧ q ≤ 104)) :
    ∃ c' q', settle b32 s c q = .fin s c' q' ∧ inUnits c' q' b32.qmin = c * 2 ^ (q + 149).toNat := by
  have hm : b32.qmax = 104 := by decide
  have hn : b32.qmin = -149 := by decide
  have ht : b32.tails = 2 ^ 23 := by decide
  unfold settle bound
  rw [hm]
  show ∃ c' q', (if c < 2 ^ 24 then _ else _) = _ ∧ _
  by_cases h : c < 2 ^ 24
  · rw [if_pos h, if_pos (by omega)]
    exact ⟨c, q, rfl, by unfold inUnits; rw [hn, show q - -149 = q + 149 by omega]⟩
  · rw [if_neg h, if_pos (by omega)]
    refine ⟨_, _, rfl, ?_⟩
    unfold inUnits
    rw [hn, ht, show (q + 1 - -149).toNat = (q + 149).toNat + 1 by omega, Nat.pow_succ, show c = 2 ^ 24 by omega]
    omega
theorem settle32_inf {s : Bool} {c : Nat} {q : Int} (hq : 104 < q ∨ (¬ c < 2 ^ 24 ∧ 103 < q)) : settle b32 s c q = .inf s := by
  have hm : b32.qmax = 104 := by decide
  unfold settle bound
  rw [hm]
  show (if c < 2 ^ 24 then _ else _) = _
  by_cases h : c < 2 ^ 24
  · rw [if_pos h, if_neg (by omega)]
  · rw [if_neg h, if_neg (by omega)]
/-- the parts of a double that is worth i / 2^k -/
theorem dy_parts {i : Int} {k : Nat} {a : UInt64} (h : Dy i k a) : ∃ s c q, val64 a = .fin s c q ∧ c * 1 * 2 ^ (q - (-(k : Int))).toNat = i.natAbs * 1 * 2 ^ (-(k : Int) - q).toNat ∧ (i ≠ 0 → s = decide (i < 0)) := by
  obtain ⟨⟨s, c, q, e⟩, hz⟩ := h
  refine ⟨s, c, q, e, ?_, ?_⟩
  · have hf := val64_fits a
    rw [e] at hf hz
    have hq := hf.2.1
    rw [qmin_b64] at hq
    have h2 := congrArg Int.natAbs hz
    rw [Int.natAbs_mul, Int.natAbs_mul, natAbs_pow, natAbs_pow, natAbs_zval, qmin_b64] at h2
    have h3 : zmag b64 (.fin s c q) = c * 2 ^ (q + 1074).toNat := by
      show c * 2 ^ (q - b64.qmin).toNat = _
      rw [qmin_b64, show q - -1074 = q + 1074 by omega]
    rw [h3, Nat.mul_assoc, ← Nat.pow_add] at h2
    rw [Nat.mul_one, Nat.mul_one]
    rcases Int.le_total 0 (q + k) with hp | hp
    · rw [show (-(k : Int) - q).toNat = 0 by omega, Nat.pow_zero, Nat.mul_one]
      refine Nat.eq_of_mul_eq_mul_right (Nat.two_pow_pos 1074) ?_
      rw [Nat.mul_assoc, ← Nat.pow_add, show (q - -(k : Int)).toNat + 1074 = (q + 1074).toNat + k by omega]
      exact h2
    · rw [show (q - -(k : Int)).toNat = 0 by omega, Nat.pow_zero, Nat.mul_one]
      refine Nat.eq_of_mul_eq_mul_right (Nat.two_pow_pos ((q + 1074).toNat + k)) ?_
      rw [h2, Nat.mul_assoc, ← Nat.pow_add, show (-(k : Int) - q).toNat + ((q + 1074).toNat + k) = 1074 by omega]
      rfl
  · intro hi
    rw [e] at hz
    have hs : zval b64 (.fin s c q) = signed s (inUnits c q b64.qmin) := rfl
    rw [hs] at hz
    have p1 := pw_pos k
    have p2 := pw_pos (-b64.qmin).toNat
    have hc : (0 : Int) ≤ (inUnits c q b64.qmin : Int) := Int.natCast_nonneg _
    cases s with
    | true =>
      have : signed true (inUnits c q b64.qmin) = -((inUnits c q b64.qmin : Nat) : Int) := rfl
      rw [this] at hz
      have : i * 2 ^ (-b64.qmin).toNat ≤ 0 := by rw [← hz]; exact Int.mul_nonpos_of_nonpos_of_nonneg (by omega) (Int.le_of_lt p1)
      have : ¬ 0 < i := fun hp => absurd (Int.mul_pos hp p2) (by omega)
      simp; omega
    | false =>
      have : signed false (inUnits c q b64.qmin) = ((inUnits c q b64.qmin : Nat) : Int) := rfl
      rw [this] at hz
      have : 0 ≤ i * 2 ^ (-b64.qmin).toNat := by rw [← hz]; exact Int.mul_nonneg hc (Int.le_of_lt p1)
      have : ¬ i < 0 := fun hp => absurd (Int.mul_neg_of_neg_of_pos hp p2) (by omega)
      simp; omega
theorem val32_d2f' {a : UInt64} (h : DFin a) : val32 (FP.d2f a) = round b32 (val64 a) := by
  have hn : FP.dIsNaN a = false := (notNaN_iff a).mpr (by obtain ⟨s, c, q, e⟩ := h; rw [e]; exact nofun)
  rw [FP.d2f_core hn, val32_d2f]
/-- small: no rounding -/
theorem d2f_small' {i : Int} {k : Nat} {a : UInt64} (h : Dy i k a) (hi : i.natAbs < 2 ^ 24) (hk : k ≤ 149) : Fy i k (FP.d2f a) := by
  show Dyf b32 i k (val32 (FP.d2f a))
  rw [val32_d2f' h.1]
  obtain ⟨⟨s, c, q, e⟩, hz⟩ := h
  have hf := val64_fits a
  rw [e] at hz hf ⊢
  have hq : b64.qmin ≤ q := hf.2.1
  have n1 : b32.qmin = -149 := by decide
  refine rnd good_b32 qm32 (e0 := b64.qmin) (by decide) hq hi (by rw [n1]; omega) ?_
  have : signed s (inUnits c q b64.qmin) * 2 ^ k = i * 2 ^ (-b64.qmin).toNat := hz
  rw [this, Int.mul_assoc, ← Int.pow_add]
  rfl
/-- the float of a double that is worth i / 2^k, |i| of 24 + sh digits -/
theorem d2f_round {i : Int} {k sh : Nat} {a : UInt64} (h : Dy i k a) (h1 : 2 ^ (23 + sh) ≤ i.natAbs) (h2 : i.natAbs < 2 ^ (24 + sh)) (hk : k ≤ 100) (hs : sh ≤ 100) :
    Fy (signed (decide (i < 0)) (nearest i.natAbs (2 ^ sh) * 2 ^ sh)) k (FP.d2f a) := by
  show Dyf b32 _ k (val32 (FP.d2f a))
  rw [val32_d2f' h.1]
  obtain ⟨s, c, q, e, hv, hsg⟩ := dy_parts h
  have hi : i ≠ 0 := by rintro rfl; have := Nat.two_pow_pos (23 + sh); rw [Int.natAbs_zero] at h1; omega
  have hs' := hsg hi
  subst hs'
  rw [e]
  show Dyf b32 _ k (roundRatio b32 _ c 1 q)
  rw [roundRatio_congr (by decide) (by decide) hv, rr32 h1 h2 (by omega)]
  obtain ⟨c', q', e', hu⟩ := settle32 (s := decide (i < 0)) (c := nearest i.natAbs (2 ^ sh)) (q := (sh : Int) + -(k : Int)) (nearest_range h1 h2).2 (by omega) (Or.inl (by omega))
  rw [e']
  refine ⟨⟨_, _, _, rfl⟩, ?_⟩
  show signed _ (inUnits c' q' b32.qmin) * 2 ^ k = _
  rw [hu, signed_mulI, signed_mulI, Int.mul_assoc, ← Int.pow_add, Int.mul_assoc, ← Int.pow_add, show ((sh : Int) + -(k : Int) + 149).toNat + k = sh + (-b32.qmin).toNat by rw [show b32.qmin = -149 by decide]; omega]
  rfl
end Jvm.OwnFp
namespace Jvm.OwnFp
open Jvm.FP.Core Op
/-! own: values i * 2^t, t any exponent of the format -/
def Exf (f : Fmt) (i t : Int) (d : Datum) : Prop := (∃ s c q, d = .fin s c q) ∧ zval f d = i * 2 ^ (t - f.qmin).toNat
theorem vexE {f : Fmt} (hf : Good f) {i t : Int} (hi : i.natAbs < 2 ^ f.p) (h1 : f.qmin ≤ t) (h2 : t ≤ f.qmax) :
    ∃ s c q, FP.Core.fits f (.fin s c q) ∧ zval f (.fin s c q) = i * 2 ^ (t - f.qmin).toNat := by
  obtain ⟨c', q', h, hu⟩ := round_exact hf (decide (i < 0)) (c := i.natAbs) (q := t) hi h1 h2
  refine ⟨_, c', q', h ▸ round_fits hf _, ?_⟩
  show signed (decide (i < 0)) (inUnits c' q' f.qmin) = _
  rw [hu]
  unfold inUnits
  rw [signed_mulI, signed_abs]
theorem rndE {f : Fmt} (hf : Good f) {s : Bool} {c : Nat} {q e0 : Int} (h0 : e0 ≤ f.qmin) (h0e : e0 ≤ q) {i t : Int} (hi : i.natAbs < 2 ^ f.p) (h1 : f.qmin ≤ t) (h2 : t ≤ f.qmax)
    (h : signed s (inUnits c q e0) = i * 2 ^ (t - e0).toNat) : Exf f i t (round f (.fin s c q)) := by
  obtain ⟨s', c', q', hV, hv⟩ := vexE hf hi h1 h2
  have hn : Datum.fin s' c' q' ≠ .nan := nofun
  have he : zval f (.fin s' c' q') * ((2 ^ (f.qmin - e0).toNat : Nat) : Int) = signed s (inUnits c q e0) := by
    rw [h, hv, pw_cast, Int.mul_assoc, ← Int.pow_add, show (t - f.qmin).toNat + (f.qmin - e0).toNat = (t - e0).toNat by omega]
  have hz : zval f (round f (.fin s c q)) = zval f (.fin s' c' q') :=
    Int.le_antisymm (zval_round_le hf hV hn h0 h0e (Int.le_of_eq he.symm)) (zval_round_ge hf hV hn h0 h0e (Int.le_of_eq he))
  exact ⟨dyf_of_zval hf hV hz, by rw [hz]; exact hv⟩
theorem Exf.prod {f : Fmt} (hf : Good f) {i j t u : Int} {x y : Datum} (fx : FP.Core.fits f x) (fy : FP.Core.fits f y) (hx : Exf f i t x) (hy : Exf f j u y) (ht : f.qmin ≤ t) (hu : f.qmin ≤ u) (hi : (i * j).natAbs < 2 ^ f.p) (h1 : f.qmin ≤ t + u) (h2 : t + u ≤ f.qmax) :
    Exf f (i * j) (t + u) (round f (exactProduct x y)) := by
  obtain ⟨⟨s, c, q, rfl⟩, hx⟩ := hx
  obtain ⟨⟨s', d, r, rfl⟩, hy⟩ := hy
  obtain ⟨he, hle, hun⟩ := product_units fx fy
  rw [he]
  have hn := qmin_neg hf
  refine rndE hf (e0 := 2 * f.qmin) (by omega) hle hi h1 h2 ?_
  rw [hun, signed_xor]
  have e1 : signed s (zmag f (.fin s c q)) = i * 2 ^ (t - f.qmin).toNat := hx
  have e2 : signed s' (zmag f (.fin s' d r)) = j * 2 ^ (u - f.qmin).toNat := hy
  rw [e1, e2, show (t + u - 2 * f.qmin).toNat = (t - f.qmin).toNat + (u - f.qmin).toNat by omega, Int.pow_add]
  ac_rfl
def Ex (i t : Int) (a : UInt64) : Prop := Exf b64 i t (val64 a)
def Fx (i t : Int) (a : UInt32) : Prop := Exf b32 i t (val32 a)
theorem Ex.fin {i t : Int} {a : UInt64} (h : Ex i t a) : DFin a := h.1
theorem Ex.nn {i t : Int} {a : UInt64} (h : Ex i t a) : Jvm.Free.Fl.NoNaN64 a := (Jvm.Free.Fl.fin64_core.mpr h.1).noNaN
theorem Fx.nn {i t : Int} {a : UInt32} (h : Fx i t a) : Jvm.Free.Fl.NoNaN32 a := (Jvm.Free.Fl.fin32_core.mpr h.1).noNaN
theorem Ex.mul {i j t u : Int} {a b : UInt64} (ha : Ex i t a) (hb : Ex j u b) (ht : -1074 ≤ t) (hu : -1074 ≤ u) (hi : (i * j).natAbs < 9007199254740992) (h1 : -1074 ≤ t + u) (h2 : t + u ≤ 971) : Ex (i * j) (t + u) (FP.dmul a b) := by
  show Exf b64 _ _ (val64 (dmul a b))
  rw [val64_dmul]
  exact Exf.prod good_b64 (val64_fits a) (val64_fits b) ha hb (by rw [qmin_b64]; exact ht) (by rw [qmin_b64]; exact hu) hi (by rw [qmin_b64]; exact h1) (by rw [show b64.qmax = 971 by decide]; exact h2)
theorem Dy.ex {i : Int} {a : UInt64} (h : Dy i 0 a) : Ex i 0 a := ⟨h.1, by have := h.2; rw [Int.pow_zero, Int.mul_one] at this; rw [this, show (0 - b64.qmin).toNat = (-b64.qmin).toNat by omega]⟩
theorem Ex.cmp_eq {i t : Int} {a b : UInt64} (ha : Ex i t a) (hb : Ex i t b) (o : ClassFile.CmpOp) : cmpValue (FP.dcmp a b) o = 0 := by
  have na : val64 a ≠ .nan := by obtain ⟨⟨s, c, q, e⟩, -⟩ := ha; rw [e]; exact nofun
  have nb : val64 b ≠ .nan := by obtain ⟨⟨s, c, q, e⟩, -⟩ := hb; rw [e]; exact nofun
  rw [show FP.dcmp a b = _ from dcmp_zval na nb, ha.2, hb.2, compare_self_int]; rfl
theorem ex_of {i t : Int} {a : UInt64} {s : Bool} {c : Nat} {q : Int} (h : val64 a = .fin s c q) (e : zval b64 (.fin s c q) = i * 2 ^ (t - b64.qmin).toNat) : Ex i t a :=
  ⟨⟨s, c, q, h⟩, by rw [h]; exact e⟩
/-- the parts of a double that is worth i * 2^t -/
theorem ex_parts {i t : Int} {a : UInt64} (h : Ex i t a) (ht : -1074 ≤ t) : ∃ s c q, val64 a = .fin s c q ∧ -1074 ≤ q ∧ c * 1 * 2 ^ (q - t).toNat = i.natAbs * 1 * 2 ^ (t - q).toNat ∧ (i ≠ 0 → s = decide (i < 0)) ∧ signed s (inUnits c q b64.qmin) = i * 2 ^ (t - b64.qmin).toNat := by
  obtain ⟨⟨s, c, q, e⟩, hz⟩ := h
  have hf := val64_fits a
  rw [e] at hf hz
  have hq := hf.2.1
  rw [qmin_b64] at hq
  have hz' : signed s (inUnits c q b64.qmin) = i * 2 ^ (t - b64.qmin).toNat := hz
  refine ⟨s, c, q, e, hq, ?_, ?_, hz'⟩
  · have h2 := congrArg Int.natAbs hz'
    rw [natAbs_signed, Int.natAbs_mul, natAbs_pow, qmin_b64] at h2
    have h3 : inUnits c q (-1074) = c * 2 ^ (q + 1074).toNat := by unfold inUnits; rw [show q - -1074 = q + 1074 by omega]
    rw [h3, show t - -1074 = t + 1074 by omega] at h2
    rw [Nat.mul_one, Nat.mul_one]
    rcases Int.le_total t q with hp | hp
    · rw [show (t - q).toNat = 0 by omega, Nat.pow_zero, Nat.mul_one]
      refine Nat.eq_of_mul_eq_mul_right (Nat.two_pow_pos (t + 1074).toNat) ?_
      rw [Nat.mul_assoc, ← Nat.pow_add, show (q - t).toNat + (t + 1074).toNat = (q + 1074).toNat by omega]
      exact h2
    · rw [show (q - t).toNat = 0 by omega, Nat.pow_zero, Nat.mul_one]
      refine Nat.eq_of_mul_eq_mul_right (Nat.two_pow_pos (q + 1074).toNat) ?_
      rw [h2, Nat.mul_assoc, ← Nat.pow_add, show (t - q).toNat + (q + 1074).toNat = (t + 1074).toNat by omega]
  · intro hi
    have p2 := pw_pos (t - b64.qmin).toNat
    have hc : (0 : Int) ≤ (inUnits c q b64.qmin : Int) := Int.natCast_nonneg _
    cases s with
    | true =>
      have : signed true (inUnits c q b64.qmin) = -((inUnits c q b64.qmin : Nat) : Int) := rfl
      rw [this] at hz'
      have : ¬ 0 < i := fun hp => absurd (Int.mul_pos hp p2) (by omega)
      simp; omega
    | false =>
      have : signed false (inUnits c q b64.qmin) = ((inUnits c q b64.qmin : Nat) : Int) := rfl
      rw [this] at hz'
      have : ¬ i < 0 := fun hp => absurd (Int.mul_neg_of_neg_of_pos hp p2) (by omega)
      simp; omega
theorem d2f_small_ex {i t : Int} {a : UInt64} (h : Ex i t a) (hi : i.natAbs < 2 ^ 24) (h1 : -149 ≤ t) (h2 : t ≤ 104) : Fx i t (FP.d2f a) := by
  show Exf b32 i t (val32 (FP.d2f a))
  rw [val32_d2f' h.1]
  obtain ⟨s, c, q, e, hq, -, -, hz⟩ := ex_parts h (by omega)
  rw [e]
  exact rndE good_b32 (e0 := b64.qmin) (by decide) (by rw [qmin_b64]; exact hq) hi (by rw [show b32.qmin = -149 by decide]; exact h1) (by rw [show b32.qmax = 104 by decide]; exact h2) hz
theorem d2f_settle {i t : Int} {sh : Nat} {a : UInt64} (h : Ex i t a) (h1 : 2 ^ (23 + sh) ≤ i.natAbs) (h2 : i.natAbs < 2 ^ (24 + sh)) (ht : -149 ≤ t) :
    val32 (FP.d2f a) = settle b32 (decide (i < 0)) (nearest i.natAbs (2 ^ sh)) ((sh : Int) + t) := by
  rw [val32_d2f' h.1]
  obtain ⟨s, c, q, e, hq, hv, hsg, -⟩ := ex_parts h (by omega)
  have hi : i ≠ 0 := by rintro rfl; have := Nat.two_pow_pos (23 + sh); rw [Int.natAbs_zero] at h1; omega
  have hs' := hsg hi
  subst hs'
  rw [e]
  show roundRatio b32 _ c 1 q = _
  rw [roundRatio_congr (by decide) (by decide) hv, rr32 h1 h2 (by omega)]
theorem d2f_big_ex {i t : Int} {sh : Nat} {a : UInt64} (h : Ex i t a) (h1 : 2 ^ (23 + sh) ≤ i.natAbs) (h2 : i.natAbs < 2 ^ (24 + sh)) (ht : -149 ≤ t)
    (hq : (sh : Int) + t ≤ 103 ∨ (nearest i.natAbs (2 ^ sh) < 2 ^ 24 ∧ (sh : Int) + t ≤ 104)) : Fx (signed (decide (i < 0)) (nearest i.natAbs (2 ^ sh) * 2 ^ sh)) t (FP.d2f a) := by
  show Exf b32 _ t (val32 (FP.d2f a))
  rw [d2f_settle h h1 h2 ht]
  obtain ⟨c', q', e', hu⟩ := settle32 (s := decide (i < 0)) (c := nearest i.natAbs (2 ^ sh)) (q := (sh : Int) + t) (nearest_range h1 h2).2 (by omega) hq
  rw [e']
  refine ⟨⟨_, _, _, rfl⟩, ?_⟩
  show signed _ (inUnits c' q' b32.qmin) = _
  rw [hu, signed_mulI, signed_mulI, Int.mul_assoc, ← Int.pow_add, show b32.qmin = -149 by decide, show ((sh : Int) + t + 149).toNat = sh + (t - -149).toNat by omega]
  rfl
theorem f2d_ex {i t : Int} {a : UInt32} (h : Fx i t a) (hi : i.natAbs < 9007199254740992) (ht : -149 ≤ t) (ht2 : t ≤ 971) : Ex i t (FP.f2d a) := by
  show Exf b64 i t (val64 (FP.f2d a))
  have hn : FP.fIsNaN a = false := (notNaN_iff32 a).mpr (by obtain ⟨s, c, q, e⟩ := h.1; rw [e]; exact nofun)
  rw [FP.f2d_core hn, val64_f2d]
  obtain ⟨⟨s, c, q, e⟩, hz⟩ := h
  have hf := val32_fits a
  rw [e] at hz hf ⊢
  have hq := hf.2.1
  rw [show b32.qmin = -149 by decide] at hq
  have hz' : signed s (inUnits c q (-149)) = i * 2 ^ (t + 149).toNat := by
    have : signed s (inUnits c q b32.qmin) = i * 2 ^ (t - b32.qmin).toNat := hz
    rw [show b32.qmin = -149 by decide, show t - -149 = t + 149 by omega] at this
    exact this
  refine rndE good_b64 (e0 := -1074) (by decide) (by omega) hi (by rw [qmin_b64]; omega) (by rw [show b64.qmax = 971 by decide]; exact ht2) ?_
  unfold inUnits at hz' ⊢
  rw [signed_mulI] at hz' ⊢
  rw [show (q - -1074).toNat = (q - -149).toNat + 925 by omega, Int.pow_add, ← Int.mul_assoc, hz', Int.mul_assoc, ← Int.pow_add, show (t + 149).toNat + 925 = (t - -1074).toNat by omega]
theorem d2f_inf {i t : Int} {sh : Nat} {a : UInt64} (h : Ex i t a) (h1 : 2 ^ (23 + sh) ≤ i.natAbs) (h2 : i.natAbs < 2 ^ (24 + sh)) (ht : -149 ≤ t)
    (hq : 104 < (sh : Int) + t ∨ (¬ nearest i.natAbs (2 ^ sh) < 2 ^ 24 ∧ 103 < (sh : Int) + t)) : val32 (FP.d2f a) = .inf (decide (i < 0)) := by
  rw [d2f_settle h h1 h2 ht, settle32_inf hq]
theorem inf32 {a : UInt32} {s : Bool} (h : val32 a = .inf s) : Jvm.Free.Fl.NoNaN32 a ∧ val64 (FP.f2d a) = .inf s := by
  have hn : FP.fIsNaN a = false := (notNaN_iff32 a).mpr (by rw [h]; exact nofun)
  exact ⟨Jvm.Free.Fl.noNaN32_no.mpr hn, by rw [FP.f2d_core hn, val64_f2d, h]; rfl⟩
theorem inf64_nn {a : UInt64} {s : Bool} (h : val64 a = .inf s) : Jvm.Free.Fl.NoNaN64 a := Jvm.Free.Fl.noNaN64_no.mpr ((notNaN_iff a).mpr (by rw [h]; exact nofun))
theorem inf64_eq {a b : UInt64} {s : Bool} (ha : val64 a = .inf s) (hb : val64 b = .inf s) (o : ClassFile.CmpOp) : cmpValue (FP.dcmp a b) o = 0 := by
  have : FP.dcmp a b = order (val64 a) (val64 b) := rfl
  rw [this, ha, hb]; cases s <;> rfl
end Jvm.OwnFp
namespace Jvm.Pilot.@@N@@
open Jvm Jvm.ClassFile Sem Op Lib Jvm.Free Jvm.Stand Jvm.LawKit Jvm.RoadKit Bundle Jvm.Pilot.@@N@@.Jvm.D
theorem own_n4 (x n : Int32) (h : n = (x &&& (3 : Int32))) : n = 0 ∨ n = 1 ∨ n = 2 ∨ n = 3 := by
  have m := c_and x 3 (by decide)
  rw [← h, show (3 : Int32).toInt = 3 by decide] at m
  have e : n = Int32.ofInt n.toInt := (Int32.ofInt_toInt n).symm
  have : n.toInt = 0 ∨ n.toInt = 1 ∨ n.toInt = 2 ∨ n.toInt = 3 := by omega
  rcases this with q | q | q | q <;> rw [q] at e <;> simp [e] <;> decide

open Jvm.OwnFp Jvm.FP.Core
theorem own_eqv {args : Array Value} {first : State} {o : Option Outcome} {s : State} {idx : List Nat} {t : Term} {v : Int32} (h : (Cond.eq t (.int v)).value args first o s idx = some true) : t.eval args first o idx s = some (.int v) := by
  simp only [Cond.value, Term.eval] at h
  cases ht : t.eval args first o idx s with
  | none => simp [ht] at h
  | some x => cases x <;> simp [ht] at h ⊢ <;> exact h
theorem own_lclt (x y : Int64) : lcmpW x y < (0 : Int32) ↔ x.toInt < y.toInt := by rw [lcW, lc_lt]; exact Int64.lt_iff_toInt_lt
theorem own_lcgt (x y : Int64) : (0 : Int32) < lcmpW x y ↔ y.toInt < x.toInt := by rw [lcW, lc_gt]; exact Int64.lt_iff_toInt_lt
theorem own_lceq (x y : Int64) : lcmpW x y = (0 : Int32) ↔ x.toInt = y.toInt := by rw [lcW, lc_eq]; exact Int64.toInt_inj.symm
theorem own_abs32 (x : Int32) : x.toInt.natAbs ≤ 2147483648 := by have := rng32 x; omega
def own_spc (q1 : Int64) : Int64 := (if (0 : Int32) < (lcmpW q1 (16777216 : Int64)) then (if (lcmpW q1 (33554432 : Int64)) < (0 : Int32) then (2 : Int64) else (if (lcmpW q1 (67108864 : Int64)) < (0 : Int32) then (4 : Int64) else (if (lcmpW q1 (134217728 : Int64)) < (0 : Int32) then (8 : Int64) else (if (lcmpW q1 (268435456 : Int64)) < (0 : Int32) then (16 : Int64) else (if (lcmpW q1 (536870912 : Int64)) < (0 : Int32) then (32 : Int64) else (if (lcmpW q1 (1073741824 : Int64)) < (0 : Int32) then (64 : Int64) else (if (lcmpW q1 (2147483648 : Int64)) < (0 : Int32) then (128 : Int64) else (256 : Int64)))))))) else (1 : Int64))
def own_nmu (q1 q2 : Int64) : Int64 := (if (0 : Int32) < (lcmpW ((2 : Int64) * (q1 - ((q1 / q2) * q2))) q2) then (((q1 / q2) * q2) + q2) else (if (lcmpW ((2 : Int64) * (q1 - ((q1 / q2) * q2))) q2) < (0 : Int32) then ((q1 / q2) * q2) else (if (lcmpW ((((q1 / q2) * q2) / q2) &&& (1 : Int64)) (0 : Int64)) = (0 : Int32) then ((q1 / q2) * q2) else (((q1 / q2) * q2) + q2))))
theorem own_absE (p : Int32) : (if lcmpW (p.toInt64) (0 : Int64) < (0 : Int32) then -(p.toInt64) else (p.toInt64)).toInt = (p.toInt.natAbs : Int) := by
  have r := rng32 p
  have e := c_i2l p
  by_cases h : lcmpW (p.toInt64) (0 : Int64) < (0 : Int32)
  · rw [if_pos h]
    have := (own_lclt _ _).mp h
    rw [show (0 : Int64).toInt = 0 by decide] at this
    have n := c_lneg (p.toInt64); have r2 := rng64 (-(p.toInt64))
    omega
  · rw [if_neg h]
    have : ¬ (p.toInt64).toInt < (0 : Int64).toInt := fun x => h ((own_lclt _ _).mpr x)
    rw [show (0 : Int64).toInt = 0 by decide] at this
    omega
theorem own_ex1 : Ex 1 0 (4607182418800017408 : UInt64) := ex_of (s := false) (c := 2 ^ 52) (q := -52) (by decide +kernel) (by decide +kernel)
theorem own_exm40 : Ex 1 (-40) (4427038433705197568 : UInt64) := ex_of (s := false) (c := 2 ^ 52) (q := -92) (by decide +kernel) (by decide +kernel)
theorem own_ex60 : Ex 1 60 (4877398396442247168 : UInt64) := ex_of (s := false) (c := 2 ^ 52) (q := 8) (by decide +kernel) (by decide +kernel)
theorem own_ex100 : Ex 1 100 (5057542381537067008 : UInt64) := ex_of (s := false) (c := 2 ^ 52) (q := 48) (by decide +kernel) (by decide +kernel)
theorem own_scale {sc : Int32} {v : UInt64} (h4 : sc = 0 ∨ sc = 1 ∨ sc = 2 ∨ sc = 3) (hv : v = (if sc = (0 : Int32) then (4607182418800017408 : UInt64) else (if sc = (1 : Int32) then (4427038433705197568 : UInt64) else (if sc = (2 : Int32) then (4877398396442247168 : UInt64) else (5057542381537067008 : UInt64))))) :
    ∃ t : Int, (t = 0 ∨ t = -40 ∨ t = 60 ∨ t = 100) ∧ (sc = (3 : Int32) ↔ t = 100) ∧ Ex 1 t v := by
  subst hv
  rcases h4 with rfl | rfl | rfl | rfl
  · exact ⟨0, by omega, by decide, own_ex1⟩
  · exact ⟨-40, by omega, by decide, own_exm40⟩
  · exact ⟨60, by omega, by decide, own_ex60⟩
  · exact ⟨100, by omega, by decide, own_ex100⟩
theorem own_x' {i t : Int} {a v : UInt64} (h : Dy i 0 a) (hv : Ex 1 t v) (hi : i.natAbs < 9007199254740992) (ht : t = 0 ∨ t = -40 ∨ t = 60 ∨ t = 100) : Ex i t (FP.dmul a v) := by
  have := Ex.mul (Dy.ex h) hv (by decide) (by omega) (by rw [Int.mul_one]; exact hi) (by omega) (by omega)
  rw [Int.mul_one, Int.zero_add] at this
  exact this
theorem own_x {p : Int32} {t : Int} {a v : UInt64} (h : Dy p.toInt 0 a) (hv : Ex 1 t v) (ht : t = 0 ∨ t = -40 ∨ t = 60 ∨ t = 100) : Ex p.toInt t (FP.dmul a v) :=
  own_x' h hv (by have := own_abs32 p; omega) ht
theorem own_near1 (M : Nat) : nearest M (2 ^ 0) = M := by
  unfold nearest
  rw [Nat.pow_zero, Nat.mod_one, if_pos (by decide), Nat.div_one]
theorem own_signed_abs (a : Int) : signed (decide (a < 0)) a.natAbs = a := signed_abs a
theorem own_real {a t : Int} {x : UInt64} (hx : Ex a t x) (hM : a.natAbs ≤ 2147483648) (ht : t = 0 ∨ t = -40 ∨ t = 60 ∨ t = 100) :
    Jvm.Free.Fl.NoNaN32 (FP.d2f x) ∧ Jvm.Free.Fl.NoNaN64 (FP.f2d (FP.d2f x)) ∧ ∀ sh : Nat, sh ≤ 8 → ((a.natAbs ≤ 2 ^ 24 ∧ sh = 0) ∨ (2 ^ (23 + sh) ≤ a.natAbs ∧ a.natAbs < 2 ^ (24 + sh))) →
      nearest a.natAbs (2 ^ sh) * 2 ^ sh ≤ 4294967296 ∧
      (t = 100 ∧ 268435456 ≤ nearest a.natAbs (2 ^ sh) * 2 ^ sh → val64 (FP.f2d (FP.d2f x)) = .inf (decide (a < 0))) ∧
      (¬ (t = 100 ∧ 268435456 ≤ nearest a.natAbs (2 ^ sh) * 2 ^ sh) → Ex (signed (decide (a < 0)) (nearest a.natAbs (2 ^ sh) * 2 ^ sh)) t (FP.f2d (FP.d2f x))) := by
  have key : ∀ sh : Nat, sh ≤ 8 → ((a.natAbs ≤ 2 ^ 24 ∧ sh = 0) ∨ (2 ^ (23 + sh) ≤ a.natAbs ∧ a.natAbs < 2 ^ (24 + sh))) → Jvm.Free.Fl.NoNaN32 (FP.d2f x) ∧ Jvm.Free.Fl.NoNaN64 (FP.f2d (FP.d2f x)) ∧
      nearest a.natAbs (2 ^ sh) * 2 ^ sh ≤ 4294967296 ∧
      (t = 100 ∧ 268435456 ≤ nearest a.natAbs (2 ^ sh) * 2 ^ sh → val64 (FP.f2d (FP.d2f x)) = .inf (decide (a < 0))) ∧
      (¬ (t = 100 ∧ 268435456 ≤ nearest a.natAbs (2 ^ sh) * 2 ^ sh) → Ex (signed (decide (a < 0)) (nearest a.natAbs (2 ^ sh) * 2 ^ sh)) t (FP.f2d (FP.d2f x))) := by
    intro sh hs h
    rcases h with ⟨h, rfl⟩ | ⟨h1, h2⟩
    · rw [own_near1, Nat.pow_zero, Nat.mul_one, own_signed_abs]
      have F : Fx a t (FP.d2f x) := by
        by_cases q : a.natAbs < 2 ^ 24
        · exact d2f_small_ex hx q (by omega) (by omega)
        · have e : a.natAbs = 2 ^ 24 := by omega
          have g := d2f_big_ex (sh := 1) hx (by rw [e]; decide) (by rw [e]; decide) (by omega) (Or.inl (by omega))
          rw [e, show nearest (2 ^ 24) (2 ^ 1) * 2 ^ 1 = 2 ^ 24 by decide, ← e, own_signed_abs] at g
          exact g
      have E := f2d_ex F (by omega) (by omega) (by omega)
      exact ⟨F.nn, E.nn, by omega, fun h => by omega, fun _ => E⟩
    · have nr := nearest_range h1 h2
      have hp : (2 : Nat) ^ sh ≤ 2 ^ 8 := Nat.pow_le_pow_right (by decide) hs
      have hQ : nearest a.natAbs (2 ^ sh) * 2 ^ sh ≤ 2 ^ 24 * 2 ^ 8 := Nat.mul_le_mul nr.2 hp
      have hQ' : nearest a.natAbs (2 ^ sh) * 2 ^ sh ≤ 4294967296 := hQ
      by_cases hfin : (sh : Int) + t ≤ 103 ∨ (nearest a.natAbs (2 ^ sh) < 2 ^ 24 ∧ (sh : Int) + t ≤ 104)
      · have F := d2f_big_ex hx h1 h2 (by omega) hfin
        have hb : (signed (decide (a < 0)) (nearest a.natAbs (2 ^ sh) * 2 ^ sh)).natAbs < 9007199254740992 := by rw [natAbs_signed]; omega
        have E := f2d_ex F hb (by omega) (by omega)
        refine ⟨F.nn, E.nn, hQ', fun h => ?_, fun _ => E⟩
        exfalso
        obtain ⟨rfl, hq⟩ := h
        rcases hfin with g | ⟨g1, g2⟩
        · have : (2 : Nat) ^ sh ≤ 2 ^ 3 := Nat.pow_le_pow_right (by decide) (by omega)
          have := Nat.mul_le_mul nr.2 this
          omega
        · have p4 : (2 : Nat) ^ sh ≤ 2 ^ 4 := Nat.pow_le_pow_right (by decide) (by omega)
          have := Nat.mul_le_mul (Nat.le_of_lt_succ (Nat.lt_succ_of_le (Nat.le_sub_one_of_lt g1))) p4
          omega
      · have hinf : 104 < (sh : Int) + t ∨ (¬ nearest a.natAbs (2 ^ sh) < 2 ^ 24 ∧ 103 < (sh : Int) + t) := by omega
        have I := d2f_inf hx h1 h2 (by omega) hinf
        obtain ⟨i1, i2⟩ := inf32 I
        refine ⟨i1, inf64_nn i2, hQ', fun _ => i2, fun h => ?_⟩
        exfalso
        apply h
        refine ⟨by omega, ?_⟩
        rcases hinf with g | ⟨g1, g2⟩
        · have p5 : (2 : Nat) ^ 5 ≤ 2 ^ sh := Nat.pow_le_pow_right (by decide) (by omega)
          have := Nat.mul_le_mul nr.1 p5
          omega
        · have p4 : (2 : Nat) ^ 4 ≤ 2 ^ sh := Nat.pow_le_pow_right (by decide) (by omega)
          have := Nat.mul_le_mul (Nat.le_of_not_lt g1) p4
          omega
  have any : ∃ sh : Nat, sh ≤ 8 ∧ ((a.natAbs ≤ 2 ^ 24 ∧ sh = 0) ∨ (2 ^ (23 + sh) ≤ a.natAbs ∧ a.natAbs < 2 ^ (24 + sh))) := by
    by_cases h : a.natAbs ≤ 2 ^ 24
    · exact ⟨0, by omega, Or.inl ⟨h, rfl⟩⟩
    · have h23 : 23 ≤ a.natAbs.log2 := (Nat.le_log2 (by omega)).mpr (by omega)
      have h32 : a.natAbs.log2 < 32 := (Nat.log2_lt (by omega)).mpr (by omega)
      refine ⟨a.natAbs.log2 - 23, by omega, Or.inr ?_⟩
      have := (Nat.log2_eq_iff (n := a.natAbs) (k := a.natAbs.log2) (by omega)).mp rfl
      rw [show 23 + (a.natAbs.log2 - 23) = a.natAbs.log2 by omega, show 24 + (a.natAbs.log2 - 23) = a.natAbs.log2 + 1 by omega]
      exact this
  obtain ⟨sh, g1, g2⟩ := any
  exact ⟨(key sh g1 g2).1, (key sh g1 g2).2.1, fun sh a b => (key sh a b).2.2⟩
theorem own_spcE {m sp : Int64} {M : Nat} (hm : m.toInt = (M : Int)) (hM : M ≤ 2147483648) (hsp : sp = own_spc m) :
    ∃ sh : Nat, sh ≤ 8 ∧ ((M ≤ 2 ^ 24 ∧ sh = 0) ∨ (2 ^ (23 + sh) ≤ M ∧ M < 2 ^ (24 + sh))) ∧ sp.toInt = ((2 ^ sh : Nat) : Int) := by
  subst hsp
  unfold own_spc
  have k1 := own_lcgt m 16777216
  rw [show (16777216 : Int64).toInt = 16777216 by decide, hm] at k1
  have l0 := own_lclt m 33554432
  rw [show (33554432 : Int64).toInt = 33554432 by decide, hm] at l0
  have l1 := own_lclt m 67108864
  rw [show (67108864 : Int64).toInt = 67108864 by decide, hm] at l1
  have l2 := own_lclt m 134217728
  rw [show (134217728 : Int64).toInt = 134217728 by decide, hm] at l2
  have l3 := own_lclt m 268435456
  rw [show (268435456 : Int64).toInt = 268435456 by decide, hm] at l3
  have l4 := own_lclt m 536870912
  rw [show (536870912 : Int64).toInt = 536870912 by decide, hm] at l4
  have l5 := own_lclt m 1073741824
  rw [show (1073741824 : Int64).toInt = 1073741824 by decide, hm] at l5
  have l6 := own_lclt m 2147483648
  rw [show (2147483648 : Int64).toInt = 2147483648 by decide, hm] at l6
  by_cases c0 : (0 : Int32) < lcmpW m (16777216 : Int64)
  · have d0 := k1.mp c0
    rw [if_pos c0]
    by_cases c1 : lcmpW m (33554432 : Int64) < (0 : Int32)
    · have d1 := l0.mp c1
      rw [if_pos c1]
      exact ⟨1, by omega, Or.inr ⟨by show 16777216 ≤ M; omega, by show M < 33554432; omega⟩, by decide⟩
    · have d1 : ¬ (M : Int) < 33554432 := fun h => c1 (l0.mpr h)
      rw [if_neg c1]
      by_cases c2 : lcmpW m (67108864 : Int64) < (0 : Int32)
      · have d2 := l1.mp c2
        rw [if_pos c2]
        exact ⟨2, by omega, Or.inr ⟨by show 33554432 ≤ M; omega, by show M < 67108864; omega⟩, by decide⟩
      · have d2 : ¬ (M : Int) < 67108864 := fun h => c2 (l1.mpr h)
        rw [if_neg c2]
        by_cases c3 : lcmpW m (134217728 : Int64) < (0 : Int32)
        · have d3 := l2.mp c3
          rw [if_pos c3]
          exact ⟨3, by omega, Or.inr ⟨by show 67108864 ≤ M; omega, by show M < 134217728; omega⟩, by decide⟩
        · have d3 : ¬ (M : Int) < 134217728 := fun h => c3 (l2.mpr h)
          rw [if_neg c3]
          by_cases c4 : lcmpW m (268435456 : Int64) < (0 : Int32)
          · have d4 := l3.mp c4
            rw [if_pos c4]
            exact ⟨4, by omega, Or.inr ⟨by show 134217728 ≤ M; omega, by show M < 268435456; omega⟩, by decide⟩
          · have d4 : ¬ (M : Int) < 268435456 := fun h => c4 (l3.mpr h)
            rw [if_neg c4]
            by_cases c5 : lcmpW m (536870912 : Int64) < (0 : Int32)
            · have d5 := l4.mp c5
              rw [if_pos c5]
              exact ⟨5, by omega, Or.inr ⟨by show 268435456 ≤ M; omega, by show M < 536870912; omega⟩, by decide⟩
            · have d5 : ¬ (M : Int) < 536870912 := fun h => c5 (l4.mpr h)
              rw [if_neg c5]
              by_cases c6 : lcmpW m (1073741824 : Int64) < (0 : Int32)
              · have d6 := l5.mp c6
                rw [if_pos c6]
                exact ⟨6, by omega, Or.inr ⟨by show 536870912 ≤ M; omega, by show M < 1073741824; omega⟩, by decide⟩
              · have d6 : ¬ (M : Int) < 1073741824 := fun h => c6 (l5.mpr h)
                rw [if_neg c6]
                by_cases c7 : lcmpW m (2147483648 : Int64) < (0 : Int32)
                · have d7 := l6.mp c7
                  rw [if_pos c7]
                  exact ⟨7, by omega, Or.inr ⟨by show 1073741824 ≤ M; omega, by show M < 2147483648; omega⟩, by decide⟩
                · have d7 : ¬ (M : Int) < 2147483648 := fun h => c7 (l6.mpr h)
                  rw [if_neg c7]
                  exact ⟨8, by omega, Or.inr ⟨by show 2147483648 ≤ M; omega, by show M < 4294967296; omega⟩, by decide⟩
  · have d0 : ¬ (16777216 : Int) < (M : Int) := fun h => c0 (k1.mpr h)
    rw [if_neg c0]
    exact ⟨0, by omega, Or.inl ⟨by omega, rfl⟩, by decide⟩
theorem own_nz {sp : Int64} {sh : Nat} (h : sp.toInt = ((2 ^ sh : Nat) : Int)) : sp ≠ 0 := by
  rintro rfl
  have := Nat.two_pow_pos sh
  rw [show (0 : Int64).toInt = 0 by decide] at h
  omega
theorem own_nmuE {m sp : Int64} {M sh : Nat} (hm : m.toInt = (M : Int)) (hsp : sp.toInt = ((2 ^ sh : Nat) : Int)) (hM : M ≤ 2147483648) (hs : sh ≤ 8) : (own_nmu m sp).toInt = ((nearest M (2 ^ sh) * 2 ^ sh : Nat) : Int) := by
  have hp : (2 : Nat) ^ sh ≤ 2 ^ 8 := Nat.pow_le_pow_right (by decide) hs
  have hp0 := Nat.two_pow_pos sh
  generalize 2 ^ sh = P at hsp hp hp0 ⊢
  have hn1 : sp ≠ -1 := by rintro rfl; rw [show (-1 : Int64).toInt = -1 by decide] at hsp; omega
  have e1 : (m / sp).toInt = ((M / P : Nat) : Int) := by
    have := (c_ldiv m sp P hsp hn1).1 (by omega)
    rw [this, hm]; rfl
  have hdm : M / P * P ≤ M := Nat.div_mul_le_self M P
  have hmod := Nat.div_add_mod M P
  rw [Nat.mul_comm] at hmod
  have hmlt := Nat.mod_lt M hp0
  have e2 : ((m / sp) * sp).toInt = ((M / P * P : Nat) : Int) := by
    have a := c_lmul (m / sp) sp
    rw [e1, hsp, ← Int.natCast_mul] at a
    have r := rng64 ((m / sp) * sp)
    omega
  have e3 : (m - (m / sp) * sp).toInt = ((M % P : Nat) : Int) := by
    have a := c_lsub m ((m / sp) * sp)
    rw [hm, e2] at a
    have r := rng64 (m - (m / sp) * sp)
    omega
  have e4 : ((2 : Int64) * (m - (m / sp) * sp)).toInt = ((2 * (M % P) : Nat) : Int) := by
    have a := c_lmul (2 : Int64) (m - (m / sp) * sp)
    rw [show (2 : Int64).toInt = 2 by decide, e3] at a
    have r := rng64 ((2 : Int64) * (m - (m / sp) * sp))
    omega
  have e5 : ((m / sp) * sp + sp).toInt = (((M / P + 1) * P : Nat) : Int) := by
    have a := c_ladd ((m / sp) * sp) sp
    rw [e2, hsp] at a
    have r := rng64 ((m / sp) * sp + sp)
    rw [Nat.add_mul, Nat.one_mul]
    omega
  have e6 : (((m / sp) * sp) / sp).toInt = ((M / P : Nat) : Int) := by
    have := (c_ldiv ((m / sp) * sp) sp P hsp hn1).1 (by omega)
    rw [this, e2, ← Int.natCast_ediv, Nat.mul_div_cancel _ hp0]
  have e7 : ((((m / sp) * sp) / sp) &&& (1 : Int64)).toInt = ((M / P % 2 : Nat) : Int) := by
    have := c_maskL (((m / sp) * sp) / sp) 1 1 (by decide) (by decide)
    rw [this, e6]; rfl
  have g1 := own_lcgt ((2 : Int64) * (m - (m / sp) * sp)) sp
  have g2 := own_lclt ((2 : Int64) * (m - (m / sp) * sp)) sp
  have g3 := own_lceq ((((m / sp) * sp) / sp) &&& (1 : Int64)) 0
  rw [e4, hsp] at g1 g2
  rw [e7, show (0 : Int64).toInt = 0 by decide] at g3
  unfold own_nmu nearest
  by_cases c1 : (0 : Int32) < lcmpW ((2 : Int64) * (m - (m / sp) * sp)) sp
  · have := g1.mp c1
    rw [if_pos c1, if_neg (by omega), if_pos (by omega)]; exact e5
  · have d1 : ¬ (P : Int) < ((2 * (M % P) : Nat) : Int) := fun h => c1 (g1.mpr h)
    rw [if_neg c1]
    by_cases c2 : lcmpW ((2 : Int64) * (m - (m / sp) * sp)) sp < (0 : Int32)
    · have := g2.mp c2
      rw [if_pos c2, if_pos (by omega)]; exact e2
    · have d2 : ¬ ((2 * (M % P) : Nat) : Int) < (P : Int) := fun h => c2 (g2.mpr h)
      rw [if_neg c2, if_neg (show ¬ 2 * (M % P) < P by omega), if_neg (show ¬ P < 2 * (M % P) by omega)]
      by_cases c3 : lcmpW ((((m / sp) * sp) / sp) &&& (1 : Int64)) (0 : Int64) = (0 : Int32)
      · have := g3.mp c3
        rw [if_pos c3, show M / P % 2 = 0 by omega, Nat.add_zero]; exact e2
      · have d3 : ¬ ((M / P % 2 : Nat) : Int) = 0 := fun h => c3 (g3.mpr h)
        rw [if_neg c3, show M / P % 2 = 1 by omega]; exact e5
theorem own_qE {p : Int32} {qm : Int64} {Q : Nat} (h : qm.toInt = (Q : Int)) (hQ : Q ≤ 4294967296) : (if p < (0 : Int32) then (-qm) else qm).toInt = signed (decide (p.toInt < 0)) Q := by
  by_cases c : p < (0 : Int32)
  · have d : p.toInt < 0 := Int32.lt_iff_toInt_lt.mp c
    rw [if_pos c, decide_eq_true d]
    have n := c_lneg qm; have r := rng64 (-qm)
    show _ = -(Q : Int)
    omega
  · have d : ¬ p.toInt < 0 := fun h => c (Int32.lt_iff_toInt_lt.mpr h)
    rw [if_neg c, decide_eq_false d]
    exact h
theorem own_qb (s : Bool) {Q : Nat} (hQ : Q ≤ 4294967296) : (signed s Q).natAbs < 9007199254740992 := by rw [natAbs_signed]; omega
theorem own_small {qm : Int64} {Q : Nat} (h : qm.toInt = (Q : Int)) (c : lcmpW qm (268435456 : Int64) < (0 : Int32)) : ¬ 268435456 ≤ Q := by
  have := (own_lclt _ _).mp c
  rw [show (268435456 : Int64).toInt = 268435456 by decide] at this; omega
theorem own_big {qm : Int64} {Q : Nat} (h : qm.toInt = (Q : Int)) (c : ¬ lcmpW qm (268435456 : Int64) < (0 : Int32)) : 268435456 ≤ Q := by
  have : ¬ qm.toInt < (268435456 : Int64).toInt := fun h => c ((own_lclt _ _).mpr h)
  rw [show (268435456 : Int64).toInt = 268435456 by decide] at this; omega
theorem own_infs (p : Int32) {e : UInt64} (he : e = (if p < (0 : Int32) then (18442240474082181120 : UInt64) else (9218868437227405312 : UInt64))) : val64 e = .inf (decide (p.toInt < 0)) := by
  subst he
  by_cases c : p < (0 : Int32)
  · have d : p.toInt < 0 := Int32.lt_iff_toInt_lt.mp c
    rw [if_pos c, decide_eq_true d]; decide +kernel
  · have d : ¬ p.toInt < 0 := fun h => c (Int32.lt_iff_toInt_lt.mpr h)
    rw [if_neg c, decide_eq_false d]; decide +kernel
theorem ef_1_RD (m : MethodId) (x0 : Addr) (x1 : UInt64) : entryFrame m #[(.ref x0), (.double x1)] 3 = mkF m 0 #[.val (.ref x0), .val (.double x1), .second] [] := by first | (simp [entryFrame, mkF, argsToLocals, Value.category]; done) | rfl
theorem d1_0 : decode prog_134_method_4_code 0 = .ok (.aload_n 0, 1) := by decide +kernel
theorem d1_1 : decode prog_134_method_4_code 1 = .ok (.getstatic 7, 3) := by decide +kernel
theorem d1_4 : decode prog_134_method_4_code 4 = .ok (.if_acmp .ne 9, 3) := by decide +kernel
theorem d1_7 : decode prog_134_method_4_code 7 = .ok (.dload_n 1, 1) := by decide +kernel
theorem d1_8 : decode prog_134_method_4_code 8 = .ok (.d2f, 1) := by decide +kernel
theorem d1_9 : decode prog_134_method_4_code 9 = .ok (.f2d, 1) := by decide +kernel
theorem d1_10 : decode prog_134_method_4_code 10 = .ok (.goto 4, 3) := by decide +kernel
theorem d1_14 : decode prog_134_method_4_code 14 = .ok (.dreturn, 1) := by decide +kernel
def Q_of_f (Z : State) (a1 : Addr) (u1 : UInt64) (h0 : Heap) (n0 : Nat) (v : Option Value) (h : Heap) (L : List Loc) : Prop := v = some (.double (FP.f2d (FP.d2f u1))) ∧ Fr n0 L ∧ h = h0
theorem pn_com_2fexample_2fliblocus_2fliblocus_2ftrec_2fRun_24ScorePrecision : plainName "com/example/liblocus/liblocus/trec/Run$ScorePrecision" = true := by first | (simp [plainName, overriddenIn]; done) | decide +kernel
set_option maxRecDepth 65536 in
set_option maxHeartbeats 40000000 in
theorem of_f (l : Launch) (Z : State) (a0 : Array Value) (hw : ∀ d ∈ tables_1, d.before a0 Z = true) (ws : List Jvm.Cond) (a1 : Addr) (u1 : UInt64) (h0 : Heap) (n0 : Nat) (Z0 : n0 ≤ h0.size) (S1 : Sta Z h0 "com/example/liblocus/liblocus/trec/Run$ScorePrecision" "FLOAT" "Lcom/example/liblocus/liblocus/trec/Run$ScorePrecision;" (.ref a1)) (nn8 : Jvm.Free.Fl.NoNaN32 (FP.d2f u1)) (nn9 : Jvm.Free.Fl.NoNaN64 (FP.f2d (FP.d2f u1))) :
    MetFree l (⟨"com/example/liblocus/liblocus/trec/Run$ScorePrecision", "of", "(D)D"⟩ : MethodName) (head1 (Jvm.Cond.code (⟨"com/example/liblocus/liblocus/trec/Run$ScorePrecision", "of", "(D)D"⟩ : MethodName) prog_134_method_4_code 3 (some .double) :: ws) ({ frames := 0, cells := 0, slots := 0, locals := 0 } : Room)) (fun a U => a = #[(.ref a1), (.double u1)] ∧ Z.Warmed39 U.vm ∧ U.heap = h0) (fun _ _ _ _ _ => True) (fun _ U o U' => ∃ v L, o = .returned v ∧ Q_of_f Z a1 u1 h0 n0 v U'.heap L ∧ FrameEnd U o U' L ({ frames := 0, cells := 0, slots := 0, locals := 0 } : Room).cells ({ frames := 0, cells := 0, slots := 0, locals := 0 } : Room).slots) := by
  refine MetFree.of_bodySF (plainFor_of_name pn_com_2fexample_2fliblocus_2fliblocus_2ftrec_2fRun_24ScorePrecision) hisR ?_
  intro p e s m args below meth c s₁ Bd hml0 hP hK
  obtain ⟨rfl, hZ, hh⟩ := hP
  have hx := Bd.exec
  have hby := Bd.bytes
  have hml : c.maxLocals = 3 := hml0
  have hown : s.vm.findClass "com/example/liblocus/liblocus/trec/Run$ScorePrecision" = some m.cls := findClass_of_methodNamed Bd.named
  have hnm := (name_of_methodNamed Bd.named Bd.method).1
  have X0 : Stand p l e ({ frames := 0, cells := 0, slots := 0, locals := 0 } : Room) s m #[(.ref a1), (.double u1)] below meth c s₁ [] 0 0 := Stand.of_body Bd
  have e0 : s₁.heap = h0 := by rw [← hh, Bd.state]; rfl
  have N0 := Fr.nil n0
  have k0 : ∀ t, Steps p.tables e below (s₁.setTop (mkF m 0 #[.val (.ref a1), .val (.double u1), .second] [])) t → Steps p.tables e below (s₁.setTop (entryFrame m #[(.ref a1), (.double u1)] 3)) t := fun t k => castTop (ef_1_RD m a1 u1) k
  have k101 : ∀ t, Steps p.tables e below (s₁.setTop (mkF m 1 #[.val (.ref a1), .val (.double u1), .second] [(.ref a1)])) t → Steps p.tables e below (s₁.setTop (entryFrame m #[(.ref a1), (.double u1)] 3)) t := fun t k => k0 t (by
    show Steps p.tables e below (s₁.setTop (mkF m 0 #[.val (.ref a1), .val (.double u1), .second] [])) _
    refine XS.aloadN X0.here hx rfl (hb hby d1_0) rfl rfl ?_
    exact k)
  obtain ⟨T102, X102, e102, st102⟩ := getS2 X0 hx hZ hown (host := "") (Or.inl (hw _ (List.mem_of_getElem? (i := 9) rfl))) Via.refl e0 S1 (g := (mkF m 1 #[.val (.ref a1), .val (.double u1), .second] [(.ref a1)])) rfl (hb hby d1_1)
  have k103 : ∀ t, Steps p.tables e below (T102.setTop (mkF m 4 #[.val (.ref a1), .val (.double u1), .second] [(.ref a1), (.ref a1)])) t → Steps p.tables e below (s₁.setTop (entryFrame m #[(.ref a1), (.double u1)] 3)) t := fun t k => k101 t (st102 t k)
  have k104 : ∀ t, Steps p.tables e below (T102.setTop (mkF m 14 #[.val (.ref a1), .val (.double u1), .second] [(.double (FP.f2d (FP.d2f u1)))])) t → Steps p.tables e below (s₁.setTop (entryFrame m #[(.ref a1), (.double u1)] 3)) t := fun t k => k103 t (by
    show Steps p.tables e below (T102.setTop (mkF m 4 #[.val (.ref a1), .val (.double u1), .second] [(.ref a1), (.ref a1)])) _
    refine Jvm.RoadKit.acmp X102 hx rfl (x := (.ref a1)) (y := (.ref a1)) rfl rfl (same := true) (pc0 := 4) (pc' := 7) rfl (hb hby d1_4) rfl (decide_eq_true rfl) (by decide) (by decide) ?_
    show Steps p.tables e below (T102.setTop (mkF m 7 #[.val (.ref a1), .val (.double u1), .second] [])) _
    refine XS.dloadN X102.here hx rfl (hb hby d1_7) rfl ?_
    show Steps p.tables e below (T102.setTop (mkF m 8 #[.val (.ref a1), .val (.double u1), .second] [(.double u1)])) _
    refine XS.d2fS X102.here hx rfl (hb hby d1_8) rfl (nn8) rfl ?_
    show Steps p.tables e below (T102.setTop (mkF m 9 #[.val (.ref a1), .val (.double u1), .second] [(.float (FP.d2f u1))])) _
    refine XS.f2dS X102.here hx rfl (hb hby d1_9) rfl (nn9) rfl ?_
    show Steps p.tables e below (T102.setTop (mkF m 10 #[.val (.ref a1), .val (.double u1), .second] [(.double (FP.f2d (FP.d2f u1)))])) _
    refine XS.goto X102.here hx rfl (pc0 := 10) (pc' := 14) rfl (hb hby d1_10) (by decide) (by decide) ?_
    exact k)
  obtain ⟨fs, hr, hrun, hended, hW, hsame⟩ := X102.leave (v := some (.double (FP.f2d (FP.d2f u1)))) (fun h => by rw [Bd.returns] at h; cases h)
  refine ⟨_, _, k104 _ (retOut X102 hx (t := .double) Bd.returns rfl (Or.inr (Or.inr (Or.inl ⟨rfl, rfl, _, rfl⟩))) (hb hby d1_14) hr), hrun, hended, _, _, rfl, ?_, ⟨_, rfl⟩, hW, hsame.mono (by decide) (by decide)⟩
  show Q_of_f Z a1 u1 h0 n0 _ T102.heap _
  rw [e102]
  exact ⟨rfl, N0, rfl⟩
theorem d1_13 : decode prog_134_method_4_code 13 = .ok (.dload_n 1, 1) := by decide +kernel
def Q_of_d (Z : State) (a1 : Addr) (a2 : Addr) (u1 : UInt64) (h0 : Heap) (n0 : Nat) (v : Option Value) (h : Heap) (L : List Loc) : Prop := v = some (.double u1) ∧ Fr n0 L ∧ h = h0
set_option maxRecDepth 65536 in
set_option maxHeartbeats 40000000 in
theorem of_d (l : Launch) (Z : State) (a0 : Array Value) (hw : ∀ d ∈ tables_1, d.before a0 Z = true) (ws : List Jvm.Cond) (a1 : Addr) (a2 : Addr) (u1 : UInt64) (h0 : Heap) (n0 : Nat) (Z0 : n0 ≤ h0.size) (S1 : Sta Z h0 "com/example/liblocus/liblocus/trec/Run$ScorePrecision" "FLOAT" "Lcom/example/liblocus/liblocus/trec/Run$ScorePrecision;" (.ref a2)) (hne : a1 ≠ a2) :
    MetFree l (⟨"com/example/liblocus/liblocus/trec/Run$ScorePrecision", "of", "(D)D"⟩ : MethodName) (head1 (Jvm.Cond.code (⟨"com/example/liblocus/liblocus/trec/Run$ScorePrecision", "of", "(D)D"⟩ : MethodName) prog_134_method_4_code 3 (some .double) :: ws) ({ frames := 0, cells := 0, slots := 0, locals := 0 } : Room)) (fun a U => a = #[(.ref a1), (.double u1)] ∧ Z.Warmed39 U.vm ∧ U.heap = h0) (fun _ _ _ _ _ => True) (fun _ U o U' => ∃ v L, o = .returned v ∧ Q_of_d Z a1 a2 u1 h0 n0 v U'.heap L ∧ FrameEnd U o U' L ({ frames := 0, cells := 0, slots := 0, locals := 0 } : Room).cells ({ frames := 0, cells := 0, slots := 0, locals := 0 } : Room).slots) := by
  refine MetFree.of_bodySF (plainFor_of_name pn_com_2fexample_2fliblocus_2fliblocus_2ftrec_2fRun_24ScorePrecision) hisR ?_
  intro p e s m args below meth c s₁ Bd hml0 hP hK
  obtain ⟨rfl, hZ, hh⟩ := hP
  have hx := Bd.exec
  have hby := Bd.bytes
  have hml : c.maxLocals = 3 := hml0
  have hown : s.vm.findClass "com/example/liblocus/liblocus/trec/Run$ScorePrecision" = some m.cls := findClass_of_methodNamed Bd.named
  have hnm := (name_of_methodNamed Bd.named Bd.method).1
  have X0 : Stand p l e ({ frames := 0, cells := 0, slots := 0, locals := 0 } : Room) s m #[(.ref a1), (.double u1)] below meth c s₁ [] 0 0 := Stand.of_body Bd
  have e0 : s₁.heap = h0 := by rw [← hh, Bd.state]; rfl
  have N0 := Fr.nil n0
  have k0 : ∀ t, Steps p.tables e below (s₁.setTop (mkF m 0 #[.val (.ref a1), .val (.double u1), .second] [])) t → Steps p.tables e below (s₁.setTop (entryFrame m #[(.ref a1), (.double u1)] 3)) t := fun t k => castTop (ef_1_RD m a1 u1) k
  have k101 : ∀ t, Steps p.tables e below (s₁.setTop (mkF m 1 #[.val (.ref a1), .val (.double u1), .second] [(.ref a1)])) t → Steps p.tables e below (s₁.setTop (entryFrame m #[(.ref a1), (.double u1)] 3)) t := fun t k => k0 t (by
    show Steps p.tables e below (s₁.setTop (mkF m 0 #[.val (.ref a1), .val (.double u1), .second] [])) _
    refine XS.aloadN X0.here hx rfl (hb hby d1_0) rfl rfl ?_
    exact k)
  obtain ⟨T102, X102, e102, st102⟩ := getS2 X0 hx hZ hown (host := "") (Or.inl (hw _ (List.mem_of_getElem? (i := 9) rfl))) Via.refl e0 S1 (g := (mkF m 1 #[.val (.ref a1), .val (.double u1), .second] [(.ref a1)])) rfl (hb hby d1_1)
  have k103 : ∀ t, Steps p.tables e below (T102.setTop (mkF m 4 #[.val (.ref a1), .val (.double u1), .second] [(.ref a2), (.ref a1)])) t → Steps p.tables e below (s₁.setTop (entryFrame m #[(.ref a1), (.double u1)] 3)) t := fun t k => k101 t (st102 t k)
  have k104 : ∀ t, Steps p.tables e below (T102.setTop (mkF m 14 #[.val (.ref a1), .val (.double u1), .second] [(.double u1)])) t → Steps p.tables e below (s₁.setTop (entryFrame m #[(.ref a1), (.double u1)] 3)) t := fun t k => k103 t (by
    show Steps p.tables e below (T102.setTop (mkF m 4 #[.val (.ref a1), .val (.double u1), .second] [(.ref a2), (.ref a1)])) _
    refine Jvm.RoadKit.acmp X102 hx rfl (x := (.ref a1)) (y := (.ref a2)) rfl rfl (same := false) (pc0 := 4) (pc' := 13) rfl (hb hby d1_4) rfl (decide_eq_false (fun h => hne (Value.ref.inj h))) (by decide) (by decide) ?_
    show Steps p.tables e below (T102.setTop (mkF m 13 #[.val (.ref a1), .val (.double u1), .second] [])) _
    refine XS.dloadN X102.here hx rfl (hb hby d1_13) rfl ?_
    exact k)
  obtain ⟨fs, hr, hrun, hended, hW, hsame⟩ := X102.leave (v := some (.double u1)) (fun h => by rw [Bd.returns] at h; cases h)
  refine ⟨_, _, k104 _ (retOut X102 hx (t := .double) Bd.returns rfl (Or.inr (Or.inr (Or.inl ⟨rfl, rfl, _, rfl⟩))) (hb hby d1_14) hr), hrun, hended, _, _, rfl, ?_, ⟨_, rfl⟩, hW, hsame.mono (by decide) (by decide)⟩
  show Q_of_d Z a1 a2 u1 h0 n0 _ T102.heap _
  rw [e102]
  exact ⟨rfl, N0, rfl⟩
theorem ef_2_J (m : MethodId) (x0 : Int64) : entryFrame m #[(.long x0)] 2 = mkF m 0 #[.val (.long x0), .second] [] := by first | (simp [entryFrame, mkF, argsToLocals, Value.category]; done) | rfl
theorem d2_0 : decode jdk_29_method_61_code 0 = .ok (.lload_n 0, 1) := by decide +kernel
theorem d2_1 : decode jdk_29_method_61_code 1 = .ok (.lconst 0, 1) := by decide +kernel
theorem d2_2 : decode jdk_29_method_61_code 2 = .ok (.lcmp, 1) := by decide +kernel
theorem d2_3 : decode jdk_29_method_61_code 3 = .ok (.ifCond .ge 8, 3) := by decide +kernel
theorem d2_6 : decode jdk_29_method_61_code 6 = .ok (.lload_n 0, 1) := by decide +kernel
theorem d2_7 : decode jdk_29_method_61_code 7 = .ok (.lneg, 1) := by decide +kernel
theorem d2_8 : decode jdk_29_method_61_code 8 = .ok (.goto 4, 3) := by decide +kernel
theorem d2_11 : decode jdk_29_method_61_code 11 = .ok (.lload_n 0, 1) := by decide +kernel
theorem d2_12 : decode jdk_29_method_61_code 12 = .ok (.lreturn, 1) := by decide +kernel
def Q_rm2 (Z : State) (q1 : Int64) (h0 : Heap) (n0 : Nat) (v : Option Value) (h : Heap) (L : List Loc) : Prop := v = some (.long (if lcmpW q1 (0 : Int64) < (0 : Int32) then -q1 else q1)) ∧ Fr n0 L ∧ h = h0
set_option maxRecDepth 65536 in
set_option maxHeartbeats 40000000 in
theorem rm2 (l : Launch) (Z : State) (a0 : Array Value) (hw : ∀ d ∈ tables_1, d.before a0 Z = true) (ws : List Jvm.Cond) (q1 : Int64) (h0 : Heap) (n0 : Nat) (Z0 : n0 ≤ h0.size) :
    MetFree l (⟨"java/lang/Math", "abs", "(J)J"⟩ : MethodName) (head1 (Jvm.Cond.code (⟨"java/lang/Math", "abs", "(J)J"⟩ : MethodName) jdk_29_method_61_code 2 (some .long) :: ws) ({ frames := 0, cells := 0, slots := 0, locals := 0 } : Room)) (fun a U => a = #[(.long q1)] ∧ Z.Warmed39 U.vm ∧ U.heap = h0) (fun _ _ _ _ _ => True) (fun _ U o U' => ∃ v L, o = .returned v ∧ Q_rm2 Z q1 h0 n0 v U'.heap L ∧ FrameEnd U o U' L ({ frames := 0, cells := 0, slots := 0, locals := 0 } : Room).cells ({ frames := 0, cells := 0, slots := 0, locals := 0 } : Room).slots) := by
  refine MetFree.of_bodySF (Jvm.Free.JP.mathPlain rfl (by decide +kernel)) hisR ?_
  intro p e s m args below meth c s₁ Bd hml0 hP hK
  obtain ⟨rfl, hZ, hh⟩ := hP
  have hx := Bd.exec
  have hby := Bd.bytes
  have hml : c.maxLocals = 2 := hml0
  have hown : s.vm.findClass "java/lang/Math" = some m.cls := findClass_of_methodNamed Bd.named
  have hnm := (name_of_methodNamed Bd.named Bd.method).1
  have X0 : Stand p l e ({ frames := 0, cells := 0, slots := 0, locals := 0 } : Room) s m #[(.long q1)] below meth c s₁ [] 0 0 := Stand.of_body Bd
  have e0 : s₁.heap = h0 := by rw [← hh, Bd.state]; rfl
  have N0 := Fr.nil n0
  have k0 : ∀ t, Steps p.tables e below (s₁.setTop (mkF m 0 #[.val (.long q1), .second] [])) t → Steps p.tables e below (s₁.setTop (entryFrame m #[(.long q1)] 2)) t := fun t k => castTop (ef_2_J m q1) k
  have k101 : ∀ t, Steps p.tables e below (s₁.setTop (mkF m 3 #[.val (.long q1), .second] [(.int (lcmpW q1 (0 : Int64)))])) t → Steps p.tables e below (s₁.setTop (entryFrame m #[(.long q1)] 2)) t := fun t k => k0 t (by
    show Steps p.tables e below (s₁.setTop (mkF m 0 #[.val (.long q1), .second] [])) _
    refine XS.lloadN X0.here hx rfl (hb hby d2_0) rfl ?_
    show Steps p.tables e below (s₁.setTop (mkF m 1 #[.val (.long q1), .second] [(.long q1)])) _
    refine XS.lconst X0.here hx rfl (hb hby d2_1) ?_
    show Steps p.tables e below (s₁.setTop (mkF m 2 #[.val (.long q1), .second] [(.long (0 : Int64)), (.long q1)])) _
    refine XS.lcmp X0.here hx rfl (hb hby d2_2) rfl ?_
    exact k)
  obtain ⟨j103, hj103⟩ : ∃ z : Int64, z = (if (lcmpW q1 (0 : Int64)) < (0 : Int32) then (-q1) else q1) := ⟨_, rfl⟩
  have k104 : ∀ t, Steps p.tables e below (s₁.setTop (mkF m 12 #[.val (.long q1), .second] [(.long j103)])) t → Steps p.tables e below (s₁.setTop (entryFrame m #[(.long q1)] 2)) t := fun t k => k101 t (by
    by_cases c102 : (lcmpW q1 (0 : Int64)) < (0 : Int32)
    · rw [if_pos c102] at hj103
      show Steps p.tables e below (s₁.setTop (mkF m 3 #[.val (.long q1), .second] [(.int (lcmpW q1 (0 : Int64)))])) _
      refine XS.ifNo X0.here hx rfl (hb hby d2_3) rfl ((if0 _ _).trans (tlt c102).2.1) ?_
      show Steps p.tables e below (s₁.setTop (mkF m 6 #[.val (.long q1), .second] [])) _
      refine XS.lloadN X0.here hx rfl (hb hby d2_6) rfl ?_
      show Steps p.tables e below (s₁.setTop (mkF m 7 #[.val (.long q1), .second] [(.long q1)])) _
      refine XS.lneg X0.here hx rfl (hb hby d2_7) rfl ?_
      show Steps p.tables e below (s₁.setTop (mkF m 8 #[.val (.long q1), .second] [(.long (-q1))])) _
      refine XS.goto X0.here hx rfl (pc0 := 8) (pc' := 12) rfl (hb hby d2_8) (by decide) (by decide) ?_
      show Steps p.tables e below (s₁.setTop (mkF m 12 #[.val (.long q1), .second] [(.long (-q1))])) _
      exact castTop (by rw [hj103]) k
    · rw [if_neg c102] at hj103
      show Steps p.tables e below (s₁.setTop (mkF m 3 #[.val (.long q1), .second] [(.int (lcmpW q1 (0 : Int64)))])) _
      refine XS.ifYes X0.here hx rfl (pc0 := 3) (pc' := 11) rfl (hb hby d2_3) rfl ((if0 _ _).trans (flt c102).2.1) (by decide) (by decide) ?_
      show Steps p.tables e below (s₁.setTop (mkF m 11 #[.val (.long q1), .second] [])) _
      refine XS.lloadN X0.here hx rfl (hb hby d2_11) rfl ?_
      show Steps p.tables e below (s₁.setTop (mkF m 12 #[.val (.long q1), .second] [(.long q1)])) _
      exact castTop (by rw [hj103]) k)
  obtain ⟨fs, hr, hrun, hended, hW, hsame⟩ := X0.leave (v := some (.long j103)) (fun h => by rw [Bd.returns] at h; cases h)
  refine ⟨_, _, k104 _ (retOut X0 hx (t := .long) Bd.returns rfl (Or.inr (Or.inl ⟨rfl, rfl, _, rfl⟩)) (hb hby d2_12) hr), hrun, hended, _, _, rfl, ?_, ⟨_, rfl⟩, hW, hsame.mono (by decide) (by decide)⟩
  show Q_rm2 Z q1 h0 n0 _ s₁.heap _
  rw [e0]
  exact ⟨by rw [hj103], N0, rfl⟩
theorem ef_3_J (m : MethodId) (x0 : Int64) : entryFrame m #[(.long x0)] 2 = mkF m 0 #[.val (.long x0), .second] [] := by first | (simp [entryFrame, mkF, argsToLocals, Value.category]; done) | rfl
theorem d3_0 : decode method_3_code 0 = .ok (.lload_n 0, 1) := by decide +kernel
theorem d3_1 : decode method_3_code 1 = .ok (.ldc2_w 49, 3) := by decide +kernel
theorem d3_4 : decode method_3_code 4 = .ok (.lcmp, 1) := by decide +kernel
theorem d3_5 : decode method_3_code 5 = .ok (.ifCond .gt 5, 3) := by decide +kernel
theorem d3_10 : decode method_3_code 10 = .ok (.lload_n 0, 1) := by decide +kernel
theorem d3_11 : decode method_3_code 11 = .ok (.ldc2_w 51, 3) := by decide +kernel
theorem d3_14 : decode method_3_code 14 = .ok (.lcmp, 1) := by decide +kernel
theorem d3_15 : decode method_3_code 15 = .ok (.ifCond .ge 7, 3) := by decide +kernel
theorem d3_18 : decode method_3_code 18 = .ok (.ldc2_w 53, 3) := by decide +kernel
theorem d3_21 : decode method_3_code 21 = .ok (.lreturn, 1) := by decide +kernel
theorem d3_22 : decode method_3_code 22 = .ok (.lload_n 0, 1) := by decide +kernel
theorem d3_23 : decode method_3_code 23 = .ok (.ldc2_w 55, 3) := by decide +kernel
theorem d3_26 : decode method_3_code 26 = .ok (.lcmp, 1) := by decide +kernel
theorem d3_27 : decode method_3_code 27 = .ok (.ifCond .ge 7, 3) := by decide +kernel
theorem d3_30 : decode method_3_code 30 = .ok (.ldc2_w 57, 3) := by decide +kernel
theorem d3_33 : decode method_3_code 33 = .ok (.lreturn, 1) := by decide +kernel
theorem d3_34 : decode method_3_code 34 = .ok (.lload_n 0, 1) := by decide +kernel
theorem d3_35 : decode method_3_code 35 = .ok (.ldc2_w 59, 3) := by decide +kernel
theorem d3_38 : decode method_3_code 38 = .ok (.lcmp, 1) := by decide +kernel
theorem d3_39 : decode method_3_code 39 = .ok (.ifCond .ge 7, 3) := by decide +kernel
theorem d3_42 : decode method_3_code 42 = .ok (.ldc2_w 61, 3) := by decide +kernel
theorem d3_45 : decode method_3_code 45 = .ok (.lreturn, 1) := by decide +kernel
theorem d3_46 : decode method_3_code 46 = .ok (.lload_n 0, 1) := by decide +kernel
theorem d3_47 : decode method_3_code 47 = .ok (.ldc2_w 41, 3) := by decide +kernel
theorem d3_50 : decode method_3_code 50 = .ok (.lcmp, 1) := by decide +kernel
theorem d3_51 : decode method_3_code 51 = .ok (.ifCond .ge 7, 3) := by decide +kernel
theorem d3_54 : decode method_3_code 54 = .ok (.ldc2_w 63, 3) := by decide +kernel
theorem d3_57 : decode method_3_code 57 = .ok (.lreturn, 1) := by decide +kernel
theorem d3_58 : decode method_3_code 58 = .ok (.lload_n 0, 1) := by decide +kernel
theorem d3_59 : decode method_3_code 59 = .ok (.ldc2_w 65, 3) := by decide +kernel
theorem d3_62 : decode method_3_code 62 = .ok (.lcmp, 1) := by decide +kernel
theorem d3_63 : decode method_3_code 63 = .ok (.ifCond .ge 7, 3) := by decide +kernel
theorem d3_66 : decode method_3_code 66 = .ok (.ldc2_w 67, 3) := by decide +kernel
theorem d3_69 : decode method_3_code 69 = .ok (.lreturn, 1) := by decide +kernel
theorem d3_70 : decode method_3_code 70 = .ok (.lload_n 0, 1) := by decide +kernel
theorem d3_71 : decode method_3_code 71 = .ok (.ldc2_w 69, 3) := by decide +kernel
theorem d3_74 : decode method_3_code 74 = .ok (.lcmp, 1) := by decide +kernel
theorem d3_75 : decode method_3_code 75 = .ok (.ifCond .ge 7, 3) := by decide +kernel
theorem d3_78 : decode method_3_code 78 = .ok (.ldc2_w 71, 3) := by decide +kernel
theorem d3_81 : decode method_3_code 81 = .ok (.lreturn, 1) := by decide +kernel
theorem d3_82 : decode method_3_code 82 = .ok (.lload_n 0, 1) := by decide +kernel
theorem d3_83 : decode method_3_code 83 = .ok (.ldc2_w 73, 3) := by decide +kernel
theorem d3_86 : decode method_3_code 86 = .ok (.lcmp, 1) := by decide +kernel
theorem d3_87 : decode method_3_code 87 = .ok (.ifCond .ge 7, 3) := by decide +kernel
theorem d3_90 : decode method_3_code 90 = .ok (.ldc2_w 75, 3) := by decide +kernel
theorem d3_93 : decode method_3_code 93 = .ok (.lreturn, 1) := by decide +kernel
theorem d3_94 : decode method_3_code 94 = .ok (.ldc2_w 77, 3) := by decide +kernel
theorem d3_97 : decode method_3_code 97 = .ok (.lreturn, 1) := by decide +kernel
theorem d3_8 : decode method_3_code 8 = .ok (.lconst 1, 1) := by decide +kernel
theorem d3_9 : decode method_3_code 9 = .ok (.lreturn, 1) := by decide +kernel
def Q_rm3 (Z : State) (q1 : Int64) (h0 : Heap) (n0 : Nat) (v : Option Value) (h : Heap) (L : List Loc) : Prop := v = some (.long (own_spc q1)) ∧ Fr n0 L ∧ h = h0
theorem pn_com_2fexample_2fliblocus_2fliblocus_2ftrec_2fScorePrecisionOfPinLaw : plainName "com/example/liblocus/liblocus/trec/ScorePrecisionOfPinLaw" = true := by first | (simp [plainName, overriddenIn]; done) | decide +kernel
set_option maxRecDepth 65536 in
set_option maxHeartbeats 40000000 in
theorem rm3 (l : Launch) (Z : State) (a0 : Array Value) (hw : ∀ d ∈ tables_1, d.before a0 Z = true) (ws : List Jvm.Cond) (q1 : Int64) (h0 : Heap) (n0 : Nat) (Z0 : n0 ≤ h0.size) :
    MetFree l (⟨"com/example/liblocus/liblocus/trec/ScorePrecisionOfPinLaw", "spacing", "(J)J"⟩ : MethodName) (head1 (Jvm.Cond.code (⟨"com/example/liblocus/liblocus/trec/ScorePrecisionOfPinLaw", "spacing", "(J)J"⟩ : MethodName) method_3_code 2 (some .long) :: ws) ({ frames := 0, cells := 0, slots := 0, locals := 0 } : Room)) (fun a U => a = #[(.long q1)] ∧ Z.Warmed39 U.vm ∧ U.heap = h0) (fun _ _ _ _ _ => True) (fun _ U o U' => ∃ v L, o = .returned v ∧ Q_rm3 Z q1 h0 n0 v U'.heap L ∧ FrameEnd U o U' L ({ frames := 0, cells := 0, slots := 0, locals := 0 } : Room).cells ({ frames := 0, cells := 0, slots := 0, locals := 0 } : Room).slots) := by
  refine MetFree.of_bodySF (plainFor_of_name pn_com_2fexample_2fliblocus_2fliblocus_2ftrec_2fScorePrecisionOfPinLaw) hisR ?_
  intro p e s m args below meth c s₁ Bd hml0 hP hK
  obtain ⟨rfl, hZ, hh⟩ := hP
  have hx := Bd.exec
  have hby := Bd.bytes
  have hml : c.maxLocals = 2 := hml0
  have hown : s.vm.findClass "com/example/liblocus/liblocus/trec/ScorePrecisionOfPinLaw" = some m.cls := findClass_of_methodNamed Bd.named
  have hnm := (name_of_methodNamed Bd.named Bd.method).1
  have X0 : Stand p l e ({ frames := 0, cells := 0, slots := 0, locals := 0 } : Room) s m #[(.long q1)] below meth c s₁ [] 0 0 := Stand.of_body Bd
  have e0 : s₁.heap = h0 := by rw [← hh, Bd.state]; rfl
  have N0 := Fr.nil n0
  have k0 : ∀ t, Steps p.tables e below (s₁.setTop (mkF m 0 #[.val (.long q1), .second] [])) t → Steps p.tables e below (s₁.setTop (entryFrame m #[(.long q1)] 2)) t := fun t k => castTop (ef_3_J m q1) k
  have k101 : ∀ t, Steps p.tables e below (s₁.setTop (mkF m 5 #[.val (.long q1), .second] [(.int (lcmpW q1 (16777216 : Int64)))])) t → Steps p.tables e below (s₁.setTop (entryFrame m #[(.long q1)] 2)) t := fun t k => k0 t (by
    show Steps p.tables e below (s₁.setTop (mkF m 0 #[.val (.long q1), .second] [])) _
    refine XS.lloadN X0.here hx rfl (hb hby d3_0) rfl ?_
    show Steps p.tables e below (s₁.setTop (mkF m 1 #[.val (.long q1), .second] [(.long q1)])) _
    refine X0.ldc2Long hx hown (mvT hZ (hw _ (List.mem_of_getElem? (i := 18) rfl))) (g := (mkF m 1 #[.val (.long q1), .second] [(.long q1)])) rfl (hb hby d3_1) _ ?_
    show Steps p.tables e below (s₁.setTop (mkF m 4 #[.val (.long q1), .second] [(.long (16777216 : Int64)), (.long q1)])) _
    refine XS.lcmp X0.here hx rfl (hb hby d3_4) rfl ?_
    exact k)
  by_cases c102 : (0 : Int32) < (lcmpW q1 (16777216 : Int64))
  · have k103 : ∀ t, Steps p.tables e below (s₁.setTop (mkF m 15 #[.val (.long q1), .second] [(.int (lcmpW q1 (33554432 : Int64)))])) t → Steps p.tables e below (s₁.setTop (entryFrame m #[(.long q1)] 2)) t := fun t k => k101 t (by
      show Steps p.tables e below (s₁.setTop (mkF m 5 #[.val (.long q1), .second] [(.int (lcmpW q1 (16777216 : Int64)))])) _
      refine XS.ifYes X0.here hx rfl (pc0 := 5) (pc' := 10) rfl (hb hby d3_5) rfl ((if0 _ _).trans (tlt c102).2.2.1) (by decide) (by decide) ?_
      show Steps p.tables e below (s₁.setTop (mkF m 10 #[.val (.long q1), .second] [])) _
      refine XS.lloadN X0.here hx rfl (hb hby d3_10) rfl ?_
      show Steps p.tables e below (s₁.setTop (mkF m 11 #[.val (.long q1), .second] [(.long q1)])) _
      refine X0.ldc2Long hx hown (mvT hZ (hw _ (List.mem_of_getElem? (i := 28) rfl))) (g := (mkF m 11 #[.val (.long q1), .second] [(.long q1)])) rfl (hb hby d3_11) _ ?_
      show Steps p.tables e below (s₁.setTop (mkF m 14 #[.val (.long q1), .second] [(.long (33554432 : Int64)), (.long q1)])) _
      refine XS.lcmp X0.here hx rfl (hb hby d3_14) rfl ?_
      exact k)
    by_cases c104 : (lcmpW q1 (33554432 : Int64)) < (0 : Int32)
    · have k105 : ∀ t, Steps p.tables e below (s₁.setTop (mkF m 21 #[.val (.long q1), .second] [(.long (2 : Int64))])) t → Steps p.tables e below (s₁.setTop (entryFrame m #[(.long q1)] 2)) t := fun t k => k103 t (by
        show Steps p.tables e below (s₁.setTop (mkF m 15 #[.val (.long q1), .second] [(.int (lcmpW q1 (33554432 : Int64)))])) _
        refine XS.ifNo X0.here hx rfl (hb hby d3_15) rfl ((if0 _ _).trans (tlt c104).2.1) ?_
        show Steps p.tables e below (s₁.setTop (mkF m 18 #[.val (.long q1), .second] [])) _
        refine X0.ldc2Long hx hown (mvT hZ (hw _ (List.mem_of_getElem? (i := 22) rfl))) (g := (mkF m 18 #[.val (.long q1), .second] [])) rfl (hb hby d3_18) _ ?_
        exact k)
      obtain ⟨fs, hr, hrun, hended, hW, hsame⟩ := X0.leave (v := some (.long (2 : Int64))) (fun h => by rw [Bd.returns] at h; cases h)
      refine ⟨_, _, k105 _ (retOut X0 hx (t := .long) Bd.returns rfl (Or.inr (Or.inl ⟨rfl, rfl, _, rfl⟩)) (hb hby d3_21) hr), hrun, hended, _, _, rfl, ?_, ⟨_, rfl⟩, hW, hsame.mono (by decide) (by decide)⟩
      show Q_rm3 Z q1 h0 n0 _ s₁.heap _
      rw [e0]
      exact ⟨by unfold own_spc; rw [if_pos c102, if_pos c104], N0, rfl⟩
    · have k106 : ∀ t, Steps p.tables e below (s₁.setTop (mkF m 27 #[.val (.long q1), .second] [(.int (lcmpW q1 (67108864 : Int64)))])) t → Steps p.tables e below (s₁.setTop (entryFrame m #[(.long q1)] 2)) t := fun t k => k103 t (by
        show Steps p.tables e below (s₁.setTop (mkF m 15 #[.val (.long q1), .second] [(.int (lcmpW q1 (33554432 : Int64)))])) _
        refine XS.ifYes X0.here hx rfl (pc0 := 15) (pc' := 22) rfl (hb hby d3_15) rfl ((if0 _ _).trans (flt c104).2.1) (by decide) (by decide) ?_
        show Steps p.tables e below (s₁.setTop (mkF m 22 #[.val (.long q1), .second] [])) _
        refine XS.lloadN X0.here hx rfl (hb hby d3_22) rfl ?_
        show Steps p.tables e below (s₁.setTop (mkF m 23 #[.val (.long q1), .second] [(.long q1)])) _
        refine X0.ldc2Long hx hown (mvT hZ (hw _ (List.mem_of_getElem? (i := 29) rfl))) (g := (mkF m 23 #[.val (.long q1), .second] [(.long q1)])) rfl (hb hby d3_23) _ ?_
        show Steps p.tables e below (s₁.setTop (mkF m 26 #[.val (.long q1), .second] [(.long (67108864 : Int64)), (.long q1)])) _
        refine XS.lcmp X0.here hx rfl (hb hby d3_26) rfl ?_
        exact k)
      by_cases c107 : (lcmpW q1 (67108864 : Int64)) < (0 : Int32)
      · have k108 : ∀ t, Steps p.tables e below (s₁.setTop (mkF m 33 #[.val (.long q1), .second] [(.long (4 : Int64))])) t → Steps p.tables e below (s₁.setTop (entryFrame m #[(.long q1)] 2)) t := fun t k => k106 t (by
          show Steps p.tables e below (s₁.setTop (mkF m 27 #[.val (.long q1), .second] [(.int (lcmpW q1 (67108864 : Int64)))])) _
          refine XS.ifNo X0.here hx rfl (hb hby d3_27) rfl ((if0 _ _).trans (tlt c107).2.1) ?_
          show Steps p.tables e below (s₁.setTop (mkF m 30 #[.val (.long q1), .second] [])) _
          refine X0.ldc2Long hx hown (mvT hZ (hw _ (List.mem_of_getElem? (i := 41) rfl))) (g := (mkF m 30 #[.val (.long q1), .second] [])) rfl (hb hby d3_30) _ ?_
          exact k)
        obtain ⟨fs, hr, hrun, hended, hW, hsame⟩ := X0.leave (v := some (.long (4 : Int64))) (fun h => by rw [Bd.returns] at h; cases h)
        refine ⟨_, _, k108 _ (retOut X0 hx (t := .long) Bd.returns rfl (Or.inr (Or.inl ⟨rfl, rfl, _, rfl⟩)) (hb hby d3_33) hr), hrun, hended, _, _, rfl, ?_, ⟨_, rfl⟩, hW, hsame.mono (by decide) (by decide)⟩
        show Q_rm3 Z q1 h0 n0 _ s₁.heap _
        rw [e0]
        exact ⟨by unfold own_spc; rw [if_pos c102, if_neg c104, if_pos c107], N0, rfl⟩
      · have k109 : ∀ t, Steps p.tables e below (s₁.setTop (mkF m 39 #[.val (.long q1), .second] [(.int (lcmpW q1 (134217728 : Int64)))])) t → Steps p.tables e below (s₁.setTop (entryFrame m #[(.long q1)] 2)) t := fun t k => k106 t (by
          show Steps p.tables e below (s₁.setTop (mkF m 27 #[.val (.long q1), .second] [(.int (lcmpW q1 (67108864 : Int64)))])) _
          refine XS.ifYes X0.here hx rfl (pc0 := 27) (pc' := 34) rfl (hb hby d3_27) rfl ((if0 _ _).trans (flt c107).2.1) (by decide) (by decide) ?_
          show Steps p.tables e below (s₁.setTop (mkF m 34 #[.val (.long q1), .second] [])) _
          refine XS.lloadN X0.here hx rfl (hb hby d3_34) rfl ?_
          show Steps p.tables e below (s₁.setTop (mkF m 35 #[.val (.long q1), .second] [(.long q1)])) _
          refine X0.ldc2Long hx hown (mvT hZ (hw _ (List.mem_of_getElem? (i := 30) rfl))) (g := (mkF m 35 #[.val (.long q1), .second] [(.long q1)])) rfl (hb hby d3_35) _ ?_
          show Steps p.tables e below (s₁.setTop (mkF m 38 #[.val (.long q1), .second] [(.long (134217728 : Int64)), (.long q1)])) _
          refine XS.lcmp X0.here hx rfl (hb hby d3_38) rfl ?_
          exact k)
        by_cases c110 : (lcmpW q1 (134217728 : Int64)) < (0 : Int32)
        · have k111 : ∀ t, Steps p.tables e below (s₁.setTop (mkF m 45 #[.val (.long q1), .second] [(.long (8 : Int64))])) t → Steps p.tables e below (s₁.setTop (entryFrame m #[(.long q1)] 2)) t := fun t k => k109 t (by
            show Steps p.tables e below (s₁.setTop (mkF m 39 #[.val (.long q1), .second] [(.int (lcmpW q1 (134217728 : Int64)))])) _
            refine XS.ifNo X0.here hx rfl (hb hby d3_39) rfl ((if0 _ _).trans (tlt c110).2.1) ?_
            show Steps p.tables e below (s₁.setTop (mkF m 42 #[.val (.long q1), .second] [])) _
            refine X0.ldc2Long hx hown (mvT hZ (hw _ (List.mem_of_getElem? (i := 42) rfl))) (g := (mkF m 42 #[.val (.long q1), .second] [])) rfl (hb hby d3_42) _ ?_
            exact k)
          obtain ⟨fs, hr, hrun, hended, hW, hsame⟩ := X0.leave (v := some (.long (8 : Int64))) (fun h => by rw [Bd.returns] at h; cases h)
          refine ⟨_, _, k111 _ (retOut X0 hx (t := .long) Bd.returns rfl (Or.inr (Or.inl ⟨rfl, rfl, _, rfl⟩)) (hb hby d3_45) hr), hrun, hended, _, _, rfl, ?_, ⟨_, rfl⟩, hW, hsame.mono (by decide) (by decide)⟩
          show Q_rm3 Z q1 h0 n0 _ s₁.heap _
          rw [e0]
          exact ⟨by unfold own_spc; rw [if_pos c102, if_neg c104, if_neg c107, if_pos c110], N0, rfl⟩
        · have k112 : ∀ t, Steps p.tables e below (s₁.setTop (mkF m 51 #[.val (.long q1), .second] [(.int (lcmpW q1 (268435456 : Int64)))])) t → Steps p.tables e below (s₁.setTop (entryFrame m #[(.long q1)] 2)) t := fun t k => k109 t (by
            show Steps p.tables e below (s₁.setTop (mkF m 39 #[.val (.long q1), .second] [(.int (lcmpW q1 (134217728 : Int64)))])) _
            refine XS.ifYes X0.here hx rfl (pc0 := 39) (pc' := 46) rfl (hb hby d3_39) rfl ((if0 _ _).trans (flt c110).2.1) (by decide) (by decide) ?_
            show Steps p.tables e below (s₁.setTop (mkF m 46 #[.val (.long q1), .second] [])) _
            refine XS.lloadN X0.here hx rfl (hb hby d3_46) rfl ?_
            show Steps p.tables e below (s₁.setTop (mkF m 47 #[.val (.long q1), .second] [(.long q1)])) _
            refine X0.ldc2Long hx hown (mvT hZ (hw _ (List.mem_of_getElem? (i := 27) rfl))) (g := (mkF m 47 #[.val (.long q1), .second] [(.long q1)])) rfl (hb hby d3_47) _ ?_
            show Steps p.tables e below (s₁.setTop (mkF m 50 #[.val (.long q1), .second] [(.long (268435456 : Int64)), (.long q1)])) _
            refine XS.lcmp X0.here hx rfl (hb hby d3_50) rfl ?_
            exact k)
          by_cases c113 : (lcmpW q1 (268435456 : Int64)) < (0 : Int32)
          · have k114 : ∀ t, Steps p.tables e below (s₁.setTop (mkF m 57 #[.val (.long q1), .second] [(.long (16 : Int64))])) t → Steps p.tables e below (s₁.setTop (entryFrame m #[(.long q1)] 2)) t := fun t k => k112 t (by
              show Steps p.tables e below (s₁.setTop (mkF m 51 #[.val (.long q1), .second] [(.int (lcmpW q1 (268435456 : Int64)))])) _
              refine XS.ifNo X0.here hx rfl (hb hby d3_51) rfl ((if0 _ _).trans (tlt c113).2.1) ?_
              show Steps p.tables e below (s₁.setTop (mkF m 54 #[.val (.long q1), .second] [])) _
              refine X0.ldc2Long hx hown (mvT hZ (hw _ (List.mem_of_getElem? (i := 38) rfl))) (g := (mkF m 54 #[.val (.long q1), .second] [])) rfl (hb hby d3_54) _ ?_
              exact k)
            obtain ⟨fs, hr, hrun, hended, hW, hsame⟩ := X0.leave (v := some (.long (16 : Int64))) (fun h => by rw [Bd.returns] at h; cases h)
            refine ⟨_, _, k114 _ (retOut X0 hx (t := .long) Bd.returns rfl (Or.inr (Or.inl ⟨rfl, rfl, _, rfl⟩)) (hb hby d3_57) hr), hrun, hended, _, _, rfl, ?_, ⟨_, rfl⟩, hW, hsame.mono (by decide) (by decide)⟩
            show Q_rm3 Z q1 h0 n0 _ s₁.heap _
            rw [e0]
            exact ⟨by unfold own_spc; rw [if_pos c102, if_neg c104, if_neg c107, if_neg c110, if_pos c113], N0, rfl⟩
          · have k115 : ∀ t, Steps p.tables e below (s₁.setTop (mkF m 63 #[.val (.long q1), .second] [(.int (lcmpW q1 (536870912 : Int64)))])) t → Steps p.tables e below (s₁.setTop (entryFrame m #[(.long q1)] 2)) t := fun t k => k112 t (by
              show Steps p.tables e below (s₁.setTop (mkF m 51 #[.val (.long q1), .second] [(.int (lcmpW q1 (268435456 : Int64)))])) _
              refine XS.ifYes X0.here hx rfl (pc0 := 51) (pc' := 58) rfl (hb hby d3_51) rfl ((if0 _ _).trans (flt c113).2.1) (by decide) (by decide) ?_
              show Steps p.tables e below (s₁.setTop (mkF m 58 #[.val (.long q1), .second] [])) _
              refine XS.lloadN X0.here hx rfl (hb hby d3_58) rfl ?_
              show Steps p.tables e below (s₁.setTop (mkF m 59 #[.val (.long q1), .second] [(.long q1)])) _
              refine X0.ldc2Long hx hown (mvT hZ (hw _ (List.mem_of_getElem? (i := 31) rfl))) (g := (mkF m 59 #[.val (.long q1), .second] [(.long q1)])) rfl (hb hby d3_59) _ ?_
              show Steps p.tables e below (s₁.setTop (mkF m 62 #[.val (.long q1), .second] [(.long (536870912 : Int64)), (.long q1)])) _
              refine XS.lcmp X0.here hx rfl (hb hby d3_62) rfl ?_
              exact k)
            by_cases c116 : (lcmpW q1 (536870912 : Int64)) < (0 : Int32)
            · have k117 : ∀ t, Steps p.tables e below (s₁.setTop (mkF m 69 #[.val (.long q1), .second] [(.long (32 : Int64))])) t → Steps p.tables e below (s₁.setTop (entryFrame m #[(.long q1)] 2)) t := fun t k => k115 t (by
                show Steps p.tables e below (s₁.setTop (mkF m 63 #[.val (.long q1), .second] [(.int (lcmpW q1 (536870912 : Int64)))])) _
                refine XS.ifNo X0.here hx rfl (hb hby d3_63) rfl ((if0 _ _).trans (tlt c116).2.1) ?_
                show Steps p.tables e below (s₁.setTop (mkF m 66 #[.val (.long q1), .second] [])) _
                refine X0.ldc2Long hx hown (mvT hZ (hw _ (List.mem_of_getElem? (i := 40) rfl))) (g := (mkF m 66 #[.val (.long q1), .second] [])) rfl (hb hby d3_66) _ ?_
                exact k)
              obtain ⟨fs, hr, hrun, hended, hW, hsame⟩ := X0.leave (v := some (.long (32 : Int64))) (fun h => by rw [Bd.returns] at h; cases h)
              refine ⟨_, _, k117 _ (retOut X0 hx (t := .long) Bd.returns rfl (Or.inr (Or.inl ⟨rfl, rfl, _, rfl⟩)) (hb hby d3_69) hr), hrun, hended, _, _, rfl, ?_, ⟨_, rfl⟩, hW, hsame.mono (by decide) (by decide)⟩
              show Q_rm3 Z q1 h0 n0 _ s₁.heap _
              rw [e0]
              exact ⟨by unfold own_spc; rw [if_pos c102, if_neg c104, if_neg c107, if_neg c110, if_neg c113, if_pos c116], N0, rfl⟩
            · have k118 : ∀ t, Steps p.tables e below (s₁.setTop (mkF m 75 #[.val (.long q1), .second] [(.int (lcmpW q1 (1073741824 : Int64)))])) t → Steps p.tables e below (s₁.setTop (entryFrame m #[(.long q1)] 2)) t := fun t k => k115 t (by
                show Steps p.tables e below (s₁.setTop (mkF m 63 #[.val (.long q1), .second] [(.int (lcmpW q1 (536870912 : Int64)))])) _
                refine XS.ifYes X0.here hx rfl (pc0 := 63) (pc' := 70) rfl (hb hby d3_63) rfl ((if0 _ _).trans (flt c116).2.1) (by decide) (by decide) ?_
                show Steps p.tables e below (s₁.setTop (mkF m 70 #[.val (.long q1), .second] [])) _
                refine XS.lloadN X0.here hx rfl (hb hby d3_70) rfl ?_
                show Steps p.tables e below (s₁.setTop (mkF m 71 #[.val (.long q1), .second] [(.long q1)])) _
                refine X0.ldc2Long hx hown (mvT hZ (hw _ (List.mem_of_getElem? (i := 32) rfl))) (g := (mkF m 71 #[.val (.long q1), .second] [(.long q1)])) rfl (hb hby d3_71) _ ?_
                show Steps p.tables e below (s₁.setTop (mkF m 74 #[.val (.long q1), .second] [(.long (1073741824 : Int64)), (.long q1)])) _
                refine XS.lcmp X0.here hx rfl (hb hby d3_74) rfl ?_
                exact k)
              by_cases c119 : (lcmpW q1 (1073741824 : Int64)) < (0 : Int32)
              · have k120 : ∀ t, Steps p.tables e below (s₁.setTop (mkF m 81 #[.val (.long q1), .second] [(.long (64 : Int64))])) t → Steps p.tables e below (s₁.setTop (entryFrame m #[(.long q1)] 2)) t := fun t k => k118 t (by
                  show Steps p.tables e below (s₁.setTop (mkF m 75 #[.val (.long q1), .second] [(.int (lcmpW q1 (1073741824 : Int64)))])) _
                  refine XS.ifNo X0.here hx rfl (hb hby d3_75) rfl ((if0 _ _).trans (tlt c119).2.1) ?_
                  show Steps p.tables e below (s₁.setTop (mkF m 78 #[.val (.long q1), .second] [])) _
                  refine X0.ldc2Long hx hown (mvT hZ (hw _ (List.mem_of_getElem? (i := 39) rfl))) (g := (mkF m 78 #[.val (.long q1), .second] [])) rfl (hb hby d3_78) _ ?_
                  exact k)
                obtain ⟨fs, hr, hrun, hended, hW, hsame⟩ := X0.leave (v := some (.long (64 : Int64))) (fun h => by rw [Bd.returns] at h; cases h)
                refine ⟨_, _, k120 _ (retOut X0 hx (t := .long) Bd.returns rfl (Or.inr (Or.inl ⟨rfl, rfl, _, rfl⟩)) (hb hby d3_81) hr), hrun, hended, _, _, rfl, ?_, ⟨_, rfl⟩, hW, hsame.mono (by decide) (by decide)⟩
                show Q_rm3 Z q1 h0 n0 _ s₁.heap _
                rw [e0]
                exact ⟨by unfold own_spc; rw [if_pos c102, if_neg c104, if_neg c107, if_neg c110, if_neg c113, if_neg c116, if_pos c119], N0, rfl⟩
              · have k121 : ∀ t, Steps p.tables e below (s₁.setTop (mkF m 87 #[.val (.long q1), .second] [(.int (lcmpW q1 (2147483648 : Int64)))])) t → Steps p.tables e below (s₁.setTop (entryFrame m #[(.long q1)] 2)) t := fun t k => k118 t (by
                  show Steps p.tables e below (s₁.setTop (mkF m 75 #[.val (.long q1), .second] [(.int (lcmpW q1 (1073741824 : Int64)))])) _
                  refine XS.ifYes X0.here hx rfl (pc0 := 75) (pc' := 82) rfl (hb hby d3_75) rfl ((if0 _ _).trans (flt c119).2.1) (by decide) (by decide) ?_
                  show Steps p.tables e below (s₁.setTop (mkF m 82 #[.val (.long q1), .second] [])) _
                  refine XS.lloadN X0.here hx rfl (hb hby d3_82) rfl ?_
                  show Steps p.tables e below (s₁.setTop (mkF m 83 #[.val (.long q1), .second] [(.long q1)])) _
                  refine X0.ldc2Long hx hown (mvT hZ (hw _ (List.mem_of_getElem? (i := 33) rfl))) (g := (mkF m 83 #[.val (.long q1), .second] [(.long q1)])) rfl (hb hby d3_83) _ ?_
                  show Steps p.tables e below (s₁.setTop (mkF m 86 #[.val (.long q1), .second] [(.long (2147483648 : Int64)), (.long q1)])) _
                  refine XS.lcmp X0.here hx rfl (hb hby d3_86) rfl ?_
                  exact k)
                by_cases c122 : (lcmpW q1 (2147483648 : Int64)) < (0 : Int32)
                · have k123 : ∀ t, Steps p.tables e below (s₁.setTop (mkF m 93 #[.val (.long q1), .second] [(.long (128 : Int64))])) t → Steps p.tables e below (s₁.setTop (entryFrame m #[(.long q1)] 2)) t := fun t k => k121 t (by
                    show Steps p.tables e below (s₁.setTop (mkF m 87 #[.val (.long q1), .second] [(.int (lcmpW q1 (2147483648 : Int64)))])) _
                    refine XS.ifNo X0.here hx rfl (hb hby d3_87) rfl ((if0 _ _).trans (tlt c122).2.1) ?_
                    show Steps p.tables e below (s₁.setTop (mkF m 90 #[.val (.long q1), .second] [])) _
                    refine X0.ldc2Long hx hown (mvT hZ (hw _ (List.mem_of_getElem? (i := 34) rfl))) (g := (mkF m 90 #[.val (.long q1), .second] [])) rfl (hb hby d3_90) _ ?_
                    exact k)
                  obtain ⟨fs, hr, hrun, hended, hW, hsame⟩ := X0.leave (v := some (.long (128 : Int64))) (fun h => by rw [Bd.returns] at h; cases h)
                  refine ⟨_, _, k123 _ (retOut X0 hx (t := .long) Bd.returns rfl (Or.inr (Or.inl ⟨rfl, rfl, _, rfl⟩)) (hb hby d3_93) hr), hrun, hended, _, _, rfl, ?_, ⟨_, rfl⟩, hW, hsame.mono (by decide) (by decide)⟩
                  show Q_rm3 Z q1 h0 n0 _ s₁.heap _
                  rw [e0]
                  exact ⟨by unfold own_spc; rw [if_pos c102, if_neg c104, if_neg c107, if_neg c110, if_neg c113, if_neg c116, if_neg c119, if_pos c122], N0, rfl⟩
                · have k124 : ∀ t, Steps p.tables e below (s₁.setTop (mkF m 97 #[.val (.long q1), .second] [(.long (256 : Int64))])) t → Steps p.tables e below (s₁.setTop (entryFrame m #[(.long q1)] 2)) t := fun t k => k121 t (by
                    show Steps p.tables e below (s₁.setTop (mkF m 87 #[.val (.long q1), .second] [(.int (lcmpW q1 (2147483648 : Int64)))])) _
                    refine XS.ifYes X0.here hx rfl (pc0 := 87) (pc' := 94) rfl (hb hby d3_87) rfl ((if0 _ _).trans (flt c122).2.1) (by decide) (by decide) ?_
                    show Steps p.tables e below (s₁.setTop (mkF m 94 #[.val (.long q1), .second] [])) _
                    refine X0.ldc2Long hx hown (mvT hZ (hw _ (List.mem_of_getElem? (i := 36) rfl))) (g := (mkF m 94 #[.val (.long q1), .second] [])) rfl (hb hby d3_94) _ ?_
                    exact k)
                  obtain ⟨fs, hr, hrun, hended, hW, hsame⟩ := X0.leave (v := some (.long (256 : Int64))) (fun h => by rw [Bd.returns] at h; cases h)
                  refine ⟨_, _, k124 _ (retOut X0 hx (t := .long) Bd.returns rfl (Or.inr (Or.inl ⟨rfl, rfl, _, rfl⟩)) (hb hby d3_97) hr), hrun, hended, _, _, rfl, ?_, ⟨_, rfl⟩, hW, hsame.mono (by decide) (by decide)⟩
                  show Q_rm3 Z q1 h0 n0 _ s₁.heap _
                  rw [e0]
                  exact ⟨by unfold own_spc; rw [if_pos c102, if_neg c104, if_neg c107, if_neg c110, if_neg c113, if_neg c116, if_neg c119, if_neg c122], N0, rfl⟩
  · have k125 : ∀ t, Steps p.tables e below (s₁.setTop (mkF m 9 #[.val (.long q1), .second] [(.long (1 : Int64))])) t → Steps p.tables e below (s₁.setTop (entryFrame m #[(.long q1)] 2)) t := fun t k => k101 t (by
      show Steps p.tables e below (s₁.setTop (mkF m 5 #[.val (.long q1), .second] [(.int (lcmpW q1 (16777216 : Int64)))])) _
      refine XS.ifNo X0.here hx rfl (hb hby d3_5) rfl ((if0 _ _).trans (flt c102).2.2.1) ?_
      show Steps p.tables e below (s₁.setTop (mkF m 8 #[.val (.long q1), .second] [])) _
      refine XS.lconst X0.here hx rfl (hb hby d3_8) ?_
      exact k)
    obtain ⟨fs, hr, hrun, hended, hW, hsame⟩ := X0.leave (v := some (.long (1 : Int64))) (fun h => by rw [Bd.returns] at h; cases h)
    refine ⟨_, _, k125 _ (retOut X0 hx (t := .long) Bd.returns rfl (Or.inr (Or.inl ⟨rfl, rfl, _, rfl⟩)) (hb hby d3_9) hr), hrun, hended, _, _, rfl, ?_, ⟨_, rfl⟩, hW, hsame.mono (by decide) (by decide)⟩
    show Q_rm3 Z q1 h0 n0 _ s₁.heap _
    rw [e0]
    exact ⟨by unfold own_spc; rw [if_neg c102], N0, rfl⟩
theorem ef_4_JJ (m : MethodId) (x0 : Int64) (x1 : Int64) : entryFrame m #[(.long x0), (.long x1)] 8 = mkF m 0 #[.val (.long x0), .second, .val (.long x1), .second, .unset, .unset, .unset, .unset] [] := by first | (simp [entryFrame, mkF, argsToLocals, Value.category]; done) | rfl
theorem d4_0 : decode method_4_code 0 = .ok (.lload_n 0, 1) := by decide +kernel
theorem d4_1 : decode method_4_code 1 = .ok (.lload_n 2, 1) := by decide +kernel
theorem d4_2 : decode method_4_code 2 = .ok (.ldiv, 1) := by decide +kernel
theorem d4_3 : decode method_4_code 3 = .ok (.lload_n 2, 1) := by decide +kernel
theorem d4_4 : decode method_4_code 4 = .ok (.lmul, 1) := by decide +kernel
theorem d4_5 : decode method_4_code 5 = .ok (.lstore 4, 2) := by decide +kernel
theorem d4_7 : decode method_4_code 7 = .ok (.lload_n 0, 1) := by decide +kernel
theorem d4_8 : decode method_4_code 8 = .ok (.lload 4, 2) := by decide +kernel
theorem d4_10 : decode method_4_code 10 = .ok (.lsub, 1) := by decide +kernel
theorem d4_11 : decode method_4_code 11 = .ok (.lstore 6, 2) := by decide +kernel
theorem d4_13 : decode method_4_code 13 = .ok (.ldc2_w 53, 3) := by decide +kernel
theorem d4_16 : decode method_4_code 16 = .ok (.lload 6, 2) := by decide +kernel
theorem d4_18 : decode method_4_code 18 = .ok (.lmul, 1) := by decide +kernel
theorem d4_19 : decode method_4_code 19 = .ok (.lload_n 2, 1) := by decide +kernel
theorem d4_20 : decode method_4_code 20 = .ok (.lcmp, 1) := by decide +kernel
theorem d4_21 : decode method_4_code 21 = .ok (.ifCond .le 8, 3) := by decide +kernel
theorem d4_24 : decode method_4_code 24 = .ok (.lload 4, 2) := by decide +kernel
theorem d4_26 : decode method_4_code 26 = .ok (.lload_n 2, 1) := by decide +kernel
theorem d4_27 : decode method_4_code 27 = .ok (.ladd, 1) := by decide +kernel
theorem d4_28 : decode method_4_code 28 = .ok (.lreturn, 1) := by decide +kernel
theorem d4_29 : decode method_4_code 29 = .ok (.ldc2_w 53, 3) := by decide +kernel
theorem d4_32 : decode method_4_code 32 = .ok (.lload 6, 2) := by decide +kernel
theorem d4_34 : decode method_4_code 34 = .ok (.lmul, 1) := by decide +kernel
theorem d4_35 : decode method_4_code 35 = .ok (.lload_n 2, 1) := by decide +kernel
theorem d4_36 : decode method_4_code 36 = .ok (.lcmp, 1) := by decide +kernel
theorem d4_37 : decode method_4_code 37 = .ok (.ifCond .ge 6, 3) := by decide +kernel
theorem d4_40 : decode method_4_code 40 = .ok (.lload 4, 2) := by decide +kernel
theorem d4_42 : decode method_4_code 42 = .ok (.lreturn, 1) := by decide +kernel
theorem d4_43 : decode method_4_code 43 = .ok (.lload 4, 2) := by decide +kernel
theorem d4_45 : decode method_4_code 45 = .ok (.lload_n 2, 1) := by decide +kernel
theorem d4_46 : decode method_4_code 46 = .ok (.ldiv, 1) := by decide +kernel
theorem d4_47 : decode method_4_code 47 = .ok (.lconst 1, 1) := by decide +kernel
theorem d4_48 : decode method_4_code 48 = .ok (.land, 1) := by decide +kernel
theorem d4_49 : decode method_4_code 49 = .ok (.lconst 0, 1) := by decide +kernel
theorem d4_50 : decode method_4_code 50 = .ok (.lcmp, 1) := by decide +kernel
theorem d4_51 : decode method_4_code 51 = .ok (.ifCond .ne 8, 3) := by decide +kernel
theorem d4_54 : decode method_4_code 54 = .ok (.lload 4, 2) := by decide +kernel
theorem d4_56 : decode method_4_code 56 = .ok (.goto 7, 3) := by decide +kernel
theorem d4_63 : decode method_4_code 63 = .ok (.lreturn, 1) := by decide +kernel
theorem d4_59 : decode method_4_code 59 = .ok (.lload 4, 2) := by decide +kernel
theorem d4_61 : decode method_4_code 61 = .ok (.lload_n 2, 1) := by decide +kernel
theorem d4_62 : decode method_4_code 62 = .ok (.ladd, 1) := by decide +kernel
def Q_rm4 (Z : State) (q1 : Int64) (q2 : Int64) (h0 : Heap) (n0 : Nat) (v : Option Value) (h : Heap) (L : List Loc) : Prop := v = some (.long (own_nmu q1 q2)) ∧ Fr n0 L ∧ h = h0
set_option maxRecDepth 65536 in
set_option maxHeartbeats 40000000 in
theorem rm4 (l : Launch) (Z : State) (a0 : Array Value) (hw : ∀ d ∈ tables_1, d.before a0 Z = true) (ws : List Jvm.Cond) (q1 : Int64) (q2 : Int64) (h0 : Heap) (n0 : Nat) (Z0 : n0 ≤ h0.size) (hz : q2 ≠ 0) :
    MetFree l (⟨"com/example/liblocus/liblocus/trec/ScorePrecisionOfPinLaw", "nearestMultiple", "(JJ)J"⟩ : MethodName) (head1 (Jvm.Cond.code (⟨"com/example/liblocus/liblocus/trec/ScorePrecisionOfPinLaw", "nearestMultiple", "(JJ)J"⟩ : MethodName) method_4_code 8 (some .long) :: ws) ({ frames := 0, cells := 0, slots := 0, locals := 0 } : Room)) (fun a U => a = #[(.long q1), (.long q2)] ∧ Z.Warmed39 U.vm ∧ U.heap = h0) (fun _ _ _ _ _ => True) (fun _ U o U' => ∃ v L, o = .returned v ∧ Q_rm4 Z q1 q2 h0 n0 v U'.heap L ∧ FrameEnd U o U' L ({ frames := 0, cells := 0, slots := 0, locals := 0 } : Room).cells ({ frames := 0, cells := 0, slots := 0, locals := 0 } : Room).slots) := by
  refine MetFree.of_bodySF (plainFor_of_name pn_com_2fexample_2fliblocus_2fliblocus_2ftrec_2fScorePrecisionOfPinLaw) hisR ?_
  intro p e s m args below meth c s₁ Bd hml0 hP hK
  obtain ⟨rfl, hZ, hh⟩ := hP
  have hx := Bd.exec
  have hby := Bd.bytes
  have hml : c.maxLocals = 8 := hml0
  have hown : s.vm.findClass "com/example/liblocus/liblocus/trec/ScorePrecisionOfPinLaw" = some m.cls := findClass_of_methodNamed Bd.named
  have hnm := (name_of_methodNamed Bd.named Bd.method).1
  have X0 : Stand p l e ({ frames := 0, cells := 0, slots := 0, locals := 0 } : Room) s m #[(.long q1), (.long q2)] below meth c s₁ [] 0 0 := Stand.of_body Bd
  have e0 : s₁.heap = h0 := by rw [← hh, Bd.state]; rfl
  have N0 := Fr.nil n0
  have k0 : ∀ t, Steps p.tables e below (s₁.setTop (mkF m 0 #[.val (.long q1), .second, .val (.long q2), .second, .unset, .unset, .unset, .unset] [])) t → Steps p.tables e below (s₁.setTop (entryFrame m #[(.long q1), (.long q2)] 8)) t := fun t k => castTop (ef_4_JJ m q1 q2) k
  have k101 : ∀ t, Steps p.tables e below (s₁.setTop (mkF m 21 #[.val (.long q1), .second, .val (.long q2), .second, .val (.long ((q1 / q2) * q2)), .second, .val (.long (q1 - ((q1 / q2) * q2))), .second] [(.int (lcmpW ((2 : Int64) * (q1 - ((q1 / q2) * q2))) q2))])) t → Steps p.tables e below (s₁.setTop (entryFrame m #[(.long q1), (.long q2)] 8)) t := fun t k => k0 t (by
    show Steps p.tables e below (s₁.setTop (mkF m 0 #[.val (.long q1), .second, .val (.long q2), .second, .unset, .unset, .unset, .unset] [])) _
    refine XS.lloadN X0.here hx rfl (hb hby d4_0) rfl ?_
    show Steps p.tables e below (s₁.setTop (mkF m 1 #[.val (.long q1), .second, .val (.long q2), .second, .unset, .unset, .unset, .unset] [(.long q1)])) _
    refine XS.lloadN X0.here hx rfl (hb hby d4_1) rfl ?_
    show Steps p.tables e below (s₁.setTop (mkF m 2 #[.val (.long q1), .second, .val (.long q2), .second, .unset, .unset, .unset, .unset] [(.long q2), (.long q1)])) _
    refine XS.ldiv X0.here hx rfl (hb hby d4_2) rfl hz ?_
    show Steps p.tables e below (s₁.setTop (mkF m 3 #[.val (.long q1), .second, .val (.long q2), .second, .unset, .unset, .unset, .unset] [(.long (q1 / q2))])) _
    refine XS.lloadN X0.here hx rfl (hb hby d4_3) rfl ?_
    show Steps p.tables e below (s₁.setTop (mkF m 4 #[.val (.long q1), .second, .val (.long q2), .second, .unset, .unset, .unset, .unset] [(.long q2), (.long (q1 / q2))])) _
    refine XS.lmul X0.here hx rfl (hb hby d4_4) rfl ?_
    show Steps p.tables e below (s₁.setTop (mkF m 5 #[.val (.long q1), .second, .val (.long q2), .second, .unset, .unset, .unset, .unset] [(.long ((q1 / q2) * q2))])) _
    refine XS.lstore X0.here hx rfl (hb hby d4_5) rfl (l' := #[.val (.long q1), .second, .val (.long q2), .second, .val (.long ((q1 / q2) * q2)), .second, .unset, .unset]) rfl ?_
    show Steps p.tables e below (s₁.setTop (mkF m 7 #[.val (.long q1), .second, .val (.long q2), .second, .val (.long ((q1 / q2) * q2)), .second, .unset, .unset] [])) _
    refine XS.lloadN X0.here hx rfl (hb hby d4_7) rfl ?_
    show Steps p.tables e below (s₁.setTop (mkF m 8 #[.val (.long q1), .second, .val (.long q2), .second, .val (.long ((q1 / q2) * q2)), .second, .unset, .unset] [(.long q1)])) _
    refine XS.lload X0.here hx rfl (hb hby d4_8) rfl ?_
    show Steps p.tables e below (s₁.setTop (mkF m 10 #[.val (.long q1), .second, .val (.long q2), .second, .val (.long ((q1 / q2) * q2)), .second, .unset, .unset] [(.long ((q1 / q2) * q2)), (.long q1)])) _
    refine XS.lsub X0.here hx rfl (hb hby d4_10) rfl ?_
    show Steps p.tables e below (s₁.setTop (mkF m 11 #[.val (.long q1), .second, .val (.long q2), .second, .val (.long ((q1 / q2) * q2)), .second, .unset, .unset] [(.long (q1 - ((q1 / q2) * q2)))])) _
    refine XS.lstore X0.here hx rfl (hb hby d4_11) rfl (l' := #[.val (.long q1), .second, .val (.long q2), .second, .val (.long ((q1 / q2) * q2)), .second, .val (.long (q1 - ((q1 / q2) * q2))), .second]) rfl ?_
    show Steps p.tables e below (s₁.setTop (mkF m 13 #[.val (.long q1), .second, .val (.long q2), .second, .val (.long ((q1 / q2) * q2)), .second, .val (.long (q1 - ((q1 / q2) * q2))), .second] [])) _
    refine X0.ldc2Long hx hown (mvT hZ (hw _ (List.mem_of_getElem? (i := 22) rfl))) (g := (mkF m 13 #[.val (.long q1), .second, .val (.long q2), .second, .val (.long ((q1 / q2) * q2)), .second, .val (.long (q1 - ((q1 / q2) * q2))), .second] [])) rfl (hb hby d4_13) _ ?_
    show Steps p.tables e below (s₁.setTop (mkF m 16 #[.val (.long q1), .second, .val (.long q2), .second, .val (.long ((q1 / q2) * q2)), .second, .val (.long (q1 - ((q1 / q2) * q2))), .second] [(.long (2 : Int64))])) _
    refine XS.lload X0.here hx rfl (hb hby d4_16) rfl ?_
    show Steps p.tables e below (s₁.setTop (mkF m 18 #[.val (.long q1), .second, .val (.long q2), .second, .val (.long ((q1 / q2) * q2)), .second, .val (.long (q1 - ((q1 / q2) * q2))), .second] [(.long (q1 - ((q1 / q2) * q2))), (.long (2 : Int64))])) _
    refine XS.lmul X0.here hx rfl (hb hby d4_18) rfl ?_
    show Steps p.tables e below (s₁.setTop (mkF m 19 #[.val (.long q1), .second, .val (.long q2), .second, .val (.long ((q1 / q2) * q2)), .second, .val (.long (q1 - ((q1 / q2) * q2))), .second] [(.long ((2 : Int64) * (q1 - ((q1 / q2) * q2))))])) _
    refine XS.lloadN X0.here hx rfl (hb hby d4_19) rfl ?_
    show Steps p.tables e below (s₁.setTop (mkF m 20 #[.val (.long q1), .second, .val (.long q2), .second, .val (.long ((q1 / q2) * q2)), .second, .val (.long (q1 - ((q1 / q2) * q2))), .second] [(.long q2), (.long ((2 : Int64) * (q1 - ((q1 / q2) * q2))))])) _
    refine XS.lcmp X0.here hx rfl (hb hby d4_20) rfl ?_
    exact k)
  by_cases c102 : (0 : Int32) < (lcmpW ((2 : Int64) * (q1 - ((q1 / q2) * q2))) q2)
  · have k103 : ∀ t, Steps p.tables e below (s₁.setTop (mkF m 28 #[.val (.long q1), .second, .val (.long q2), .second, .val (.long ((q1 / q2) * q2)), .second, .val (.long (q1 - ((q1 / q2) * q2))), .second] [(.long (((q1 / q2) * q2) + q2))])) t → Steps p.tables e below (s₁.setTop (entryFrame m #[(.long q1), (.long q2)] 8)) t := fun t k => k101 t (by
      show Steps p.tables e below (s₁.setTop (mkF m 21 #[.val (.long q1), .second, .val (.long q2), .second, .val (.long ((q1 / q2) * q2)), .second, .val (.long (q1 - ((q1 / q2) * q2))), .second] [(.int (lcmpW ((2 : Int64) * (q1 - ((q1 / q2) * q2))) q2))])) _
      refine XS.ifNo X0.here hx rfl (hb hby d4_21) rfl ((if0 _ _).trans (tlt c102).2.2.2) ?_
      show Steps p.tables e below (s₁.setTop (mkF m 24 #[.val (.long q1), .second, .val (.long q2), .second, .val (.long ((q1 / q2) * q2)), .second, .val (.long (q1 - ((q1 / q2) * q2))), .second] [])) _
      refine XS.lload X0.here hx rfl (hb hby d4_24) rfl ?_
      show Steps p.tables e below (s₁.setTop (mkF m 26 #[.val (.long q1), .second, .val (.long q2), .second, .val (.long ((q1 / q2) * q2)), .second, .val (.long (q1 - ((q1 / q2) * q2))), .second] [(.long ((q1 / q2) * q2))])) _
      refine XS.lloadN X0.here hx rfl (hb hby d4_26) rfl ?_
      show Steps p.tables e below (s₁.setTop (mkF m 27 #[.val (.long q1), .second, .val (.long q2), .second, .val (.long ((q1 / q2) * q2)), .second, .val (.long (q1 - ((q1 / q2) * q2))), .second] [(.long q2), (.long ((q1 / q2) * q2))])) _
      refine XS.ladd X0.here hx rfl (hb hby d4_27) rfl ?_
      exact k)
    obtain ⟨fs, hr, hrun, hended, hW, hsame⟩ := X0.leave (v := some (.long (((q1 / q2) * q2) + q2))) (fun h => by rw [Bd.returns] at h; cases h)
    refine ⟨_, _, k103 _ (retOut X0 hx (t := .long) Bd.returns rfl (Or.inr (Or.inl ⟨rfl, rfl, _, rfl⟩)) (hb hby d4_28) hr), hrun, hended, _, _, rfl, ?_, ⟨_, rfl⟩, hW, hsame.mono (by decide) (by decide)⟩
    show Q_rm4 Z q1 q2 h0 n0 _ s₁.heap _
    rw [e0]
    exact ⟨by unfold own_nmu; rw [if_pos c102], N0, rfl⟩
  · have k104 : ∀ t, Steps p.tables e below (s₁.setTop (mkF m 37 #[.val (.long q1), .second, .val (.long q2), .second, .val (.long ((q1 / q2) * q2)), .second, .val (.long (q1 - ((q1 / q2) * q2))), .second] [(.int (lcmpW ((2 : Int64) * (q1 - ((q1 / q2) * q2))) q2))])) t → Steps p.tables e below (s₁.setTop (entryFrame m #[(.long q1), (.long q2)] 8)) t := fun t k => k101 t (by
      show Steps p.tables e below (s₁.setTop (mkF m 21 #[.val (.long q1), .second, .val (.long q2), .second, .val (.long ((q1 / q2) * q2)), .second, .val (.long (q1 - ((q1 / q2) * q2))), .second] [(.int (lcmpW ((2 : Int64) * (q1 - ((q1 / q2) * q2))) q2))])) _
      refine XS.ifYes X0.here hx rfl (pc0 := 21) (pc' := 29) rfl (hb hby d4_21) rfl ((if0 _ _).trans (flt c102).2.2.2) (by decide) (by decide) ?_
      show Steps p.tables e below (s₁.setTop (mkF m 29 #[.val (.long q1), .second, .val (.long q2), .second, .val (.long ((q1 / q2) * q2)), .second, .val (.long (q1 - ((q1 / q2) * q2))), .second] [])) _
      refine X0.ldc2Long hx hown (mvT hZ (hw _ (List.mem_of_getElem? (i := 22) rfl))) (g := (mkF m 29 #[.val (.long q1), .second, .val (.long q2), .second, .val (.long ((q1 / q2) * q2)), .second, .val (.long (q1 - ((q1 / q2) * q2))), .second] [])) rfl (hb hby d4_29) _ ?_
      show Steps p.tables e below (s₁.setTop (mkF m 32 #[.val (.long q1), .second, .val (.long q2), .second, .val (.long ((q1 / q2) * q2)), .second, .val (.long (q1 - ((q1 / q2) * q2))), .second] [(.long (2 : Int64))])) _
      refine XS.lload X0.here hx rfl (hb hby d4_32) rfl ?_
      show Steps p.tables e below (s₁.setTop (mkF m 34 #[.val (.long q1), .second, .val (.long q2), .second, .val (.long ((q1 / q2) * q2)), .second, .val (.long (q1 - ((q1 / q2) * q2))), .second] [(.long (q1 - ((q1 / q2) * q2))), (.long (2 : Int64))])) _
      refine XS.lmul X0.here hx rfl (hb hby d4_34) rfl ?_
      show Steps p.tables e below (s₁.setTop (mkF m 35 #[.val (.long q1), .second, .val (.long q2), .second, .val (.long ((q1 / q2) * q2)), .second, .val (.long (q1 - ((q1 / q2) * q2))), .second] [(.long ((2 : Int64) * (q1 - ((q1 / q2) * q2))))])) _
      refine XS.lloadN X0.here hx rfl (hb hby d4_35) rfl ?_
      show Steps p.tables e below (s₁.setTop (mkF m 36 #[.val (.long q1), .second, .val (.long q2), .second, .val (.long ((q1 / q2) * q2)), .second, .val (.long (q1 - ((q1 / q2) * q2))), .second] [(.long q2), (.long ((2 : Int64) * (q1 - ((q1 / q2) * q2))))])) _
      refine XS.lcmp X0.here hx rfl (hb hby d4_36) rfl ?_
      exact k)
    by_cases c105 : (lcmpW ((2 : Int64) * (q1 - ((q1 / q2) * q2))) q2) < (0 : Int32)
    · have k106 : ∀ t, Steps p.tables e below (s₁.setTop (mkF m 42 #[.val (.long q1), .second, .val (.long q2), .second, .val (.long ((q1 / q2) * q2)), .second, .val (.long (q1 - ((q1 / q2) * q2))), .second] [(.long ((q1 / q2) * q2))])) t → Steps p.tables e below (s₁.setTop (entryFrame m #[(.long q1), (.long q2)] 8)) t := fun t k => k104 t (by
        show Steps p.tables e below (s₁.setTop (mkF m 37 #[.val (.long q1), .second, .val (.long q2), .second, .val (.long ((q1 / q2) * q2)), .second, .val (.long (q1 - ((q1 / q2) * q2))), .second] [(.int (lcmpW ((2 : Int64) * (q1 - ((q1 / q2) * q2))) q2))])) _
        refine XS.ifNo X0.here hx rfl (hb hby d4_37) rfl ((if0 _ _).trans (tlt c105).2.1) ?_
        show Steps p.tables e below (s₁.setTop (mkF m 40 #[.val (.long q1), .second, .val (.long q2), .second, .val (.long ((q1 / q2) * q2)), .second, .val (.long (q1 - ((q1 / q2) * q2))), .second] [])) _
        refine XS.lload X0.here hx rfl (hb hby d4_40) rfl ?_
        exact k)
      obtain ⟨fs, hr, hrun, hended, hW, hsame⟩ := X0.leave (v := some (.long ((q1 / q2) * q2))) (fun h => by rw [Bd.returns] at h; cases h)
      refine ⟨_, _, k106 _ (retOut X0 hx (t := .long) Bd.returns rfl (Or.inr (Or.inl ⟨rfl, rfl, _, rfl⟩)) (hb hby d4_42) hr), hrun, hended, _, _, rfl, ?_, ⟨_, rfl⟩, hW, hsame.mono (by decide) (by decide)⟩
      show Q_rm4 Z q1 q2 h0 n0 _ s₁.heap _
      rw [e0]
      exact ⟨by unfold own_nmu; rw [if_neg c102, if_pos c105], N0, rfl⟩
    · have k107 : ∀ t, Steps p.tables e below (s₁.setTop (mkF m 51 #[.val (.long q1), .second, .val (.long q2), .second, .val (.long ((q1 / q2) * q2)), .second, .val (.long (q1 - ((q1 / q2) * q2))), .second] [(.int (lcmpW ((((q1 / q2) * q2) / q2) &&& (1 : Int64)) (0 : Int64)))])) t → Steps p.tables e below (s₁.setTop (entryFrame m #[(.long q1), (.long q2)] 8)) t := fun t k => k104 t (by
        show Steps p.tables e below (s₁.setTop (mkF m 37 #[.val (.long q1), .second, .val (.long q2), .second, .val (.long ((q1 / q2) * q2)), .second, .val (.long (q1 - ((q1 / q2) * q2))), .second] [(.int (lcmpW ((2 : Int64) * (q1 - ((q1 / q2) * q2))) q2))])) _
        refine XS.ifYes X0.here hx rfl (pc0 := 37) (pc' := 43) rfl (hb hby d4_37) rfl ((if0 _ _).trans (flt c105).2.1) (by decide) (by decide) ?_
        show Steps p.tables e below (s₁.setTop (mkF m 43 #[.val (.long q1), .second, .val (.long q2), .second, .val (.long ((q1 / q2) * q2)), .second, .val (.long (q1 - ((q1 / q2) * q2))), .second] [])) _
        refine XS.lload X0.here hx rfl (hb hby d4_43) rfl ?_
        show Steps p.tables e below (s₁.setTop (mkF m 45 #[.val (.long q1), .second, .val (.long q2), .second, .val (.long ((q1 / q2) * q2)), .second, .val (.long (q1 - ((q1 / q2) * q2))), .second] [(.long ((q1 / q2) * q2))])) _
        refine XS.lloadN X0.here hx rfl (hb hby d4_45) rfl ?_
        show Steps p.tables e below (s₁.setTop (mkF m 46 #[.val (.long q1), .second, .val (.long q2), .second, .val (.long ((q1 / q2) * q2)), .second, .val (.long (q1 - ((q1 / q2) * q2))), .second] [(.long q2), (.long ((q1 / q2) * q2))])) _
        refine XS.ldiv X0.here hx rfl (hb hby d4_46) rfl hz ?_
        show Steps p.tables e below (s₁.setTop (mkF m 47 #[.val (.long q1), .second, .val (.long q2), .second, .val (.long ((q1 / q2) * q2)), .second, .val (.long (q1 - ((q1 / q2) * q2))), .second] [(.long (((q1 / q2) * q2) / q2))])) _
        refine XS.lconst X0.here hx rfl (hb hby d4_47) ?_
        show Steps p.tables e below (s₁.setTop (mkF m 48 #[.val (.long q1), .second, .val (.long q2), .second, .val (.long ((q1 / q2) * q2)), .second, .val (.long (q1 - ((q1 / q2) * q2))), .second] [(.long (1 : Int64)), (.long (((q1 / q2) * q2) / q2))])) _
        refine XS.land X0.here hx rfl (hb hby d4_48) rfl ?_
        show Steps p.tables e below (s₁.setTop (mkF m 49 #[.val (.long q1), .second, .val (.long q2), .second, .val (.long ((q1 / q2) * q2)), .second, .val (.long (q1 - ((q1 / q2) * q2))), .second] [(.long ((((q1 / q2) * q2) / q2) &&& (1 : Int64)))])) _
        refine XS.lconst X0.here hx rfl (hb hby d4_49) ?_
        show Steps p.tables e below (s₁.setTop (mkF m 50 #[.val (.long q1), .second, .val (.long q2), .second, .val (.long ((q1 / q2) * q2)), .second, .val (.long (q1 - ((q1 / q2) * q2))), .second] [(.long (0 : Int64)), (.long ((((q1 / q2) * q2) / q2) &&& (1 : Int64)))])) _
        refine XS.lcmp X0.here hx rfl (hb hby d4_50) rfl ?_
        exact k)
      by_cases c108 : (lcmpW ((((q1 / q2) * q2) / q2) &&& (1 : Int64)) (0 : Int64)) = (0 : Int32)
      · have k109 : ∀ t, Steps p.tables e below (s₁.setTop (mkF m 63 #[.val (.long q1), .second, .val (.long q2), .second, .val (.long ((q1 / q2) * q2)), .second, .val (.long (q1 - ((q1 / q2) * q2))), .second] [(.long ((q1 / q2) * q2))])) t → Steps p.tables e below (s₁.setTop (entryFrame m #[(.long q1), (.long q2)] 8)) t := fun t k => k107 t (by
          show Steps p.tables e below (s₁.setTop (mkF m 51 #[.val (.long q1), .second, .val (.long q2), .second, .val (.long ((q1 / q2) * q2)), .second, .val (.long (q1 - ((q1 / q2) * q2))), .second] [(.int (lcmpW ((((q1 / q2) * q2) / q2) &&& (1 : Int64)) (0 : Int64)))])) _
          refine XS.ifNo X0.here hx rfl (hb hby d4_51) rfl ((if0 _ _).trans (teq c108).2) ?_
          show Steps p.tables e below (s₁.setTop (mkF m 54 #[.val (.long q1), .second, .val (.long q2), .second, .val (.long ((q1 / q2) * q2)), .second, .val (.long (q1 - ((q1 / q2) * q2))), .second] [])) _
          refine XS.lload X0.here hx rfl (hb hby d4_54) rfl ?_
          show Steps p.tables e below (s₁.setTop (mkF m 56 #[.val (.long q1), .second, .val (.long q2), .second, .val (.long ((q1 / q2) * q2)), .second, .val (.long (q1 - ((q1 / q2) * q2))), .second] [(.long ((q1 / q2) * q2))])) _
          refine XS.goto X0.here hx rfl (pc0 := 56) (pc' := 63) rfl (hb hby d4_56) (by decide) (by decide) ?_
          exact k)
        obtain ⟨fs, hr, hrun, hended, hW, hsame⟩ := X0.leave (v := some (.long ((q1 / q2) * q2))) (fun h => by rw [Bd.returns] at h; cases h)
        refine ⟨_, _, k109 _ (retOut X0 hx (t := .long) Bd.returns rfl (Or.inr (Or.inl ⟨rfl, rfl, _, rfl⟩)) (hb hby d4_63) hr), hrun, hended, _, _, rfl, ?_, ⟨_, rfl⟩, hW, hsame.mono (by decide) (by decide)⟩
        show Q_rm4 Z q1 q2 h0 n0 _ s₁.heap _
        rw [e0]
        exact ⟨by unfold own_nmu; rw [if_neg c102, if_neg c105, if_pos c108], N0, rfl⟩
      · have k110 : ∀ t, Steps p.tables e below (s₁.setTop (mkF m 63 #[.val (.long q1), .second, .val (.long q2), .second, .val (.long ((q1 / q2) * q2)), .second, .val (.long (q1 - ((q1 / q2) * q2))), .second] [(.long (((q1 / q2) * q2) + q2))])) t → Steps p.tables e below (s₁.setTop (entryFrame m #[(.long q1), (.long q2)] 8)) t := fun t k => k107 t (by
          show Steps p.tables e below (s₁.setTop (mkF m 51 #[.val (.long q1), .second, .val (.long q2), .second, .val (.long ((q1 / q2) * q2)), .second, .val (.long (q1 - ((q1 / q2) * q2))), .second] [(.int (lcmpW ((((q1 / q2) * q2) / q2) &&& (1 : Int64)) (0 : Int64)))])) _
          refine XS.ifYes X0.here hx rfl (pc0 := 51) (pc' := 59) rfl (hb hby d4_51) rfl ((if0 _ _).trans (feq c108).2) (by decide) (by decide) ?_
          show Steps p.tables e below (s₁.setTop (mkF m 59 #[.val (.long q1), .second, .val (.long q2), .second, .val (.long ((q1 / q2) * q2)), .second, .val (.long (q1 - ((q1 / q2) * q2))), .second] [])) _
          refine XS.lload X0.here hx rfl (hb hby d4_59) rfl ?_
          show Steps p.tables e below (s₁.setTop (mkF m 61 #[.val (.long q1), .second, .val (.long q2), .second, .val (.long ((q1 / q2) * q2)), .second, .val (.long (q1 - ((q1 / q2) * q2))), .second] [(.long ((q1 / q2) * q2))])) _
          refine XS.lloadN X0.here hx rfl (hb hby d4_61) rfl ?_
          show Steps p.tables e below (s₁.setTop (mkF m 62 #[.val (.long q1), .second, .val (.long q2), .second, .val (.long ((q1 / q2) * q2)), .second, .val (.long (q1 - ((q1 / q2) * q2))), .second] [(.long q2), (.long ((q1 / q2) * q2))])) _
          refine XS.ladd X0.here hx rfl (hb hby d4_62) rfl ?_
          exact k)
        obtain ⟨fs, hr, hrun, hended, hW, hsame⟩ := X0.leave (v := some (.long (((q1 / q2) * q2) + q2))) (fun h => by rw [Bd.returns] at h; cases h)
        refine ⟨_, _, k110 _ (retOut X0 hx (t := .long) Bd.returns rfl (Or.inr (Or.inl ⟨rfl, rfl, _, rfl⟩)) (hb hby d4_63) hr), hrun, hended, _, _, rfl, ?_, ⟨_, rfl⟩, hW, hsame.mono (by decide) (by decide)⟩
        show Q_rm4 Z q1 q2 h0 n0 _ s₁.heap _
        rw [e0]
        exact ⟨by unfold own_nmu; rw [if_neg c102, if_neg c105, if_neg c108], N0, rfl⟩
theorem ef_0_II (m : MethodId) (x0 : Int32) (x1 : Int32) : entryFrame m #[(.int x0), (.int x1)] maxLocals = mkF m 0 #[.val (.int x0), .val (.int x1), .unset, .unset, .unset, .unset, .unset, .unset, .unset, .unset, .unset, .unset, .unset, .unset, .unset, .unset, .unset, .unset, .unset, .unset, .unset] [] := by first | (simp [entryFrame, mkF, argsToLocals, Value.category, maxLocals]; done) | rfl
theorem pd__28D_29D : parseMethodDescriptor "(D)D" = some ⟨[.double], some .double⟩ := by decide +kernel
theorem pd__28J_29J : parseMethodDescriptor "(J)J" = some ⟨[.long], some .long⟩ := by decide +kernel
theorem pd__28JJ_29J : parseMethodDescriptor "(JJ)J" = some ⟨[.long, .long], some .long⟩ := by decide +kernel
def Q_rm0 (Z : State) (p1 : Int32) (p2 : Int32) (fa : Addr) (fb : Addr) (h0 : Heap) (n0 : Nat) (v : Option Value) (h : Heap) (L : List Loc) : Prop := v = some (.int 1) ∧ Fr n0 L
set_option maxRecDepth 65536 in
set_option maxHeartbeats 40000000 in
theorem rm0 (l : Launch) (Z : State) (a0 : Array Value) (hw : ∀ d ∈ tables_1, d.before a0 Z = true) (ws : List Jvm.Cond) (p1 : Int32) (p2 : Int32) (fa : Addr) (fb : Addr) (h0 : Heap) (n0 : Nat) (Z0 : n0 ≤ h0.size) (Sa : Sta Z h0 "com/example/liblocus/liblocus/trec/Run$ScorePrecision" "FLOAT" "Lcom/example/liblocus/liblocus/trec/Run$ScorePrecision;" (.ref fa)) (Sb : Sta Z h0 "com/example/liblocus/liblocus/trec/Run$ScorePrecision" "DOUBLE" "Lcom/example/liblocus/liblocus/trec/Run$ScorePrecision;" (.ref fb)) (Ea : Exa Z h0 fa "com/example/liblocus/liblocus/trec/Run$ScorePrecision") (Eb : Exa Z h0 fb "com/example/liblocus/liblocus/trec/Run$ScorePrecision") (hne : fb ≠ fa) :
    MetFree l x (head1 (Jvm.Cond.code x code maxLocals ret :: ws) room_1) (fun a U => a = #[(.int p1), (.int p2)] ∧ Z.Warmed39 U.vm ∧ U.heap = h0) (fun _ _ _ _ _ => True) (fun _ U o U' => ∃ v L, o = .returned v ∧ Q_rm0 Z p1 p2 fa fb h0 n0 v U'.heap L ∧ FrameEnd U o U' L room_1.cells room_1.slots) := by
  refine MetFree.of_bodySF (plainFor_of_name pn_com_2fexample_2fliblocus_2fliblocus_2ftrec_2fScorePrecisionOfPinLaw) hisR ?_
  intro p e s m args below meth c s₁ Bd hml0 hP hK
  obtain ⟨rfl, hZ, hh⟩ := hP
  have hx := Bd.exec
  have hby := Bd.bytes
  have hml : c.maxLocals = 21 := hml0
  have hown : s.vm.findClass "com/example/liblocus/liblocus/trec/ScorePrecisionOfPinLaw" = some m.cls := findClass_of_methodNamed Bd.named
  have hnm := (name_of_methodNamed Bd.named Bd.method).1
  have X0 : Stand p l e room_1 s m #[(.int p1), (.int p2)] below meth c s₁ [] 0 0 := Stand.of_body Bd
  have e0 : s₁.heap = h0 := by rw [← hh, Bd.state]; rfl
  have N0 := Fr.nil n0
  have k0 : ∀ t, Steps p.tables e below (s₁.setTop (mkF m 0 #[.val (.int p1), .val (.int p2), .unset, .unset, .unset, .unset, .unset, .unset, .unset, .unset, .unset, .unset, .unset, .unset, .unset, .unset, .unset, .unset, .unset, .unset, .unset] [])) t → Steps p.tables e below (s₁.setTop (entryFrame m #[(.int p1), (.int p2)] maxLocals)) t := fun t k => castTop (ef_0_II m p1 p2) k
  have k101 : ∀ t, Steps p.tables e below (s₁.setTop (mkF m 3 #[.val (.int p1), .val (.int p2), .unset, .unset, .unset, .unset, .unset, .unset, .unset, .unset, .unset, .unset, .unset, .unset, .unset, .unset, .unset, .unset, .unset, .unset, .unset] [(.int (p2 &&& (1 : Int32)))])) t → Steps p.tables e below (s₁.setTop (entryFrame m #[(.int p1), (.int p2)] maxLocals)) t := fun t k => k0 t (by
    show Steps p.tables e below (s₁.setTop (mkF m 0 #[.val (.int p1), .val (.int p2), .unset, .unset, .unset, .unset, .unset, .unset, .unset, .unset, .unset, .unset, .unset, .unset, .unset, .unset, .unset, .unset, .unset, .unset, .unset] [])) _
    refine XS.iloadN X0.here hx rfl (hb hby at_0) rfl ?_
    show Steps p.tables e below (s₁.setTop (mkF m 1 #[.val (.int p1), .val (.int p2), .unset, .unset, .unset, .unset, .unset, .unset, .unset, .unset, .unset, .unset, .unset, .unset, .unset, .unset, .unset, .unset, .unset, .unset, .unset] [(.int p2)])) _
    refine XS.iconst X0.here hx rfl (hb hby at_1) ?_
    show Steps p.tables e below (s₁.setTop (mkF m 2 #[.val (.int p1), .val (.int p2), .unset, .unset, .unset, .unset, .unset, .unset, .unset, .unset, .unset, .unset, .unset, .unset, .unset, .unset, .unset, .unset, .unset, .unset, .unset] [(.int (1 : Int32)), (.int p2)])) _
    refine XS.iand X0.here hx rfl (hb hby at_2) rfl ?_
    exact k)
  by_cases c102 : (p2 &&& (1 : Int32)) = (0 : Int32)
  · obtain ⟨sc, hsc⟩ : ∃ z : Int32, z = (((p2.toUInt32 >>> ((1 : Int32) &&& 31).toUInt32).toInt32) &&& (3 : Int32)) := ⟨_, rfl⟩
    have k103 : ∀ t, Steps p.tables e below (s₁.setTop (mkF m 19 #[.val (.int p1), .val (.int p2), .val (.int (0 : Int32)), .val (.int sc), .unset, .unset, .unset, .unset, .unset, .unset, .unset, .unset, .unset, .unset, .unset, .unset, .unset, .unset, .unset, .unset, .unset] [(.int sc)])) t → Steps p.tables e below (s₁.setTop (entryFrame m #[(.int p1), (.int p2)] maxLocals)) t := fun t k => k101 t (by
      show Steps p.tables e below (s₁.setTop (mkF m 3 #[.val (.int p1), .val (.int p2), .unset, .unset, .unset, .unset, .unset, .unset, .unset, .unset, .unset, .unset, .unset, .unset, .unset, .unset, .unset, .unset, .unset, .unset, .unset] [(.int (p2 &&& (1 : Int32)))])) _
      refine XS.ifYes X0.here hx rfl (pc0 := 3) (pc' := 10) rfl (hb hby at_3) rfl ((if0 _ _).trans (teq c102).1) (by decide) (by decide) ?_
      show Steps p.tables e below (s₁.setTop (mkF m 10 #[.val (.int p1), .val (.int p2), .unset, .unset, .unset, .unset, .unset, .unset, .unset, .unset, .unset, .unset, .unset, .unset, .unset, .unset, .unset, .unset, .unset, .unset, .unset] [])) _
      refine XS.iconst X0.here hx rfl (hb hby at_10) ?_
      show Steps p.tables e below (s₁.setTop (mkF m 11 #[.val (.int p1), .val (.int p2), .unset, .unset, .unset, .unset, .unset, .unset, .unset, .unset, .unset, .unset, .unset, .unset, .unset, .unset, .unset, .unset, .unset, .unset, .unset] [(.int (0 : Int32))])) _
      refine XS.istoreN X0.here hx rfl (hb hby at_11) rfl (l' := #[.val (.int p1), .val (.int p2), .val (.int (0 : Int32)), .unset, .unset, .unset, .unset, .unset, .unset, .unset, .unset, .unset, .unset, .unset, .unset, .unset, .unset, .unset, .unset, .unset, .unset]) rfl ?_
      show Steps p.tables e below (s₁.setTop (mkF m 12 #[.val (.int p1), .val (.int p2), .val (.int (0 : Int32)), .unset, .unset, .unset, .unset, .unset, .unset, .unset, .unset, .unset, .unset, .unset, .unset, .unset, .unset, .unset, .unset, .unset, .unset] [])) _
      refine XS.iloadN X0.here hx rfl (hb hby at_12) rfl ?_
      show Steps p.tables e below (s₁.setTop (mkF m 13 #[.val (.int p1), .val (.int p2), .val (.int (0 : Int32)), .unset, .unset, .unset, .unset, .unset, .unset, .unset, .unset, .unset, .unset, .unset, .unset, .unset, .unset, .unset, .unset, .unset, .unset] [(.int p2)])) _
      refine XS.iconst X0.here hx rfl (hb hby at_13) ?_
      show Steps p.tables e below (s₁.setTop (mkF m 14 #[.val (.int p1), .val (.int p2), .val (.int (0 : Int32)), .unset, .unset, .unset, .unset, .unset, .unset, .unset, .unset, .unset, .unset, .unset, .unset, .unset, .unset, .unset, .unset, .unset, .unset] [(.int (1 : Int32)), (.int p2)])) _
      refine XS.iushr X0.here hx rfl (hb hby at_14) rfl ?_
      show Steps p.tables e below (s₁.setTop (mkF m 15 #[.val (.int p1), .val (.int p2), .val (.int (0 : Int32)), .unset, .unset, .unset, .unset, .unset, .unset, .unset, .unset, .unset, .unset, .unset, .unset, .unset, .unset, .unset, .unset, .unset, .unset] [(.int ((p2.toUInt32 >>> ((1 : Int32) &&& 31).toUInt32).toInt32))])) _
      refine XS.iconst X0.here hx rfl (hb hby at_15) ?_
      show Steps p.tables e below (s₁.setTop (mkF m 16 #[.val (.int p1), .val (.int p2), .val (.int (0 : Int32)), .unset, .unset, .unset, .unset, .unset, .unset, .unset, .unset, .unset, .unset, .unset, .unset, .unset, .unset, .unset, .unset, .unset, .unset] [(.int (3 : Int32)), (.int ((p2.toUInt32 >>> ((1 : Int32) &&& 31).toUInt32).toInt32))])) _
      refine XS.iand X0.here hx rfl (hb hby at_16) rfl ?_
      show Steps p.tables e below (s₁.setTop (mkF m 17 #[.val (.int p1), .val (.int p2), .val (.int (0 : Int32)), .unset, .unset, .unset, .unset, .unset, .unset, .unset, .unset, .unset, .unset, .unset, .unset, .unset, .unset, .unset, .unset, .unset, .unset] [(.int (((p2.toUInt32 >>> ((1 : Int32) &&& 31).toUInt32).toInt32) &&& (3 : Int32)))])) _
      refine castTop (g' := (mkF m 17 #[.val (.int p1), .val (.int p2), .val (.int (0 : Int32)), .unset, .unset, .unset, .unset, .unset, .unset, .unset, .unset, .unset, .unset, .unset, .unset, .unset, .unset, .unset, .unset, .unset, .unset] [(.int sc)])) (by rw [hsc]) ?_
      show Steps p.tables e below (s₁.setTop (mkF m 17 #[.val (.int p1), .val (.int p2), .val (.int (0 : Int32)), .unset, .unset, .unset, .unset, .unset, .unset, .unset, .unset, .unset, .unset, .unset, .unset, .unset, .unset, .unset, .unset, .unset, .unset] [(.int sc)])) _
      refine XS.istoreN X0.here hx rfl (hb hby at_17) rfl (l' := #[.val (.int p1), .val (.int p2), .val (.int (0 : Int32)), .val (.int sc), .unset, .unset, .unset, .unset, .unset, .unset, .unset, .unset, .unset, .unset, .unset, .unset, .unset, .unset, .unset, .unset, .unset]) rfl ?_
      show Steps p.tables e below (s₁.setTop (mkF m 18 #[.val (.int p1), .val (.int p2), .val (.int (0 : Int32)), .val (.int sc), .unset, .unset, .unset, .unset, .unset, .unset, .unset, .unset, .unset, .unset, .unset, .unset, .unset, .unset, .unset, .unset, .unset] [])) _
      refine XS.iloadN X0.here hx rfl (hb hby at_18) rfl ?_
      exact k)
    obtain ⟨v107, hv107⟩ : ∃ z : UInt64, z = (if sc = (0 : Int32) then (4607182418800017408 : UInt64) else (if sc = (1 : Int32) then (4427038433705197568 : UInt64) else (if sc = (2 : Int32) then (4877398396442247168 : UInt64) else (5057542381537067008 : UInt64)))) := ⟨_, rfl⟩
    have k108 : ∀ t, Steps p.tables e below (s₁.setTop (mkF m 51 #[.val (.int p1), .val (.int p2), .val (.int (0 : Int32)), .val (.int sc), .unset, .unset, .unset, .unset, .unset, .unset, .unset, .unset, .unset, .unset, .unset, .unset, .unset, .unset, .unset, .unset, .unset] [(.double v107)])) t → Steps p.tables e below (s₁.setTop (entryFrame m #[(.int p1), (.int p2)] maxLocals)) t := fun t k => k103 t (by
      by_cases c104 : sc = (0 : Int32)
      · rw [if_pos c104] at hv107
        show Steps p.tables e below (s₁.setTop (mkF m 19 #[.val (.int p1), .val (.int p2), .val (.int (0 : Int32)), .val (.int sc), .unset, .unset, .unset, .unset, .unset, .unset, .unset, .unset, .unset, .unset, .unset, .unset, .unset, .unset, .unset, .unset, .unset] [(.int sc)])) _
        refine XS.ifNo X0.here hx rfl (hb hby at_19) rfl ((if0 _ _).trans (teq c104).2) ?_
        show Steps p.tables e below (s₁.setTop (mkF m 22 #[.val (.int p1), .val (.int p2), .val (.int (0 : Int32)), .val (.int sc), .unset, .unset, .unset, .unset, .unset, .unset, .unset, .unset, .unset, .unset, .unset, .unset, .unset, .unset, .unset, .unset, .unset] [])) _
        refine XS.dconst1 X0.here hx rfl (hb hby at_22) (v := (4607182418800017408 : UInt64)) rfl ?_
        show Steps p.tables e below (s₁.setTop (mkF m 23 #[.val (.int p1), .val (.int p2), .val (.int (0 : Int32)), .val (.int sc), .unset, .unset, .unset, .unset, .unset, .unset, .unset, .unset, .unset, .unset, .unset, .unset, .unset, .unset, .unset, .unset, .unset] [(.double (4607182418800017408 : UInt64))])) _
        refine XS.goto X0.here hx rfl (pc0 := 23) (pc' := 51) rfl (hb hby at_23) (by decide) (by decide) ?_
        show Steps p.tables e below (s₁.setTop (mkF m 51 #[.val (.int p1), .val (.int p2), .val (.int (0 : Int32)), .val (.int sc), .unset, .unset, .unset, .unset, .unset, .unset, .unset, .unset, .unset, .unset, .unset, .unset, .unset, .unset, .unset, .unset, .unset] [(.double (4607182418800017408 : UInt64))])) _
        exact castTop (by rw [hv107]) k
      · rw [if_neg c104] at hv107
        show Steps p.tables e below (s₁.setTop (mkF m 19 #[.val (.int p1), .val (.int p2), .val (.int (0 : Int32)), .val (.int sc), .unset, .unset, .unset, .unset, .unset, .unset, .unset, .unset, .unset, .unset, .unset, .unset, .unset, .unset, .unset, .unset, .unset] [(.int sc)])) _
        refine XS.ifYes X0.here hx rfl (pc0 := 19) (pc' := 26) rfl (hb hby at_19) rfl ((if0 _ _).trans (feq c104).2) (by decide) (by decide) ?_
        show Steps p.tables e below (s₁.setTop (mkF m 26 #[.val (.int p1), .val (.int p2), .val (.int (0 : Int32)), .val (.int sc), .unset, .unset, .unset, .unset, .unset, .unset, .unset, .unset, .unset, .unset, .unset, .unset, .unset, .unset, .unset, .unset, .unset] [])) _
        refine XS.iloadN X0.here hx rfl (hb hby at_26) rfl ?_
        show Steps p.tables e below (s₁.setTop (mkF m 27 #[.val (.int p1), .val (.int p2), .val (.int (0 : Int32)), .val (.int sc), .unset, .unset, .unset, .unset, .unset, .unset, .unset, .unset, .unset, .unset, .unset, .unset, .unset, .unset, .unset, .unset, .unset] [(.int sc)])) _
        refine XS.iconst X0.here hx rfl (hb hby at_27) ?_
        by_cases c105 : sc = (1 : Int32)
        · rw [if_pos c105] at hv107
          show Steps p.tables e below (s₁.setTop (mkF m 28 #[.val (.int p1), .val (.int p2), .val (.int (0 : Int32)), .val (.int sc), .unset, .unset, .unset, .unset, .unset, .unset, .unset, .unset, .unset, .unset, .unset, .unset, .unset, .unset, .unset, .unset, .unset] [(.int (1 : Int32)), (.int sc)])) _
          refine XS.icmpNo X0.here hx rfl (hb hby at_28) rfl (teq c105).2 ?_
          show Steps p.tables e below (s₁.setTop (mkF m 31 #[.val (.int p1), .val (.int p2), .val (.int (0 : Int32)), .val (.int sc), .unset, .unset, .unset, .unset, .unset, .unset, .unset, .unset, .unset, .unset, .unset, .unset, .unset, .unset, .unset, .unset, .unset] [])) _
          refine X0.ldc2DoubleC hx hown (mvT hZ (hw _ (List.mem_of_getElem? (i := 0) rfl))) (g := (mkF m 31 #[.val (.int p1), .val (.int p2), .val (.int (0 : Int32)), .val (.int sc), .unset, .unset, .unset, .unset, .unset, .unset, .unset, .unset, .unset, .unset, .unset, .unset, .unset, .unset, .unset, .unset, .unset] [])) rfl (hb hby at_31) _ ?_
          show Steps p.tables e below (s₁.setTop (mkF m 34 #[.val (.int p1), .val (.int p2), .val (.int (0 : Int32)), .val (.int sc), .unset, .unset, .unset, .unset, .unset, .unset, .unset, .unset, .unset, .unset, .unset, .unset, .unset, .unset, .unset, .unset, .unset] [(.double (4427038433705197568 : UInt64))])) _
          refine XS.goto X0.here hx rfl (pc0 := 34) (pc' := 51) rfl (hb hby at_34) (by decide) (by decide) ?_
          show Steps p.tables e below (s₁.setTop (mkF m 51 #[.val (.int p1), .val (.int p2), .val (.int (0 : Int32)), .val (.int sc), .unset, .unset, .unset, .unset, .unset, .unset, .unset, .unset, .unset, .unset, .unset, .unset, .unset, .unset, .unset, .unset, .unset] [(.double (4427038433705197568 : UInt64))])) _
          exact castTop (by rw [hv107]) k
        · rw [if_neg c105] at hv107
          show Steps p.tables e below (s₁.setTop (mkF m 28 #[.val (.int p1), .val (.int p2), .val (.int (0 : Int32)), .val (.int sc), .unset, .unset, .unset, .unset, .unset, .unset, .unset, .unset, .unset, .unset, .unset, .unset, .unset, .unset, .unset, .unset, .unset] [(.int (1 : Int32)), (.int sc)])) _
          refine XS.icmpYes X0.here hx rfl (pc0 := 28) (pc' := 37) rfl (hb hby at_28) rfl (feq c105).2 (by decide) (by decide) ?_
          show Steps p.tables e below (s₁.setTop (mkF m 37 #[.val (.int p1), .val (.int p2), .val (.int (0 : Int32)), .val (.int sc), .unset, .unset, .unset, .unset, .unset, .unset, .unset, .unset, .unset, .unset, .unset, .unset, .unset, .unset, .unset, .unset, .unset] [])) _
          refine XS.iloadN X0.here hx rfl (hb hby at_37) rfl ?_
          show Steps p.tables e below (s₁.setTop (mkF m 38 #[.val (.int p1), .val (.int p2), .val (.int (0 : Int32)), .val (.int sc), .unset, .unset, .unset, .unset, .unset, .unset, .unset, .unset, .unset, .unset, .unset, .unset, .unset, .unset, .unset, .unset, .unset] [(.int sc)])) _
          refine XS.iconst X0.here hx rfl (hb hby at_38) ?_
          by_cases c106 : sc = (2 : Int32)
          · rw [if_pos c106] at hv107
            show Steps p.tables e below (s₁.setTop (mkF m 39 #[.val (.int p1), .val (.int p2), .val (.int (0 : Int32)), .val (.int sc), .unset, .unset, .unset, .unset, .unset, .unset, .unset, .unset, .unset, .unset, .unset, .unset, .unset, .unset, .unset, .unset, .unset] [(.int (2 : Int32)), (.int sc)])) _
            refine XS.icmpNo X0.here hx rfl (hb hby at_39) rfl (teq c106).2 ?_
            show Steps p.tables e below (s₁.setTop (mkF m 42 #[.val (.int p1), .val (.int p2), .val (.int (0 : Int32)), .val (.int sc), .unset, .unset, .unset, .unset, .unset, .unset, .unset, .unset, .unset, .unset, .unset, .unset, .unset, .unset, .unset, .unset, .unset] [])) _
            refine X0.ldc2DoubleC hx hown (mvT hZ (hw _ (List.mem_of_getElem? (i := 23) rfl))) (g := (mkF m 42 #[.val (.int p1), .val (.int p2), .val (.int (0 : Int32)), .val (.int sc), .unset, .unset, .unset, .unset, .unset, .unset, .unset, .unset, .unset, .unset, .unset, .unset, .unset, .unset, .unset, .unset, .unset] [])) rfl (hb hby at_42) _ ?_
            show Steps p.tables e below (s₁.setTop (mkF m 45 #[.val (.int p1), .val (.int p2), .val (.int (0 : Int32)), .val (.int sc), .unset, .unset, .unset, .unset, .unset, .unset, .unset, .unset, .unset, .unset, .unset, .unset, .unset, .unset, .unset, .unset, .unset] [(.double (4877398396442247168 : UInt64))])) _
            refine XS.goto X0.here hx rfl (pc0 := 45) (pc' := 51) rfl (hb hby at_45) (by decide) (by decide) ?_
            show Steps p.tables e below (s₁.setTop (mkF m 51 #[.val (.int p1), .val (.int p2), .val (.int (0 : Int32)), .val (.int sc), .unset, .unset, .unset, .unset, .unset, .unset, .unset, .unset, .unset, .unset, .unset, .unset, .unset, .unset, .unset, .unset, .unset] [(.double (4877398396442247168 : UInt64))])) _
            exact castTop (by rw [hv107]) k
          · rw [if_neg c106] at hv107
            show Steps p.tables e below (s₁.setTop (mkF m 39 #[.val (.int p1), .val (.int p2), .val (.int (0 : Int32)), .val (.int sc), .unset, .unset, .unset, .unset, .unset, .unset, .unset, .unset, .unset, .unset, .unset, .unset, .unset, .unset, .unset, .unset, .unset] [(.int (2 : Int32)), (.int sc)])) _
            refine XS.icmpYes X0.here hx rfl (pc0 := 39) (pc' := 48) rfl (hb hby at_39) rfl (feq c106).2 (by decide) (by decide) ?_
            show Steps p.tables e below (s₁.setTop (mkF m 48 #[.val (.int p1), .val (.int p2), .val (.int (0 : Int32)), .val (.int sc), .unset, .unset, .unset, .unset, .unset, .unset, .unset, .unset, .unset, .unset, .unset, .unset, .unset, .unset, .unset, .unset, .unset] [])) _
            refine X0.ldc2DoubleC hx hown (mvT hZ (hw _ (List.mem_of_getElem? (i := 26) rfl))) (g := (mkF m 48 #[.val (.int p1), .val (.int p2), .val (.int (0 : Int32)), .val (.int sc), .unset, .unset, .unset, .unset, .unset, .unset, .unset, .unset, .unset, .unset, .unset, .unset, .unset, .unset, .unset, .unset, .unset] [])) rfl (hb hby at_48) _ ?_
            show Steps p.tables e below (s₁.setTop (mkF m 51 #[.val (.int p1), .val (.int p2), .val (.int (0 : Int32)), .val (.int sc), .unset, .unset, .unset, .unset, .unset, .unset, .unset, .unset, .unset, .unset, .unset, .unset, .unset, .unset, .unset, .unset, .unset] [(.double (5057542381537067008 : UInt64))])) _
            exact castTop (by rw [hv107]) k)
    obtain ⟨te, ht, h3, Dv⟩ := own_scale (own_n4 _ sc hsc) hv107
    obtain ⟨xa, hxa⟩ : ∃ z : UInt64, FP.i2d p1 = z := ⟨_, rfl⟩
    have Dxa : Dy (p1.toInt) (0) xa := by rw [← hxa]; exact Dy.i2d _
    obtain ⟨xx, hxx⟩ : ∃ z : UInt64, FP.dmul xa v107 = z := ⟨_, rfl⟩
    have Dxx : Ex p1.toInt te xx := by rw [← hxx]; exact own_x Dxa Dv ht
    have k109 : ∀ t, Steps p.tables e below (s₁.setTop (mkF m 70 #[.val (.int p1), .val (.int p2), .val (.int (0 : Int32)), .val (.int sc), .val (.double v107), .second, .val (.double xx), .second, .unset, .unset, .unset, .unset, .unset, .unset, .unset, .unset, .unset, .unset, .unset, .unset, .unset] [])) t → Steps p.tables e below (s₁.setTop (entryFrame m #[(.int p1), (.int p2)] maxLocals)) t := fun t k => k108 t (by
      show Steps p.tables e below (s₁.setTop (mkF m 51 #[.val (.int p1), .val (.int p2), .val (.int (0 : Int32)), .val (.int sc), .unset, .unset, .unset, .unset, .unset, .unset, .unset, .unset, .unset, .unset, .unset, .unset, .unset, .unset, .unset, .unset, .unset] [(.double v107)])) _
      refine XS.dstore X0.here hx rfl (hb hby at_51) rfl (l' := #[.val (.int p1), .val (.int p2), .val (.int (0 : Int32)), .val (.int sc), .val (.double v107), .second, .unset, .unset, .unset, .unset, .unset, .unset, .unset, .unset, .unset, .unset, .unset, .unset, .unset, .unset, .unset]) rfl ?_
      show Steps p.tables e below (s₁.setTop (mkF m 53 #[.val (.int p1), .val (.int p2), .val (.int (0 : Int32)), .val (.int sc), .val (.double v107), .second, .unset, .unset, .unset, .unset, .unset, .unset, .unset, .unset, .unset, .unset, .unset, .unset, .unset, .unset, .unset] [])) _
      refine XS.iloadN X0.here hx rfl (hb hby at_53) rfl ?_
      show Steps p.tables e below (s₁.setTop (mkF m 54 #[.val (.int p1), .val (.int p2), .val (.int (0 : Int32)), .val (.int sc), .val (.double v107), .second, .unset, .unset, .unset, .unset, .unset, .unset, .unset, .unset, .unset, .unset, .unset, .unset, .unset, .unset, .unset] [(.int p1)])) _
      refine XS.i2dS X0.here hx rfl (hb hby at_54) rfl hxa ?_
      show Steps p.tables e below (s₁.setTop (mkF m 55 #[.val (.int p1), .val (.int p2), .val (.int (0 : Int32)), .val (.int sc), .val (.double v107), .second, .unset, .unset, .unset, .unset, .unset, .unset, .unset, .unset, .unset, .unset, .unset, .unset, .unset, .unset, .unset] [(.double xa)])) _
      refine XS.dload X0.here hx rfl (hb hby at_55) rfl ?_
      show Steps p.tables e below (s₁.setTop (mkF m 57 #[.val (.int p1), .val (.int p2), .val (.int (0 : Int32)), .val (.int sc), .val (.double v107), .second, .unset, .unset, .unset, .unset, .unset, .unset, .unset, .unset, .unset, .unset, .unset, .unset, .unset, .unset, .unset] [(.double v107), (.double xa)])) _
      refine XS.dmulS X0.here hx rfl (hb hby at_57) rfl (by rw [hxx]; exact Dxx.nn) hxx ?_
      show Steps p.tables e below (s₁.setTop (mkF m 58 #[.val (.int p1), .val (.int p2), .val (.int (0 : Int32)), .val (.int sc), .val (.double v107), .second, .unset, .unset, .unset, .unset, .unset, .unset, .unset, .unset, .unset, .unset, .unset, .unset, .unset, .unset, .unset] [(.double xx)])) _
      refine XS.dstore X0.here hx rfl (hb hby at_58) rfl (l' := #[.val (.int p1), .val (.int p2), .val (.int (0 : Int32)), .val (.int sc), .val (.double v107), .second, .val (.double xx), .second, .unset, .unset, .unset, .unset, .unset, .unset, .unset, .unset, .unset, .unset, .unset, .unset, .unset]) rfl ?_
      show Steps p.tables e below (s₁.setTop (mkF m 60 #[.val (.int p1), .val (.int p2), .val (.int (0 : Int32)), .val (.int sc), .val (.double v107), .second, .val (.double xx), .second, .unset, .unset, .unset, .unset, .unset, .unset, .unset, .unset, .unset, .unset, .unset, .unset, .unset] [])) _
      refine XS.iloadN X0.here hx rfl (hb hby at_60) rfl ?_
      show Steps p.tables e below (s₁.setTop (mkF m 61 #[.val (.int p1), .val (.int p2), .val (.int (0 : Int32)), .val (.int sc), .val (.double v107), .second, .val (.double xx), .second, .unset, .unset, .unset, .unset, .unset, .unset, .unset, .unset, .unset, .unset, .unset, .unset, .unset] [(.int (0 : Int32))])) _
      refine XS.ifYes X0.here hx rfl (pc0 := 61) (pc' := 70) rfl (hb hby at_61) rfl ((if0 _ _).trans (teq (by decide)).1) (by decide) (by decide) ?_
      exact k)
    obtain ⟨T110, X110, e110, st110⟩ := getS2 X0 hx hZ hown (host := "") (Or.inl (hw _ (List.mem_of_getElem? (i := 24) rfl))) Via.refl e0 Sb (g := (mkF m 70 #[.val (.int p1), .val (.int p2), .val (.int (0 : Int32)), .val (.int sc), .val (.double v107), .second, .val (.double xx), .second, .unset, .unset, .unset, .unset, .unset, .unset, .unset, .unset, .unset, .unset, .unset, .unset, .unset] [])) rfl (hb hby at_70)
    have k111 : ∀ t, Steps p.tables e below (T110.setTop (mkF m 73 #[.val (.int p1), .val (.int p2), .val (.int (0 : Int32)), .val (.int sc), .val (.double v107), .second, .val (.double xx), .second, .unset, .unset, .unset, .unset, .unset, .unset, .unset, .unset, .unset, .unset, .unset, .unset, .unset] [(.ref fb)])) t → Steps p.tables e below (s₁.setTop (entryFrame m #[(.int p1), (.int p2)] maxLocals)) t := fun t k => k109 t (st110 t k)
    have k112 : ∀ t, Steps p.tables e below (T110.setTop (mkF m 79 #[.val (.int p1), .val (.int p2), .val (.int (0 : Int32)), .val (.int sc), .val (.double v107), .second, .val (.double xx), .second, .val (.ref fb), .unset, .unset, .unset, .unset, .unset, .unset, .unset, .unset, .unset, .unset, .unset, .unset] [(.double xx), (.ref fb)])) t → Steps p.tables e below (s₁.setTop (entryFrame m #[(.int p1), (.int p2)] maxLocals)) t := fun t k => k111 t (by
      show Steps p.tables e below (T110.setTop (mkF m 73 #[.val (.int p1), .val (.int p2), .val (.int (0 : Int32)), .val (.int sc), .val (.double v107), .second, .val (.double xx), .second, .unset, .unset, .unset, .unset, .unset, .unset, .unset, .unset, .unset, .unset, .unset, .unset, .unset] [(.ref fb)])) _
      refine XS.astore X110.here hx rfl (hb hby at_73) rfl rfl (l' := #[.val (.int p1), .val (.int p2), .val (.int (0 : Int32)), .val (.int sc), .val (.double v107), .second, .val (.double xx), .second, .val (.ref fb), .unset, .unset, .unset, .unset, .unset, .unset, .unset, .unset, .unset, .unset, .unset, .unset]) rfl ?_
      show Steps p.tables e below (T110.setTop (mkF m 75 #[.val (.int p1), .val (.int p2), .val (.int (0 : Int32)), .val (.int sc), .val (.double v107), .second, .val (.double xx), .second, .val (.ref fb), .unset, .unset, .unset, .unset, .unset, .unset, .unset, .unset, .unset, .unset, .unset, .unset] [])) _
      refine XS.aload X110.here hx rfl (hb hby at_75) rfl rfl ?_
      show Steps p.tables e below (T110.setTop (mkF m 77 #[.val (.int p1), .val (.int p2), .val (.int (0 : Int32)), .val (.int sc), .val (.double v107), .second, .val (.double xx), .second, .val (.ref fb), .unset, .unset, .unset, .unset, .unset, .unset, .unset, .unset, .unset, .unset, .unset, .unset] [(.ref fb)])) _
      refine XS.dload X110.here hx rfl (hb hby at_77) rfl ?_
      exact k)
    obtain ⟨cq113, kq113, q113a, q113b, q113c⟩ := isOf hZ e110 Eb
    obtain ⟨_, _, ⟨T113, L113, k113, n113⟩, -, X113, ⟨Lc113, hQ113, l113, y113, z113⟩, st113⟩ := X110.virtualBack hx (y := (⟨"com/example/liblocus/liblocus/trec/Run$ScorePrecision", "of", "(D)D"⟩ : MethodName)) (z := (⟨"com/example/liblocus/liblocus/trec/Run$ScorePrecision", "of", "(D)D"⟩ : MethodName)) hown (mvT hZ (hw _ (List.mem_of_getElem? (i := 4) rfl))) (mvT hZ (hw _ (List.mem_of_getElem? (i := 5) rfl))) (notFace_of_selects (args := #[]) (mvT hZ (hw _ (List.mem_of_getElem? (i := 7) rfl)))) (mvT hZ (hw _ (List.mem_of_getElem? (i := 7) rfl))) (mvT hZ (hw _ (List.mem_of_getElem? (i := 6) rfl))) (by decide) (backOf (W := 0) (of_d l Z a0 hw [] fb fa xx h0 n0 Z0 Sa hne) hZ (hw _ (List.mem_of_getElem? (i := 8) rfl)) (hw _ (List.mem_of_getElem? (i := 2) rfl)) (by decide) (by decide)) q113a q113c (g := (mkF m 79 #[.val (.int p1), .val (.int p2), .val (.int (0 : Int32)), .val (.int sc), .val (.double v107), .second, .val (.double xx), .second, .val (.ref fb), .unset, .unset, .unset, .unset, .unset, .unset, .unset, .unset, .unset, .unset, .unset, .unset] [(.double xx), (.ref fb)])) rfl (by rw [hml]; rfl) (Steps.refl _) (argsL := [(.double xx)]) (rest := []) (lenOf pd__28D_29D rfl) rfl (by show 2 * 0 + _ ≤ _; exact Nat.le_of_eq rfl) (hb hby at_79) (fun _ _ => ⟨rfl, e110, (by decide : 0 + 0 ≤ _), (by decide : 0 + 0 ≤ _)⟩)
    dsimp only [Pt.U, Pt.locs, Pt.cells, Pt.slots] at X113 l113 y113 z113 st113 hQ113
    subst l113 y113 z113
    obtain ⟨rfl, N113q, e113⟩ := hQ113
    have N114 := Fr.app N0 N113q
    have k115 : ∀ t, Steps p.tables e below (T113.setTop (mkF m 82 #[.val (.int p1), .val (.int p2), .val (.int (0 : Int32)), .val (.int sc), .val (.double v107), .second, .val (.double xx), .second, .val (.ref fb), .unset, .unset, .unset, .unset, .unset, .unset, .unset, .unset, .unset, .unset, .unset, .unset] [(.double xx)])) t → Steps p.tables e below (s₁.setTop (entryFrame m #[(.int p1), (.int p2)] maxLocals)) t := fun t k => k112 t (st113.trans k)
    obtain ⟨rr, hrr⟩ : ∃ z : UInt64, z = xx := ⟨_, rfl⟩
    have hfin : cmpValue (FP.dcmp rr xx) .l = (0 : Int32) := by rw [hrr]; exact Ex.cmp_eq Dxx Dxx .l
    have k116 : ∀ t, Steps p.tables e below (T113.setTop (mkF m 101 #[.val (.int p1), .val (.int p2), .val (.int (0 : Int32)), .val (.int sc), .val (.double v107), .second, .val (.double xx), .second, .val (.ref fb), .val (.double rr), .second, .unset, .unset, .unset, .unset, .unset, .unset, .unset, .unset, .unset, .unset] [(.int (1 : Int32))])) t → Steps p.tables e below (s₁.setTop (entryFrame m #[(.int p1), (.int p2)] maxLocals)) t := fun t k => k115 t (by
      show Steps p.tables e below (T113.setTop (mkF m 82 #[.val (.int p1), .val (.int p2), .val (.int (0 : Int32)), .val (.int sc), .val (.double v107), .second, .val (.double xx), .second, .val (.ref fb), .unset, .unset, .unset, .unset, .unset, .unset, .unset, .unset, .unset, .unset, .unset, .unset] [(.double xx)])) _
      refine castTop (g' := (mkF m 82 #[.val (.int p1), .val (.int p2), .val (.int (0 : Int32)), .val (.int sc), .val (.double v107), .second, .val (.double xx), .second, .val (.ref fb), .unset, .unset, .unset, .unset, .unset, .unset, .unset, .unset, .unset, .unset, .unset, .unset] [(.double rr)])) (by rw [hrr]) ?_
      show Steps p.tables e below (T113.setTop (mkF m 82 #[.val (.int p1), .val (.int p2), .val (.int (0 : Int32)), .val (.int sc), .val (.double v107), .second, .val (.double xx), .second, .val (.ref fb), .unset, .unset, .unset, .unset, .unset, .unset, .unset, .unset, .unset, .unset, .unset, .unset] [(.double rr)])) _
      refine XS.dstore X113.here hx rfl (hb hby at_82) rfl (l' := #[.val (.int p1), .val (.int p2), .val (.int (0 : Int32)), .val (.int sc), .val (.double v107), .second, .val (.double xx), .second, .val (.ref fb), .val (.double rr), .second, .unset, .unset, .unset, .unset, .unset, .unset, .unset, .unset, .unset, .unset]) rfl ?_
      show Steps p.tables e below (T113.setTop (mkF m 84 #[.val (.int p1), .val (.int p2), .val (.int (0 : Int32)), .val (.int sc), .val (.double v107), .second, .val (.double xx), .second, .val (.ref fb), .val (.double rr), .second, .unset, .unset, .unset, .unset, .unset, .unset, .unset, .unset, .unset, .unset] [])) _
      refine XS.iloadN X113.here hx rfl (hb hby at_84) rfl ?_
      show Steps p.tables e below (T113.setTop (mkF m 85 #[.val (.int p1), .val (.int p2), .val (.int (0 : Int32)), .val (.int sc), .val (.double v107), .second, .val (.double xx), .second, .val (.ref fb), .val (.double rr), .second, .unset, .unset, .unset, .unset, .unset, .unset, .unset, .unset, .unset, .unset] [(.int (0 : Int32))])) _
      refine XS.ifNo X113.here hx rfl (hb hby at_85) rfl ((if0 _ _).trans (teq (by decide)).2) ?_
      show Steps p.tables e below (T113.setTop (mkF m 88 #[.val (.int p1), .val (.int p2), .val (.int (0 : Int32)), .val (.int sc), .val (.double v107), .second, .val (.double xx), .second, .val (.ref fb), .val (.double rr), .second, .unset, .unset, .unset, .unset, .unset, .unset, .unset, .unset, .unset, .unset] [])) _
      refine XS.dload X113.here hx rfl (hb hby at_88) rfl ?_
      show Steps p.tables e below (T113.setTop (mkF m 90 #[.val (.int p1), .val (.int p2), .val (.int (0 : Int32)), .val (.int sc), .val (.double v107), .second, .val (.double xx), .second, .val (.ref fb), .val (.double rr), .second, .unset, .unset, .unset, .unset, .unset, .unset, .unset, .unset, .unset, .unset] [(.double rr)])) _
      refine XS.dload X113.here hx rfl (hb hby at_90) rfl ?_
      show Steps p.tables e below (T113.setTop (mkF m 92 #[.val (.int p1), .val (.int p2), .val (.int (0 : Int32)), .val (.int sc), .val (.double v107), .second, .val (.double xx), .second, .val (.ref fb), .val (.double rr), .second, .unset, .unset, .unset, .unset, .unset, .unset, .unset, .unset, .unset, .unset] [(.double xx), (.double rr)])) _
      refine XS.dcmpS X113.here hx rfl (hb hby at_92) rfl rfl ?_
      show Steps p.tables e below (T113.setTop (mkF m 93 #[.val (.int p1), .val (.int p2), .val (.int (0 : Int32)), .val (.int sc), .val (.double v107), .second, .val (.double xx), .second, .val (.ref fb), .val (.double rr), .second, .unset, .unset, .unset, .unset, .unset, .unset, .unset, .unset, .unset, .unset] [(.int (cmpValue (FP.dcmp rr xx) .l))])) _
      refine XS.ifNo X113.here hx rfl (hb hby at_93) rfl ((if0 _ _).trans (teq hfin).2) ?_
      show Steps p.tables e below (T113.setTop (mkF m 96 #[.val (.int p1), .val (.int p2), .val (.int (0 : Int32)), .val (.int sc), .val (.double v107), .second, .val (.double xx), .second, .val (.ref fb), .val (.double rr), .second, .unset, .unset, .unset, .unset, .unset, .unset, .unset, .unset, .unset, .unset] [])) _
      refine XS.iconst X113.here hx rfl (hb hby at_96) ?_
      show Steps p.tables e below (T113.setTop (mkF m 97 #[.val (.int p1), .val (.int p2), .val (.int (0 : Int32)), .val (.int sc), .val (.double v107), .second, .val (.double xx), .second, .val (.ref fb), .val (.double rr), .second, .unset, .unset, .unset, .unset, .unset, .unset, .unset, .unset, .unset, .unset] [(.int (1 : Int32))])) _
      refine XS.goto X113.here hx rfl (pc0 := 97) (pc' := 101) rfl (hb hby at_97) (by decide) (by decide) ?_
      exact k)
    obtain ⟨fs, hr, hrun, hended, hW, hsame⟩ := X113.leave (v := some (.int (1 : Int32))) (fun h => by rw [Bd.returns] at h; cases h)
    refine ⟨_, _, k116 _ (retOut X113 hx (t := .boolean) Bd.returns rfl (Or.inl ⟨rfl, Or.inr (Or.inl rfl), _, rfl⟩) (hb hby at_101) hr), hrun, hended, _, _, rfl, ?_, ⟨_, rfl⟩, hW, hsame.mono (by decide) (by decide)⟩
    show Q_rm0 Z p1 p2 fa fb h0 n0 _ T113.heap _
    rw [e113]
    exact ⟨rfl, N114⟩
  · obtain ⟨sc, hsc⟩ : ∃ z : Int32, z = (((p2.toUInt32 >>> ((1 : Int32) &&& 31).toUInt32).toInt32) &&& (3 : Int32)) := ⟨_, rfl⟩
    have k117 : ∀ t, Steps p.tables e below (s₁.setTop (mkF m 19 #[.val (.int p1), .val (.int p2), .val (.int (1 : Int32)), .val (.int sc), .unset, .unset, .unset, .unset, .unset, .unset, .unset, .unset, .unset, .unset, .unset, .unset, .unset, .unset, .unset, .unset, .unset] [(.int sc)])) t → Steps p.tables e below (s₁.setTop (entryFrame m #[(.int p1), (.int p2)] maxLocals)) t := fun t k => k101 t (by
      show Steps p.tables e below (s₁.setTop (mkF m 3 #[.val (.int p1), .val (.int p2), .unset, .unset, .unset, .unset, .unset, .unset, .unset, .unset, .unset, .unset, .unset, .unset, .unset, .unset, .unset, .unset, .unset, .unset, .unset] [(.int (p2 &&& (1 : Int32)))])) _
      refine XS.ifNo X0.here hx rfl (hb hby at_3) rfl ((if0 _ _).trans (feq c102).1) ?_
      show Steps p.tables e below (s₁.setTop (mkF m 6 #[.val (.int p1), .val (.int p2), .unset, .unset, .unset, .unset, .unset, .unset, .unset, .unset, .unset, .unset, .unset, .unset, .unset, .unset, .unset, .unset, .unset, .unset, .unset] [])) _
      refine XS.iconst X0.here hx rfl (hb hby at_6) ?_
      show Steps p.tables e below (s₁.setTop (mkF m 7 #[.val (.int p1), .val (.int p2), .unset, .unset, .unset, .unset, .unset, .unset, .unset, .unset, .unset, .unset, .unset, .unset, .unset, .unset, .unset, .unset, .unset, .unset, .unset] [(.int (1 : Int32))])) _
      refine XS.goto X0.here hx rfl (pc0 := 7) (pc' := 11) rfl (hb hby at_7) (by decide) (by decide) ?_
      show Steps p.tables e below (s₁.setTop (mkF m 11 #[.val (.int p1), .val (.int p2), .unset, .unset, .unset, .unset, .unset, .unset, .unset, .unset, .unset, .unset, .unset, .unset, .unset, .unset, .unset, .unset, .unset, .unset, .unset] [(.int (1 : Int32))])) _
      refine XS.istoreN X0.here hx rfl (hb hby at_11) rfl (l' := #[.val (.int p1), .val (.int p2), .val (.int (1 : Int32)), .unset, .unset, .unset, .unset, .unset, .unset, .unset, .unset, .unset, .unset, .unset, .unset, .unset, .unset, .unset, .unset, .unset, .unset]) rfl ?_
      show Steps p.tables e below (s₁.setTop (mkF m 12 #[.val (.int p1), .val (.int p2), .val (.int (1 : Int32)), .unset, .unset, .unset, .unset, .unset, .unset, .unset, .unset, .unset, .unset, .unset, .unset, .unset, .unset, .unset, .unset, .unset, .unset] [])) _
      refine XS.iloadN X0.here hx rfl (hb hby at_12) rfl ?_
      show Steps p.tables e below (s₁.setTop (mkF m 13 #[.val (.int p1), .val (.int p2), .val (.int (1 : Int32)), .unset, .unset, .unset, .unset, .unset, .unset, .unset, .unset, .unset, .unset, .unset, .unset, .unset, .unset, .unset, .unset, .unset, .unset] [(.int p2)])) _
      refine XS.iconst X0.here hx rfl (hb hby at_13) ?_
      show Steps p.tables e below (s₁.setTop (mkF m 14 #[.val (.int p1), .val (.int p2), .val (.int (1 : Int32)), .unset, .unset, .unset, .unset, .unset, .unset, .unset, .unset, .unset, .unset, .unset, .unset, .unset, .unset, .unset, .unset, .unset, .unset] [(.int (1 : Int32)), (.int p2)])) _
      refine XS.iushr X0.here hx rfl (hb hby at_14) rfl ?_
      show Steps p.tables e below (s₁.setTop (mkF m 15 #[.val (.int p1), .val (.int p2), .val (.int (1 : Int32)), .unset, .unset, .unset, .unset, .unset, .unset, .unset, .unset, .unset, .unset, .unset, .unset, .unset, .unset, .unset, .unset, .unset, .unset] [(.int ((p2.toUInt32 >>> ((1 : Int32) &&& 31).toUInt32).toInt32))])) _
      refine XS.iconst X0.here hx rfl (hb hby at_15) ?_
      show Steps p.tables e below (s₁.setTop (mkF m 16 #[.val (.int p1), .val (.int p2), .val (.int (1 : Int32)), .unset, .unset, .unset, .unset, .unset, .unset, .unset, .unset, .unset, .unset, .unset, .unset, .unset, .unset, .unset, .unset, .unset, .unset] [(.int (3 : Int32)), (.int ((p2.toUInt32 >>> ((1 : Int32) &&& 31).toUInt32).toInt32))])) _
      refine XS.iand X0.here hx rfl (hb hby at_16) rfl ?_
      show Steps p.tables e below (s₁.setTop (mkF m 17 #[.val (.int p1), .val (.int p2), .val (.int (1 : Int32)), .unset, .unset, .unset, .unset, .unset, .unset, .unset, .unset, .unset, .unset, .unset, .unset, .unset, .unset, .unset, .unset, .unset, .unset] [(.int (((p2.toUInt32 >>> ((1 : Int32) &&& 31).toUInt32).toInt32) &&& (3 : Int32)))])) _
      refine castTop (g' := (mkF m 17 #[.val (.int p1), .val (.int p2), .val (.int (1 : Int32)), .unset, .unset, .unset, .unset, .unset, .unset, .unset, .unset, .unset, .unset, .unset, .unset, .unset, .unset, .unset, .unset, .unset, .unset] [(.int sc)])) (by rw [hsc]) ?_
      show Steps p.tables e below (s₁.setTop (mkF m 17 #[.val (.int p1), .val (.int p2), .val (.int (1 : Int32)), .unset, .unset, .unset, .unset, .unset, .unset, .unset, .unset, .unset, .unset, .unset, .unset, .unset, .unset, .unset, .unset, .unset, .unset] [(.int sc)])) _
      refine XS.istoreN X0.here hx rfl (hb hby at_17) rfl (l' := #[.val (.int p1), .val (.int p2), .val (.int (1 : Int32)), .val (.int sc), .unset, .unset, .unset, .unset, .unset, .unset, .unset, .unset, .unset, .unset, .unset, .unset, .unset, .unset, .unset, .unset, .unset]) rfl ?_
      show Steps p.tables e below (s₁.setTop (mkF m 18 #[.val (.int p1), .val (.int p2), .val (.int (1 : Int32)), .val (.int sc), .unset, .unset, .unset, .unset, .unset, .unset, .unset, .unset, .unset, .unset, .unset, .unset, .unset, .unset, .unset, .unset, .unset] [])) _
      refine XS.iloadN X0.here hx rfl (hb hby at_18) rfl ?_
      exact k)
    obtain ⟨v121, hv121⟩ : ∃ z : UInt64, z = (if sc = (0 : Int32) then (4607182418800017408 : UInt64) else (if sc = (1 : Int32) then (4427038433705197568 : UInt64) else (if sc = (2 : Int32) then (4877398396442247168 : UInt64) else (5057542381537067008 : UInt64)))) := ⟨_, rfl⟩
    have k122 : ∀ t, Steps p.tables e below (s₁.setTop (mkF m 51 #[.val (.int p1), .val (.int p2), .val (.int (1 : Int32)), .val (.int sc), .unset, .unset, .unset, .unset, .unset, .unset, .unset, .unset, .unset, .unset, .unset, .unset, .unset, .unset, .unset, .unset, .unset] [(.double v121)])) t → Steps p.tables e below (s₁.setTop (entryFrame m #[(.int p1), (.int p2)] maxLocals)) t := fun t k => k117 t (by
      by_cases c118 : sc = (0 : Int32)
      · rw [if_pos c118] at hv121
        show Steps p.tables e below (s₁.setTop (mkF m 19 #[.val (.int p1), .val (.int p2), .val (.int (1 : Int32)), .val (.int sc), .unset, .unset, .unset, .unset, .unset, .unset, .unset, .unset, .unset, .unset, .unset, .unset, .unset, .unset, .unset, .unset, .unset] [(.int sc)])) _
        refine XS.ifNo X0.here hx rfl (hb hby at_19) rfl ((if0 _ _).trans (teq c118).2) ?_
        show Steps p.tables e below (s₁.setTop (mkF m 22 #[.val (.int p1), .val (.int p2), .val (.int (1 : Int32)), .val (.int sc), .unset, .unset, .unset, .unset, .unset, .unset, .unset, .unset, .unset, .unset, .unset, .unset, .unset, .unset, .unset, .unset, .unset] [])) _
        refine XS.dconst1 X0.here hx rfl (hb hby at_22) (v := (4607182418800017408 : UInt64)) rfl ?_
        show Steps p.tables e below (s₁.setTop (mkF m 23 #[.val (.int p1), .val (.int p2), .val (.int (1 : Int32)), .val (.int sc), .unset, .unset, .unset, .unset, .unset, .unset, .unset, .unset, .unset, .unset, .unset, .unset, .unset, .unset, .unset, .unset, .unset] [(.double (4607182418800017408 : UInt64))])) _
        refine XS.goto X0.here hx rfl (pc0 := 23) (pc' := 51) rfl (hb hby at_23) (by decide) (by decide) ?_
        show Steps p.tables e below (s₁.setTop (mkF m 51 #[.val (.int p1), .val (.int p2), .val (.int (1 : Int32)), .val (.int sc), .unset, .unset, .unset, .unset, .unset, .unset, .unset, .unset, .unset, .unset, .unset, .unset, .unset, .unset, .unset, .unset, .unset] [(.double (4607182418800017408 : UInt64))])) _
        exact castTop (by rw [hv121]) k
      · rw [if_neg c118] at hv121
        show Steps p.tables e below (s₁.setTop (mkF m 19 #[.val (.int p1), .val (.int p2), .val (.int (1 : Int32)), .val (.int sc), .unset, .unset, .unset, .unset, .unset, .unset, .unset, .unset, .unset, .unset, .unset, .unset, .unset, .unset, .unset, .unset, .unset] [(.int sc)])) _
        refine XS.ifYes X0.here hx rfl (pc0 := 19) (pc' := 26) rfl (hb hby at_19) rfl ((if0 _ _).trans (feq c118).2) (by decide) (by decide) ?_
        show Steps p.tables e below (s₁.setTop (mkF m 26 #[.val (.int p1), .val (.int p2), .val (.int (1 : Int32)), .val (.int sc), .unset, .unset, .unset, .unset, .unset, .unset, .unset, .unset, .unset, .unset, .unset, .unset, .unset, .unset, .unset, .unset, .unset] [])) _
        refine XS.iloadN X0.here hx rfl (hb hby at_26) rfl ?_
        show Steps p.tables e below (s₁.setTop (mkF m 27 #[.val (.int p1), .val (.int p2), .val (.int (1 : Int32)), .val (.int sc), .unset, .unset, .unset, .unset, .unset, .unset, .unset, .unset, .unset, .unset, .unset, .unset, .unset, .unset, .unset, .unset, .unset] [(.int sc)])) _
        refine XS.iconst X0.here hx rfl (hb hby at_27) ?_
        by_cases c119 : sc = (1 : Int32)
        · rw [if_pos c119] at hv121
          show Steps p.tables e below (s₁.setTop (mkF m 28 #[.val (.int p1), .val (.int p2), .val (.int (1 : Int32)), .val (.int sc), .unset, .unset, .unset, .unset, .unset, .unset, .unset, .unset, .unset, .unset, .unset, .unset, .unset, .unset, .unset, .unset, .unset] [(.int (1 : Int32)), (.int sc)])) _
          refine XS.icmpNo X0.here hx rfl (hb hby at_28) rfl (teq c119).2 ?_
          show Steps p.tables e below (s₁.setTop (mkF m 31 #[.val (.int p1), .val (.int p2), .val (.int (1 : Int32)), .val (.int sc), .unset, .unset, .unset, .unset, .unset, .unset, .unset, .unset, .unset, .unset, .unset, .unset, .unset, .unset, .unset, .unset, .unset] [])) _
          refine X0.ldc2DoubleC hx hown (mvT hZ (hw _ (List.mem_of_getElem? (i := 0) rfl))) (g := (mkF m 31 #[.val (.int p1), .val (.int p2), .val (.int (1 : Int32)), .val (.int sc), .unset, .unset, .unset, .unset, .unset, .unset, .unset, .unset, .unset, .unset, .unset, .unset, .unset, .unset, .unset, .unset, .unset] [])) rfl (hb hby at_31) _ ?_
          show Steps p.tables e below (s₁.setTop (mkF m 34 #[.val (.int p1), .val (.int p2), .val (.int (1 : Int32)), .val (.int sc), .unset, .unset, .unset, .unset, .unset, .unset, .unset, .unset, .unset, .unset, .unset, .unset, .unset, .unset, .unset, .unset, .unset] [(.double (4427038433705197568 : UInt64))])) _
          refine XS.goto X0.here hx rfl (pc0 := 34) (pc' := 51) rfl (hb hby at_34) (by decide) (by decide) ?_
          show Steps p.tables e below (s₁.setTop (mkF m 51 #[.val (.int p1), .val (.int p2), .val (.int (1 : Int32)), .val (.int sc), .unset, .unset, .unset, .unset, .unset, .unset, .unset, .unset, .unset, .unset, .unset, .unset, .unset, .unset, .unset, .unset, .unset] [(.double (4427038433705197568 : UInt64))])) _
          exact castTop (by rw [hv121]) k
        · rw [if_neg c119] at hv121
          show Steps p.tables e below (s₁.setTop (mkF m 28 #[.val (.int p1), .val (.int p2), .val (.int (1 : Int32)), .val (.int sc), .unset, .unset, .unset, .unset, .unset, .unset, .unset, .unset, .unset, .unset, .unset, .unset, .unset, .unset, .unset, .unset, .unset] [(.int (1 : Int32)), (.int sc)])) _
          refine XS.icmpYes X0.here hx rfl (pc0 := 28) (pc' := 37) rfl (hb hby at_28) rfl (feq c119).2 (by decide) (by decide) ?_
          show Steps p.tables e below (s₁.setTop (mkF m 37 #[.val (.int p1), .val (.int p2), .val (.int (1 : Int32)), .val (.int sc), .unset, .unset, .unset, .unset, .unset, .unset, .unset, .unset, .unset, .unset, .unset, .unset, .unset, .unset, .unset, .unset, .unset] [])) _
          refine XS.iloadN X0.here hx rfl (hb hby at_37) rfl ?_
          show Steps p.tables e below (s₁.setTop (mkF m 38 #[.val (.int p1), .val (.int p2), .val (.int (1 : Int32)), .val (.int sc), .unset, .unset, .unset, .unset, .unset, .unset, .unset, .unset, .unset, .unset, .unset, .unset, .unset, .unset, .unset, .unset, .unset] [(.int sc)])) _
          refine XS.iconst X0.here hx rfl (hb hby at_38) ?_
          by_cases c120 : sc = (2 : Int32)
          · rw [if_pos c120] at hv121
            show Steps p.tables e below (s₁.setTop (mkF m 39 #[.val (.int p1), .val (.int p2), .val (.int (1 : Int32)), .val (.int sc), .unset, .unset, .unset, .unset, .unset, .unset, .unset, .unset, .unset, .unset, .unset, .unset, .unset, .unset, .unset, .unset, .unset] [(.int (2 : Int32)), (.int sc)])) _
            refine XS.icmpNo X0.here hx rfl (hb hby at_39) rfl (teq c120).2 ?_
            show Steps p.tables e below (s₁.setTop (mkF m 42 #[.val (.int p1), .val (.int p2), .val (.int (1 : Int32)), .val (.int sc), .unset, .unset, .unset, .unset, .unset, .unset, .unset, .unset, .unset, .unset, .unset, .unset, .unset, .unset, .unset, .unset, .unset] [])) _
            refine X0.ldc2DoubleC hx hown (mvT hZ (hw _ (List.mem_of_getElem? (i := 23) rfl))) (g := (mkF m 42 #[.val (.int p1), .val (.int p2), .val (.int (1 : Int32)), .val (.int sc), .unset, .unset, .unset, .unset, .unset, .unset, .unset, .unset, .unset, .unset, .unset, .unset, .unset, .unset, .unset, .unset, .unset] [])) rfl (hb hby at_42) _ ?_
            show Steps p.tables e below (s₁.setTop (mkF m 45 #[.val (.int p1), .val (.int p2), .val (.int (1 : Int32)), .val (.int sc), .unset, .unset, .unset, .unset, .unset, .unset, .unset, .unset, .unset, .unset, .unset, .unset, .unset, .unset, .unset, .unset, .unset] [(.double (4877398396442247168 : UInt64))])) _
            refine XS.goto X0.here hx rfl (pc0 := 45) (pc' := 51) rfl (hb hby at_45) (by decide) (by decide) ?_
            show Steps p.tables e below (s₁.setTop (mkF m 51 #[.val (.int p1), .val (.int p2), .val (.int (1 : Int32)), .val (.int sc), .unset, .unset, .unset, .unset, .unset, .unset, .unset, .unset, .unset, .unset, .unset, .unset, .unset, .unset, .unset, .unset, .unset] [(.double (4877398396442247168 : UInt64))])) _
            exact castTop (by rw [hv121]) k
          · rw [if_neg c120] at hv121
            show Steps p.tables e below (s₁.setTop (mkF m 39 #[.val (.int p1), .val (.int p2), .val (.int (1 : Int32)), .val (.int sc), .unset, .unset, .unset, .unset, .unset, .unset, .unset, .unset, .unset, .unset, .unset, .unset, .unset, .unset, .unset, .unset, .unset] [(.int (2 : Int32)), (.int sc)])) _
            refine XS.icmpYes X0.here hx rfl (pc0 := 39) (pc' := 48) rfl (hb hby at_39) rfl (feq c120).2 (by decide) (by decide) ?_
            show Steps p.tables e below (s₁.setTop (mkF m 48 #[.val (.int p1), .val (.int p2), .val (.int (1 : Int32)), .val (.int sc), .unset, .unset, .unset, .unset, .unset, .unset, .unset, .unset, .unset, .unset, .unset, .unset, .unset, .unset, .unset, .unset, .unset] [])) _
            refine X0.ldc2DoubleC hx hown (mvT hZ (hw _ (List.mem_of_getElem? (i := 26) rfl))) (g := (mkF m 48 #[.val (.int p1), .val (.int p2), .val (.int (1 : Int32)), .val (.int sc), .unset, .unset, .unset, .unset, .unset, .unset, .unset, .unset, .unset, .unset, .unset, .unset, .unset, .unset, .unset, .unset, .unset] [])) rfl (hb hby at_48) _ ?_
            show Steps p.tables e below (s₁.setTop (mkF m 51 #[.val (.int p1), .val (.int p2), .val (.int (1 : Int32)), .val (.int sc), .unset, .unset, .unset, .unset, .unset, .unset, .unset, .unset, .unset, .unset, .unset, .unset, .unset, .unset, .unset, .unset, .unset] [(.double (5057542381537067008 : UInt64))])) _
            exact castTop (by rw [hv121]) k)
    obtain ⟨te, ht, h3, Dv⟩ := own_scale (own_n4 _ sc hsc) hv121
    obtain ⟨xa, hxa⟩ : ∃ z : UInt64, FP.i2d p1 = z := ⟨_, rfl⟩
    have Dxa : Dy (p1.toInt) (0) xa := by rw [← hxa]; exact Dy.i2d _
    obtain ⟨xx, hxx⟩ : ∃ z : UInt64, FP.dmul xa v121 = z := ⟨_, rfl⟩
    have Dxx : Ex p1.toInt te xx := by rw [← hxx]; exact own_x Dxa Dv ht
    have k123 : ∀ t, Steps p.tables e below (s₁.setTop (mkF m 64 #[.val (.int p1), .val (.int p2), .val (.int (1 : Int32)), .val (.int sc), .val (.double v121), .second, .val (.double xx), .second, .unset, .unset, .unset, .unset, .unset, .unset, .unset, .unset, .unset, .unset, .unset, .unset, .unset] [])) t → Steps p.tables e below (s₁.setTop (entryFrame m #[(.int p1), (.int p2)] maxLocals)) t := fun t k => k122 t (by
      show Steps p.tables e below (s₁.setTop (mkF m 51 #[.val (.int p1), .val (.int p2), .val (.int (1 : Int32)), .val (.int sc), .unset, .unset, .unset, .unset, .unset, .unset, .unset, .unset, .unset, .unset, .unset, .unset, .unset, .unset, .unset, .unset, .unset] [(.double v121)])) _
      refine XS.dstore X0.here hx rfl (hb hby at_51) rfl (l' := #[.val (.int p1), .val (.int p2), .val (.int (1 : Int32)), .val (.int sc), .val (.double v121), .second, .unset, .unset, .unset, .unset, .unset, .unset, .unset, .unset, .unset, .unset, .unset, .unset, .unset, .unset, .unset]) rfl ?_
      show Steps p.tables e below (s₁.setTop (mkF m 53 #[.val (.int p1), .val (.int p2), .val (.int (1 : Int32)), .val (.int sc), .val (.double v121), .second, .unset, .unset, .unset, .unset, .unset, .unset, .unset, .unset, .unset, .unset, .unset, .unset, .unset, .unset, .unset] [])) _
      refine XS.iloadN X0.here hx rfl (hb hby at_53) rfl ?_
      show Steps p.tables e below (s₁.setTop (mkF m 54 #[.val (.int p1), .val (.int p2), .val (.int (1 : Int32)), .val (.int sc), .val (.double v121), .second, .unset, .unset, .unset, .unset, .unset, .unset, .unset, .unset, .unset, .unset, .unset, .unset, .unset, .unset, .unset] [(.int p1)])) _
      refine XS.i2dS X0.here hx rfl (hb hby at_54) rfl hxa ?_
      show Steps p.tables e below (s₁.setTop (mkF m 55 #[.val (.int p1), .val (.int p2), .val (.int (1 : Int32)), .val (.int sc), .val (.double v121), .second, .unset, .unset, .unset, .unset, .unset, .unset, .unset, .unset, .unset, .unset, .unset, .unset, .unset, .unset, .unset] [(.double xa)])) _
      refine XS.dload X0.here hx rfl (hb hby at_55) rfl ?_
      show Steps p.tables e below (s₁.setTop (mkF m 57 #[.val (.int p1), .val (.int p2), .val (.int (1 : Int32)), .val (.int sc), .val (.double v121), .second, .unset, .unset, .unset, .unset, .unset, .unset, .unset, .unset, .unset, .unset, .unset, .unset, .unset, .unset, .unset] [(.double v121), (.double xa)])) _
      refine XS.dmulS X0.here hx rfl (hb hby at_57) rfl (by rw [hxx]; exact Dxx.nn) hxx ?_
      show Steps p.tables e below (s₁.setTop (mkF m 58 #[.val (.int p1), .val (.int p2), .val (.int (1 : Int32)), .val (.int sc), .val (.double v121), .second, .unset, .unset, .unset, .unset, .unset, .unset, .unset, .unset, .unset, .unset, .unset, .unset, .unset, .unset, .unset] [(.double xx)])) _
      refine XS.dstore X0.here hx rfl (hb hby at_58) rfl (l' := #[.val (.int p1), .val (.int p2), .val (.int (1 : Int32)), .val (.int sc), .val (.double v121), .second, .val (.double xx), .second, .unset, .unset, .unset, .unset, .unset, .unset, .unset, .unset, .unset, .unset, .unset, .unset, .unset]) rfl ?_
      show Steps p.tables e below (s₁.setTop (mkF m 60 #[.val (.int p1), .val (.int p2), .val (.int (1 : Int32)), .val (.int sc), .val (.double v121), .second, .val (.double xx), .second, .unset, .unset, .unset, .unset, .unset, .unset, .unset, .unset, .unset, .unset, .unset, .unset, .unset] [])) _
      refine XS.iloadN X0.here hx rfl (hb hby at_60) rfl ?_
      show Steps p.tables e below (s₁.setTop (mkF m 61 #[.val (.int p1), .val (.int p2), .val (.int (1 : Int32)), .val (.int sc), .val (.double v121), .second, .val (.double xx), .second, .unset, .unset, .unset, .unset, .unset, .unset, .unset, .unset, .unset, .unset, .unset, .unset, .unset] [(.int (1 : Int32))])) _
      refine XS.ifNo X0.here hx rfl (hb hby at_61) rfl ((if0 _ _).trans (feq (by decide)).1) ?_
      exact k)
    obtain ⟨T124, X124, e124, st124⟩ := getS2 X0 hx hZ hown (host := "") (Or.inl (hw _ (List.mem_of_getElem? (i := 1) rfl))) Via.refl e0 Sa (g := (mkF m 64 #[.val (.int p1), .val (.int p2), .val (.int (1 : Int32)), .val (.int sc), .val (.double v121), .second, .val (.double xx), .second, .unset, .unset, .unset, .unset, .unset, .unset, .unset, .unset, .unset, .unset, .unset, .unset, .unset] [])) rfl (hb hby at_64)
    have k125 : ∀ t, Steps p.tables e below (T124.setTop (mkF m 67 #[.val (.int p1), .val (.int p2), .val (.int (1 : Int32)), .val (.int sc), .val (.double v121), .second, .val (.double xx), .second, .unset, .unset, .unset, .unset, .unset, .unset, .unset, .unset, .unset, .unset, .unset, .unset, .unset] [(.ref fa)])) t → Steps p.tables e below (s₁.setTop (entryFrame m #[(.int p1), (.int p2)] maxLocals)) t := fun t k => k123 t (st124 t k)
    obtain ⟨n8, n9, hreal⟩ := own_real Dxx (own_abs32 p1) ht
    have k126 : ∀ t, Steps p.tables e below (T124.setTop (mkF m 79 #[.val (.int p1), .val (.int p2), .val (.int (1 : Int32)), .val (.int sc), .val (.double v121), .second, .val (.double xx), .second, .val (.ref fa), .unset, .unset, .unset, .unset, .unset, .unset, .unset, .unset, .unset, .unset, .unset, .unset] [(.double xx), (.ref fa)])) t → Steps p.tables e below (s₁.setTop (entryFrame m #[(.int p1), (.int p2)] maxLocals)) t := fun t k => k125 t (by
      show Steps p.tables e below (T124.setTop (mkF m 67 #[.val (.int p1), .val (.int p2), .val (.int (1 : Int32)), .val (.int sc), .val (.double v121), .second, .val (.double xx), .second, .unset, .unset, .unset, .unset, .unset, .unset, .unset, .unset, .unset, .unset, .unset, .unset, .unset] [(.ref fa)])) _
      refine XS.goto X124.here hx rfl (pc0 := 67) (pc' := 73) rfl (hb hby at_67) (by decide) (by decide) ?_
      show Steps p.tables e below (T124.setTop (mkF m 73 #[.val (.int p1), .val (.int p2), .val (.int (1 : Int32)), .val (.int sc), .val (.double v121), .second, .val (.double xx), .second, .unset, .unset, .unset, .unset, .unset, .unset, .unset, .unset, .unset, .unset, .unset, .unset, .unset] [(.ref fa)])) _
      refine XS.astore X124.here hx rfl (hb hby at_73) rfl rfl (l' := #[.val (.int p1), .val (.int p2), .val (.int (1 : Int32)), .val (.int sc), .val (.double v121), .second, .val (.double xx), .second, .val (.ref fa), .unset, .unset, .unset, .unset, .unset, .unset, .unset, .unset, .unset, .unset, .unset, .unset]) rfl ?_
      show Steps p.tables e below (T124.setTop (mkF m 75 #[.val (.int p1), .val (.int p2), .val (.int (1 : Int32)), .val (.int sc), .val (.double v121), .second, .val (.double xx), .second, .val (.ref fa), .unset, .unset, .unset, .unset, .unset, .unset, .unset, .unset, .unset, .unset, .unset, .unset] [])) _
      refine XS.aload X124.here hx rfl (hb hby at_75) rfl rfl ?_
      show Steps p.tables e below (T124.setTop (mkF m 77 #[.val (.int p1), .val (.int p2), .val (.int (1 : Int32)), .val (.int sc), .val (.double v121), .second, .val (.double xx), .second, .val (.ref fa), .unset, .unset, .unset, .unset, .unset, .unset, .unset, .unset, .unset, .unset, .unset, .unset] [(.ref fa)])) _
      refine XS.dload X124.here hx rfl (hb hby at_77) rfl ?_
      exact k)
    obtain ⟨cq127, kq127, q127a, q127b, q127c⟩ := isOf hZ e124 Ea
    obtain ⟨_, _, ⟨T127, L127, k127, n127⟩, -, X127, ⟨Lc127, hQ127, l127, y127, z127⟩, st127⟩ := X124.virtualBack hx (y := (⟨"com/example/liblocus/liblocus/trec/Run$ScorePrecision", "of", "(D)D"⟩ : MethodName)) (z := (⟨"com/example/liblocus/liblocus/trec/Run$ScorePrecision", "of", "(D)D"⟩ : MethodName)) hown (mvT hZ (hw _ (List.mem_of_getElem? (i := 4) rfl))) (mvT hZ (hw _ (List.mem_of_getElem? (i := 5) rfl))) (notFace_of_selects (args := #[]) (mvT hZ (hw _ (List.mem_of_getElem? (i := 7) rfl)))) (mvT hZ (hw _ (List.mem_of_getElem? (i := 7) rfl))) (mvT hZ (hw _ (List.mem_of_getElem? (i := 6) rfl))) (by decide) (backOf (W := 0) (of_f l Z a0 hw [] fa xx h0 n0 Z0 Sa n8 n9) hZ (hw _ (List.mem_of_getElem? (i := 8) rfl)) (hw _ (List.mem_of_getElem? (i := 2) rfl)) (by decide) (by decide)) q127a q127c (g := (mkF m 79 #[.val (.int p1), .val (.int p2), .val (.int (1 : Int32)), .val (.int sc), .val (.double v121), .second, .val (.double xx), .second, .val (.ref fa), .unset, .unset, .unset, .unset, .unset, .unset, .unset, .unset, .unset, .unset, .unset, .unset] [(.double xx), (.ref fa)])) rfl (by rw [hml]; rfl) (Steps.refl _) (argsL := [(.double xx)]) (rest := []) (lenOf pd__28D_29D rfl) rfl (by show 2 * 0 + _ ≤ _; exact Nat.le_of_eq rfl) (hb hby at_79) (fun _ _ => ⟨rfl, e124, (by decide : 0 + 0 ≤ _), (by decide : 0 + 0 ≤ _)⟩)
    dsimp only [Pt.U, Pt.locs, Pt.cells, Pt.slots] at X127 l127 y127 z127 st127 hQ127
    subst l127 y127 z127
    obtain ⟨rfl, N127q, e127⟩ := hQ127
    have N128 := Fr.app N0 N127q
    have k129 : ∀ t, Steps p.tables e below (T127.setTop (mkF m 82 #[.val (.int p1), .val (.int p2), .val (.int (1 : Int32)), .val (.int sc), .val (.double v121), .second, .val (.double xx), .second, .val (.ref fa), .unset, .unset, .unset, .unset, .unset, .unset, .unset, .unset, .unset, .unset, .unset, .unset] [(.double (FP.f2d (FP.d2f xx)))])) t → Steps p.tables e below (s₁.setTop (entryFrame m #[(.int p1), (.int p2)] maxLocals)) t := fun t k => k126 t (st127.trans k)
    obtain ⟨rr, hrr⟩ : ∃ z : UInt64, z = (FP.f2d (FP.d2f xx)) := ⟨_, rfl⟩
    have k130 : ∀ t, Steps p.tables e below (T127.setTop (mkF m 104 #[.val (.int p1), .val (.int p2), .val (.int (1 : Int32)), .val (.int sc), .val (.double v121), .second, .val (.double xx), .second, .val (.ref fa), .val (.double rr), .second, .unset, .unset, .unset, .unset, .unset, .unset, .unset, .unset, .unset, .unset] [(.long (p1.toInt64))])) t → Steps p.tables e below (s₁.setTop (entryFrame m #[(.int p1), (.int p2)] maxLocals)) t := fun t k => k129 t (by
      show Steps p.tables e below (T127.setTop (mkF m 82 #[.val (.int p1), .val (.int p2), .val (.int (1 : Int32)), .val (.int sc), .val (.double v121), .second, .val (.double xx), .second, .val (.ref fa), .unset, .unset, .unset, .unset, .unset, .unset, .unset, .unset, .unset, .unset, .unset, .unset] [(.double (FP.f2d (FP.d2f xx)))])) _
      refine castTop (g' := (mkF m 82 #[.val (.int p1), .val (.int p2), .val (.int (1 : Int32)), .val (.int sc), .val (.double v121), .second, .val (.double xx), .second, .val (.ref fa), .unset, .unset, .unset, .unset, .unset, .unset, .unset, .unset, .unset, .unset, .unset, .unset] [(.double rr)])) (by rw [hrr]) ?_
      show Steps p.tables e below (T127.setTop (mkF m 82 #[.val (.int p1), .val (.int p2), .val (.int (1 : Int32)), .val (.int sc), .val (.double v121), .second, .val (.double xx), .second, .val (.ref fa), .unset, .unset, .unset, .unset, .unset, .unset, .unset, .unset, .unset, .unset, .unset, .unset] [(.double rr)])) _
      refine XS.dstore X127.here hx rfl (hb hby at_82) rfl (l' := #[.val (.int p1), .val (.int p2), .val (.int (1 : Int32)), .val (.int sc), .val (.double v121), .second, .val (.double xx), .second, .val (.ref fa), .val (.double rr), .second, .unset, .unset, .unset, .unset, .unset, .unset, .unset, .unset, .unset, .unset]) rfl ?_
      show Steps p.tables e below (T127.setTop (mkF m 84 #[.val (.int p1), .val (.int p2), .val (.int (1 : Int32)), .val (.int sc), .val (.double v121), .second, .val (.double xx), .second, .val (.ref fa), .val (.double rr), .second, .unset, .unset, .unset, .unset, .unset, .unset, .unset, .unset, .unset, .unset] [])) _
      refine XS.iloadN X127.here hx rfl (hb hby at_84) rfl ?_
      show Steps p.tables e below (T127.setTop (mkF m 85 #[.val (.int p1), .val (.int p2), .val (.int (1 : Int32)), .val (.int sc), .val (.double v121), .second, .val (.double xx), .second, .val (.ref fa), .val (.double rr), .second, .unset, .unset, .unset, .unset, .unset, .unset, .unset, .unset, .unset, .unset] [(.int (1 : Int32))])) _
      refine XS.ifYes X127.here hx rfl (pc0 := 85) (pc' := 102) rfl (hb hby at_85) rfl ((if0 _ _).trans (feq (by decide)).2) (by decide) (by decide) ?_
      show Steps p.tables e below (T127.setTop (mkF m 102 #[.val (.int p1), .val (.int p2), .val (.int (1 : Int32)), .val (.int sc), .val (.double v121), .second, .val (.double xx), .second, .val (.ref fa), .val (.double rr), .second, .unset, .unset, .unset, .unset, .unset, .unset, .unset, .unset, .unset, .unset] [])) _
      refine XS.iloadN X127.here hx rfl (hb hby at_102) rfl ?_
      show Steps p.tables e below (T127.setTop (mkF m 103 #[.val (.int p1), .val (.int p2), .val (.int (1 : Int32)), .val (.int sc), .val (.double v121), .second, .val (.double xx), .second, .val (.ref fa), .val (.double rr), .second, .unset, .unset, .unset, .unset, .unset, .unset, .unset, .unset, .unset, .unset] [(.int p1)])) _
      refine XS.i2l X127.here hx rfl (hb hby at_103) rfl ?_
      exact k)
    obtain ⟨_, _, ⟨T131, L131, k131, n131⟩, -, X131, ⟨Lc131, hQ131, l131, y131, z131⟩, st131⟩ := Jvm.LawKit.callS X127 hx (y := (⟨"java/lang/Math", "abs", "(J)J"⟩ : MethodName)) hown (mvT hZ (hw _ (List.mem_of_getElem? (i := 10) rfl))) (mvT hZ (hw _ (List.mem_of_getElem? (i := 11) rfl))) (mvT hZ (hw _ (List.mem_of_getElem? (i := 12) rfl))) (mvT hZ (hw _ (List.mem_of_getElem? (i := 13) rfl))) (by decide) (backOf (W := 0) (rm2 l Z a0 hw [] (p1.toInt64) h0 n0 Z0 ) hZ (hw _ (List.mem_of_getElem? (i := 13) rfl)) (hw _ (List.mem_of_getElem? (i := 12) rfl)) (by decide) (by decide)) (g := (mkF m 104 #[.val (.int p1), .val (.int p2), .val (.int (1 : Int32)), .val (.int sc), .val (.double v121), .second, .val (.double xx), .second, .val (.ref fa), .val (.double rr), .second, .unset, .unset, .unset, .unset, .unset, .unset, .unset, .unset, .unset, .unset] [(.long (p1.toInt64))])) rfl (by rw [hml]; rfl) (argsL := [(.long (p1.toInt64))]) (rest := []) (lenOf pd__28J_29J rfl) rfl (by show 2 * 0 + _ ≤ _; exact Nat.le_of_eq rfl) (hb hby at_104) (fun _ _ => ⟨rfl, e127, (by decide : 0 + 0 ≤ _), (by decide : 0 + 0 ≤ _)⟩)
    dsimp only [Pt.U, Pt.locs, Pt.cells, Pt.slots] at X131 l131 y131 z131 st131 hQ131
    subst l131 y131 z131
    obtain ⟨rfl, N131q, e131⟩ := hQ131
    have N132 := Fr.app N128 N131q
    have k133 : ∀ t, Steps p.tables e below (T131.setTop (mkF m 107 #[.val (.int p1), .val (.int p2), .val (.int (1 : Int32)), .val (.int sc), .val (.double v121), .second, .val (.double xx), .second, .val (.ref fa), .val (.double rr), .second, .unset, .unset, .unset, .unset, .unset, .unset, .unset, .unset, .unset, .unset] [(.long (if lcmpW (p1.toInt64) (0 : Int64) < (0 : Int32) then -(p1.toInt64) else (p1.toInt64)))])) t → Steps p.tables e below (s₁.setTop (entryFrame m #[(.int p1), (.int p2)] maxLocals)) t := fun t k => k130 t (st131 t k)
    obtain ⟨mm, hmm⟩ : ∃ z : Int64, z = (if lcmpW (p1.toInt64) (0 : Int64) < (0 : Int32) then -(p1.toInt64) else (p1.toInt64)) := ⟨_, rfl⟩
    have hm' : mm.toInt = (p1.toInt.natAbs : Int) := by rw [hmm]; exact own_absE p1
    have k134 : ∀ t, Steps p.tables e below (T131.setTop (mkF m 111 #[.val (.int p1), .val (.int p2), .val (.int (1 : Int32)), .val (.int sc), .val (.double v121), .second, .val (.double xx), .second, .val (.ref fa), .val (.double rr), .second, .val (.long mm), .second, .unset, .unset, .unset, .unset, .unset, .unset, .unset, .unset] [(.long mm)])) t → Steps p.tables e below (s₁.setTop (entryFrame m #[(.int p1), (.int p2)] maxLocals)) t := fun t k => k133 t (by
      show Steps p.tables e below (T131.setTop (mkF m 107 #[.val (.int p1), .val (.int p2), .val (.int (1 : Int32)), .val (.int sc), .val (.double v121), .second, .val (.double xx), .second, .val (.ref fa), .val (.double rr), .second, .unset, .unset, .unset, .unset, .unset, .unset, .unset, .unset, .unset, .unset] [(.long (if lcmpW (p1.toInt64) (0 : Int64) < (0 : Int32) then -(p1.toInt64) else (p1.toInt64)))])) _
      refine castTop (g' := (mkF m 107 #[.val (.int p1), .val (.int p2), .val (.int (1 : Int32)), .val (.int sc), .val (.double v121), .second, .val (.double xx), .second, .val (.ref fa), .val (.double rr), .second, .unset, .unset, .unset, .unset, .unset, .unset, .unset, .unset, .unset, .unset] [(.long mm)])) (by rw [hmm]) ?_
      show Steps p.tables e below (T131.setTop (mkF m 107 #[.val (.int p1), .val (.int p2), .val (.int (1 : Int32)), .val (.int sc), .val (.double v121), .second, .val (.double xx), .second, .val (.ref fa), .val (.double rr), .second, .unset, .unset, .unset, .unset, .unset, .unset, .unset, .unset, .unset, .unset] [(.long mm)])) _
      refine XS.lstore X131.here hx rfl (hb hby at_107) rfl (l' := #[.val (.int p1), .val (.int p2), .val (.int (1 : Int32)), .val (.int sc), .val (.double v121), .second, .val (.double xx), .second, .val (.ref fa), .val (.double rr), .second, .val (.long mm), .second, .unset, .unset, .unset, .unset, .unset, .unset, .unset, .unset]) rfl ?_
      show Steps p.tables e below (T131.setTop (mkF m 109 #[.val (.int p1), .val (.int p2), .val (.int (1 : Int32)), .val (.int sc), .val (.double v121), .second, .val (.double xx), .second, .val (.ref fa), .val (.double rr), .second, .val (.long mm), .second, .unset, .unset, .unset, .unset, .unset, .unset, .unset, .unset] [])) _
      refine XS.lload X131.here hx rfl (hb hby at_109) rfl ?_
      exact k)
    obtain ⟨_, _, ⟨T135, L135, k135, n135⟩, -, X135, ⟨Lc135, hQ135, l135, y135, z135⟩, st135⟩ := Jvm.LawKit.callS X131 hx (y := (⟨"com/example/liblocus/liblocus/trec/ScorePrecisionOfPinLaw", "spacing", "(J)J"⟩ : MethodName)) hown (mvT hZ (hw _ (List.mem_of_getElem? (i := 14) rfl))) (mvT hZ (hw _ (List.mem_of_getElem? (i := 15) rfl))) (mvT hZ (hw _ (List.mem_of_getElem? (i := 16) rfl))) (mvT hZ (hw _ (List.mem_of_getElem? (i := 17) rfl))) (by decide) (backOf (W := 0) (rm3 l Z a0 hw [] mm h0 n0 Z0 ) hZ (hw _ (List.mem_of_getElem? (i := 17) rfl)) (hw _ (List.mem_of_getElem? (i := 16) rfl)) (by decide) (by decide)) (g := (mkF m 111 #[.val (.int p1), .val (.int p2), .val (.int (1 : Int32)), .val (.int sc), .val (.double v121), .second, .val (.double xx), .second, .val (.ref fa), .val (.double rr), .second, .val (.long mm), .second, .unset, .unset, .unset, .unset, .unset, .unset, .unset, .unset] [(.long mm)])) rfl (by rw [hml]; rfl) (argsL := [(.long mm)]) (rest := []) (lenOf pd__28J_29J rfl) rfl (by show 2 * 0 + _ ≤ _; exact Nat.le_of_eq rfl) (hb hby at_111) (fun _ _ => ⟨rfl, e131, (by decide : 0 + 0 ≤ _), (by decide : 0 + 0 ≤ _)⟩)
    dsimp only [Pt.U, Pt.locs, Pt.cells, Pt.slots] at X135 l135 y135 z135 st135 hQ135
    subst l135 y135 z135
    obtain ⟨rfl, N135q, e135⟩ := hQ135
    have N136 := Fr.app N132 N135q
    have k137 : ∀ t, Steps p.tables e below (T135.setTop (mkF m 114 #[.val (.int p1), .val (.int p2), .val (.int (1 : Int32)), .val (.int sc), .val (.double v121), .second, .val (.double xx), .second, .val (.ref fa), .val (.double rr), .second, .val (.long mm), .second, .unset, .unset, .unset, .unset, .unset, .unset, .unset, .unset] [(.long (own_spc mm))])) t → Steps p.tables e below (s₁.setTop (entryFrame m #[(.int p1), (.int p2)] maxLocals)) t := fun t k => k134 t (st135 t k)
    obtain ⟨sp, hsp⟩ : ∃ z : Int64, z = (own_spc mm) := ⟨_, rfl⟩
    obtain ⟨sh, hs8, hshc, hsp'⟩ := own_spcE hm' (own_abs32 p1) hsp
    have hz : sp ≠ 0 := own_nz hsp'
    have k138 : ∀ t, Steps p.tables e below (T135.setTop (mkF m 120 #[.val (.int p1), .val (.int p2), .val (.int (1 : Int32)), .val (.int sc), .val (.double v121), .second, .val (.double xx), .second, .val (.ref fa), .val (.double rr), .second, .val (.long mm), .second, .val (.long sp), .second, .unset, .unset, .unset, .unset, .unset, .unset] [(.long sp), (.long mm)])) t → Steps p.tables e below (s₁.setTop (entryFrame m #[(.int p1), (.int p2)] maxLocals)) t := fun t k => k137 t (by
      show Steps p.tables e below (T135.setTop (mkF m 114 #[.val (.int p1), .val (.int p2), .val (.int (1 : Int32)), .val (.int sc), .val (.double v121), .second, .val (.double xx), .second, .val (.ref fa), .val (.double rr), .second, .val (.long mm), .second, .unset, .unset, .unset, .unset, .unset, .unset, .unset, .unset] [(.long (own_spc mm))])) _
      refine castTop (g' := (mkF m 114 #[.val (.int p1), .val (.int p2), .val (.int (1 : Int32)), .val (.int sc), .val (.double v121), .second, .val (.double xx), .second, .val (.ref fa), .val (.double rr), .second, .val (.long mm), .second, .unset, .unset, .unset, .unset, .unset, .unset, .unset, .unset] [(.long sp)])) (by rw [hsp]) ?_
      show Steps p.tables e below (T135.setTop (mkF m 114 #[.val (.int p1), .val (.int p2), .val (.int (1 : Int32)), .val (.int sc), .val (.double v121), .second, .val (.double xx), .second, .val (.ref fa), .val (.double rr), .second, .val (.long mm), .second, .unset, .unset, .unset, .unset, .unset, .unset, .unset, .unset] [(.long sp)])) _
      refine XS.lstore X135.here hx rfl (hb hby at_114) rfl (l' := #[.val (.int p1), .val (.int p2), .val (.int (1 : Int32)), .val (.int sc), .val (.double v121), .second, .val (.double xx), .second, .val (.ref fa), .val (.double rr), .second, .val (.long mm), .second, .val (.long sp), .second, .unset, .unset, .unset, .unset, .unset, .unset]) rfl ?_
      show Steps p.tables e below (T135.setTop (mkF m 116 #[.val (.int p1), .val (.int p2), .val (.int (1 : Int32)), .val (.int sc), .val (.double v121), .second, .val (.double xx), .second, .val (.ref fa), .val (.double rr), .second, .val (.long mm), .second, .val (.long sp), .second, .unset, .unset, .unset, .unset, .unset, .unset] [])) _
      refine XS.lload X135.here hx rfl (hb hby at_116) rfl ?_
      show Steps p.tables e below (T135.setTop (mkF m 118 #[.val (.int p1), .val (.int p2), .val (.int (1 : Int32)), .val (.int sc), .val (.double v121), .second, .val (.double xx), .second, .val (.ref fa), .val (.double rr), .second, .val (.long mm), .second, .val (.long sp), .second, .unset, .unset, .unset, .unset, .unset, .unset] [(.long mm)])) _
      refine XS.lload X135.here hx rfl (hb hby at_118) rfl ?_
      exact k)
    obtain ⟨_, _, ⟨T139, L139, k139, n139⟩, -, X139, ⟨Lc139, hQ139, l139, y139, z139⟩, st139⟩ := Jvm.LawKit.callS X135 hx (y := (⟨"com/example/liblocus/liblocus/trec/ScorePrecisionOfPinLaw", "nearestMultiple", "(JJ)J"⟩ : MethodName)) hown (mvT hZ (hw _ (List.mem_of_getElem? (i := 19) rfl))) (mvT hZ (hw _ (List.mem_of_getElem? (i := 20) rfl))) (mvT hZ (hw _ (List.mem_of_getElem? (i := 16) rfl))) (mvT hZ (hw _ (List.mem_of_getElem? (i := 21) rfl))) (by decide) (backOf (W := 0) (rm4 l Z a0 hw [] mm sp h0 n0 Z0 hz) hZ (hw _ (List.mem_of_getElem? (i := 21) rfl)) (hw _ (List.mem_of_getElem? (i := 16) rfl)) (by decide) (by decide)) (g := (mkF m 120 #[.val (.int p1), .val (.int p2), .val (.int (1 : Int32)), .val (.int sc), .val (.double v121), .second, .val (.double xx), .second, .val (.ref fa), .val (.double rr), .second, .val (.long mm), .second, .val (.long sp), .second, .unset, .unset, .unset, .unset, .unset, .unset] [(.long sp), (.long mm)])) rfl (by rw [hml]; rfl) (argsL := [(.long mm), (.long sp)]) (rest := []) (lenOf pd__28JJ_29J rfl) rfl (by show 2 * 0 + _ ≤ _; exact Nat.le_of_eq rfl) (hb hby at_120) (fun _ _ => ⟨rfl, e135, (by decide : 0 + 0 ≤ _), (by decide : 0 + 0 ≤ _)⟩)
    dsimp only [Pt.U, Pt.locs, Pt.cells, Pt.slots] at X139 l139 y139 z139 st139 hQ139
    subst l139 y139 z139
    obtain ⟨rfl, N139q, e139⟩ := hQ139
    have N140 := Fr.app N136 N139q
    have k141 : ∀ t, Steps p.tables e below (T139.setTop (mkF m 123 #[.val (.int p1), .val (.int p2), .val (.int (1 : Int32)), .val (.int sc), .val (.double v121), .second, .val (.double xx), .second, .val (.ref fa), .val (.double rr), .second, .val (.long mm), .second, .val (.long sp), .second, .unset, .unset, .unset, .unset, .unset, .unset] [(.long (own_nmu mm sp))])) t → Steps p.tables e below (s₁.setTop (entryFrame m #[(.int p1), (.int p2)] maxLocals)) t := fun t k => k138 t (st139 t k)
    obtain ⟨qm, hqm⟩ : ∃ z : Int64, z = (own_nmu mm sp) := ⟨_, rfl⟩
    have hqm' : qm.toInt = ((nearest p1.toInt.natAbs (2 ^ sh) * 2 ^ sh : Nat) : Int) := by rw [hqm]; exact own_nmuE hm' hsp' (own_abs32 p1) hs8
    obtain ⟨hQb, hinf, hval⟩ := hreal sh hs8 hshc
    have k142 : ∀ t, Steps p.tables e below (T139.setTop (mkF m 126 #[.val (.int p1), .val (.int p2), .val (.int (1 : Int32)), .val (.int sc), .val (.double v121), .second, .val (.double xx), .second, .val (.ref fa), .val (.double rr), .second, .val (.long mm), .second, .val (.long sp), .second, .val (.long qm), .second, .unset, .unset, .unset, .unset] [(.int p1)])) t → Steps p.tables e below (s₁.setTop (entryFrame m #[(.int p1), (.int p2)] maxLocals)) t := fun t k => k141 t (by
      show Steps p.tables e below (T139.setTop (mkF m 123 #[.val (.int p1), .val (.int p2), .val (.int (1 : Int32)), .val (.int sc), .val (.double v121), .second, .val (.double xx), .second, .val (.ref fa), .val (.double rr), .second, .val (.long mm), .second, .val (.long sp), .second, .unset, .unset, .unset, .unset, .unset, .unset] [(.long (own_nmu mm sp))])) _
      refine castTop (g' := (mkF m 123 #[.val (.int p1), .val (.int p2), .val (.int (1 : Int32)), .val (.int sc), .val (.double v121), .second, .val (.double xx), .second, .val (.ref fa), .val (.double rr), .second, .val (.long mm), .second, .val (.long sp), .second, .unset, .unset, .unset, .unset, .unset, .unset] [(.long qm)])) (by rw [hqm]) ?_
      show Steps p.tables e below (T139.setTop (mkF m 123 #[.val (.int p1), .val (.int p2), .val (.int (1 : Int32)), .val (.int sc), .val (.double v121), .second, .val (.double xx), .second, .val (.ref fa), .val (.double rr), .second, .val (.long mm), .second, .val (.long sp), .second, .unset, .unset, .unset, .unset, .unset, .unset] [(.long qm)])) _
      refine XS.lstore X139.here hx rfl (hb hby at_123) rfl (l' := #[.val (.int p1), .val (.int p2), .val (.int (1 : Int32)), .val (.int sc), .val (.double v121), .second, .val (.double xx), .second, .val (.ref fa), .val (.double rr), .second, .val (.long mm), .second, .val (.long sp), .second, .val (.long qm), .second, .unset, .unset, .unset, .unset]) rfl ?_
      show Steps p.tables e below (T139.setTop (mkF m 125 #[.val (.int p1), .val (.int p2), .val (.int (1 : Int32)), .val (.int sc), .val (.double v121), .second, .val (.double xx), .second, .val (.ref fa), .val (.double rr), .second, .val (.long mm), .second, .val (.long sp), .second, .val (.long qm), .second, .unset, .unset, .unset, .unset] [])) _
      refine XS.iloadN X139.here hx rfl (hb hby at_125) rfl ?_
      exact k)
    obtain ⟨j144, hj144⟩ : ∃ z : Int64, z = (if p1 < (0 : Int32) then (-qm) else qm) := ⟨_, rfl⟩
    have k145 : ∀ t, Steps p.tables e below (T139.setTop (mkF m 137 #[.val (.int p1), .val (.int p2), .val (.int (1 : Int32)), .val (.int sc), .val (.double v121), .second, .val (.double xx), .second, .val (.ref fa), .val (.double rr), .second, .val (.long mm), .second, .val (.long sp), .second, .val (.long qm), .second, .unset, .unset, .unset, .unset] [(.long j144)])) t → Steps p.tables e below (s₁.setTop (entryFrame m #[(.int p1), (.int p2)] maxLocals)) t := fun t k => k142 t (by
      by_cases c143 : p1 < (0 : Int32)
      · rw [if_pos c143] at hj144
        show Steps p.tables e below (T139.setTop (mkF m 126 #[.val (.int p1), .val (.int p2), .val (.int (1 : Int32)), .val (.int sc), .val (.double v121), .second, .val (.double xx), .second, .val (.ref fa), .val (.double rr), .second, .val (.long mm), .second, .val (.long sp), .second, .val (.long qm), .second, .unset, .unset, .unset, .unset] [(.int p1)])) _
        refine XS.ifNo X139.here hx rfl (hb hby at_126) rfl ((if0 _ _).trans (tlt c143).2.1) ?_
        show Steps p.tables e below (T139.setTop (mkF m 129 #[.val (.int p1), .val (.int p2), .val (.int (1 : Int32)), .val (.int sc), .val (.double v121), .second, .val (.double xx), .second, .val (.ref fa), .val (.double rr), .second, .val (.long mm), .second, .val (.long sp), .second, .val (.long qm), .second, .unset, .unset, .unset, .unset] [])) _
        refine XS.lload X139.here hx rfl (hb hby at_129) rfl ?_
        show Steps p.tables e below (T139.setTop (mkF m 131 #[.val (.int p1), .val (.int p2), .val (.int (1 : Int32)), .val (.int sc), .val (.double v121), .second, .val (.double xx), .second, .val (.ref fa), .val (.double rr), .second, .val (.long mm), .second, .val (.long sp), .second, .val (.long qm), .second, .unset, .unset, .unset, .unset] [(.long qm)])) _
        refine XS.lneg X139.here hx rfl (hb hby at_131) rfl ?_
        show Steps p.tables e below (T139.setTop (mkF m 132 #[.val (.int p1), .val (.int p2), .val (.int (1 : Int32)), .val (.int sc), .val (.double v121), .second, .val (.double xx), .second, .val (.ref fa), .val (.double rr), .second, .val (.long mm), .second, .val (.long sp), .second, .val (.long qm), .second, .unset, .unset, .unset, .unset] [(.long (-qm))])) _
        refine XS.goto X139.here hx rfl (pc0 := 132) (pc' := 137) rfl (hb hby at_132) (by decide) (by decide) ?_
        show Steps p.tables e below (T139.setTop (mkF m 137 #[.val (.int p1), .val (.int p2), .val (.int (1 : Int32)), .val (.int sc), .val (.double v121), .second, .val (.double xx), .second, .val (.ref fa), .val (.double rr), .second, .val (.long mm), .second, .val (.long sp), .second, .val (.long qm), .second, .unset, .unset, .unset, .unset] [(.long (-qm))])) _
        exact castTop (by rw [hj144]) k
      · rw [if_neg c143] at hj144
        show Steps p.tables e below (T139.setTop (mkF m 126 #[.val (.int p1), .val (.int p2), .val (.int (1 : Int32)), .val (.int sc), .val (.double v121), .second, .val (.double xx), .second, .val (.ref fa), .val (.double rr), .second, .val (.long mm), .second, .val (.long sp), .second, .val (.long qm), .second, .unset, .unset, .unset, .unset] [(.int p1)])) _
        refine XS.ifYes X139.here hx rfl (pc0 := 126) (pc' := 135) rfl (hb hby at_126) rfl ((if0 _ _).trans (flt c143).2.1) (by decide) (by decide) ?_
        show Steps p.tables e below (T139.setTop (mkF m 135 #[.val (.int p1), .val (.int p2), .val (.int (1 : Int32)), .val (.int sc), .val (.double v121), .second, .val (.double xx), .second, .val (.ref fa), .val (.double rr), .second, .val (.long mm), .second, .val (.long sp), .second, .val (.long qm), .second, .unset, .unset, .unset, .unset] [])) _
        refine XS.lload X139.here hx rfl (hb hby at_135) rfl ?_
        show Steps p.tables e below (T139.setTop (mkF m 137 #[.val (.int p1), .val (.int p2), .val (.int (1 : Int32)), .val (.int sc), .val (.double v121), .second, .val (.double xx), .second, .val (.ref fa), .val (.double rr), .second, .val (.long mm), .second, .val (.long sp), .second, .val (.long qm), .second, .unset, .unset, .unset, .unset] [(.long qm)])) _
        exact castTop (by rw [hj144]) k)
    have hq' : j144.toInt = signed (decide (p1.toInt < 0)) (nearest p1.toInt.natAbs (2 ^ sh) * 2 ^ sh) := by rw [hj144]; exact own_qE hqm' hQb
    have hqb : j144.toInt.natAbs < 9007199254740992 := by rw [hq']; exact own_qb _ hQb
    have k146 : ∀ t, Steps p.tables e below (T139.setTop (mkF m 141 #[.val (.int p1), .val (.int p2), .val (.int (1 : Int32)), .val (.int sc), .val (.double v121), .second, .val (.double xx), .second, .val (.ref fa), .val (.double rr), .second, .val (.long mm), .second, .val (.long sp), .second, .val (.long qm), .second, .val (.long j144), .second, .unset, .unset] [(.int (3 : Int32)), (.int sc)])) t → Steps p.tables e below (s₁.setTop (entryFrame m #[(.int p1), (.int p2)] maxLocals)) t := fun t k => k145 t (by
      show Steps p.tables e below (T139.setTop (mkF m 137 #[.val (.int p1), .val (.int p2), .val (.int (1 : Int32)), .val (.int sc), .val (.double v121), .second, .val (.double xx), .second, .val (.ref fa), .val (.double rr), .second, .val (.long mm), .second, .val (.long sp), .second, .val (.long qm), .second, .unset, .unset, .unset, .unset] [(.long j144)])) _
      refine XS.lstore X139.here hx rfl (hb hby at_137) rfl (l' := #[.val (.int p1), .val (.int p2), .val (.int (1 : Int32)), .val (.int sc), .val (.double v121), .second, .val (.double xx), .second, .val (.ref fa), .val (.double rr), .second, .val (.long mm), .second, .val (.long sp), .second, .val (.long qm), .second, .val (.long j144), .second, .unset, .unset]) rfl ?_
      show Steps p.tables e below (T139.setTop (mkF m 139 #[.val (.int p1), .val (.int p2), .val (.int (1 : Int32)), .val (.int sc), .val (.double v121), .second, .val (.double xx), .second, .val (.ref fa), .val (.double rr), .second, .val (.long mm), .second, .val (.long sp), .second, .val (.long qm), .second, .val (.long j144), .second, .unset, .unset] [])) _
      refine XS.iloadN X139.here hx rfl (hb hby at_139) rfl ?_
      show Steps p.tables e below (T139.setTop (mkF m 140 #[.val (.int p1), .val (.int p2), .val (.int (1 : Int32)), .val (.int sc), .val (.double v121), .second, .val (.double xx), .second, .val (.ref fa), .val (.double rr), .second, .val (.long mm), .second, .val (.long sp), .second, .val (.long qm), .second, .val (.long j144), .second, .unset, .unset] [(.int sc)])) _
      refine XS.iconst X139.here hx rfl (hb hby at_140) ?_
      exact k)
    by_cases c147 : sc = (3 : Int32)
    · have k148 : ∀ t, Steps p.tables e below (T139.setTop (mkF m 150 #[.val (.int p1), .val (.int p2), .val (.int (1 : Int32)), .val (.int sc), .val (.double v121), .second, .val (.double xx), .second, .val (.ref fa), .val (.double rr), .second, .val (.long mm), .second, .val (.long sp), .second, .val (.long qm), .second, .val (.long j144), .second, .unset, .unset] [(.int (lcmpW qm (268435456 : Int64)))])) t → Steps p.tables e below (s₁.setTop (entryFrame m #[(.int p1), (.int p2)] maxLocals)) t := fun t k => k146 t (by
        show Steps p.tables e below (T139.setTop (mkF m 141 #[.val (.int p1), .val (.int p2), .val (.int (1 : Int32)), .val (.int sc), .val (.double v121), .second, .val (.double xx), .second, .val (.ref fa), .val (.double rr), .second, .val (.long mm), .second, .val (.long sp), .second, .val (.long qm), .second, .val (.long j144), .second, .unset, .unset] [(.int (3 : Int32)), (.int sc)])) _
        refine XS.icmpNo X139.here hx rfl (hb hby at_141) rfl (teq c147).2 ?_
        show Steps p.tables e below (T139.setTop (mkF m 144 #[.val (.int p1), .val (.int p2), .val (.int (1 : Int32)), .val (.int sc), .val (.double v121), .second, .val (.double xx), .second, .val (.ref fa), .val (.double rr), .second, .val (.long mm), .second, .val (.long sp), .second, .val (.long qm), .second, .val (.long j144), .second, .unset, .unset] [])) _
        refine XS.lload X139.here hx rfl (hb hby at_144) rfl ?_
        show Steps p.tables e below (T139.setTop (mkF m 146 #[.val (.int p1), .val (.int p2), .val (.int (1 : Int32)), .val (.int sc), .val (.double v121), .second, .val (.double xx), .second, .val (.ref fa), .val (.double rr), .second, .val (.long mm), .second, .val (.long sp), .second, .val (.long qm), .second, .val (.long j144), .second, .unset, .unset] [(.long qm)])) _
        refine X139.ldc2Long hx hown (mvT hZ (hw _ (List.mem_of_getElem? (i := 27) rfl))) (g := (mkF m 146 #[.val (.int p1), .val (.int p2), .val (.int (1 : Int32)), .val (.int sc), .val (.double v121), .second, .val (.double xx), .second, .val (.ref fa), .val (.double rr), .second, .val (.long mm), .second, .val (.long sp), .second, .val (.long qm), .second, .val (.long j144), .second, .unset, .unset] [(.long qm)])) rfl (hb hby at_146) _ ?_
        show Steps p.tables e below (T139.setTop (mkF m 149 #[.val (.int p1), .val (.int p2), .val (.int (1 : Int32)), .val (.int sc), .val (.double v121), .second, .val (.double xx), .second, .val (.ref fa), .val (.double rr), .second, .val (.long mm), .second, .val (.long sp), .second, .val (.long qm), .second, .val (.long j144), .second, .unset, .unset] [(.long (268435456 : Int64)), (.long qm)])) _
        refine XS.lcmp X139.here hx rfl (hb hby at_149) rfl ?_
        exact k)
      by_cases c149 : (lcmpW qm (268435456 : Int64)) < (0 : Int32)
      · obtain ⟨vq, hvq⟩ : ∃ z : UInt64, FP.l2d j144 = z := ⟨_, rfl⟩
        have Dvq : Dy (j144.toInt) (0) vq := by rw [← hvq]; exact Dy.l2d hqb
        obtain ⟨ev, hev⟩ : ∃ z : UInt64, FP.dmul vq v121 = z := ⟨_, rfl⟩
        have Dev : Ex j144.toInt te ev := by rw [← hev]; exact own_x' Dvq Dv hqb ht
        have hfin : cmpValue (FP.dcmp rr ev) .l = (0 : Int32) := by rw [hq'] at Dev; rw [hrr]; exact Ex.cmp_eq (hval (fun h => absurd h.2 (own_small hqm' c149))) Dev .l
        have k150 : ∀ t, Steps p.tables e below (T139.setTop (mkF m 192 #[.val (.int p1), .val (.int p2), .val (.int (1 : Int32)), .val (.int sc), .val (.double v121), .second, .val (.double xx), .second, .val (.ref fa), .val (.double rr), .second, .val (.long mm), .second, .val (.long sp), .second, .val (.long qm), .second, .val (.long j144), .second, .val (.double ev), .second] [(.int (1 : Int32))])) t → Steps p.tables e below (s₁.setTop (entryFrame m #[(.int p1), (.int p2)] maxLocals)) t := fun t k => k148 t (by
          show Steps p.tables e below (T139.setTop (mkF m 150 #[.val (.int p1), .val (.int p2), .val (.int (1 : Int32)), .val (.int sc), .val (.double v121), .second, .val (.double xx), .second, .val (.ref fa), .val (.double rr), .second, .val (.long mm), .second, .val (.long sp), .second, .val (.long qm), .second, .val (.long j144), .second, .unset, .unset] [(.int (lcmpW qm (268435456 : Int64)))])) _
          refine XS.ifYes X139.here hx rfl (pc0 := 150) (pc' := 171) rfl (hb hby at_150) rfl ((if0 _ _).trans (tlt c149).1) (by decide) (by decide) ?_
          show Steps p.tables e below (T139.setTop (mkF m 171 #[.val (.int p1), .val (.int p2), .val (.int (1 : Int32)), .val (.int sc), .val (.double v121), .second, .val (.double xx), .second, .val (.ref fa), .val (.double rr), .second, .val (.long mm), .second, .val (.long sp), .second, .val (.long qm), .second, .val (.long j144), .second, .unset, .unset] [])) _
          refine XS.lload X139.here hx rfl (hb hby at_171) rfl ?_
          show Steps p.tables e below (T139.setTop (mkF m 173 #[.val (.int p1), .val (.int p2), .val (.int (1 : Int32)), .val (.int sc), .val (.double v121), .second, .val (.double xx), .second, .val (.ref fa), .val (.double rr), .second, .val (.long mm), .second, .val (.long sp), .second, .val (.long qm), .second, .val (.long j144), .second, .unset, .unset] [(.long j144)])) _
          refine XS.l2dS X139.here hx rfl (hb hby at_173) rfl hvq ?_
          show Steps p.tables e below (T139.setTop (mkF m 174 #[.val (.int p1), .val (.int p2), .val (.int (1 : Int32)), .val (.int sc), .val (.double v121), .second, .val (.double xx), .second, .val (.ref fa), .val (.double rr), .second, .val (.long mm), .second, .val (.long sp), .second, .val (.long qm), .second, .val (.long j144), .second, .unset, .unset] [(.double vq)])) _
          refine XS.dload X139.here hx rfl (hb hby at_174) rfl ?_
          show Steps p.tables e below (T139.setTop (mkF m 176 #[.val (.int p1), .val (.int p2), .val (.int (1 : Int32)), .val (.int sc), .val (.double v121), .second, .val (.double xx), .second, .val (.ref fa), .val (.double rr), .second, .val (.long mm), .second, .val (.long sp), .second, .val (.long qm), .second, .val (.long j144), .second, .unset, .unset] [(.double v121), (.double vq)])) _
          refine XS.dmulS X139.here hx rfl (hb hby at_176) rfl (by rw [hev]; exact Dev.nn) hev ?_
          show Steps p.tables e below (T139.setTop (mkF m 177 #[.val (.int p1), .val (.int p2), .val (.int (1 : Int32)), .val (.int sc), .val (.double v121), .second, .val (.double xx), .second, .val (.ref fa), .val (.double rr), .second, .val (.long mm), .second, .val (.long sp), .second, .val (.long qm), .second, .val (.long j144), .second, .unset, .unset] [(.double ev)])) _
          refine XS.dstore X139.here hx rfl (hb hby at_177) rfl (l' := #[.val (.int p1), .val (.int p2), .val (.int (1 : Int32)), .val (.int sc), .val (.double v121), .second, .val (.double xx), .second, .val (.ref fa), .val (.double rr), .second, .val (.long mm), .second, .val (.long sp), .second, .val (.long qm), .second, .val (.long j144), .second, .val (.double ev), .second]) rfl ?_
          show Steps p.tables e below (T139.setTop (mkF m 179 #[.val (.int p1), .val (.int p2), .val (.int (1 : Int32)), .val (.int sc), .val (.double v121), .second, .val (.double xx), .second, .val (.ref fa), .val (.double rr), .second, .val (.long mm), .second, .val (.long sp), .second, .val (.long qm), .second, .val (.long j144), .second, .val (.double ev), .second] [])) _
          refine XS.dload X139.here hx rfl (hb hby at_179) rfl ?_
          show Steps p.tables e below (T139.setTop (mkF m 181 #[.val (.int p1), .val (.int p2), .val (.int (1 : Int32)), .val (.int sc), .val (.double v121), .second, .val (.double xx), .second, .val (.ref fa), .val (.double rr), .second, .val (.long mm), .second, .val (.long sp), .second, .val (.long qm), .second, .val (.long j144), .second, .val (.double ev), .second] [(.double rr)])) _
          refine XS.dload X139.here hx rfl (hb hby at_181) rfl ?_
          show Steps p.tables e below (T139.setTop (mkF m 183 #[.val (.int p1), .val (.int p2), .val (.int (1 : Int32)), .val (.int sc), .val (.double v121), .second, .val (.double xx), .second, .val (.ref fa), .val (.double rr), .second, .val (.long mm), .second, .val (.long sp), .second, .val (.long qm), .second, .val (.long j144), .second, .val (.double ev), .second] [(.double ev), (.double rr)])) _
          refine XS.dcmpS X139.here hx rfl (hb hby at_183) rfl rfl ?_
          show Steps p.tables e below (T139.setTop (mkF m 184 #[.val (.int p1), .val (.int p2), .val (.int (1 : Int32)), .val (.int sc), .val (.double v121), .second, .val (.double xx), .second, .val (.ref fa), .val (.double rr), .second, .val (.long mm), .second, .val (.long sp), .second, .val (.long qm), .second, .val (.long j144), .second, .val (.double ev), .second] [(.int (cmpValue (FP.dcmp rr ev) .l))])) _
          refine XS.ifNo X139.here hx rfl (hb hby at_184) rfl ((if0 _ _).trans (teq hfin).2) ?_
          show Steps p.tables e below (T139.setTop (mkF m 187 #[.val (.int p1), .val (.int p2), .val (.int (1 : Int32)), .val (.int sc), .val (.double v121), .second, .val (.double xx), .second, .val (.ref fa), .val (.double rr), .second, .val (.long mm), .second, .val (.long sp), .second, .val (.long qm), .second, .val (.long j144), .second, .val (.double ev), .second] [])) _
          refine XS.iconst X139.here hx rfl (hb hby at_187) ?_
          show Steps p.tables e below (T139.setTop (mkF m 188 #[.val (.int p1), .val (.int p2), .val (.int (1 : Int32)), .val (.int sc), .val (.double v121), .second, .val (.double xx), .second, .val (.ref fa), .val (.double rr), .second, .val (.long mm), .second, .val (.long sp), .second, .val (.long qm), .second, .val (.long j144), .second, .val (.double ev), .second] [(.int (1 : Int32))])) _
          refine XS.goto X139.here hx rfl (pc0 := 188) (pc' := 192) rfl (hb hby at_188) (by decide) (by decide) ?_
          exact k)
        obtain ⟨fs, hr, hrun, hended, hW, hsame⟩ := X139.leave (v := some (.int (1 : Int32))) (fun h => by rw [Bd.returns] at h; cases h)
        refine ⟨_, _, k150 _ (retOut X139 hx (t := .boolean) Bd.returns rfl (Or.inl ⟨rfl, Or.inr (Or.inl rfl), _, rfl⟩) (hb hby at_192) hr), hrun, hended, _, _, rfl, ?_, ⟨_, rfl⟩, hW, hsame.mono (by decide) (by decide)⟩
        show Q_rm0 Z p1 p2 fa fb h0 n0 _ T139.heap _
        rw [e139]
        exact ⟨rfl, N140⟩
      · have k151 : ∀ t, Steps p.tables e below (T139.setTop (mkF m 154 #[.val (.int p1), .val (.int p2), .val (.int (1 : Int32)), .val (.int sc), .val (.double v121), .second, .val (.double xx), .second, .val (.ref fa), .val (.double rr), .second, .val (.long mm), .second, .val (.long sp), .second, .val (.long qm), .second, .val (.long j144), .second, .unset, .unset] [(.int p1)])) t → Steps p.tables e below (s₁.setTop (entryFrame m #[(.int p1), (.int p2)] maxLocals)) t := fun t k => k148 t (by
          show Steps p.tables e below (T139.setTop (mkF m 150 #[.val (.int p1), .val (.int p2), .val (.int (1 : Int32)), .val (.int sc), .val (.double v121), .second, .val (.double xx), .second, .val (.ref fa), .val (.double rr), .second, .val (.long mm), .second, .val (.long sp), .second, .val (.long qm), .second, .val (.long j144), .second, .unset, .unset] [(.int (lcmpW qm (268435456 : Int64)))])) _
          refine XS.ifNo X139.here hx rfl (hb hby at_150) rfl ((if0 _ _).trans (flt c149).1) ?_
          show Steps p.tables e below (T139.setTop (mkF m 153 #[.val (.int p1), .val (.int p2), .val (.int (1 : Int32)), .val (.int sc), .val (.double v121), .second, .val (.double xx), .second, .val (.ref fa), .val (.double rr), .second, .val (.long mm), .second, .val (.long sp), .second, .val (.long qm), .second, .val (.long j144), .second, .unset, .unset] [])) _
          refine XS.iloadN X139.here hx rfl (hb hby at_153) rfl ?_
          exact k)
        obtain ⟨v153, hv153⟩ : ∃ z : UInt64, z = (if p1 < (0 : Int32) then (18442240474082181120 : UInt64) else (9218868437227405312 : UInt64)) := ⟨_, rfl⟩
        have k154 : ∀ t, Steps p.tables e below (T139.setTop (mkF m 166 #[.val (.int p1), .val (.int p2), .val (.int (1 : Int32)), .val (.int sc), .val (.double v121), .second, .val (.double xx), .second, .val (.ref fa), .val (.double rr), .second, .val (.long mm), .second, .val (.long sp), .second, .val (.long qm), .second, .val (.long j144), .second, .unset, .unset] [(.double v153)])) t → Steps p.tables e below (s₁.setTop (entryFrame m #[(.int p1), (.int p2)] maxLocals)) t := fun t k => k151 t (by
          by_cases c152 : p1 < (0 : Int32)
          · rw [if_pos c152] at hv153
            show Steps p.tables e below (T139.setTop (mkF m 154 #[.val (.int p1), .val (.int p2), .val (.int (1 : Int32)), .val (.int sc), .val (.double v121), .second, .val (.double xx), .second, .val (.ref fa), .val (.double rr), .second, .val (.long mm), .second, .val (.long sp), .second, .val (.long qm), .second, .val (.long j144), .second, .unset, .unset] [(.int p1)])) _
            refine XS.ifNo X139.here hx rfl (hb hby at_154) rfl ((if0 _ _).trans (tlt c152).2.1) ?_
            show Steps p.tables e below (T139.setTop (mkF m 157 #[.val (.int p1), .val (.int p2), .val (.int (1 : Int32)), .val (.int sc), .val (.double v121), .second, .val (.double xx), .second, .val (.ref fa), .val (.double rr), .second, .val (.long mm), .second, .val (.long sp), .second, .val (.long qm), .second, .val (.long j144), .second, .unset, .unset] [])) _
            refine X139.ldc2DoubleC hx hown (mvT hZ (hw _ (List.mem_of_getElem? (i := 37) rfl))) (g := (mkF m 157 #[.val (.int p1), .val (.int p2), .val (.int (1 : Int32)), .val (.int sc), .val (.double v121), .second, .val (.double xx), .second, .val (.ref fa), .val (.double rr), .second, .val (.long mm), .second, .val (.long sp), .second, .val (.long qm), .second, .val (.long j144), .second, .unset, .unset] [])) rfl (hb hby at_157) _ ?_
            show Steps p.tables e below (T139.setTop (mkF m 160 #[.val (.int p1), .val (.int p2), .val (.int (1 : Int32)), .val (.int sc), .val (.double v121), .second, .val (.double xx), .second, .val (.ref fa), .val (.double rr), .second, .val (.long mm), .second, .val (.long sp), .second, .val (.long qm), .second, .val (.long j144), .second, .unset, .unset] [(.double (18442240474082181120 : UInt64))])) _
            refine XS.goto X139.here hx rfl (pc0 := 160) (pc' := 166) rfl (hb hby at_160) (by decide) (by decide) ?_
            show Steps p.tables e below (T139.setTop (mkF m 166 #[.val (.int p1), .val (.int p2), .val (.int (1 : Int32)), .val (.int sc), .val (.double v121), .second, .val (.double xx), .second, .val (.ref fa), .val (.double rr), .second, .val (.long mm), .second, .val (.long sp), .second, .val (.long qm), .second, .val (.long j144), .second, .unset, .unset] [(.double (18442240474082181120 : UInt64))])) _
            exact castTop (by rw [hv153]) k
          · rw [if_neg c152] at hv153
            show Steps p.tables e below (T139.setTop (mkF m 154 #[.val (.int p1), .val (.int p2), .val (.int (1 : Int32)), .val (.int sc), .val (.double v121), .second, .val (.double xx), .second, .val (.ref fa), .val (.double rr), .second, .val (.long mm), .second, .val (.long sp), .second, .val (.long qm), .second, .val (.long j144), .second, .unset, .unset] [(.int p1)])) _
            refine XS.ifYes X139.here hx rfl (pc0 := 154) (pc' := 163) rfl (hb hby at_154) rfl ((if0 _ _).trans (flt c152).2.1) (by decide) (by decide) ?_
            show Steps p.tables e below (T139.setTop (mkF m 163 #[.val (.int p1), .val (.int p2), .val (.int (1 : Int32)), .val (.int sc), .val (.double v121), .second, .val (.double xx), .second, .val (.ref fa), .val (.double rr), .second, .val (.long mm), .second, .val (.long sp), .second, .val (.long qm), .second, .val (.long j144), .second, .unset, .unset] [])) _
            refine X139.ldc2DoubleC hx hown (mvT hZ (hw _ (List.mem_of_getElem? (i := 35) rfl))) (g := (mkF m 163 #[.val (.int p1), .val (.int p2), .val (.int (1 : Int32)), .val (.int sc), .val (.double v121), .second, .val (.double xx), .second, .val (.ref fa), .val (.double rr), .second, .val (.long mm), .second, .val (.long sp), .second, .val (.long qm), .second, .val (.long j144), .second, .unset, .unset] [])) rfl (hb hby at_163) _ ?_
            show Steps p.tables e below (T139.setTop (mkF m 166 #[.val (.int p1), .val (.int p2), .val (.int (1 : Int32)), .val (.int sc), .val (.double v121), .second, .val (.double xx), .second, .val (.ref fa), .val (.double rr), .second, .val (.long mm), .second, .val (.long sp), .second, .val (.long qm), .second, .val (.long j144), .second, .unset, .unset] [(.double (9218868437227405312 : UInt64))])) _
            exact castTop (by rw [hv153]) k)
        have hfin : cmpValue (FP.dcmp rr v153) .l = (0 : Int32) := by rw [hrr]; exact inf64_eq (hinf ⟨h3.mp c147, own_big hqm' c149⟩) (own_infs p1 hv153) .l
        have k155 : ∀ t, Steps p.tables e below (T139.setTop (mkF m 192 #[.val (.int p1), .val (.int p2), .val (.int (1 : Int32)), .val (.int sc), .val (.double v121), .second, .val (.double xx), .second, .val (.ref fa), .val (.double rr), .second, .val (.long mm), .second, .val (.long sp), .second, .val (.long qm), .second, .val (.long j144), .second, .val (.double v153), .second] [(.int (1 : Int32))])) t → Steps p.tables e below (s₁.setTop (entryFrame m #[(.int p1), (.int p2)] maxLocals)) t := fun t k => k154 t (by
          show Steps p.tables e below (T139.setTop (mkF m 166 #[.val (.int p1), .val (.int p2), .val (.int (1 : Int32)), .val (.int sc), .val (.double v121), .second, .val (.double xx), .second, .val (.ref fa), .val (.double rr), .second, .val (.long mm), .second, .val (.long sp), .second, .val (.long qm), .second, .val (.long j144), .second, .unset, .unset] [(.double v153)])) _
          refine XS.dstore X139.here hx rfl (hb hby at_166) rfl (l' := #[.val (.int p1), .val (.int p2), .val (.int (1 : Int32)), .val (.int sc), .val (.double v121), .second, .val (.double xx), .second, .val (.ref fa), .val (.double rr), .second, .val (.long mm), .second, .val (.long sp), .second, .val (.long qm), .second, .val (.long j144), .second, .val (.double v153), .second]) rfl ?_
          show Steps p.tables e below (T139.setTop (mkF m 168 #[.val (.int p1), .val (.int p2), .val (.int (1 : Int32)), .val (.int sc), .val (.double v121), .second, .val (.double xx), .second, .val (.ref fa), .val (.double rr), .second, .val (.long mm), .second, .val (.long sp), .second, .val (.long qm), .second, .val (.long j144), .second, .val (.double v153), .second] [])) _
          refine XS.goto X139.here hx rfl (pc0 := 168) (pc' := 179) rfl (hb hby at_168) (by decide) (by decide) ?_
          show Steps p.tables e below (T139.setTop (mkF m 179 #[.val (.int p1), .val (.int p2), .val (.int (1 : Int32)), .val (.int sc), .val (.double v121), .second, .val (.double xx), .second, .val (.ref fa), .val (.double rr), .second, .val (.long mm), .second, .val (.long sp), .second, .val (.long qm), .second, .val (.long j144), .second, .val (.double v153), .second] [])) _
          refine XS.dload X139.here hx rfl (hb hby at_179) rfl ?_
          show Steps p.tables e below (T139.setTop (mkF m 181 #[.val (.int p1), .val (.int p2), .val (.int (1 : Int32)), .val (.int sc), .val (.double v121), .second, .val (.double xx), .second, .val (.ref fa), .val (.double rr), .second, .val (.long mm), .second, .val (.long sp), .second, .val (.long qm), .second, .val (.long j144), .second, .val (.double v153), .second] [(.double rr)])) _
          refine XS.dload X139.here hx rfl (hb hby at_181) rfl ?_
          show Steps p.tables e below (T139.setTop (mkF m 183 #[.val (.int p1), .val (.int p2), .val (.int (1 : Int32)), .val (.int sc), .val (.double v121), .second, .val (.double xx), .second, .val (.ref fa), .val (.double rr), .second, .val (.long mm), .second, .val (.long sp), .second, .val (.long qm), .second, .val (.long j144), .second, .val (.double v153), .second] [(.double v153), (.double rr)])) _
          refine XS.dcmpS X139.here hx rfl (hb hby at_183) rfl rfl ?_
          show Steps p.tables e below (T139.setTop (mkF m 184 #[.val (.int p1), .val (.int p2), .val (.int (1 : Int32)), .val (.int sc), .val (.double v121), .second, .val (.double xx), .second, .val (.ref fa), .val (.double rr), .second, .val (.long mm), .second, .val (.long sp), .second, .val (.long qm), .second, .val (.long j144), .second, .val (.double v153), .second] [(.int (cmpValue (FP.dcmp rr v153) .l))])) _
          refine XS.ifNo X139.here hx rfl (hb hby at_184) rfl ((if0 _ _).trans (teq hfin).2) ?_
          show Steps p.tables e below (T139.setTop (mkF m 187 #[.val (.int p1), .val (.int p2), .val (.int (1 : Int32)), .val (.int sc), .val (.double v121), .second, .val (.double xx), .second, .val (.ref fa), .val (.double rr), .second, .val (.long mm), .second, .val (.long sp), .second, .val (.long qm), .second, .val (.long j144), .second, .val (.double v153), .second] [])) _
          refine XS.iconst X139.here hx rfl (hb hby at_187) ?_
          show Steps p.tables e below (T139.setTop (mkF m 188 #[.val (.int p1), .val (.int p2), .val (.int (1 : Int32)), .val (.int sc), .val (.double v121), .second, .val (.double xx), .second, .val (.ref fa), .val (.double rr), .second, .val (.long mm), .second, .val (.long sp), .second, .val (.long qm), .second, .val (.long j144), .second, .val (.double v153), .second] [(.int (1 : Int32))])) _
          refine XS.goto X139.here hx rfl (pc0 := 188) (pc' := 192) rfl (hb hby at_188) (by decide) (by decide) ?_
          exact k)
        obtain ⟨fs, hr, hrun, hended, hW, hsame⟩ := X139.leave (v := some (.int (1 : Int32))) (fun h => by rw [Bd.returns] at h; cases h)
        refine ⟨_, _, k155 _ (retOut X139 hx (t := .boolean) Bd.returns rfl (Or.inl ⟨rfl, Or.inr (Or.inl rfl), _, rfl⟩) (hb hby at_192) hr), hrun, hended, _, _, rfl, ?_, ⟨_, rfl⟩, hW, hsame.mono (by decide) (by decide)⟩
        show Q_rm0 Z p1 p2 fa fb h0 n0 _ T139.heap _
        rw [e139]
        exact ⟨rfl, N140⟩
    · obtain ⟨vq, hvq⟩ : ∃ z : UInt64, FP.l2d j144 = z := ⟨_, rfl⟩
      have Dvq : Dy (j144.toInt) (0) vq := by rw [← hvq]; exact Dy.l2d hqb
      obtain ⟨ev, hev⟩ : ∃ z : UInt64, FP.dmul vq v121 = z := ⟨_, rfl⟩
      have Dev : Ex j144.toInt te ev := by rw [← hev]; exact own_x' Dvq Dv hqb ht
      have hfin : cmpValue (FP.dcmp rr ev) .l = (0 : Int32) := by rw [hq'] at Dev; rw [hrr]; exact Ex.cmp_eq (hval (fun h => c147 (h3.mpr h.1))) Dev .l
      have k156 : ∀ t, Steps p.tables e below (T139.setTop (mkF m 192 #[.val (.int p1), .val (.int p2), .val (.int (1 : Int32)), .val (.int sc), .val (.double v121), .second, .val (.double xx), .second, .val (.ref fa), .val (.double rr), .second, .val (.long mm), .second, .val (.long sp), .second, .val (.long qm), .second, .val (.long j144), .second, .val (.double ev), .second] [(.int (1 : Int32))])) t → Steps p.tables e below (s₁.setTop (entryFrame m #[(.int p1), (.int p2)] maxLocals)) t := fun t k => k146 t (by
        show Steps p.tables e below (T139.setTop (mkF m 141 #[.val (.int p1), .val (.int p2), .val (.int (1 : Int32)), .val (.int sc), .val (.double v121), .second, .val (.double xx), .second, .val (.ref fa), .val (.double rr), .second, .val (.long mm), .second, .val (.long sp), .second, .val (.long qm), .second, .val (.long j144), .second, .unset, .unset] [(.int (3 : Int32)), (.int sc)])) _
        refine XS.icmpYes X139.here hx rfl (pc0 := 141) (pc' := 171) rfl (hb hby at_141) rfl (feq c147).2 (by decide) (by decide) ?_
        show Steps p.tables e below (T139.setTop (mkF m 171 #[.val (.int p1), .val (.int p2), .val (.int (1 : Int32)), .val (.int sc), .val (.double v121), .second, .val (.double xx), .second, .val (.ref fa), .val (.double rr), .second, .val (.long mm), .second, .val (.long sp), .second, .val (.long qm), .second, .val (.long j144), .second, .unset, .unset] [])) _
        refine XS.lload X139.here hx rfl (hb hby at_171) rfl ?_
        show Steps p.tables e below (T139.setTop (mkF m 173 #[.val (.int p1), .val (.int p2), .val (.int (1 : Int32)), .val (.int sc), .val (.double v121), .second, .val (.double xx), .second, .val (.ref fa), .val (.double rr), .second, .val (.long mm), .second, .val (.long sp), .second, .val (.long qm), .second, .val (.long j144), .second, .unset, .unset] [(.long j144)])) _
        refine XS.l2dS X139.here hx rfl (hb hby at_173) rfl hvq ?_
        show Steps p.tables e below (T139.setTop (mkF m 174 #[.val (.int p1), .val (.int p2), .val (.int (1 : Int32)), .val (.int sc), .val (.double v121), .second, .val (.double xx), .second, .val (.ref fa), .val (.double rr), .second, .val (.long mm), .second, .val (.long sp), .second, .val (.long qm), .second, .val (.long j144), .second, .unset, .unset] [(.double vq)])) _
        refine XS.dload X139.here hx rfl (hb hby at_174) rfl ?_
        show Steps p.tables e below (T139.setTop (mkF m 176 #[.val (.int p1), .val (.int p2), .val (.int (1 : Int32)), .val (.int sc), .val (.double v121), .second, .val (.double xx), .second, .val (.ref fa), .val (.double rr), .second, .val (.long mm), .second, .val (.long sp), .second, .val (.long qm), .second, .val (.long j144), .second, .unset, .unset] [(.double v121), (.double vq)])) _
        refine XS.dmulS X139.here hx rfl (hb hby at_176) rfl (by rw [hev]; exact Dev.nn) hev ?_
        show Steps p.tables e below (T139.setTop (mkF m 177 #[.val (.int p1), .val (.int p2), .val (.int (1 : Int32)), .val (.int sc), .val (.double v121), .second, .val (.double xx), .second, .val (.ref fa), .val (.double rr), .second, .val (.long mm), .second, .val (.long sp), .second, .val (.long qm), .second, .val (.long j144), .second, .unset, .unset] [(.double ev)])) _
        refine XS.dstore X139.here hx rfl (hb hby at_177) rfl (l' := #[.val (.int p1), .val (.int p2), .val (.int (1 : Int32)), .val (.int sc), .val (.double v121), .second, .val (.double xx), .second, .val (.ref fa), .val (.double rr), .second, .val (.long mm), .second, .val (.long sp), .second, .val (.long qm), .second, .val (.long j144), .second, .val (.double ev), .second]) rfl ?_
        show Steps p.tables e below (T139.setTop (mkF m 179 #[.val (.int p1), .val (.int p2), .val (.int (1 : Int32)), .val (.int sc), .val (.double v121), .second, .val (.double xx), .second, .val (.ref fa), .val (.double rr), .second, .val (.long mm), .second, .val (.long sp), .second, .val (.long qm), .second, .val (.long j144), .second, .val (.double ev), .second] [])) _
        refine XS.dload X139.here hx rfl (hb hby at_179) rfl ?_
        show Steps p.tables e below (T139.setTop (mkF m 181 #[.val (.int p1), .val (.int p2), .val (.int (1 : Int32)), .val (.int sc), .val (.double v121), .second, .val (.double xx), .second, .val (.ref fa), .val (.double rr), .second, .val (.long mm), .second, .val (.long sp), .second, .val (.long qm), .second, .val (.long j144), .second, .val (.double ev), .second] [(.double rr)])) _
        refine XS.dload X139.here hx rfl (hb hby at_181) rfl ?_
        show Steps p.tables e below (T139.setTop (mkF m 183 #[.val (.int p1), .val (.int p2), .val (.int (1 : Int32)), .val (.int sc), .val (.double v121), .second, .val (.double xx), .second, .val (.ref fa), .val (.double rr), .second, .val (.long mm), .second, .val (.long sp), .second, .val (.long qm), .second, .val (.long j144), .second, .val (.double ev), .second] [(.double ev), (.double rr)])) _
        refine XS.dcmpS X139.here hx rfl (hb hby at_183) rfl rfl ?_
        show Steps p.tables e below (T139.setTop (mkF m 184 #[.val (.int p1), .val (.int p2), .val (.int (1 : Int32)), .val (.int sc), .val (.double v121), .second, .val (.double xx), .second, .val (.ref fa), .val (.double rr), .second, .val (.long mm), .second, .val (.long sp), .second, .val (.long qm), .second, .val (.long j144), .second, .val (.double ev), .second] [(.int (cmpValue (FP.dcmp rr ev) .l))])) _
        refine XS.ifNo X139.here hx rfl (hb hby at_184) rfl ((if0 _ _).trans (teq hfin).2) ?_
        show Steps p.tables e below (T139.setTop (mkF m 187 #[.val (.int p1), .val (.int p2), .val (.int (1 : Int32)), .val (.int sc), .val (.double v121), .second, .val (.double xx), .second, .val (.ref fa), .val (.double rr), .second, .val (.long mm), .second, .val (.long sp), .second, .val (.long qm), .second, .val (.long j144), .second, .val (.double ev), .second] [])) _
        refine XS.iconst X139.here hx rfl (hb hby at_187) ?_
        show Steps p.tables e below (T139.setTop (mkF m 188 #[.val (.int p1), .val (.int p2), .val (.int (1 : Int32)), .val (.int sc), .val (.double v121), .second, .val (.double xx), .second, .val (.ref fa), .val (.double rr), .second, .val (.long mm), .second, .val (.long sp), .second, .val (.long qm), .second, .val (.long j144), .second, .val (.double ev), .second] [(.int (1 : Int32))])) _
        refine XS.goto X139.here hx rfl (pc0 := 188) (pc' := 192) rfl (hb hby at_188) (by decide) (by decide) ?_
        exact k)
      obtain ⟨fs, hr, hrun, hended, hW, hsame⟩ := X139.leave (v := some (.int (1 : Int32))) (fun h => by rw [Bd.returns] at h; cases h)
      refine ⟨_, _, k156 _ (retOut X139 hx (t := .boolean) Bd.returns rfl (Or.inl ⟨rfl, Or.inr (Or.inl rfl), _, rfl⟩) (hb hby at_192) hr), hrun, hended, _, _, rfl, ?_, ⟨_, rfl⟩, hW, hsame.mono (by decide) (by decide)⟩
      show Q_rm0 Z p1 p2 fa fb h0 n0 _ T139.heap _
      rw [e139]
      exact ⟨rfl, N140⟩
set_option maxRecDepth 65536 in
set_option maxHeartbeats 40000000 in
theorem comes_1 {Post : Tables → Env → Array Value → State → Outcome → State → Prop} (hpost : ∀ tb e args s v u, (limb_1_1.after args s (.returned v) u = true ∧ limb_1_2.after args s (.returned v) u = true ∧ True) → FrameEnd s (.returned v) u (Jvm.fieldLocs frame_1_writes args s ++ Jvm.arrayLocs frame_1_arrays args s ++ Jvm.staticLocs frame_1_statics s) 0 0 → Post tb e args s (.returned v) u) :
    ArmFor flags0 classFile x code maxLocals ret World_1 tables_1 room_1 Calls_1 rest_1 Pre_1 Post := by
  intro l hfl _ _ p e ha hc hk s m args below hf hA hF happ hP
  obtain ⟨hcalls, hrest, hpre⟩ := hP
  obtain ⟨-, -, -, hnamed, -, -, -, hat⟩ := (Spec.applies_iff hf).mp happ
  obtain ⟨hg, hn⟩ := and_e (Cond.before_iff.mp (show (Jvm.Cond.and given_1 narrow_1).before args s = true from hpre))
  obtain ⟨g1, g2⟩ := and_e hg
  obtain ⟨g3, g4⟩ := and_e g2
  obtain ⟨w0, w1, rfl⟩ : ∃ w0 w1 : Value, args = #[w0, w1] := by
    have hs : args.size = 2 := by simpa [Cond.value, given_1] using g1
    obtain ⟨L⟩ := args
    match L, hs with
    | [w0, w1], _ => exact ⟨w0, w1, rfl⟩
  have hw := fun d (hd : d ∈ tables_1) => atoms_spec (ws := Jvm.Cond.code x code maxLocals ret :: tables_1) hat d (List.mem_cons_of_mem _ hd)
  obtain ⟨i0, ei0⟩ := is_v g3
  obtain rfl : w0 = (.int i0) := Option.some.inj ei0
  obtain ⟨i1, ei1⟩ := is_v g4
  obtain rfl : w1 = (.int i1) := Option.some.inj ei1
  obtain ⟨n1, n2⟩ := and_e hn
  obtain ⟨n3, n4⟩ := and_e n2
  obtain ⟨n5, n6⟩ := and_e n4
  obtain ⟨fa, ea⟩ := exa_v n1
  obtain ⟨fb, eb⟩ := exa_v n3
  have Sa : Sta s s.heap "com/example/liblocus/liblocus/trec/Run$ScorePrecision" "FLOAT" "Lcom/example/liblocus/liblocus/trec/Run$ScorePrecision;" (.ref fa) := Sta.start ea (Or.inr ⟨(hw _ (List.mem_of_getElem? (i := 2) rfl)), (hw _ (List.mem_of_getElem? (i := 3) rfl))⟩)
  have Sb : Sta s s.heap "com/example/liblocus/liblocus/trec/Run$ScorePrecision" "DOUBLE" "Lcom/example/liblocus/liblocus/trec/Run$ScorePrecision;" (.ref fb) := Sta.start eb (Or.inr ⟨(hw _ (List.mem_of_getElem? (i := 2) rfl)), (hw _ (List.mem_of_getElem? (i := 25) rfl))⟩)
  have Ea : Exa s s.heap fa "com/example/liblocus/liblocus/trec/Run$ScorePrecision" := Exa.start ea n1
  have Eb : Exa s s.heap fb "com/example/liblocus/liblocus/trec/Run$ScorePrecision" := Exa.start eb n3
  have hne : fb ≠ fa := by
    rintro rfl
    have q1 := (fld_at eb).symm.trans (own_eqv n5)
    have q2 := (fld_at ea).symm.trans (own_eqv n6)
    exact absurd (q1.symm.trans q2) (by decide)
  obtain ⟨n, o, h1, h2, h3, _, L, rfl, ⟨rfl, N⟩, hq⟩ := rm0 l s _ hw tables_1 i0 i1 fa fb s.heap s.heap.size (Nat.le_refl _) Sa Sb Ea Eb hne p e ha hc hk s m _ below hf ((Spec.applies_iff_loose hf).mp happ).1 ⟨rfl, State.Warmed39.refl s, rfl⟩ trivial
  refine ⟨n, _, h1, h2, h3, hpost _ _ _ _ _ _ ⟨Cond.after_iff.mpr rfl, Cond.after_iff.mpr (eq_i res_at (Term.int_eval (1)) rfl), trivial⟩ ⟨hq.1, hq.2.1, (hq.2.2.sift fun y hy => Or.inr (N y hy)).mono (by decide) (by decide)⟩⟩
theorem main_1_1 : Claimed_1_1 := comes_1 fun _ _ _ _ _ _ h hF => ⟨h.1, hF⟩
theorem main_1_2 : Claimed_1_2 := comes_1 fun _ _ _ _ _ _ h hF => ⟨h.2.1, hF⟩
end Jvm.Pilot.@@N@@
namespace Jvm.Pilot.@@N@@
open Jvm Jvm.ClassFile Sem Op Lib Jvm.Free Jvm.Stand Jvm.Pilot.@@N@@.Jvm.D
/-! MADE BY PROGRAM (witnessworld.py) out of the Statement's table words and the real class files: 13 classes; the members and pool entries that the words name. The judged class is class 1, her method 1. -/
namespace start1
open Jvm.ClassFile
def u (s : String) : CpInfo := .utf8 (stringToUtf16 s)
/-- a pool by its gaps: so many unusable entries, then the entry; so many at the end -/
def gap : Nat → List CpInfo → List CpInfo
  | 0, r => r
  | n + 1, r => .unusable :: gap n r
def poolList (es : List (Nat × CpInfo)) (last : Nat) : List CpInfo := es.foldr (fun e r => gap e.1 (e.2 :: r)) (gap last [])
def pool (es : List (Nat × CpInfo)) (last : Nat) : Array CpInfo := ⟨poolList es last⟩
def fileOf (pool : Array CpInfo) (this : Nat) (attrs : Array Attribute := #[]) (ms : Array MethodInfo := #[]) (fl : Nat := 33) (sup : Nat := 0) (ifs : Array Nat := #[]) (fds : Array FieldInfo := #[]) : ClassFile where
  minorVersion := 0
  majorVersion := 65
  constantPool := pool
  accessFlags := fl
  thisClass := this
  superClass := sup
  interfaces := ifs
  fields := fds
  methods := ms
  attributes := attrs
def plain (name : String) (sup : Option ClassId) : Class where
  name := name
  kind := .ordinary
  loader := none
  accessFlags := 33
  super := sup
  interfaces := #[]
  cf := none
  fields := #[]
  methods := #[]
  instanceTypes := #[]
  staticTypes := #[]
  resolved := #[]
  callSites := []
  init := .initialized
  statics := none
  mirror := none

def pool0 : Array CpInfo := pool [(5, u "<init>"), (0, u "()V"), (1, .class_ 10), (1, u "java/lang/Object")] 113

def k0m0 : Method := { name := "<init>", desc := "()V", sig := { parameters := [], returnType := none }, accessFlags := 1, code := none }
/-- java/lang/Object -/
def k0 : Class := { plain "java/lang/Object" none with
  accessFlags := 33
  interfaces := #[]
  cf := some (fileOf pool0 8 #[] #[{ accessFlags := 1, nameIndex := 5, descriptorIndex := 6, attributes := #[] }] 33 0 #[] #[])
  fields := #[]
  methods := #[k0m0]
  instanceTypes := #[]
  staticTypes := #[]
  resolved := Array.replicate 124 none
  statics := none }

def pool1 : Array CpInfo := pool [(2, .class_ 4), (1, u "java/lang/Object"), (0, u "<init>"), (0, u "()V"), (0, .double 4427038433705197568), (1, .double 4877398396442247168), (1, .double 5057542381537067008), (1, .fieldref 14 15), (0, .class_ 16), (0, .nameAndType 17 18), (0, u "com/example/liblocus/liblocus/trec/Run$ScorePrecision"), (0, u "FLOAT"), (0, u "Lcom/example/liblocus/liblocus/trec/Run$ScorePrecision;"), (0, .fieldref 14 20), (0, .nameAndType 21 18), (0, u "DOUBLE"), (0, .methodref 14 23), (0, .nameAndType 24 25), (0, u "of"), (0, u "(D)D"), (0, .methodref 27 28), (0, .class_ 29), (0, .nameAndType 30 31), (0, u "java/lang/Math"), (0, u "abs"), (0, u "(J)J"), (0, .methodref 33 34), (0, .class_ 35), (0, .nameAndType 36 31), (0, u "com/example/liblocus/liblocus/trec/ScorePrecisionOfPinLaw"), (0, u "spacing"), (0, .methodref 33 38), (0, .nameAndType 39 40), (0, u "nearestMultiple"), (0, u "(JJ)J"), (0, .long 268435456), (3, .double 18442240474082181120), (1, .double 9218868437227405312), (1, .long 16777216), (1, .long 33554432), (1, .long 2), (1, .long 67108864), (1, .long 4), (1, .long 134217728), (1, .long 8), (1, .long 16), (1, .long 536870912), (1, .long 32), (1, .long 1073741824), (1, .long 64), (1, .long 2147483648), (1, .long 128), (1, .long 256), (3, u "law"), (0, u "(II)Z")] 7

def k1m0 : Method := { name := "<init>", desc := "()V", sig := { parameters := [], returnType := none }, accessFlags := 2, code := none }
def k1c1 : Code := { maxStack := 4, maxLocals := 21, code := code, exceptionTable := #[], attributes := #[] }
def k1m1 : Method := { name := "law", desc := "(II)Z", sig := { parameters := [.int, .int], returnType := some .boolean }, accessFlags := 9, code := some k1c1 }
def k1c2 : Code := { maxStack := 4, maxLocals := 2, code := method_3_code, exceptionTable := #[], attributes := #[] }
def k1m2 : Method := { name := "spacing", desc := "(J)J", sig := { parameters := [.long], returnType := some .long }, accessFlags := 10, code := some k1c2 }
def k1c3 : Code := { maxStack := 4, maxLocals := 8, code := method_4_code, exceptionTable := #[], attributes := #[] }
def k1m3 : Method := { name := "nearestMultiple", desc := "(JJ)J", sig := { parameters := [.long, .long], returnType := some .long }, accessFlags := 10, code := some k1c3 }
/-- com/example/liblocus/liblocus/trec/ScorePrecisionOfPinLaw -/
def k1 : Class := { plain "com/example/liblocus/liblocus/trec/ScorePrecisionOfPinLaw" (some 0) with
  accessFlags := 49
  interfaces := #[]
  cf := some (fileOf pool1 33 #[] #[{ accessFlags := 2, nameIndex := 5, descriptorIndex := 6, attributes := #[] }, { accessFlags := 9, nameIndex := 81, descriptorIndex := 82, attributes := #[] }, { accessFlags := 10, nameIndex := 36, descriptorIndex := 31, attributes := #[] }, { accessFlags := 10, nameIndex := 39, descriptorIndex := 40, attributes := #[] }] 49 2 #[] #[])
  fields := #[]
  methods := #[k1m0, k1m1, k1m2, k1m3]
  instanceTypes := #[]
  staticTypes := #[]
  resolved := Array.replicate 90 none
  statics := none }

def pool2 : Array CpInfo := pool [(1, .class_ 2), (0, u "java/lang/constant/Constable"), (0, .class_ 4), (0, u "java/lang/Object")] 6

/-- java/lang/constant/Constable -/
def k2 : Class := { plain "java/lang/constant/Constable" (some 0) with
  accessFlags := 1537
  interfaces := #[]
  cf := some (fileOf pool2 1 #[] #[] 1537 3 #[] #[])
  fields := #[]
  methods := #[]
  instanceTypes := #[]
  staticTypes := #[]
  resolved := Array.replicate 11 none
  statics := none }

def pool3 : Array CpInfo := pool [(1, .class_ 2), (0, u "java/lang/Comparable"), (0, .class_ 4), (0, u "java/lang/Object")] 7

/-- java/lang/Comparable -/
def k3 : Class := { plain "java/lang/Comparable" (some 0) with
  accessFlags := 1537
  interfaces := #[]
  cf := some (fileOf pool3 1 #[] #[] 1537 3 #[] #[])
  fields := #[]
  methods := #[]
  instanceTypes := #[]
  staticTypes := #[]
  resolved := Array.replicate 12 none
  statics := none }

def pool4 : Array CpInfo := pool [(1, .class_ 2), (0, u "java/io/Serializable"), (0, .class_ 4), (0, u "java/lang/Object")] 2

/-- java/io/Serializable -/
def k4 : Class := { plain "java/io/Serializable" (some 0) with
  accessFlags := 1537
  interfaces := #[]
  cf := some (fileOf pool4 1 #[] #[] 1537 3 #[] #[])
  fields := #[]
  methods := #[]
  instanceTypes := #[]
  staticTypes := #[]
  resolved := Array.replicate 7 none
  statics := none }

def pool5 : Array CpInfo := pool [(2, .class_ 4), (1, u "java/lang/Enum"), (0, u "name"), (0, u "Ljava/lang/String;"), (2, u "ordinal"), (0, u "I"), (1, .class_ 14), (1, u "java/lang/Object"), (4, u "hash"), (86, .class_ 108), (1, u "java/lang/Enum$EnumDesc"), (2, .class_ 112), (0, u "java/lang/constant/Constable"), (0, .class_ 114), (0, u "java/lang/Comparable"), (0, .class_ 116), (0, u "java/io/Serializable")] 87

/-- java/lang/Enum -/
def k5 : Class := { plain "java/lang/Enum" (some 0) with
  accessFlags := 1057
  interfaces := #[2, 3, 4]
  cf := some (fileOf pool5 2 #[.nestMembers #[106]] #[] 1057 12 #[111, 113, 115] #[{ accessFlags := 18, nameIndex := 5, descriptorIndex := 6, attributes := #[] }, { accessFlags := 18, nameIndex := 9, descriptorIndex := 10, attributes := #[] }, { accessFlags := 2, nameIndex := 19, descriptorIndex := 10, attributes := #[] }])
  fields := #[{ name := "name", type := (.object "java/lang/String"), accessFlags := 18, slot := 0, constantValue := 0 }, { name := "ordinal", type := .int, accessFlags := 18, slot := 1, constantValue := 0 }, { name := "hash", type := .int, accessFlags := 2, slot := 2, constantValue := 0 }]
  methods := #[]
  instanceTypes := #[(.object "java/lang/String"), .int, .int]
  staticTypes := #[]
  resolved := Array.replicate 204 none
  statics := none }

def pool6 : Array CpInfo := pool [(1, .class_ 2), (0, u "com/example/liblocus/liblocus/trec/Run$ScorePrecision"), (2, u "DOUBLE"), (0, u "Lcom/example/liblocus/liblocus/trec/Run$ScorePrecision;"), (0, .fieldref 1 8), (0, .nameAndType 9 6), (0, u "FLOAT"), (2, u "$VALUES"), (0, u "[Lcom/example/liblocus/liblocus/trec/Run$ScorePrecision;"), (6, .class_ 22), (1, u "java/lang/Enum"), (20, u "of"), (0, u "(D)D"), (6, .class_ 52), (0, u "com/example/liblocus/liblocus/trec/Run")] 2

def k6c0 : Code := { maxStack := 2, maxLocals := 3, code := prog_134_method_4_code, exceptionTable := #[], attributes := #[] }
def k6m0 : Method := { name := "of", desc := "(D)D", sig := { parameters := [.double], returnType := some .double }, accessFlags := 0, code := some k6c0 }
/-- com/example/liblocus/liblocus/trec/Run$ScorePrecision -/
def k6 : Class := { plain "com/example/liblocus/liblocus/trec/Run$ScorePrecision" (some 5) with
  accessFlags := 16433
  interfaces := #[]
  cf := some (fileOf pool6 1 #[.nestHost 51] #[{ accessFlags := 0, nameIndex := 43, descriptorIndex := 44, attributes := #[] }] 16433 20 #[] #[{ accessFlags := 16409, nameIndex := 5, descriptorIndex := 6, attributes := #[] }, { accessFlags := 16409, nameIndex := 9, descriptorIndex := 6, attributes := #[] }, { accessFlags := 4122, nameIndex := 12, descriptorIndex := 13, attributes := #[] }])
  fields := #[{ name := "DOUBLE", type := (.object "com/example/liblocus/liblocus/trec/Run$ScorePrecision"), accessFlags := 16409, slot := 0, constantValue := 0 }, { name := "FLOAT", type := (.object "com/example/liblocus/liblocus/trec/Run$ScorePrecision"), accessFlags := 16409, slot := 1, constantValue := 0 }, { name := "$VALUES", type := (.array (.object "com/example/liblocus/liblocus/trec/Run$ScorePrecision")), accessFlags := 4122, slot := 2, constantValue := 0 }]
  methods := #[k6m0]
  instanceTypes := #[(.object "java/lang/String"), .int, .int]
  staticTypes := #[(.object "com/example/liblocus/liblocus/trec/Run$ScorePrecision"), (.object "com/example/liblocus/liblocus/trec/Run$ScorePrecision"), (.array (.object "com/example/liblocus/liblocus/trec/Run$ScorePrecision"))]
  resolved := Array.replicate 55 none
  statics := some 0 }

def pool7 : Array CpInfo := pool [(1, .class_ 2), (0, u "java/lang/Math"), (1, .class_ 6), (1, u "java/lang/Object"), (0, u "<init>"), (0, u "()V"), (89, .class_ 100), (1, u "java/lang/Math$RandomNumberGeneratorHolder"), (23, u "abs"), (0, u "(J)J"), (46, u "negativeZeroFloatBits"), (0, u "J"), (2, u "negativeZeroDoubleBits"), (68, u "$assertionsDisabled"), (0, u "Z"), (91, u "twoToTheDoubleScaleDown"), (0, u "D"), (4, u "twoToTheDoubleScaleUp"), (9, u "E"), (3, u "PI"), (2, u "TAU"), (2, u "DEGREES_TO_RADIANS"), (0, u "RADIANS_TO_DEGREES")] 94

def k7m0 : Method := { name := "<init>", desc := "()V", sig := { parameters := [], returnType := none }, accessFlags := 2, code := none }
def k7c1 : Code := { maxStack := 4, maxLocals := 2, code := jdk_29_method_61_code, exceptionTable := #[], attributes := #[] }
def k7m1 : Method := { name := "abs", desc := "(J)J", sig := { parameters := [.long], returnType := some .long }, accessFlags := 9, code := some k7c1 }
/-- java/lang/Math -/
def k7 : Class := { plain "java/lang/Math" (some 0) with
  accessFlags := 49
  interfaces := #[]
  cf := some (fileOf pool7 1 #[.nestMembers #[98]] #[{ accessFlags := 2, nameIndex := 7, descriptorIndex := 8, attributes := #[] }, { accessFlags := 9, nameIndex := 124, descriptorIndex := 125, attributes := #[] }] 49 4 #[] #[{ accessFlags := 25, nameIndex := 354, descriptorIndex := 339, attributes := #[] }, { accessFlags := 25, nameIndex := 358, descriptorIndex := 339, attributes := #[] }, { accessFlags := 25, nameIndex := 361, descriptorIndex := 339, attributes := #[] }, { accessFlags := 26, nameIndex := 364, descriptorIndex := 339, attributes := #[] }, { accessFlags := 26, nameIndex := 365, descriptorIndex := 339, attributes := #[] }, { accessFlags := 26, nameIndex := 172, descriptorIndex := 173, attributes := #[] }, { accessFlags := 26, nameIndex := 176, descriptorIndex := 173, attributes := #[] }, { accessFlags := 8, nameIndex := 344, descriptorIndex := 339, attributes := #[] }, { accessFlags := 8, nameIndex := 338, descriptorIndex := 339, attributes := #[] }, { accessFlags := 4120, nameIndex := 245, descriptorIndex := 246, attributes := #[] }])
  fields := #[{ name := "E", type := .double, accessFlags := 25, slot := 0, constantValue := 0 }, { name := "PI", type := .double, accessFlags := 25, slot := 1, constantValue := 0 }, { name := "TAU", type := .double, accessFlags := 25, slot := 2, constantValue := 0 }, { name := "DEGREES_TO_RADIANS", type := .double, accessFlags := 26, slot := 3, constantValue := 0 }, { name := "RADIANS_TO_DEGREES", type := .double, accessFlags := 26, slot := 4, constantValue := 0 }, { name := "negativeZeroFloatBits", type := .long, accessFlags := 26, slot := 5, constantValue := 0 }, { name := "negativeZeroDoubleBits", type := .long, accessFlags := 26, slot := 6, constantValue := 0 }, { name := "twoToTheDoubleScaleUp", type := .double, accessFlags := 8, slot := 7, constantValue := 0 }, { name := "twoToTheDoubleScaleDown", type := .double, accessFlags := 8, slot := 8, constantValue := 0 }, { name := "$assertionsDisabled", type := .boolean, accessFlags := 4120, slot := 9, constantValue := 0 }]
  methods := #[k7m0, k7m1]
  instanceTypes := #[]
  staticTypes := #[.double, .double, .double, .double, .double, .long, .long, .double, .double, .boolean]
  resolved := Array.replicate 460 none
  statics := none }

def pool8 : Array CpInfo := pool [(1, u "java/lang/Cloneable"), (0, .class_ 1), (0, u "java/lang/Object"), (0, .class_ 3)] 3

/-- java/lang/Cloneable -/
def k8 : Class := { plain "java/lang/Cloneable" (some 0) with
  accessFlags := 1537
  interfaces := #[]
  cf := some (fileOf pool8 2 #[] #[] 1537 4 #[] #[])
  fields := #[]
  methods := #[]
  instanceTypes := #[]
  staticTypes := #[]
  resolved := Array.replicate 8 none
  statics := none }

/-- the primitive byte -/
def k9 : Class := { plain "byte" none with kind := .primitive 'B', accessFlags := 0x411 }
/-- [B -/
def k10 : Class := { plain "[B" (some 0) with kind := .array 9 .byte, interfaces := #[8, 4], accessFlags := 1041 }

/-- the primitive int -/
def k11 : Class := { plain "int" none with kind := .primitive 'I', accessFlags := 0x411 }
/-- [I -/
def k12 : Class := { plain "[I" (some 0) with kind := .array 11 .int, interfaces := #[8, 4], accessFlags := 1041 }

def heap : Heap := #[{ cls := 6, slots := #[.ref 2, .ref 1, .null], vm := .statics 6 },
  { cls := 6, slots := #[.null, .int 1, .int 0], vm := .none },
  { cls := 6, slots := #[.null, .int 0, .int 0], vm := .none }]
def classes : Array Class := #[k0, k1, k2, k3, k4, k5, k6, k7, k8, k9, k10, k11, k12]
def interned : List (Array UInt16 × Addr) := []
def slotsUsed : Nat := 9
def theMethod : MethodId := ⟨1, 1⟩
def args0 : Array Value := #[.int 16777217, .int 3]
def aboutOver (below : List Frame) : State where
  vm := { classes := classes, interned := interned.toArray }
  heap := heap
  slotsUsed := slotsUsed
  threads := #[{ frames := .invoking theMethod args0 :: below }]
def below0 : List Frame := [.native { method := ⟨0, 0⟩, args := #[] }]
def about1 : State := aboutOver below0
def p0 : Program := .bare "" "" ""
def e0 : Env := launch0.env 0 0 0
theorem w_frames : about1.frames = Frame.invoking theMethod args0 :: below0 := rfl
set_option maxRecDepth 65536 in
theorem w_args : argsFit about1.vm theMethod args0 = true := by decide +kernel
set_option maxRecDepth 65536 in
theorem w_heap : heapFits about1 = true := by decide +kernel
set_option maxRecDepth 65536 in
theorem w_runnable : about1.curStatus? = some .runnable := by decide +kernel
set_option maxRecDepth 65536 in
theorem w_alone : about1.alone = true := by decide +kernel
set_option maxRecDepth 65536 in
theorem w_named : about1.methodNamed? x = some theMethod := by decide +kernel
set_option maxRecDepth 65536 in
theorem w_hears : about1.hears theMethod below0 = true := by decide +kernel
set_option maxRecDepth 65536 in
theorem w_ripe : about1.ripe theMethod args0 below0 = true := by decide +kernel
theorem w_running : about1.status = .running := rfl
set_option maxRecDepth 65536 in
theorem w_room : about1.hasRoom e0.platform room_1 = true :=
  launch0.hasRoom_least _ room_1 (by decide +kernel) (by decide +kernel) (by decide +kernel) (by decide +kernel) (by decide +kernel) (by decide +kernel)
theorem allAtoms_all (ts : List Jvm.Cond) (a : Array Jvm.Value) (st : Jvm.State) : (allAtoms ts).before a st = ts.all (fun c => c.before a st) := by
  induction ts with
  | nil => rfl
  | cons c t ih =>
    show (Jvm.Cond.and c (allAtoms t)).before a st = _
    rw [Jvm.Cond.before_and, ih, List.all_cons]
def words1 : List Jvm.Cond := Jvm.Cond.code x code maxLocals ret :: tables_1
/-- a 'code' word, met by the world's own term for the bytes: nothing is compared byte by byte -/
theorem code_word {y : MethodName} {bytes : ByteArray} {mx : Nat} {rt : Option FieldType} {a : Array Value} {s : State} {m : MethodId} {meth : Method} {c : Code} (h1 : s.methodNamed? y = some m) (h2 : s.vm.method? m = some meth) (h3 : meth.code = some c) (h4 : c.code = bytes)
    (h5 : (c.maxLocals == mx && c.exceptionTable.isEmpty && decide (c.maxStack ≤ mostOperands) && decide (meth.sig.returnType = rt) && !meth.locks && decide (parseMethodDescriptor y.desc = some meth.sig)) = true) : (Jvm.Cond.code y bytes mx rt).before a s = true := by
  simp only [Bool.and_eq_true, beq_iff_eq, Bool.not_eq_true', decide_eq_true_eq] at h5
  obtain ⟨⟨⟨⟨⟨g1, g2⟩, g3⟩, g4⟩, g5⟩, g6⟩ := h5
  simp [Cond.before, Cond.holds, Cond.value, h1, h2, h3, h4, g1, g2, g3, g4, g5, g6]
def isCode : Jvm.Cond → Bool
  | .code _ _ _ _ => true
  | _ => false
theorem all_split {L : List Jvm.Cond} {P : Jvm.Cond → Bool} (h1 : L.all (fun c => isCode c || P c) = true) (h2 : ∀ c ∈ L.filter isCode, P c = true) : L.all P = true := by
  refine List.all_eq_true.mpr fun c hc => ?_
  have h := List.all_eq_true.mp h1 c hc
  rcases Bool.eq_false_or_eq_true (isCode c) with hi | hi
  · exact h2 c (List.mem_filter.mpr ⟨hc, hi⟩)
  · simpa [hi] using h
set_option maxRecDepth 65536 in
theorem w_c0 : (Jvm.Cond.code x code maxLocals ret).before args0 about1 = true := code_word (m := ⟨1, 1⟩) (meth := k1m1) (c := k1c1) (by decide +kernel) rfl rfl rfl (by decide +kernel)
set_option maxRecDepth 65536 in
theorem w_c1 : (Jvm.Cond.code ({ cls := "com/example/liblocus/liblocus/trec/Run$ScorePrecision", name := "of", desc := "(D)D" } : Jvm.MethodName) prog_134_method_4_code (3 : Nat) (Option.some Jvm.ClassFile.FieldType.double)).before args0 about1 = true := code_word (m := ⟨6, 0⟩) (meth := k6m0) (c := k6c0) (by decide +kernel) rfl rfl rfl (by decide +kernel)
set_option maxRecDepth 65536 in
theorem w_c2 : (Jvm.Cond.code ({ cls := "java/lang/Math", name := "abs", desc := "(J)J" } : Jvm.MethodName) jdk_29_method_61_code (2 : Nat) (Option.some Jvm.ClassFile.FieldType.long)).before args0 about1 = true := code_word (m := ⟨7, 1⟩) (meth := k7m1) (c := k7c1) (by decide +kernel) rfl rfl rfl (by decide +kernel)
set_option maxRecDepth 65536 in
theorem w_c3 : (Jvm.Cond.code ({ cls := "com/example/liblocus/liblocus/trec/ScorePrecisionOfPinLaw", name := "spacing", desc := "(J)J" } : Jvm.MethodName) method_3_code (2 : Nat) (Option.some Jvm.ClassFile.FieldType.long)).before args0 about1 = true := code_word (m := ⟨1, 2⟩) (meth := k1m2) (c := k1c2) (by decide +kernel) rfl rfl rfl (by decide +kernel)
set_option maxRecDepth 65536 in
theorem w_c4 : (Jvm.Cond.code ({ cls := "com/example/liblocus/liblocus/trec/ScorePrecisionOfPinLaw", name := "nearestMultiple", desc := "(JJ)J" } : Jvm.MethodName) method_4_code (8 : Nat) (Option.some Jvm.ClassFile.FieldType.long)).before args0 about1 = true := code_word (m := ⟨1, 3⟩) (meth := k1m3) (c := k1c3) (by decide +kernel) rfl rfl rfl (by decide +kernel)
def codes1 : List Jvm.Cond := [Jvm.Cond.code x code maxLocals ret, Jvm.Cond.code ({ cls := "com/example/liblocus/liblocus/trec/Run$ScorePrecision", name := "of", desc := "(D)D" } : Jvm.MethodName) prog_134_method_4_code (3 : Nat) (Option.some Jvm.ClassFile.FieldType.double), Jvm.Cond.code ({ cls := "java/lang/Math", name := "abs", desc := "(J)J" } : Jvm.MethodName) jdk_29_method_61_code (2 : Nat) (Option.some Jvm.ClassFile.FieldType.long), Jvm.Cond.code ({ cls := "com/example/liblocus/liblocus/trec/ScorePrecisionOfPinLaw", name := "spacing", desc := "(J)J" } : Jvm.MethodName) method_3_code (2 : Nat) (Option.some Jvm.ClassFile.FieldType.long), Jvm.Cond.code ({ cls := "com/example/liblocus/liblocus/trec/ScorePrecisionOfPinLaw", name := "nearestMultiple", desc := "(JJ)J" } : Jvm.MethodName) method_4_code (8 : Nat) (Option.some Jvm.ClassFile.FieldType.long)]
set_option maxRecDepth 65536 in
theorem codes_eq : words1.filter isCode = codes1 := rfl
theorem w_codes : ∀ c ∈ words1.filter isCode, c.before args0 about1 = true := by
  rw [codes_eq]
  intro c hc
  simp only [codes1, List.mem_cons, List.not_mem_nil, or_false] at hc
  rcases hc with rfl | rfl | rfl | rfl | rfl
  · exact w_c0
  · exact w_c1
  · exact w_c2
  · exact w_c3
  · exact w_c4
set_option maxRecDepth 65536 in
theorem w_t1 : (words1.take 24).all (fun c => isCode c || c.before args0 about1) = true := by decide +kernel
set_option maxRecDepth 65536 in
theorem w_t2 : (words1.drop 24).all (fun c => isCode c || c.before args0 about1) = true := by decide +kernel
theorem w_tables : (allAtoms (Jvm.Cond.code x code maxLocals ret :: tables_1)).before args0 about1 = true := by
  rw [allAtoms_all]
  show words1.all (fun c => c.before args0 about1) = true
  refine all_split ?_ w_codes
  rw [← List.take_append_drop 24 words1, List.all_append, w_t1, w_t2]
  rfl
set_option maxRecDepth 65536 in
theorem w_case : (Jvm.Cond.and given_1 narrow_1).before args0 about1 = true := by decide +kernel
theorem w_applies : (headSpec (Jvm.Cond.code x code maxLocals ret :: tables_1) room_1).applies x e0.platform about1 = true :=
  (Spec.applies_iff w_frames).mpr ⟨w_running, w_runnable, w_alone, w_named, w_hears, w_ripe, w_room, w_tables⟩
theorem atStart : AtStart classFile x code maxLocals ret World_1 tables_1 room_1 Calls_1 rest_1 Pre_1 launch0 p0 e0 about1 theMethod args0 below0 :=
  ⟨lists_1, trivial, launch0.admits_env _ _ _, launch0.least_env, fairChoices_fair.cas, fairChoices_fair.clock, w_frames, w_args, w_heap, w_applies, trivial, trivial, w_case⟩
end start1
theorem witness_1 : WitnessClaimed_1 := ⟨start1.p0, start1.e0, start1.about1, start1.theMethod, start1.args0, start1.below0, start1.atStart⟩
end Jvm.Pilot.@@N@@
